import PyProof.Rows.All
import Wide.All
import OpenK.AllK
import Wide.FinOn
import PySem.Challenge.RW_uy0001_03
set_option Elab.async false
section -- NA
set_option maxRecDepth 100000
namespace Mine
open PySem

noncomputable abbrev Cs := List Nat

inductive V where
  | none | bool (b : Bool) | int (i : Int) | str (s : Cs)
  | tup (vs : List V) | obj (i : Nat) | flist (vs : List V)
  | rng (a b c : Int)

inductive O where
  | list (vs : List V)
  | acc (n : Int) (vs : List V)
  | dict (kvs : List (V × V))

noncomputable abbrev AH := List O
noncomputable abbrev Loc := List (Option V)

inductive Tgt where
  | var (i : Nat) | vars (is : List Nat)

inductive Bi where
  | len | chr | ord | sum | max | min | sorted | range | list | str | zip | set

inductive Mt where
  | append | pop | extend | join | split | startswith | endswith | find | count | isspace | values
  | push | part_count | pop_from | reset | is_onlyws
deriving DecidableEq

mutual
inductive E where
  | lit (v : V)
  | var (i : Nat)
  | bin (op : Operator) (a b : E)
  | neg (a : E)
  | notE (a : E)
  | andE (es : List E)
  | orE (es : List E)
  | ite (c a b : E)
  | cmp (a : E) (ops : List CmpOp) (es : List E)
  | list (es : List E)
  | tup (es : List E)
  | idx (o i : E)
  | slc (o l u s : E)
  | bcall (b : Bi) (args : List E)
  | fcall (f : Addr) (args : List E)
  | mcall (o : E) (m : Mt) (args : List E)
  | comp (elt : E) (gens : List G)
inductive G where
  | mk (t : Tgt) (it : E) (ifs : List E)
  | zip (t : Tgt) (x y : E) (ifs : List E)
end

inductive S where
  | assign (t : Tgt) (e : E)
  | setIdx (o i e : E)
  | swap (o1 i1 o2 i2 e1 e2 : E)
  | augVar (i : Nat) (op : Operator) (e : E)
  | augIdx (o i : E) (op : Operator) (e : E)
  | expr (e : E)
  | ret (e : E)
  | ifS (c : E) (a b : List S)
  | whileS (c : E) (body : List S)
  | forS (t : Tgt) (it : E) (body : List S)
  | del (o i : E)
  | assertS (c : E)

inductive Fl where
  | next | ret (v : V)

noncomputable abbrev Oracle := Addr → List V → AH → Option (V × AH)

/-- a size that all the sizes stay under -/
noncomputable def LIM : Nat := 1000000
/-- a bound of the ints that a product or a power makes -/
noncomputable def BIG : Nat := 2 ^ 256

/-- what Python's index means: the place, if it lies in -/
noncomputable def place (k : Int) (n : Nat) : Option Nat :=
  if 0 ≤ k then (if k < n then some k.toNat else none)
  else (if 0 ≤ k + n then some (k + n).toNat else none)

/-! ## parts of values -/
noncomputable def asInt : V → Option Int
  | .int i => some i
  | _ => none
noncomputable def asStr : V → Option Cs
  | .str i => some i
  | _ => none
noncomputable def asBool : V → Option Bool
  | .bool i => some i
  | _ => none
noncomputable def asTup : V → Option (List V)
  | .tup i => some i
  | _ => none
noncomputable def asObj : V → Option Nat
  | .obj i => some i
  | _ => none
noncomputable def asL : O → Option (List V)
  | .list vs => some vs
  | _ => none
noncomputable def lstAt (v : V) (σ : AH) : Option (List V) := (asObj v).bind fun i => (σ[i]?).bind asL
/-- the items of a list, of ours or of the script -/
noncomputable def seqAt (v : V) (σ : AH) : Option (List V) := match v with
  | .flist vs => if vs.length ≤ LIM then some vs else none
  | .obj i => (σ[i]?).bind asL
  | _ => none
noncomputable def a1 : List V → Option V
  | [v] => some v
  | _ => none
noncomputable def a2 : List V → Option (V × V)
  | [v, u] => some (v, u)
  | _ => none
noncomputable def a3 : List V → Option (V × V × V)
  | [v, u, w] => some (v, u, w)
  | _ => none
noncomputable def int2 {α : Type} (a b : V) (k : Int → Int → Option α) : Option α := (asInt a).bind fun i => (asInt b).bind fun j => k i j
noncomputable def bool2 {α : Type} (a b : V) (k : Bool → Bool → Option α) : Option α := (asBool a).bind fun i => (asBool b).bind fun j => k i j
noncomputable def str2 {α : Type} (a b : V) (k : Cs → Cs → Option α) : Option α := (asStr a).bind fun i => (asStr b).bind fun j => k i j

noncomputable def eqL (f : V → V → Option Bool) : List V → List V → Option Bool
  | [], [] => some true
  | a :: as, b :: bs => (f a b).bind fun x => (eqL f as bs).bind fun y => some (x && y)
  | _, _ => none
noncomputable def eqB (a b : V) : Option Bool := match a with
  | .none => match b with
    | .none => some true
    | _ => none
  | .bool x => (asBool b).bind fun y => some (x == y)
  | .int x => (asInt b).bind fun y => some (decide (x = y))
  | .str x => (asStr b).bind fun y => some (decide (x = y))
  | _ => none
/-- == of values of one kind, tuples within tuples n deep -/
noncomputable def eqP : Nat → V → V → Option Bool
  | 0, a, b => eqB a b
  | n + 1, a, b => match a with
    | .tup as => (asTup b).bind fun bs => if as.length = bs.length then eqL (eqP n) as bs else none
    | _ => eqB a b
noncomputable def listsEq (a b : List V) : Option Bool := if a.length = b.length then eqL (eqP 3) a b else some false

noncomputable def strsOf : List V → Option (List Cs)
  | [] => some []
  | v :: r => (asStr v).bind fun s => (strsOf r).bind fun l => some (s :: l)
noncomputable def intsOf : List V → Option (List Int)
  | [] => some []
  | v :: r => (asInt v).bind fun s => (intsOf r).bind fun l => some (s :: l)

/-- x in a list of like things -/
noncomputable def memP (x : V) (l : List V) : Option Bool := match x with
  | .str s => (strsOf l).bind fun ys => some (ys.any (· == s))
  | .int i => (intsOf l).bind fun ys => some (ys.any (· == i))
  | _ => none

noncomputable def ltL : Cs → Cs → Bool
  | [], [] => false
  | [], _ :: _ => true
  | _ :: _, [] => false
  | a :: as, b :: bs => if a < b then true else if b < a then false else ltL as bs

/-- is there the text x in y -/
noncomputable def hasSub (x : Cs) : Cs → Bool
  | [] => x.isEmpty
  | y :: ys => x.isPrefixOf (y :: ys) || hasSub x ys

noncomputable def eqV (a b : V) (σ : AH) : Option Bool := match a with
  | .obj i => (lstAt (.obj i) σ).bind fun x => (lstAt b σ).bind fun y => listsEq x y
  | _ => eqP 3 a b
noncomputable def inV (a b : V) (σ : AH) : Option Bool := match b with
  | .str y => (asStr a).bind fun x => some (hasSub x y)
  | .obj i => (lstAt (.obj i) σ).bind fun y => memP a y
  | _ => none
noncomputable def ltV (a b : V) : Option Bool := match a with
  | .int x => (asInt b).bind fun y => some (decide (x < y))
  | .str x => (asStr b).bind fun y => some (ltL x y)
  | _ => none
noncomputable def compareV (op : CmpOp) (a b : V) (σ : AH) : Option Bool := match op with
  | .Eq => eqV a b σ
  | .NotEq => (eqV a b σ).bind fun t => some (!t)
  | .Lt => ltV a b
  | .LtE => int2 a b fun x y => some (decide (x ≤ y))
  | .Gt => int2 a b fun x y => some (decide (x > y))
  | .GtE => int2 a b fun x y => some (decide (x ≥ y))
  | .Is => bool2 a b fun x y => some (x == y)
  | .IsNot => bool2 a b fun x y => some (!(x == y))
  | .In => inV a b σ
  | .NotIn => (inV a b σ).bind fun t => some (!t)

noncomputable def truth (v : V) (σ : AH) : Option Bool := match v with
  | .bool b => some b
  | .int i => some (decide (i ≠ 0))
  | .str s => if s.length ≤ LIM then some (!s.isEmpty) else none
  | .none => some false
  | .obj i => (lstAt (.obj i) σ).bind fun vs => some (!vs.isEmpty)
  | _ => none

noncomputable def rep {α : Type} (n : Nat) (l : List α) : List α := (List.replicate n l).flatten

noncomputable def newL (vs : List V) (σ : AH) : Option (V × AH) := if vs.length ≤ LIM then some (.obj σ.length, σ ++ [.list vs]) else none

noncomputable def binV (op : Operator) (a b : V) (σ : AH) : Option (V × AH) := match op with
  | .Add => match a with
    | .int x => (asInt b).bind fun y => some (.int (x + y), σ)
    | .str x => (asStr b).bind fun y => if x.length + y.length ≤ LIM then some (.str (x ++ y), σ) else none
    | .obj i => (lstAt (.obj i) σ).bind fun x => (lstAt b σ).bind fun y => newL (x ++ y) σ
    | _ => none
  | .Sub => int2 a b fun x y => some (.int (x - y), σ)
  | .Mult => match a with
    | .int x => (asInt b).bind fun y => if x.natAbs < BIG ∧ y.natAbs < BIG then some (.int (x * y), σ) else none
    | .str x => (asInt b).bind fun y => if x.length * y.toNat ≤ LIM ∧ y.natAbs ≤ LIM then some (.str (rep y.toNat x), σ) else none
    | .obj i => (lstAt (.obj i) σ).bind fun x => (asInt b).bind fun y => if x.length * y.toNat ≤ LIM ∧ y.natAbs ≤ LIM then newL (rep y.toNat x) σ else none
    | _ => none
  | .FloorDiv => int2 a b fun x y => if y = 0 ∨ BIG ≤ y.natAbs then none else some (.int (Int.fdiv x y), σ)
  | .Mod => int2 a b fun x y => if y = 0 then none else some (.int (Int.fmod x y), σ)
  | .Pow => int2 a b fun x y => if 0 ≤ y ∧ y ≤ 64 ∧ x.natAbs < 2 ^ 64 then some (.int (x ^ y.toNat), σ) else none
  | _ => none

noncomputable def idxV (o i : V) (σ : AH) : Option V := match o with
  | .str s => (asInt i).bind fun k => if s.length ≤ LIM then (place k s.length).bind fun n => (s[n]?).bind fun c => some (V.str [c]) else none
  | .tup vs => (asInt i).bind fun k => if vs.length ≤ LIM then (place k vs.length).bind fun n => vs[n]? else none
  | o => (seqAt o σ).bind fun vs => (asInt i).bind fun k => (place k vs.length).bind fun n => vs[n]?

/-- a slice's end, clipped, for a forward step -/
noncomputable def clip (v : V) (n : Nat) (dflt : Nat) : Option Nat := match v with
  | .none => some dflt
  | .int k => some (if 0 ≤ k then min k.toNat n else (k + n).toNat)
  | _ => none
noncomputable def asNone : V → Option Unit
  | .none => some ()
  | _ => none
noncomputable def cut {α : Type} (xs : List α) (l u s : V) : Option (List α) := match s with
  | .none => (clip l xs.length 0).bind fun a => (clip u xs.length xs.length).bind fun b => some ((xs.take b).drop a)
  | .int k => (asNone l).bind fun _ => (asNone u).bind fun _ => if k = 1 then some xs else if k = -1 then some xs.reverse else none
  | _ => none
noncomputable def slcV (o l u s : V) (σ : AH) : Option (V × AH) := match o with
  | .str x => if x.length ≤ LIM then (cut x l u s).bind fun r => some (.str r, σ) else none
  | o => (seqAt o σ).bind fun vs => (cut vs l u s).bind fun r => newL r σ

/-- the ints of range(a, b, c) for c = 1 or -1 -/
noncomputable def rngL (a b c : Int) : List V := if c = 1 then (List.range (b - a).toNat).map fun (k : Nat) => .int (a + (k : Int)) else (List.range (a - b).toNat).map fun (k : Nat) => .int (a - (k : Int))

inductive It where
  | vals (vs : List V)
  | lst (i : Nat) (k : Nat)
  | zip (i j : Nat) (k : Nat)

noncomputable def iterOf (v : V) (σ : AH) : Option It := match v with
  | .obj i => (lstAt (.obj i) σ).bind fun _ => some (.lst i 0)
  | .flist vs => some (.vals vs)
  | .str s => some (.vals (s.map fun c => .str [c]))
  | .rng a b c => if a.natAbs ≤ LIM ∧ b.natAbs ≤ LIM ∧ (c = 1 ∨ c = -1) then some (.vals (rngL a b c)) else none
  | _ => none

/-- zip of two lists of ours, drawn into names; its own pair is hidden -/
noncomputable def zipOf (t : Tgt) (u v : V) (σ : AH) : Option It := match t with
  | .vars _ => (asObj u).bind fun i => (asObj v).bind fun j => (lstAt (.obj i) σ).bind fun _ => (lstAt (.obj j) σ).bind fun _ => some (.zip i j 0)
  | _ => none

noncomputable def nextOf (it : It) (σ : AH) : Option (Option (V × It)) := match it with
  | .vals vs => match vs with
    | [] => some none
    | v :: vs => some (some (v, .vals vs))
  | .lst i k => (lstAt (.obj i) σ).bind fun vs => match vs[k]? with
    | some v => some (some (v, .lst i (k + 1)))
    | none => some none
  | .zip i j k => (lstAt (.obj i) σ).bind fun x => (lstAt (.obj j) σ).bind fun y => match x[k]? with
    | some v => (y[k]?).bind fun u => some (some (.tup [v, u], .zip i j (k + 1)))
    | none => match y[k]? with
      | some _ => none
      | none => some none

/-- a loop over an iterator; f hands back the state, or (an early return) what ends it -/
noncomputable def loopM {α β : Type} (f : V → α → AH → Option ((α ⊕ β) × AH)) : Nat → It → α → AH → Option ((α ⊕ β) × AH)
  | 0, _, _, _ => none
  | n + 1, it, a, σ => (nextOf it σ).bind fun o => match o with
    | none => some (.inl a, σ)
    | some q => (f q.1 a σ).bind fun r => match r.1 with
      | .inl a' => loopM f n q.2 a' r.2
      | .inr b => some (.inr b, r.2)

noncomputable def FUEL : Nat := 5000

noncomputable def unpackV (v : V) (n : Nat) (σ : AH) : Option (List V) := match v with
  | .tup vs => if vs.length = n then some vs else none
  | .obj i => (lstAt (.obj i) σ).bind fun vs => if vs.length = n then some vs else none
  | _ => none

noncomputable def setAll : List Nat → List V → Loc → Loc
  | i :: is, v :: vs, l => setAll is vs (l.set i (some v))
  | _, _, l => l

noncomputable def assignT (t : Tgt) (v : V) (loc : Loc) (σ : AH) : Option Loc := match t with
  | .var i => some (loc.set i (some v))
  | .vars is => (unpackV v is.length σ).bind fun vs => some (setAll is vs loc)

noncomputable def tgtSlots : Tgt → List Nat
  | .var i => [i]
  | .vars is => is
/-- the target's slots hold nothing yet -/
noncomputable def unsetT (t : Tgt) (loc : Loc) : Bool := (tgtSlots t).all fun i => match loc[i]? with
  | some (some _) => false
  | _ => true

noncomputable def joinL (sep : Cs) : List Cs → Cs
  | [] => []
  | [x] => x
  | x :: y :: r => x ++ sep ++ joinL sep (y :: r)

noncomputable def maxS : Cs → Nat → Nat
  | [], m => m
  | c :: r, m => maxS r (if m < c then c else m)

/-- text.split(sep), sep not empty -/
noncomputable def splitOn (sep : Cs) : Nat → Cs → Cs → List Cs
  | 0, _, _ => []
  | _ + 1, [], cur => [cur.reverse]
  | n + 1, c :: r, cur => if sep.isPrefixOf (c :: r) then cur.reverse :: splitOn sep n ((c :: r).drop sep.length) [] else splitOn sep n r (c :: cur)

/-- the first place at or behind `at` (below or at `fin`) where x stands whole ahead of `fin` -/
noncomputable def findIn (x : Cs) (s : Cs) : Nat → Nat → Nat → Int
  | 0, _, _ => -1
  | n + 1, k, fin => if k + x.length ≤ fin then (if x.isPrefixOf (s.drop k) then (k : Int) else findIn x s n (k + 1) fin) else -1

noncomputable def pairOf : List V → Option (Cs × Cs)
  | [.str a, .str b] => some (a, b)
  | _ => none
noncomputable def strOfAcc : List V → Option Cs
  | [] => some []
  | v :: r => (asTup v).bind fun l => (pairOf l).bind fun p => (strOfAcc r).bind fun t => some (p.1 ++ p.2 ++ t)
noncomputable def asAcc : O → Option (Int × List V)
  | .acc n vs => some (n, vs)
  | _ => none
noncomputable def accAt (v : V) (σ : AH) : Option (Int × List V) := (asObj v).bind fun i => (σ[i]?).bind asAcc
noncomputable def oneC : Cs → Option Nat
  | [c] => some c
  | _ => none
noncomputable def headC : Cs → Option (Nat × Cs)
  | c :: r => some (c, r)
  | _ => none

noncomputable def callB (b : Bi) (args : List V) (σ : AH) : Option (V × AH) := match b with
  | .len => (a1 args).bind fun v => match v with
    | .str s => if s.length ≤ LIM then some (.int s.length, σ) else none
    | v => (seqAt v σ).bind fun vs => some (.int vs.length, σ)
  | .chr => (a1 args).bind fun v => (asInt v).bind fun i => if 0 ≤ i ∧ i < 0x110000 then some (.str [i.toNat], σ) else none
  | .ord => (a1 args).bind fun v => (asStr v).bind fun s => (oneC s).bind fun c => some (.int c, σ)
  | .range => match args with
    | [v] => (asInt v).bind fun n => some (.rng 0 n 1, σ)
    | [v, u] => int2 v u fun a b => some (.rng a b 1, σ)
    | [v, u, w] => int2 v u fun a b => (asInt w).bind fun c => if c = -1 ∧ a.natAbs ≤ LIM ∧ b.natAbs ≤ LIM then some (.rng a b (-1), σ) else none
    | _ => none
  | .list => (a1 args).bind fun v => match v with
    | .str s => newL (s.map fun c => .str [c]) σ
    | v => (seqAt v σ).bind fun vs => newL vs σ
  | .max => (a1 args).bind fun v => (asStr v).bind fun s => (headC s).bind fun p => some (.str [maxS p.2 p.1], σ)
  | .sum => (a1 args).bind fun v => (lstAt v σ).bind fun vs => (intsOf vs).bind fun l => some (.int (l.foldl (· + ·) 0), σ)
  | .str => (a1 args).bind fun v => (accAt v σ).bind fun p => (strOfAcc p.2).bind fun s => if s.length ≤ LIM ∧ p.2.length ≤ LIM then some (.str s, σ) else none
  | _ => none

noncomputable def kindO : O → Nat
  | .list _ => 2
  | .acc _ _ => 3
  | .dict _ => 4
noncomputable def kindV (o : V) (σ : AH) : Nat := match o with
  | .str _ => 1
  | .obj i => match σ[i]? with
    | some o => kindO o
    | none => 0
  | _ => 0

noncomputable def strM (s : Cs) (m : Mt) (args : List V) (σ : AH) : Option (V × AH) := match m with
  | .join => (a1 args).bind fun v => (lstAt v σ).bind fun vs => (strsOf vs).bind fun l => if (joinL s l).length ≤ LIM ∧ s.length ≤ LIM then some (.str (joinL s l), σ) else none
  | .split => (a1 args).bind fun v => (asStr v).bind fun q => (headC q).bind fun p => if s.length ≤ LIM then newL ((splitOn (p.1 :: p.2) (s.length + 1) s []).map .str) σ else none
  | .startswith => (a1 args).bind fun v => (asStr v).bind fun p => some (.bool (p.isPrefixOf s), σ)
  | .endswith => (a1 args).bind fun v => (asStr v).bind fun p => some (.bool (p.isSuffixOf s), σ)
  | .find => (a3 args).bind fun t => (asStr t.1).bind fun p => int2 t.2.1 t.2.2 fun a b => if 0 ≤ a ∧ 0 ≤ b ∧ b ≤ s.length then some (.int (findIn p s (s.length + 1) a.toNat b.toNat), σ) else none
  | .count => (a1 args).bind fun v => (asStr v).bind fun p => (oneC p).bind fun c => some (.int (s.countP (· == c)), σ)
  | _ => none
noncomputable def lstM (i : Nat) (vs : List V) (m : Mt) (args : List V) (σ : AH) : Option (V × AH) := match m with
  | .append => (a1 args).bind fun v => if vs.length < LIM then some (.none, σ.set i (.list (vs ++ [v]))) else none
  | .pop => match args with
    | [] => (vs.getLast?).bind fun v => some (v, σ.set i (.list vs.dropLast))
    | v :: r => (a1 (v :: r)).bind fun v => (asInt v).bind fun k => (place k vs.length).bind fun n => (vs[n]?).bind fun v => some (v, σ.set i (.list (vs.eraseIdx n)))
  | .extend => (a1 args).bind fun v => (asObj v).bind fun j => if i = j then none else (lstAt (.obj j) σ).bind fun us => if vs.length + us.length ≤ LIM then some (.none, σ.set i (.list (vs ++ us))) else none
  | _ => none
noncomputable def accM (i : Nat) (n : Int) (vs : List V) (m : Mt) (args : List V) (σ : AH) : Option (V × AH) := match m with
  | .push => (a2 args).bind fun p => str2 p.1 p.2 fun a b => if vs.length < LIM then some (.none, σ.set i (.acc n (vs ++ [.tup [.str a, .str b]]))) else none
  | .pop => match args with
    | [] => match vs.getLast? with
      | some v => some (v, σ.set i (.acc n vs.dropLast))
      | none => some (.tup [.str [], .str []], σ)
    | _ => none
  | .part_count => match args with
    | [] => some (.int vs.length, σ)
    | _ => none
  | _ => none
noncomputable def callM (o : V) (m : Mt) (args : List V) (σ : AH) : Option (V × AH) := match o with
  | .str s => strM s m args σ
  | .obj i => (σ[i]?).bind fun ob => match ob with
    | .list vs => lstM i vs m args σ
    | .acc n vs => accM i n vs m args σ
    | .dict _ => none
  | _ => none

/-- a op= b, of ints and texts -/
noncomputable def augV (op : Operator) (a b : V) : Option V := match op with
  | .Add => match a with
    | .int x => (asInt b).bind fun y => some (.int (x + y))
    | .str x => (asStr b).bind fun y => if x.length + y.length ≤ LIM then some (.str (x ++ y)) else none
    | _ => none
  | .Sub => int2 a b fun x y => some (.int (x - y))
  | .Mult => int2 a b fun x y => if x.natAbs < BIG ∧ y.natAbs < BIG then some (.int (x * y)) else none
  | .FloorDiv => int2 a b fun x y => if y = 0 ∨ BIG ≤ y.natAbs then none else some (.int (Int.fdiv x y))
  | _ => none

noncomputable def setIdxV (o i v : V) (σ : AH) : Option AH := (asObj o).bind fun a => (asInt i).bind fun k => (lstAt (.obj a) σ).bind fun vs => (place k vs.length).bind fun n => some (σ.set a (.list (vs.set n v)))
noncomputable def delIdxV (o i : V) (σ : AH) : Option AH := (asObj o).bind fun a => (asInt i).bind fun k => (lstAt (.obj a) σ).bind fun vs => (place k vs.length).bind fun n => some (σ.set a (.list (vs.eraseIdx n)))

mutual
noncomputable def ev (C : Oracle) : E → Loc → AH → Option (V × AH)
  | .lit v, _, σ => some (v, σ)
  | .var i, loc, σ => (loc[i]?).bind fun o => o.bind fun v => some (v, σ)
  | .bin op a b, loc, σ => (ev C a loc σ).bind fun p => (ev C b loc p.2).bind fun q => binV op p.1 q.1 q.2
  | .neg a, loc, σ => (ev C a loc σ).bind fun p => (asInt p.1).bind fun x => some (.int (-x), p.2)
  | .notE a, loc, σ => (ev C a loc σ).bind fun p => (truth p.1 p.2).bind fun b => some (.bool (!b), p.2)
  | .andE es, loc, σ => evLog C true es loc σ
  | .orE es, loc, σ => evLog C false es loc σ
  | .ite c a b, loc, σ => (ev C c loc σ).bind fun p => (truth p.1 p.2).bind fun t => cond t (ev C a loc p.2) (ev C b loc p.2)
  | .cmp a ops es, loc, σ => (ev C a loc σ).bind fun p => (evCmp C p.1 ops es loc p.2).bind fun q => some (.bool q.1, q.2)
  | .list es, loc, σ => (evs C es loc σ).bind fun p => newL p.1 p.2
  | .tup es, loc, σ => (evs C es loc σ).bind fun p => if p.1.length ≤ LIM then some (.tup p.1, p.2) else none
  | .idx o i, loc, σ => (ev C o loc σ).bind fun p => (ev C i loc p.2).bind fun q => (idxV p.1 q.1 q.2).bind fun v => some (v, q.2)
  | .slc o l u s, loc, σ => (ev C o loc σ).bind fun p => (ev C l loc p.2).bind fun q => (ev C u loc q.2).bind fun r => (ev C s loc r.2).bind fun t => slcV p.1 q.1 r.1 t.1 t.2
  | .bcall b args, loc, σ => (evs C args loc σ).bind fun p => callB b p.1 p.2
  | .fcall f args, loc, σ => (evs C args loc σ).bind fun p => C f p.1 p.2
  | .mcall o m args, loc, σ => (ev C o loc σ).bind fun p => (evs C args loc p.2).bind fun q => if kindV p.1 p.2 = kindV p.1 q.2 then callM p.1 m q.1 q.2 else none
  | .comp elt gens, loc, σ => (evGens C (fun l s => ev C elt l s) gens loc loc [] σ).bind fun p => newL p.1 p.2
noncomputable def evs (C : Oracle) : List E → Loc → AH → Option (List V × AH)
  | [], _, σ => some ([], σ)
  | e :: es, loc, σ => (ev C e loc σ).bind fun p => (evs C es loc p.2).bind fun q => some (p.1 :: q.1, q.2)
/-- and (w: true), or (w: false) -/
noncomputable def evLog (C : Oracle) (w : Bool) : List E → Loc → AH → Option (V × AH)
  | [], _, _ => none
  | e :: es, loc, σ => (ev C e loc σ).bind fun p => cond es.isEmpty (some p) ((truth p.1 p.2).bind fun t => cond (t == w) (evLog C w es loc p.2) (some p))
noncomputable def evCmp (C : Oracle) : V → List CmpOp → List E → Loc → AH → Option (Bool × AH)
  | x, op :: ops, e :: es, loc, σ => (ev C e loc σ).bind fun p => (compareV op x p.1 p.2).bind fun b => if ops.length = es.length then cond (ops.isEmpty || !b) (some (b, p.2)) (evCmp C p.1 ops es loc p.2) else none
  | _, _, _, _, _ => none
/-- the tests of a comprehension, in order -/
noncomputable def evIfs (C : Oracle) : List E → Loc → AH → Option (Bool × AH)
  | [], _, σ => some (true, σ)
  | e :: es, loc, σ => (ev C e loc σ).bind fun p => (truth p.1 p.2).bind fun t => cond t (evIfs C es loc p.2) (some (false, p.2))
/-- the generators: oloc: where the first iterable is looked up -/
noncomputable def evGens (C : Oracle) (elt : Loc → AH → Option (V × AH)) : List G → Loc → Loc → List V → AH → Option (List V × AH)
  | [], _, loc, acc, σ => (elt loc σ).bind fun p => if acc.length < LIM then some (acc ++ [p.1], p.2) else none
  | g :: gs, oloc, loc, acc, σ => match g with
    | .mk t it ifs => if unsetT t loc = true then (ev C it oloc σ).bind fun p => (iterOf p.1 p.2).bind fun i =>
        (loopM (β := Empty) (fun v (acc : List V) s => (assignT t v loc s).bind fun l => (evIfs C ifs l s).bind fun b => cond b.1 ((evGens C elt gs l l acc b.2).bind fun r => some (.inl r.1, r.2)) (some (.inl acc, b.2))) FUEL i acc p.2).bind fun r => match r.1 with
          | .inl a => some (a, r.2)
          | .inr b => b.elim else none
    | .zip t x y ifs => if unsetT t loc = true then (ev C x oloc σ).bind fun p => (ev C y oloc p.2).bind fun q => (zipOf t p.1 q.1 q.2).bind fun i =>
        (loopM (β := Empty) (fun v (acc : List V) s => (assignT t v loc s).bind fun l => (evIfs C ifs l s).bind fun b => cond b.1 ((evGens C elt gs l l acc b.2).bind fun r => some (.inl r.1, r.2)) (some (.inl acc, b.2))) FUEL i acc q.2).bind fun r => match r.1 with
          | .inl a => some (a, r.2)
          | .inr b => b.elim else none
end

noncomputable def whileM (c : Loc → AH → Option (Bool × AH)) (f : Loc → AH → Option (Fl × Loc × AH)) : Nat → Loc → AH → Option (Fl × Loc × AH)
  | 0, _, _ => none
  | n + 1, loc, σ => (c loc σ).bind fun b => cond b.1 ((f loc b.2).bind fun r => match r.1 with
      | .ret v => some (.ret v, r.2.1, r.2.2)
      | .next => whileM c f n r.2.1 r.2.2) (some (.next, loc, b.2))

mutual
noncomputable def ex (C : Oracle) : S → Loc → AH → Option (Fl × Loc × AH)
  | .assign t e, loc, σ => (ev C e loc σ).bind fun p => (assignT t p.1 loc p.2).bind fun l => some (.next, l, p.2)
  | .setIdx o i e, loc, σ => (ev C e loc σ).bind fun p => (ev C o loc p.2).bind fun q => (ev C i loc q.2).bind fun r => (setIdxV q.1 r.1 p.1 r.2).bind fun s => some (.next, loc, s)
  | .swap o1 i1 o2 i2 e1 e2, loc, σ => (ev C e1 loc σ).bind fun p1 => (ev C e2 loc p1.2).bind fun p2 => (ev C o1 loc p2.2).bind fun x1 => (ev C i1 loc x1.2).bind fun k1 => (setIdxV x1.1 k1.1 p1.1 k1.2).bind fun s =>
      (ev C o2 loc s).bind fun x2 => (ev C i2 loc x2.2).bind fun k2 => (setIdxV x2.1 k2.1 p2.1 k2.2).bind fun s => some (.next, loc, s)
  | .augVar i op e, loc, σ => (loc[i]?).bind fun o => o.bind fun old => (ev C e loc σ).bind fun p => (augV op old p.1).bind fun r => some (.next, loc.set i (some r), p.2)
  | .augIdx o i op e, loc, σ => (ev C o loc σ).bind fun p => (ev C i loc p.2).bind fun q => (idxV p.1 q.1 q.2).bind fun old => (ev C e loc q.2).bind fun w => (augV op old w.1).bind fun r => (setIdxV p.1 q.1 r w.2).bind fun s => some (.next, loc, s)
  | .expr e, loc, σ => (ev C e loc σ).bind fun p => some (.next, loc, p.2)
  | .ret e, loc, σ => (ev C e loc σ).bind fun p => some (.ret p.1, loc, p.2)
  | .ifS c a b, loc, σ => (ev C c loc σ).bind fun p => (truth p.1 p.2).bind fun t => cond t (exs C a loc p.2) (exs C b loc p.2)
  | .whileS c body, loc, σ => whileM (fun l s => (ev C c l s).bind fun p => (truth p.1 p.2).bind fun t => some (t, p.2)) (fun l s => exs C body l s) FUEL loc σ
  | .forS t it body, loc, σ => (ev C it loc σ).bind fun p => (iterOf p.1 p.2).bind fun i =>
      (loopM (β := V × Loc) (fun v (l : Loc) s => (assignT t v l s).bind fun l1 => (exs C body l1 s).bind fun r => match r.1 with
          | .next => some (.inl r.2.1, r.2.2)
          | .ret x => some (.inr (x, r.2.1), r.2.2)) FUEL i loc p.2).bind fun r => match r.1 with
        | .inl l => some (.next, l, r.2)
        | .inr q => some (.ret q.1, q.2, r.2)
  | .del o i, loc, σ => (ev C o loc σ).bind fun p => (ev C i loc p.2).bind fun q => (delIdxV p.1 q.1 q.2).bind fun s => some (.next, loc, s)
  | .assertS c, loc, σ => (ev C c loc σ).bind fun p => (truth p.1 p.2).bind fun t => cond t (some (.next, loc, p.2)) none
noncomputable def exs (C : Oracle) : List S → Loc → AH → Option (Fl × Loc × AH)
  | [], loc, σ => some (.next, loc, σ)
  | s :: ss, loc, σ => (ex C s loc σ).bind fun r => match r.1 with
    | .ret v => some (.ret v, r.2.1, r.2.2)
    | .next => exs C ss r.2.1 r.2.2
end

inductive Fn where
  | dfn (np ns : Nat) (body : List S)
  | acc

noncomputable def callN (T : Addr → Option Fn) : Nat → Oracle
  | 0 => fun _ _ _ => none
  | d + 1 => fun f args σ => (T f).bind fun F => match F with
    | .dfn np ns body => if args.length = np then (exs (callN T d) body (args.map some ++ List.replicate ns none) σ).bind fun r => match r.1 with
        | .ret v => some (v, r.2.2)
        | .next => some (.none, r.2.2)
      else none
    | .acc => match args with
      | [] => some (.obj σ.length, σ ++ [.acc 0 []])
      | v :: r => (a1 (v :: r)).bind fun v => (asInt v).bind fun n => some (.obj σ.length, σ ++ [.acc n []])

/-- what a global name stands for -/
inductive GV where
  | fn (a : Addr) | bi (b : Bi) | cst (v : V)

noncomputable def chars (s : Str) : Cs := s.cps.toList

noncomputable def nameOf : Mt → Str
  | .append => "append" | .pop => "pop" | .extend => "extend" | .join => "join" | .split => "split" | .startswith => "startswith" | .endswith => "endswith" | .find => "find"
  | .count => "count" | .isspace => "isspace" | .values => "values" | .push => "push" | .part_count => "part_count" | .pop_from => "pop_from" | .reset => "reset" | .is_onlyws => "is_onlyws"
noncomputable def methOf (n : Str) : Option Mt := [Mt.append, .pop, .extend, .join, .split, .startswith, .endswith, .find, .count, .push, .part_count].find? fun m => n == nameOf m

noncomputable def litOf : Const → Option V
  | .none => some .none
  | .bool b => some (.bool b)
  | .int i => some (.int i)
  | .str s => some (.str (chars s))
  | _ => none

noncomputable abbrev Ren := List (Str × Nat)

/-- the names of a comprehension's own scope: its own variables get new slots, the free ones keep theirs -/
noncomputable def innerRen (ren : Ren) : List (Str × NameKind) → Nat → Option Ren
  | [], _ => some []
  | p :: r, n => match p.2 with
    | .local => if p.1 = (".0" : Str) then innerRen ren r n else (innerRen ren r (n + 1)).bind fun l => some ((p.1, n) :: l)
    | .cell => (innerRen ren r (n + 1)).bind fun l => some ((p.1, n) :: l)
    | .free => (ren.lookup p.1).bind fun i => (innerRen ren r n).bind fun l => some ((p.1, i) :: l)
    | .globalImplicit => innerRen ren r n
    | .globalExplicit => none

noncomputable def ownCount : List (Str × NameKind) → Nat
  | [] => 0
  | p :: r => match p.2 with
    | .local => if p.1 = (".0" : Str) then ownCount r else ownCount r + 1
    | .cell => ownCount r + 1
    | _ => ownCount r

/-! ## parts of the syntax -/
noncomputable def eName : Expr → Option (Str × Pos)
  | .Name x p => some (x, p)
  | _ => none
noncomputable def eTup : Expr → Option (List Expr × Nat × Pos)
  | .Tuple es k p => some (es, k, p)
  | _ => none
noncomputable def eSub : Expr → Option (Expr × Expr × Pos)
  | .Subscript o i p => some (o, i, p)
  | _ => none
noncomputable def eSlc : Expr → Option (Option Expr × Option Expr × Option Expr × Pos)
  | .Slice l u s p => some (l, u, s, p)
  | _ => none
noncomputable def eAttr : Expr → Option (Expr × Str × Pos)
  | .Attribute o m p => some (o, m, p)
  | _ => none
noncomputable def eCall : Expr → Option (Expr × List Expr × List Keyword × Pos)
  | .Call f as kw p => some (f, as, kw, p)
  | _ => none
noncomputable def eComp : Expr → Option Unit
  | .ListComp _ _ _ _ => none
  | _ => some ()
noncomputable def l1 {α : Type} : List α → Option α
  | [a] => some a
  | _ => none
noncomputable def l2 {α : Type} : List α → Option (α × α)
  | [a, b] => some (a, b)
  | _ => none
noncomputable def l0 {α : Type} : List α → Option Unit
  | [] => some ()
  | _ => none

noncomputable def nameSlot (sc : Scope) (ren : Ren) (x : Str) : Option Nat := (sc.names.lookup x).bind fun k => if k = .local ∨ k = .cell then ren.lookup x else none
noncomputable def nameSlots (sc : Scope) (ren : Ren) : List Expr → Option (List Nat)
  | [] => some []
  | e :: es => (eName e).bind fun x => (nameSlot sc ren x.1).bind fun i => (nameSlots sc ren es).bind fun is => some (i :: is)
noncomputable def trTgt (sc : Scope) (ren : Ren) (e : Expr) : Option Tgt := match eName e with
  | some x => (nameSlot sc ren x.1).bind fun i => some (.var i)
  | none => (eTup e).bind fun t => (nameSlots sc ren t.1).bind fun is => if is.Nodup then some (.vars is) else none

noncomputable def asCst : GV → Option V
  | .cst v => some v
  | _ => none
noncomputable def gName (GT : Str → Option GV) (sc : Scope) (x : Str) : Option GV := if sc.names.lookup x = some .globalImplicit then GT x else none
noncomputable def trName (GT : Str → Option GV) (sc : Scope) (ren : Ren) (x : Str) : Option E := (sc.names.lookup x).bind fun k => match k with
  | .globalImplicit => (GT x).bind fun g => (asCst g).bind fun v => some (.lit v)
  | .globalExplicit => none
  | _ => if x = ("__debug__" : Str) ∨ x = ("__classdict__" : Str) then none else (ren.lookup x).bind fun i => some (.var i)
noncomputable def boolE (op : BoolOp) (es : List E) : E := match op with
  | .And => .andE es
  | .Or => .orE es
noncomputable def unE (op : UnaryOp) (a : E) : Option E := match op with
  | .USub => some (.neg a)
  | .Not => some (.notE a)
  | _ => none
noncomputable def callE (g : GV) (as : List E) : Option E := match g with
  | .fn a => some (.fcall a as)
  | .bi b => some (.bcall b as)
  | .cst _ => none
/-- the two arguments of a call of zip -/
noncomputable def zipArgs (GT : Str → Option GV) (sc : Scope) (e : Expr) : Option (Expr × Expr) := (eCall e).bind fun c => (eName c.1).bind fun z => (l0 c.2.2.1).bind fun _ => (l2 c.2.1).bind fun p => (gName GT sc z.1).bind fun g => match g with
  | .bi b => match b with
    | .zip => some p
    | _ => none
  | _ => none
/-- the scope of a comprehension is in order -/
noncomputable def compScope (sc cs : Scope) : Bool := decide (cs.kind = .function) && decide ((cs.names.map (·.1)).Nodup) && cs.names.all fun p => p.2 != .free || sc.names.lookup p.1 == some .cell || sc.names.lookup p.1 == some .free

mutual
noncomputable def tr (GT : Str → Option GV) : Nat → Scope → Ren → Nat → Expr → Option E
  | 0, _, _, _, _ => none
  | n + 1, sc, ren, nx, e => match e with
    | .Constant c _ _ => (litOf c).bind fun v => some (.lit v)
    | .Name x _ => trName GT sc ren x
    | .BoolOp op vs _ => (trs GT n sc ren nx vs).bind fun es => some (boolE op es)
    | .BinOp l op r _ => (tr GT n sc ren nx l).bind fun a => (tr GT n sc ren nx r).bind fun b => some (.bin op a b)
    | .UnaryOp op a _ => (tr GT n sc ren nx a).bind fun a => unE op a
    | .IfExp c a b _ => (tr GT n sc ren nx c).bind fun c => (tr GT n sc ren nx a).bind fun a => (tr GT n sc ren nx b).bind fun b => some (.ite c a b)
    | .Compare a ops es _ => (tr GT n sc ren nx a).bind fun a => (trs GT n sc ren nx es).bind fun es => some (.cmp a ops es)
    | .List es _ => (trs GT n sc ren nx es).bind fun es => some (.list es)
    | .Tuple es _ _ => (trs GT n sc ren nx es).bind fun es => some (.tup es)
    | .Subscript o i _ => (tr GT n sc ren nx o).bind fun o => match eSlc i with
      | some p => (trO GT n sc ren nx p.1).bind fun l => (trO GT n sc ren nx p.2.1).bind fun u => (trO GT n sc ren nx p.2.2.1).bind fun s => some (.slc o l u s)
      | none => (tr GT n sc ren nx i).bind fun i => some (.idx o i)
    | .Call f as kw cp => (l0 kw).bind fun _ => match eName f with
      | some x => (gName GT sc x.1).bind fun g => (trs GT n sc ren nx as).bind fun as => callE g as
      | none => (eAttr f).bind fun a => if a.2.2.endLine = cp.line ∧ as.length < 20 then (tr GT n sc ren nx a.1).bind fun o => (methOf a.2.1).bind fun m => (trs GT n sc ren nx as).bind fun as => some (.mcall o m as) else none
    | .ListComp elt gens cs _ => if compScope sc cs = true then (innerRen ren cs.names nx).bind fun ren' => match gens with
      | [] => none
      | g :: gs => if g.4 = 0 then (trTgt cs ren' g.1).bind fun t => (trs GT n cs ren' (nx + ownCount cs.names) g.3).bind fun ifs => (trGs GT n cs ren' (nx + ownCount cs.names) gs).bind fun gs => (tr GT n cs ren' (nx + ownCount cs.names) elt).bind fun elt =>
          match zipArgs GT sc g.2 with
          | some p => (tr GT n sc ren nx p.1).bind fun x => (tr GT n sc ren nx p.2).bind fun y => some (.comp elt (.zip t x y ifs :: gs))
          | none => (tr GT n sc ren nx g.2).bind fun it => some (.comp elt (.mk t it ifs :: gs)) else none
      else none
    | _ => none
termination_by structural n => n
noncomputable def trs (GT : Str → Option GV) : Nat → Scope → Ren → Nat → List Expr → Option (List E)
  | 0, _, _, _, _ => none
  | n + 1, sc, ren, nx, es => match es with
    | [] => some []
    | e :: es => (tr GT n sc ren nx e).bind fun a => (trs GT n sc ren nx es).bind fun as => some (a :: as)
termination_by structural n => n
noncomputable def trO (GT : Str → Option GV) : Nat → Scope → Ren → Nat → Option Expr → Option E
  | 0, _, _, _, _ => none
  | n + 1, sc, ren, nx, o => match o with
    | none => some (.lit .none)
    | some e => tr GT n sc ren nx e
termination_by structural n => n
noncomputable def trGs (GT : Str → Option GV) : Nat → Scope → Ren → Nat → List Comprehension → Option (List G)
  | 0, _, _, _, _ => none
  | n + 1, sc, ren, nx, gs => match gs with
    | [] => some []
    | g :: gs => if g.4 = 0 then (trTgt sc ren g.1).bind fun t => (tr GT n sc ren nx g.2).bind fun it => (trs GT n sc ren nx g.3).bind fun ifs => (trGs GT n sc ren nx gs).bind fun gs => some (.mk t it ifs :: gs) else none
termination_by structural n => n
end

/-- the model knows the order of the stores -/
noncomputable def storesOK (t e : Expr) : Bool := match t, e with
  | .Tuple _ _ _, .Tuple vs _ _ => vs.all (foldedForSure 8) || !(vs.all (constantsAlone 8))
  | _, _ => true
/-- a[i], b[j] = x, y -/
noncomputable def swapOf (t e : Expr) : Option (((Expr × Expr × Pos) × (Expr × Expr × Pos)) × (Expr × Expr)) := (eTup t).bind fun l => (l2 l.1).bind fun p => (eSub p.1).bind fun a => (eSub p.2).bind fun b => (eTup e).bind fun r => (l2 r.1).bind fun q => some ((a, b), q)

mutual
noncomputable def trS (GT : Str → Option GV) : Nat → Scope → Ren → Nat → Stmt → Option S
  | 0, _, _, _, _ => none
  | n + 1, sc, ren, nx, s => match s with
    | .Assign ts e _ => (l1 ts).bind fun t => (tr GT n sc ren nx e).bind fun e' => match eSub t with
      | some a => (tr GT n sc ren nx a.1).bind fun o => (tr GT n sc ren nx a.2.1).bind fun i => some (.setIdx o i e')
      | none => match swapOf t e with
        | some w => (tr GT n sc ren nx w.1.1.1).bind fun o1 => (tr GT n sc ren nx w.1.1.2.1).bind fun i1 => (tr GT n sc ren nx w.1.2.1).bind fun o2 => (tr GT n sc ren nx w.1.2.2.1).bind fun i2 => (tr GT n sc ren nx w.2.1).bind fun e1 => (tr GT n sc ren nx w.2.2).bind fun e2 => some (.swap o1 i1 o2 i2 e1 e2)
        | none => if storesOK t e = true then (trTgt sc ren t).bind fun t => some (.assign t e') else none
    | .AugAssign t op e _ => (tr GT n sc ren nx e).bind fun e => match eName t with
      | some x => (nameSlot sc ren x.1).bind fun i => some (.augVar i op e)
      | none => (eSub t).bind fun a => (tr GT n sc ren nx a.1).bind fun o => (tr GT n sc ren nx a.2.1).bind fun i => some (.augIdx o i op e)
    | .Expr e _ => (eComp e).bind fun _ => (tr GT n sc ren nx e).bind fun e => some (.expr e)
    | .Return o _ => o.bind fun e => (tr GT n sc ren nx e).bind fun e => some (.ret e)
    | .If c a b _ => (tr GT n sc ren nx c).bind fun c => (trSs GT n sc ren nx a).bind fun a => (trSs GT n sc ren nx b).bind fun b => some (.ifS c a b)
    | .While c a l _ => (l0 l).bind fun _ => (tr GT n sc ren nx c).bind fun c => (trSs GT n sc ren nx a).bind fun a => some (.whileS c a)
    | .For t it a l _ => (l0 l).bind fun _ => (trTgt sc ren t).bind fun t => (tr GT n sc ren nx it).bind fun it => (trSs GT n sc ren nx a).bind fun a => some (.forS t it a)
    | .Delete ts _ => (l1 ts).bind fun t => (eSub t).bind fun a => (tr GT n sc ren nx a.1).bind fun o => (tr GT n sc ren nx a.2.1).bind fun i => some (.del o i)
    | .Assert c m _ => match m with
      | none => (tr GT n sc ren nx c).bind fun c => some (.assertS c)
      | some _ => none
    | _ => none
noncomputable def trSs (GT : Str → Option GV) : Nat → Scope → Ren → Nat → List Stmt → Option (List S)
  | 0, _, _, _, _ => none
  | n + 1, sc, ren, nx, ss => match ss with
    | [] => some []
    | e :: es => (trS GT n sc ren nx e).bind fun a => (trSs GT n sc ren nx es).bind fun as => some (a :: as)
end

/-- the slots of a def's own names: the parameters first, as they stand in its scope -/
noncomputable def defRen : List (Str × NameKind) → Nat → Ren
  | [], _ => []
  | p :: r, n => if p.2 = .local ∨ p.2 = .cell then (p.1, n) :: defRen r (n + 1) else defRen r n

/-- a def as a function of ours: np parameters; 8 slots more for comprehensions -/
noncomputable def trDef (GT : Str → Option GV) (args : Arguments) (body : List Stmt) (sc : Scope) : Option Fn :=
  if sc.kind = .function ∧ (sc.names.map (·.1)).Nodup ∧ (sc.names.take args.args.length).map (·.1) = args.args.map (·.arg) ∧ ((sc.names.take args.args.length).all fun p => p.2 == .local || p.2 == .cell) = true ∧ (sc.names.all fun p => p.1 != (".0" : Str)) = true then
    (trSs GT 200 sc (defRen sc.names 0) (ownCount sc.names) body).bind fun b => some (.dfn args.args.length (ownCount sc.names + 8 - args.args.length) b)
  else none

/-! ## inversions -/
theorem bindE {α β : Type} {o : Option α} {f : α → Option β} {b : β} {G : Prop} (h : o.bind f = some b) (k : ∀ a, o = some a → f a = some b → G) : G := by
  cases o with
  | none => exact nomatch h
  | some a => exact k a rfl h
theorem ifE {α : Type} {c : Prop} [Decidable c] {o : Option α} {b : α} {G : Prop} (h : (if c then o else none) = some b) (k : c → o = some b → G) : G := by
  by_cases hc : c
  · rw [if_pos hc] at h; exact k hc h
  · rw [if_neg hc] at h; exact nomatch h
theorem nifE {α : Type} {c : Prop} [Decidable c] {o : Option α} {b : α} {G : Prop} (h : (if c then none else o) = some b) (k : ¬ c → o = some b → G) : G := by
  by_cases hc : c
  · rw [if_pos hc] at h; exact nomatch h
  · rw [if_neg hc] at h; exact k hc h
theorem noneE {α : Type} {b : α} {G : Prop} (h : none = some b) : G := nomatch h
theorem someE {α : Type} {a b : α} {P : α → Prop} (h : some a = some b) (k : P a) : P b := Option.some.inj h ▸ k
theorem some2 {α β : Type} {a : α} {b : β} {p : α × β} {P : α → β → Prop} (h : some (a, b) = some p) (k : P a b) : P p.1 p.2 := by cases h; exact k
theorem some3 {α β γ : Type} {a : α} {b : β} {c : γ} {p : α × β × γ} {P : α → β → γ → Prop} (h : some (a, b, c) = some p) (k : P a b c) : P p.1 p.2.1 p.2.2 := by cases h; exact k

end Mine
end
section -- NB
set_option maxRecDepth 100000
set_option autoImplicit false
namespace Mine
open PySem

noncomputable abbrev Phi := List (Addr × Addr)
noncomputable def addrs (φ : Phi) : List Addr := φ.flatMap fun p => [p.1, p.2]
theorem mem_addrs {φ : Phi} {a : Addr} : a ∈ addrs φ ↔ ∃ p ∈ φ, a = p.1 ∨ a = p.2 := by
  simp [addrs, List.mem_flatMap]
theorem addrs_append (φ ψ : Phi) : addrs (φ ++ ψ) = addrs φ ++ addrs ψ := by simp [addrs]

noncomputable def tabO (vs : Array Value) : Obj := { cls := .none, data := .fields vs }
noncomputable abbrev lstO (items : Array Value) (n : Nat) : Obj := { cls := .type "list", data := .seq items n }
noncomputable abbrev rngO (vs : Array Value) : Obj := { cls := .type "range", dict := none, data := .fields vs, slots := #[] }
noncomputable abbrev tupO (items : Array Value) (n : Nat) : Obj := { cls := .type "tuple", data := .seq items n }

structure Kp (tabs W : List Addr) (h h' : Heap) : Prop where
  keep : ∀ b o, h.get? b = some o → b ∉ W → h'.get? b = some o ∨ (b ∈ tabs ∧ ∃ vs more, o = tabO vs ∧ h'.get? b = some (tabO (vs ++ more)) ∧ (TriplesOk vs.toList → TriplesOk (vs ++ more).toList))
  size : h.objs.size ≤ h'.objs.size

namespace Kp
variable {tabs W W' : List Addr} {h h' h'' : Heap}
theorem refl (tabs W : List Addr) (h : Heap) : Kp tabs W h h := ⟨fun _ _ e _ => .inl e, Nat.le_refl _⟩
theorem trans' (x : Kp tabs W h h') (y : Kp tabs W' h' h'') (hw : ∀ b ∈ W', b ∈ W ∨ h.objs.size ≤ b) : Kp tabs W h h'' := by
  refine ⟨fun b o e hb => ?_, Nat.le_trans x.size y.size⟩
  have hlt := Heap.lt_size e
  have hb' : b ∉ W' := fun hm => by
    rcases hw b hm with q | q
    · exact hb q
    · exact absurd (Nat.lt_of_lt_of_le hlt q) (Nat.lt_irrefl _)
  rcases x.keep b o e hb with e1 | ⟨ht, vs, more, rfl, e1, t1⟩
  · rcases y.keep b o e1 hb' with e2 | ⟨ht, vs, more, rfl, e2⟩
    · exact .inl e2
    · exact .inr ⟨ht, vs, more, rfl, e2⟩
  · rcases y.keep b _ e1 hb' with e2 | ⟨_, vs', more', e3, e2, t2⟩
    · exact .inr ⟨ht, vs, more, rfl, e2, t1⟩
    · have : vs' = vs ++ more := by unfold tabO at e3; injection e3 with _ _ q; injection q with q; exact q.symm
      subst this
      refine .inr ⟨ht, vs, more ++ more', rfl, ?_, ?_⟩
      · rw [e2, Array.append_assoc]
      · rw [← Array.append_assoc]; exact fun q => t2 (t1 q)
theorem trans (x : Kp tabs W h h') (y : Kp tabs W h' h'') : Kp tabs W h h'' := x.trans' y fun _ hb => .inl hb
theorem mono (x : Kp tabs W h h') (hw : ∀ b ∈ W, b ∈ W' ∨ h.objs.size ≤ b) : Kp tabs W' h h' :=
  (refl tabs W' h).trans' x hw
theorem push (tabs W : List Addr) (h : Heap) (o : Obj) : Kp tabs W h (h.push o) :=
  ⟨fun _ _ e _ => .inl (Heap.get?_push_of_some _ e), by rw [Heap.size_push]; omega⟩
theorem sameBut {a : Addr} (x : Heap.SameBut a h h') (ha : a ∈ W) : Kp tabs W h h' :=
  ⟨fun b o e hb => .inl ((x.2 b fun q => hb (q ▸ ha)).trans e), by rw [x.1]; exact Nat.le_refl _⟩
theorem extBut {a : Addr} (x : Heap.ExtBut a h h') (ha : a ∈ W) (hs : h.objs.size ≤ h'.objs.size) : Kp tabs W h h' :=
  ⟨fun b o e hb => .inl (x b o (fun q => hb (q ▸ ha)) e), hs⟩
theorem keeps (x : ∀ b o, h.get? b = some o → h'.get? b = some o) (hs : h.objs.size ≤ h'.objs.size) : Kp tabs W h h' :=
  ⟨fun b o e _ => .inl (x b o e), hs⟩
theorem get (x : Kp tabs W h h') {b : Addr} {o : Obj} (e : h.get? b = some o) (hb : b ∉ W) (hc : o.cls ≠ .none) : h'.get? b = some o := by
  rcases x.keep b o e hb with e1 | ⟨_, vs, _, rfl, _, _⟩
  · exact e1
  · exact absurd rfl hc
theorem getD (x : Kp tabs W h h') {b : Addr} {o : Obj} (e : h.get? b = some o) (hb : b ∉ W) (hc : ∀ vs, o.data ≠ .fields vs) : h'.get? b = some o := by
  rcases x.keep b o e hb with e1 | ⟨_, vs, _, rfl, _, _⟩
  · exact e1
  · exact absurd rfl (hc vs)
theorem ns (x : Kp tabs W h h') {a : Addr} {m : Str → Option Value} (n : h.Ns a m) (ha : a ∉ W) : h'.Ns a m := by
  obtain ⟨o, es, ep, e, hd, r⟩ := n
  exact ⟨o, es, ep, x.getD e ha (by rw [hd]; intro _ q; cases q), hd, r⟩
theorem cell (x : Kp tabs W h h') {a : Addr} {v : Option Value} (n : h.IsCell a v) (ha : a ∉ W) : h'.IsCell a v := by
  obtain ⟨o, e, hd⟩ := n
  exact ⟨o, x.getD e ha (by rw [hd]; intro _ q; cases q), hd⟩
end Kp

/-- where the program's own heap ends, and the tuples that no value of ours is -/
structure Zone where
  lo : Nat
  hid : List Addr

set_option genInjectivity false in
set_option genSizeOf false in
/-- what stands fixed: the program's own objects and tables -/
structure Base where
  prog : Program
  w : World
  N : Nat
  hid : List Addr
  K : PySem.W.Frag
  tabs : List Addr
  C : Addr
  T : Addr → Option Fn
  GT : Str → Option GV
  mg : Str → Option Value
  mb : Str → Option Value
noncomputable abbrev Base.Z (B : Base) : Zone := ⟨B.N, B.hid⟩

mutual
noncomputable def VR (N : Zone) (φ : Phi) (h : Heap) : V → Value → Prop
  | .none, v => v = .none
  | .bool b, v => v = .bool b
  | .int i, v => ∃ t, v = .int i t
  | .str s, v => ∃ t, v = .str ⟨s.toArray⟩ t
  | .tup vs, v => ∃ a items n, v = .ref a ∧ (a ∉ N.hid ∧ h.get? a = some (tupO (List.toArray items) n)) ∧ VRs N φ h vs items
  | .obj i, v => ∃ p, φ[i]? = some p ∧ v = .ref p.1
  | .flist vs, v => ∃ a items n, v = .ref a ∧ a < N.lo ∧ h.get? a = some (lstO (List.toArray items) n) ∧ VRs N φ h vs items
  | .rng a b c, v => ∃ x t u y, v = .ref x ∧ IsRange h x a b c t u y
noncomputable def VRs (N : Zone) (φ : Phi) (h : Heap) : List V → List Value → Prop
  | [], [] => True
  | v :: vs, x :: xs => VR N φ h v x ∧ VRs N φ h vs xs
  | _, _ => False
end

noncomputable def accDict (P : Params) (sz : Int) (es : Array DictEntry) : Prop := ∃ t1 t2, es = #[⟨PyData.keyHash P "_initial_size", .str "_initial_size" t1, .int sz t2⟩]

noncomputable def OR (B : Base) (φ : Phi) (h : Heap) : O → Addr × Addr → Prop
  | .list vs, p => p.2 = p.1 ∧ ∃ items n, h.get? p.1 = some (lstO (List.toArray items) n) ∧ VRs B.Z φ h vs items ∧ vs.length ≤ LIM
  | .acc sz vs, p => ∃ items n sl es ep, h.get? p.1 = some ⟨.ref B.C, some p.2, .seq (List.toArray items) n, sl⟩ ∧ (VRs B.Z φ h vs items ∧ vs.length ≤ LIM) ∧
      h.get? p.2 = some { cls := .type "dict", data := .dict es ep } ∧ accDict B.w.params sz es
  | .dict _, _ => False

/-- the facts of the program's own heap -/
structure Stat (B : Base) (h : Heap) : Prop where
  K : ∀ a o, B.K.lookup a = some o → h.get? a = some o
  g : h.Ns mainGlobals B.mg
  b : h.Ns builtinsNs B.mb
  nolimit : h.NoLimit
  tab : ∀ t ∈ B.tabs, ∃ vs, h.get? t = some (tabO vs) ∧ TriplesOk vs.toList
  size : B.N ≤ h.objs.size
  hid : ∀ a ∈ B.hid, a < h.objs.size

/-- what of the base holds by itself -/
structure Base.Ok (B : Base) : Prop where
  low : ∀ a o, B.K.lookup a = some o → a < B.N
  gl : mainGlobals < B.N
  bl : builtinsNs < B.N
  sl : cStatics < B.N
  off : ∀ a o, B.K.lookup a = some o → a ∉ B.tabs
  tlow : ∀ t ∈ B.tabs, t < B.N

structure Rep (B : Base) (σ : AH) (φ : Phi) (h : Heap) : Prop where
  stat : Stat B h
  len : φ.length = σ.length
  above : ∀ a ∈ addrs φ, B.N ≤ a
  apart : ∀ (i j : Nat) (p q : Addr × Addr), i ≠ j → φ[i]? = some p → φ[j]? = some q → p.1 ≠ q.1 ∧ p.1 ≠ q.2 ∧ p.2 ≠ q.2
  rel : ∀ (i : Nat) (o : O) (p : Addr × Addr), σ[i]? = some o → φ[i]? = some p → OR B φ h o p

theorem Stat.keep {B : Base} (O : B.Ok) {W : List Addr} {h h' : Heap} (S : Stat B h) (k : Kp B.tabs W h h') (hW : ∀ a ∈ W, B.N ≤ a) : Stat B h' := by
  have off : ∀ a, a < B.N → a ∉ W := fun a ha hm => by have := hW a hm; omega
  refine ⟨fun a o e => ?_, k.ns S.g (off _ O.gl), k.ns S.b (off _ O.bl), ?_, fun t ht => ?_, Nat.le_trans S.size k.size, fun a ha => Nat.lt_of_lt_of_le (S.hid a ha) k.size⟩
  · rcases k.keep a o (S.K a o e) (off a (O.low a o e)) with e1 | ⟨ht, _⟩
    · exact e1
    · exact absurd ht (O.off a o e)
  · obtain ⟨mc, n, q⟩ := S.nolimit
    exact ⟨mc, k.ns n (off _ O.sl), q⟩
  · obtain ⟨vs, e, q⟩ := S.tab t ht
    rcases k.keep t _ e (off t (O.tlow t ht)) with e1 | ⟨_, vs', more, e3, e1, q1⟩
    · exact ⟨_, e1, q⟩
    · have : vs = vs' := by unfold tabO at e3; injection e3 with _ _ q; injection q with q
      subst this
      exact ⟨_, e1, q1 q⟩

theorem VRs_length {N : Zone} {φ : Phi} {h : Heap} : ∀ {vs : List V} {xs : List Value}, VRs N φ h vs xs → vs.length = xs.length
  | [], [], _ => rfl
  | v :: vs, x :: xs, r => by unfold VRs at r; simp [VRs_length r.2]
  | [], _ :: _, r => by unfold VRs at r; exact r.elim
  | _ :: _, [], r => by unfold VRs at r; exact r.elim
theorem VRs_get {N : Zone} {φ : Phi} {h : Heap} : ∀ {vs : List V} {xs : List Value} {i : Nat} {v : V}, VRs N φ h vs xs → vs[i]? = some v → ∃ x, xs[i]? = some x ∧ VR N φ h v x
  | v :: vs, x :: xs, 0, _, r, e => by unfold VRs at r; cases e; exact ⟨x, rfl, r.1⟩
  | v :: vs, x :: xs, i + 1, _, r, e => by unfold VRs at r; exact VRs_get (i := i) r.2 (by simpa using e)
  | [], [], _, _, _, e => by simp at e
  | [], _ :: _, _, _, r, _ => by unfold VRs at r; exact r.elim
  | _ :: _, [], _, _, r, _ => by unfold VRs at r; exact r.elim
theorem VRs_append {N : Zone} {φ : Phi} {h : Heap} : ∀ {vs us : List V} {xs ys : List Value}, VRs N φ h vs xs → VRs N φ h us ys → VRs N φ h (vs ++ us) (xs ++ ys)
  | [], _, [], _, _, q => q
  | v :: vs, _, x :: xs, _, r, q => by unfold VRs at r; show VR N φ h v x ∧ VRs N φ h _ _; exact ⟨r.1, VRs_append r.2 q⟩
  | [], _, _ :: _, _, r, _ => by unfold VRs at r; exact r.elim
  | _ :: _, _, [], _, r, _ => by unfold VRs at r; exact r.elim
theorem VRs_one {N : Zone} {φ : Phi} {h : Heap} {v : V} {x : Value} (r : VR N φ h v x) : VRs N φ h [v] [x] := by unfold VRs; exact ⟨r, by unfold VRs; trivial⟩
theorem VRs_nil {N : Zone} {φ : Phi} {h : Heap} : VRs N φ h [] [] := by unfold VRs; trivial
theorem VRs_cons {N : Zone} {φ : Phi} {h : Heap} {v : V} {x : Value} {vs xs} (r : VR N φ h v x) (q : VRs N φ h vs xs) : VRs N φ h (v :: vs) (x :: xs) := by unfold VRs; exact ⟨r, q⟩
theorem VRs_take {N : Zone} {φ : Phi} {h : Heap} : ∀ (n : Nat) {vs : List V} {xs : List Value}, VRs N φ h vs xs → VRs N φ h (vs.take n) (xs.take n)
  | 0, _, _, _ => by simp [VRs_nil]
  | n + 1, [], [], _ => by simp [VRs_nil]
  | n + 1, v :: vs, x :: xs, r => by unfold VRs at r; exact VRs_cons r.1 (VRs_take n r.2)
  | _, [], _ :: _, r => by unfold VRs at r; exact r.elim
  | _, _ :: _, [], r => by unfold VRs at r; exact r.elim
theorem VRs_drop {N : Zone} {φ : Phi} {h : Heap} : ∀ (n : Nat) {vs : List V} {xs : List Value}, VRs N φ h vs xs → VRs N φ h (vs.drop n) (xs.drop n)
  | 0, _, _, r => r
  | n + 1, [], [], _ => by simp [VRs_nil]
  | n + 1, v :: vs, x :: xs, r => by unfold VRs at r; exact VRs_drop n r.2
  | _, [], _ :: _, r => by unfold VRs at r; exact r.elim
  | _, _ :: _, [], r => by unfold VRs at r; exact r.elim
theorem VRs_set {N : Zone} {φ : Phi} {h : Heap} {v : V} {x : Value} (q : VR N φ h v x) : ∀ (n : Nat) {vs : List V} {xs : List Value}, VRs N φ h vs xs → VRs N φ h (vs.set n v) (xs.set n x)
  | _, [], [], _ => by simp [VRs_nil]
  | 0, v :: vs, x :: xs, r => by unfold VRs at r; exact VRs_cons q r.2
  | n + 1, v :: vs, x :: xs, r => by unfold VRs at r; exact VRs_cons r.1 (VRs_set q n r.2)
  | _, [], _ :: _, r => by unfold VRs at r; exact r.elim
  | _, _ :: _, [], r => by unfold VRs at r; exact r.elim
theorem VRs_erase {N : Zone} {φ : Phi} {h : Heap} (n : Nat) {vs : List V} {xs : List Value} (r : VRs N φ h vs xs) : VRs N φ h (vs.eraseIdx n) (xs.eraseIdx n) := by
  rw [List.eraseIdx_eq_take_drop_succ, List.eraseIdx_eq_take_drop_succ]
  exact VRs_append (VRs_take n r) (VRs_drop (n + 1) r)
theorem VRs_reverse {N : Zone} {φ : Phi} {h : Heap} : ∀ {vs : List V} {xs : List Value}, VRs N φ h vs xs → VRs N φ h vs.reverse xs.reverse
  | [], [], _ => by simp [VRs_nil]
  | v :: vs, x :: xs, r => by unfold VRs at r; simp only [List.reverse_cons]; exact VRs_append (VRs_reverse r.2) (VRs_one r.1)
  | [], _ :: _, r => by unfold VRs at r; exact r.elim
  | _ :: _, [], r => by unfold VRs at r; exact r.elim
theorem VRs_rep {N : Zone} {φ : Phi} {h : Heap} (n : Nat) {vs : List V} {xs : List Value} (r : VRs N φ h vs xs) : VRs N φ h (rep n vs) (rep n xs) := by
  induction n with
  | zero => simp [rep, VRs_nil]
  | succ n ih => simp only [rep, List.replicate_succ, List.flatten_cons] at ih ⊢; exact VRs_append r ih

/-- what a change of the heap must keep for values to stand -/
structure Vk (N : Zone) (φ : Phi) (h : Heap) (N' : Zone) (φ' : Phi) (h' : Heap) : Prop where
  tup : ∀ a items n, a ∉ N.hid → h.get? a = some (tupO items n) → a ∉ N'.hid ∧ h'.get? a = some (tupO items n)
  low : ∀ a items n, a < N.lo → h.get? a = some (lstO items n) → a < N'.lo ∧ h'.get? a = some (lstO items n)
  rng : ∀ a vs, h.get? a = some (rngO vs) → h'.get? a = some (rngO vs)
  pre : ∀ (i : Nat) (p : Addr × Addr), φ[i]? = some p → φ'[i]? = some p

mutual
theorem VR_mono {N N' : Zone} {φ φ' : Phi} {h h' : Heap} (k : Vk N φ h N' φ' h') : ∀ (v : V) {x : Value}, VR N φ h v x → VR N' φ' h' v x
  | .none, _, r => by unfold VR at r ⊢; exact r
  | .bool _, _, r => by unfold VR at r ⊢; exact r
  | .int _, _, r => by unfold VR at r ⊢; exact r
  | .str _, _, r => by unfold VR at r ⊢; exact r
  | .tup vs, _, r => by unfold VR at r ⊢; obtain ⟨a, items, n, e, e1, r⟩ := r; exact ⟨a, items, n, e, k.tup a _ n e1.1 e1.2, VRs_mono k vs r⟩
  | .obj i, _, r => by unfold VR at r ⊢; obtain ⟨p, e, e1⟩ := r; exact ⟨p, k.pre i p e, e1⟩
  | .flist vs, _, r => by unfold VR at r ⊢; obtain ⟨a, items, n, e, l, e1, r⟩ := r; exact ⟨a, items, n, e, (k.low a _ n l e1).1, (k.low a _ n l e1).2, VRs_mono k vs r⟩
  | .rng _ _ _, _, r => by unfold VR at r ⊢; obtain ⟨x, t, u, y, e, e1⟩ := r; exact ⟨x, t, u, y, e, k.rng _ _ e1⟩
theorem VRs_mono {N N' : Zone} {φ φ' : Phi} {h h' : Heap} (k : Vk N φ h N' φ' h') : ∀ (vs : List V) {xs : List Value}, VRs N φ h vs xs → VRs N' φ' h' vs xs
  | [], [], _ => VRs_nil
  | v :: vs, x :: xs, r => by unfold VRs at r; exact VRs_cons (VR_mono k v r.1) (VRs_mono k vs r.2)
  | [], _ :: _, r => by unfold VRs at r; exact r.elim
  | _ :: _, [], r => by unfold VRs at r; exact r.elim
end

/-- an object at one of our places is no tuple and no range -/
theorem Rep.kind {B : Base} {σ : AH} {φ : Phi} {h : Heap} (R : Rep B σ φ h) {a : Addr} (ha : a ∈ addrs φ) {o : Obj} (e : h.get? a = some o) : (∀ items n, o ≠ tupO items n) ∧ ∀ vs, o ≠ rngO vs := by
  obtain ⟨p, hp, hq⟩ := mem_addrs.mp ha
  obtain ⟨i, hi⟩ := List.getElem?_of_mem hp
  have hl : i < σ.length := by rw [← R.len]; exact (List.getElem?_eq_some_iff.mp hi).1
  have q := R.rel i σ[i] p (List.getElem?_eq_getElem hl) hi
  cases hσ : σ[i] with
  | list vs =>
    rw [hσ] at q
    obtain ⟨e2, items, n, e1, _⟩ := q
    have : a = p.1 := by rcases hq with q | q <;> simp_all
    subst this
    rw [e1] at e; cases e
    exact ⟨(by intro _ _ x; have := congrArg Obj.cls x; simp at this), (by intro _ x; have := congrArg Obj.cls x; simp at this)⟩
  | acc sz vs =>
    rw [hσ] at q
    obtain ⟨items, n, sl, es, ep, e1, _, e2, _⟩ := q
    rcases hq with rfl | rfl
    · rw [e1] at e; cases e
      exact ⟨(by intro _ _ x; have := congrArg Obj.cls x; simp at this), (by intro _ x; have := congrArg Obj.cls x; simp at this)⟩
    · rw [e2] at e; cases e
      exact ⟨(by intro _ _ x; have := congrArg Obj.cls x; simp at this), (by intro _ x; have := congrArg Obj.cls x; simp at this)⟩
  | dict _ => rw [hσ] at q; exact q.elim

noncomputable def Safe (N : Zone) (W : List Addr) (h : Heap) : Prop := ∀ a ∈ W, N.lo ≤ a ∧ ∀ o, h.get? a = some o → (a ∉ N.hid → ∀ items n, o ≠ tupO items n) ∧ ∀ vs, o ≠ rngO vs
theorem Rep.safe {B : Base} {σ : AH} {φ : Phi} {h : Heap} (R : Rep B σ φ h) : Safe B.Z (addrs φ) h := fun a ha => ⟨R.above a ha, fun _ e => ⟨fun _ => (R.kind ha e).1, (R.kind ha e).2⟩⟩
theorem Safe.nil (N : Zone) (h : Heap) : Safe N [] h := fun _ h => nomatch h
theorem pre_get {φ φ' ψ : Phi} (e : φ' = φ ++ ψ) (i : Nat) (p : Addr × Addr) (h : φ[i]? = some p) : φ'[i]? = some p := by
  subst e
  rw [List.getElem?_append_left (List.getElem?_eq_some_iff.mp h).1]; exact h
theorem Vk.of {N : Zone} {tabs W : List Addr} {φ φ' : Phi} {h h' : Heap} (k : Kp tabs W h h') (S : Safe N W h) (pre : ∃ ψ, φ' = φ ++ ψ ∧ ∀ a ∈ addrs ψ, h.objs.size ≤ a) : Vk N φ h N φ' h' := by
  obtain ⟨ψ, hψ, hf⟩ := pre
  refine ⟨fun a items n ha e => ⟨ha, ?_⟩, fun a items n l e => ⟨l, ?_⟩, fun a vs e => ?_, pre_get hψ⟩
  · exact k.get e (fun hm => ((S a hm).2 _ e).1 ha _ _ rfl) (by intro q; cases q)
  · exact k.get e (fun hm => by have := (S a hm).1; omega) (by intro q; cases q)
  · exact k.get e (fun hm => ((S a hm).2 _ e).2 _ rfl) (by intro q; cases q)
theorem pre_refl (φ : Phi) (h : Heap) : ∃ ψ, φ = φ ++ ψ ∧ ∀ a ∈ addrs ψ, h.objs.size ≤ a := ⟨[], by simp, fun _ h => by simp [addrs] at h⟩

structure St (B : Base) (φ : Phi) (s : Shared) (φ' : Phi) (s' : Shared) : Prop where
  pre : ∃ ψ, φ' = φ ++ ψ ∧ ∀ a ∈ addrs ψ, s.heap.objs.size ≤ a
  keep : Kp B.tabs (addrs φ) s.heap s'.heap
  os : s'.os = s.os
  gens : PyProof.Rows.AllBare s.gens → PyProof.Rows.AllBare s'.gens

theorem St.refl (B : Base) (φ : Phi) (s : Shared) : St B φ s φ s := ⟨⟨[], by simp, fun _ h => by simp [addrs] at h⟩, .refl .., rfl, id⟩
theorem St.trans {B : Base} {φ φ' φ'' : Phi} {s s' s'' : Shared} (x : St B φ s φ' s') (y : St B φ' s' φ'' s'') : St B φ s φ'' s'' := by
  obtain ⟨ψ, rfl, h1⟩ := x.pre
  obtain ⟨ψ', rfl, h2⟩ := y.pre
  refine ⟨⟨ψ ++ ψ', by simp, fun a ha => ?_⟩, x.keep.trans' y.keep fun b hb => ?_, y.os.trans x.os, fun q => y.gens (x.gens q)⟩
  · rw [addrs_append] at ha
    rcases List.mem_append.mp ha with ha | ha
    · exact h1 a ha
    · exact Nat.le_trans x.keep.size (h2 a ha)
  · rw [addrs_append] at hb
    rcases List.mem_append.mp hb with hb | hb
    · exact .inl hb
    · exact .inr (h1 b hb)
theorem St.get {B : Base} {φ φ' : Phi} {s s' : Shared} (x : St B φ s φ' s') (i : Nat) (p : Addr × Addr) (e : φ[i]? = some p) : φ'[i]? = some p := by
  obtain ⟨ψ, rfl, _⟩ := x.pre
  rw [List.getElem?_append_left (List.getElem?_eq_some_iff.mp e).1]; exact e
theorem St.vr {B : Base} {σ : AH} {φ φ' : Phi} {s s' : Shared} (x : St B φ s φ' s') (R : Rep B σ φ s.heap) {v : V} {a : Value} (r : VR B.Z φ s.heap v a) : VR B.Z φ' s'.heap v a :=
  VR_mono (Vk.of x.keep R.safe x.pre) v r
theorem St.vrs {B : Base} {σ : AH} {φ φ' : Phi} {s s' : Shared} (x : St B φ s φ' s') (R : Rep B σ φ s.heap) {v : List V} {a : List Value} (r : VRs B.Z φ s.heap v a) : VRs B.Z φ' s'.heap v a :=
  VRs_mono (Vk.of x.keep R.safe x.pre) v r
/-- a step that changes nothing of ours -/
theorem St.of_kp {B : Base} {φ : Phi} {s s' : Shared} (k : Kp B.tabs [] s.heap s'.heap) (ho : s'.os = s.os) (hg : s'.gens = s.gens) : St B φ s φ s' :=
  ⟨⟨[], by simp, fun _ h => by simp [addrs] at h⟩, k.mono (fun _ h => nomatch h), ho, fun q => by rw [hg]; exact q⟩

theorem OR_mono {B : Base} {φ φ' : Phi} {h h' : Heap} (k : Vk B.Z φ h B.Z φ' h') {o : O} {p : Addr × Addr}
    (k1 : ∀ o, h.get? p.1 = some o → h'.get? p.1 = some o) (k2 : ∀ o, h.get? p.2 = some o → h'.get? p.2 = some o) (r : OR B φ h o p) : OR B φ' h' o p := by
  cases o with
  | list vs => obtain ⟨e2, items, n, e1, q⟩ := r; exact ⟨e2, items, n, k1 _ e1, VRs_mono k vs q.1, q.2⟩
  | acc sz vs => obtain ⟨items, n, sl, es, ep, e1, q, e2, d⟩ := r; exact ⟨items, n, sl, es, ep, k1 _ e1, ⟨VRs_mono k vs q.1, q.2⟩, k2 _ e2, d⟩
  | dict _ => exact r.elim
theorem OR.cls {B : Base} {φ : Phi} {h : Heap} {o : O} {p : Addr × Addr} (r : OR B φ h o p) : (∃ ob, h.get? p.1 = some ob ∧ ob.cls ≠ .none) ∧ (∃ ob, h.get? p.2 = some ob ∧ ob.cls ≠ .none) := by
  cases o with
  | list vs => obtain ⟨e2, items, n, e1, q⟩ := r; rw [e2]; exact ⟨⟨_, e1, by intro q; cases q⟩, ⟨_, e1, by intro q; cases q⟩⟩
  | acc sz vs => obtain ⟨items, n, sl, es, ep, e1, q, e2, d⟩ := r; exact ⟨⟨_, e1, by intro q; cases q⟩, ⟨_, e2, by intro q; cases q⟩⟩
  | dict _ => exact r.elim

namespace Rep
variable {B : Base} {σ : AH} {φ : Phi} {h h' : Heap}
theorem at_ (R : Rep B σ φ h) {i : Nat} {o : O} (e : σ[i]? = some o) : ∃ p, φ[i]? = some p ∧ OR B φ h o p := by
  have hl : i < φ.length := by rw [R.len]; exact (List.getElem?_eq_some_iff.mp e).1
  exact ⟨_, List.getElem?_eq_getElem hl, R.rel i o _ e (List.getElem?_eq_getElem hl)⟩
theorem back (R : Rep B σ φ h) {i : Nat} {p : Addr × Addr} (e : φ[i]? = some p) : ∃ o, σ[i]? = some o ∧ OR B φ h o p := by
  have hl : i < σ.length := by rw [← R.len]; exact (List.getElem?_eq_some_iff.mp e).1
  exact ⟨_, List.getElem?_eq_getElem hl, R.rel i _ p (List.getElem?_eq_getElem hl) e⟩
theorem lt (R : Rep B σ φ h) {a : Addr} (ha : a ∈ addrs φ) : a < h.objs.size := by
  obtain ⟨p, hp, hq⟩ := mem_addrs.mp ha
  obtain ⟨i, hi⟩ := List.getElem?_of_mem hp
  obtain ⟨o, _, r⟩ := R.back hi
  obtain ⟨⟨_, e1, _⟩, ⟨_, e2, _⟩⟩ := r.cls
  rcases hq with rfl | rfl
  · exact Heap.lt_size e1
  · exact Heap.lt_size e2
/-- a change off our objects -/
theorem off (R : Rep B σ φ h) (O : B.Ok) {W : List Addr} (k : Kp B.tabs W h h') (S : Safe B.Z W h) (hW : ∀ a ∈ W, a ∉ addrs φ) : Rep B σ φ h' := by
  refine ⟨R.stat.keep O k fun a ha => (S a ha).1, R.len, R.above, R.apart, fun i o p e1 e2 => ?_⟩
  have r := R.rel i o p e1 e2
  have m1 : p.1 ∈ addrs φ := mem_addrs.mpr ⟨p, List.mem_of_getElem? e2, .inl rfl⟩
  have m2 : p.2 ∈ addrs φ := mem_addrs.mpr ⟨p, List.mem_of_getElem? e2, .inr rfl⟩
  obtain ⟨⟨o1, e3, c3⟩, ⟨o2, e4, c4⟩⟩ := r.cls
  refine OR_mono (Vk.of k S (pre_refl ..)) (fun o e => ?_) (fun o e => ?_) r
  · have : o = o1 := by rw [e3] at e; cases e; rfl
    subst this
    exact k.get e (fun hm => hW _ hm m1) c3
  · have : o = o2 := by rw [e4] at e; cases e; rfl
    subst this
    exact k.get e (fun hm => hW _ hm m2) c4
theorem grow (R : Rep B σ φ h) (O : B.Ok) (k : Kp B.tabs [] h h') : Rep B σ φ h' := R.off O k (Safe.nil B.Z h) (fun _ h => nomatch h)
/-- a new object of ours -/
theorem add (R : Rep B σ φ h) {o : O} {p : Addr × Addr} (h1 : p.1 ∉ addrs φ) (h2 : p.2 ∉ addrs φ) (n1 : B.N ≤ p.1) (n2 : B.N ≤ p.2) (r : OR B φ h o p) : Rep B (σ ++ [o]) (φ ++ [p]) h := by
  have pre : ∀ (i : Nat) (q : Addr × Addr), φ[i]? = some q → (φ ++ [p])[i]? = some q := fun i q e => by
    rw [List.getElem?_append_left (List.getElem?_eq_some_iff.mp e).1]; exact e
  have vk : Vk B.Z φ h B.Z (φ ++ [p]) h := ⟨fun _ _ _ h e => ⟨h, e⟩, fun _ _ _ h e => ⟨h, e⟩, fun _ _ e => e, pre⟩
  have up : ∀ {o : O} {q : Addr × Addr}, OR B φ h o q → OR B (φ ++ [p]) h o q := fun r => OR_mono vk (fun _ e => e) (fun _ e => e) r
  have mem : ∀ {i : Nat} {q : Addr × Addr}, φ[i]? = some q → q.1 ∈ addrs φ ∧ q.2 ∈ addrs φ := fun e => ⟨mem_addrs.mpr ⟨_, List.mem_of_getElem? e, .inl rfl⟩, mem_addrs.mpr ⟨_, List.mem_of_getElem? e, .inr rfl⟩⟩
  have cases_ : ∀ {i : Nat} {q : Addr × Addr}, (φ ++ [p])[i]? = some q → φ[i]? = some q ∨ (i = φ.length ∧ q = p) := fun {i q} e => by
    rcases Nat.lt_or_ge i φ.length with l | l
    · rw [List.getElem?_append_left l] at e; exact .inl e
    · rw [List.getElem?_append_right l] at e
      have : i - φ.length = 0 := by
        rcases Nat.eq_zero_or_pos (i - φ.length) with z | z
        · exact z
        · rw [List.getElem?_eq_none (by simp; omega)] at e; cases e
      rw [this] at e; cases e
      exact .inr ⟨by omega, rfl⟩
  refine ⟨R.stat, by simp [R.len], fun a ha => ?_, fun i j q q' hij e1 e2 => ?_, fun i o' q e1 e2 => ?_⟩
  · rw [addrs_append] at ha
    rcases List.mem_append.mp ha with ha | ha
    · exact R.above a ha
    · rcases mem_addrs.mp ha with ⟨q, hq, rfl | rfl⟩ <;> simp at hq <;> subst hq <;> assumption
  · rcases cases_ e1 with f1 | ⟨rfl, rfl⟩ <;> rcases cases_ e2 with f2 | ⟨rfl, rfl⟩
    · exact R.apart i j q q' hij f1 f2
    · have m := mem f1
      exact ⟨fun z => h1 (z ▸ m.1), fun z => h2 (z ▸ m.1), fun z => h2 (z ▸ m.2)⟩
    · have m := mem f2
      exact ⟨fun z => h1 (z ▸ m.1), fun z => h1 (z ▸ m.2), fun z => h2 (z ▸ m.2)⟩
    · exact absurd rfl hij
  · rcases cases_ e2 with e2 | ⟨rfl, rfl⟩
    · have l : i < σ.length := by rw [← R.len]; exact (List.getElem?_eq_some_iff.mp e2).1
      rw [List.getElem?_append_left l] at e1
      exact up (R.rel i o' q e1 e2)
    · rw [R.len, List.getElem?_append_right (Nat.le_refl _), Nat.sub_self] at e1
      cases e1
      exact up r
/-- an object of ours turned -/
theorem put (R : Rep B σ φ h) (ok : B.Ok) {i : Nat} {p : Addr × Addr} {o : O} (hp : φ[i]? = some p) (k : Kp B.tabs [p.1, p.2] h h') (r : OR B φ h' o p) : Rep B (σ.set i o) φ h' := by
  have mem : ∀ {i : Nat} {q : Addr × Addr}, φ[i]? = some q → q.1 ∈ addrs φ ∧ q.2 ∈ addrs φ := fun e => ⟨mem_addrs.mpr ⟨_, List.mem_of_getElem? e, .inl rfl⟩, mem_addrs.mpr ⟨_, List.mem_of_getElem? e, .inr rfl⟩⟩
  have S : Safe B.Z [p.1, p.2] h := fun a ha => R.safe a (by rcases List.mem_cons.mp ha with rfl | ha; exact (mem hp).1; simp at ha; subst ha; exact (mem hp).2)
  refine ⟨R.stat.keep ok k fun a ha => (S a ha).1, by simp [R.len], R.above, R.apart, fun j o' q e1 e2 => ?_⟩
  by_cases hij : i = j
  · subst hij
    rw [List.getElem?_set_self (by rw [← R.len]; exact (List.getElem?_eq_some_iff.mp hp).1)] at e1
    cases e1
    rw [hp] at e2; cases e2
    exact r
  · rw [List.getElem?_set_ne hij] at e1
    have r' := R.rel j o' q e1 e2
    obtain ⟨⟨o1, e3, c3⟩, ⟨o2, e4, c4⟩⟩ := r'.cls
    obtain ⟨a1, a2, a3⟩ := R.apart i j p q hij hp e2
    obtain ⟨b1, b2, b3⟩ := R.apart j i q p (Ne.symm hij) e2 hp
    refine OR_mono (Vk.of k S (pre_refl ..)) (fun o e => ?_) (fun o e => ?_) r'
    · have : o = o1 := by rw [e3] at e; cases e; rfl
      subst this
      exact k.get e (by simp; exact ⟨fun z => a1 z.symm, fun z => b2 z⟩) c3
    · have : o = o2 := by rw [e4] at e; cases e; rfl
      subst this
      exact k.get e (by simp; exact ⟨fun z => a2 z.symm, fun z => a3 z.symm⟩) c4
end Rep

/-- what holds of a name's value -/
noncomputable def Holds (env : Env) (h : Heap) (x : Str) (rv : Value) : Prop :=
  (env.kindOf x = some .local ∧ ∃ m, h.Ns env.locals m ∧ m x = some rv) ∨
  ((env.kindOf x = some .cell ∨ env.kindOf x = some .free) ∧ ∃ c, env.cells.lookup x = some c ∧ h.IsCell c (some rv))

structure EnvOK (B : Base) (sc : Scope) (ren : Ren) (nx : Nat) (env : Env) (loc : Loc) (φ : Phi) (h : Heap) : Prop where
  fk : env.scope.kind = .function
  kind : ∀ x k, sc.names.lookup x = some k → env.kindOf x = some k ∨ (k = .free ∧ env.kindOf x = some .cell)
  glob : env.globals = mainGlobals
  blt : env.builtins = builtinsNs
  base : env.locals ∉ addrs φ
  above : B.N ≤ env.locals
  ns : ∃ m, h.Ns env.locals m
  cells : ∀ x c, env.cells.lookup x = some c → (∃ v, h.IsCell c v) ∧ c ∉ addrs φ ∧ B.N ≤ c
  inj : ∀ x y c, env.cells.lookup x = some c → env.cells.lookup y = some c → x = y
  has : ∀ x i, ren.lookup x = some i → (env.kindOf x = some .cell ∨ env.kindOf x = some .free) → ∃ c, env.cells.lookup x = some c
  rinj : ∀ x y i, ren.lookup x = some i → ren.lookup y = some i → x = y
  rlt : ∀ x i, ren.lookup x = some i → i < nx
  free : ∀ (i : Nat) v, nx ≤ i → loc[i]? ≠ some (some v)
  vals : ∀ x i v, ren.lookup x = some i → loc[i]? = some (some v) → ∃ rv, Holds env h x rv ∧ VR B.Z φ h v rv

theorem Holds.keep {env : Env} {h h' : Heap} {x : Str} {rv : Value} (q : Holds env h x rv) {tabs W : List Addr} (k : Kp tabs W h h') (h1 : env.locals ∉ W) (h2 : ∀ c, env.cells.lookup x = some c → c ∉ W) : Holds env h' x rv := by
  rcases q with ⟨a, m, n, e⟩ | ⟨a, c, e, n⟩
  · exact .inl ⟨a, m, k.ns n h1, e⟩
  · exact .inr ⟨a, c, e, k.cell n (h2 c e)⟩

theorem EnvOK.step {B : Base} {sc : Scope} {ren : Ren} {nx : Nat} {env : Env} {loc : Loc} {σ : AH} {φ φ' : Phi} {s s' : Shared} (V : EnvOK B sc ren nx env loc φ s.heap) (x : St B φ s φ' s') (R : Rep B σ φ s.heap) : EnvOK B sc ren nx env loc φ' s'.heap := by
  obtain ⟨ψ, rfl, hψ⟩ := x.pre
  have off : ∀ a o, s.heap.get? a = some o → a ∉ addrs φ → a ∉ addrs (φ ++ ψ) := fun a o e ha hm => by
    rw [addrs_append] at hm
    rcases List.mem_append.mp hm with hm | hm
    · exact ha hm
    · exact absurd (Nat.lt_of_lt_of_le (Heap.lt_size e) (hψ a hm)) (Nat.lt_irrefl _)
  refine ⟨V.fk, V.kind, V.glob, V.blt, ?_, V.above, ?_, fun y c e => ?_, V.inj, V.has, V.rinj, V.rlt, V.free, fun y i v e1 e2 => ?_⟩
  · obtain ⟨m, o, _, _, e, _⟩ := V.ns
    exact off _ o e V.base
  · obtain ⟨m, n⟩ := V.ns
    exact ⟨m, x.keep.ns n V.base⟩
  · obtain ⟨⟨v, n⟩, a, b⟩ := V.cells y c e
    obtain ⟨o, e', hd⟩ := id n
    exact ⟨⟨v, x.keep.cell n a⟩, off c o e' a, b⟩
  · obtain ⟨rv, q, r⟩ := V.vals y i v e1 e2
    exact ⟨rv, q.keep x.keep V.base fun c e => (V.cells y c e).2.1, x.vr R r⟩

/-- the values of the built-in names -/
noncomputable def biVal : Bi → Value
  | .len => .builtin "len" | .chr => .builtin "chr" | .ord => .builtin "ord" | .sum => .builtin "sum" | .max => .builtin "max" | .min => .builtin "min" | .sorted => .builtin "sorted"
  | .range => .type "range" | .list => .type "list" | .str => .type "str" | .zip => .type "zip" | .set => .type "set"

structure Room (A : Around) (d : Nat) : Prop where
  handled : A.handled = none
  depth : A.depth + d + 40 ≤ recursionLimit
  units : A.units + 40 * d + 400 ≤ cLine
  frames : ∃ l, A.frames = some l

noncomputable def Res (B : Base) (φ : Phi) (s : Shared) (σ' : AH) (v : V) : Value → Shared → Prop :=
  fun rv s' => ∃ φ', St B φ s φ' s' ∧ Rep B σ' φ' s'.heap ∧ VR B.Z φ' s'.heap v rv
noncomputable def ResB (B : Base) (φ : Phi) (s : Shared) (σ' : AH) (b : Bool) : Bool → Shared → Prop :=
  fun b' s' => ∃ φ', St B φ s φ' s' ∧ Rep B σ' φ' s'.heap ∧ b' = b
noncomputable def ResL (B : Base) (φ : Phi) (s : Shared) (σ' : AH) (vs : List V) : List Value → Shared → Prop :=
  fun rv s' => ∃ φ', St B φ s φ' s' ∧ Rep B σ' φ' s'.heap ∧ VRs B.Z φ' s'.heap vs rv
noncomputable def ResU (B : Base) (φ : Phi) (s : Shared) (σ' : AH) : Shared → Prop :=
  fun s' => ∃ φ', St B φ s φ' s' ∧ Rep B σ' φ' s'.heap

/-- the names and the defs of the program stand as we say -/
structure Sys (B : Base) : Prop where
  ok : B.Ok
  cst : ∀ x v, B.GT x = some (.cst v) → (x == ("__debug__" : Str)) = false ∧ ∃ rv, B.mg x = some rv ∧ ∀ N φ h, VR N φ h v rv
  fn : ∀ x a, B.GT x = some (.fn a) → (x == ("__debug__" : Str)) = false ∧ B.mg x = some (.ref a)
  bi : ∀ x b, B.GT x = some (.bi b) → (x == ("__debug__" : Str)) = false ∧ B.mg x = none ∧ B.mb x = some (biVal b)
  keeper : ∀ x a, B.GT x = some (.fn a) → ∀ h, (∀ a o, B.K.lookup a = some o → h.get? a = some o) → ∃ k, (k = Keeper.frame ∨ k = Keeper.machine ∨ k = Keeper.boundFrame) ∧ PySem.W.Looks (model B.prog B.w) h (keeperOf (.ref a)) k

noncomputable def Base.hide (B : Base) (H : List Addr) : Base := { B with hid := H }
theorem Sys.hide {B : Base} (Y : Sys B) (H : List Addr) : Sys (B.hide H) := ⟨⟨Y.ok.low, Y.ok.gl, Y.ok.bl, Y.ok.sl, Y.ok.off, Y.ok.tlow⟩, Y.cst, Y.fn, Y.bi, Y.keeper⟩

/-- the calls of an oracle are the program's -/
noncomputable def OrOK (B : Base) (C : Oracle) (d : Nat) : Prop :=
  ∀ f args σ v σ', C f args σ = some (v, σ') → ∀ A E φ s xs, Room A d → Rep B σ φ s.heap → VRs B.Z φ s.heap args xs →
    wpAny (model B.prog B.w) A (call (.ref f) xs []) (Res B φ s σ' v) E s

end Mine
end
section -- NT
set_option maxRecDepth 100000
set_option autoImplicit false
namespace Mine
open PySem

theorem subAt_eq (y x : Cs) (i : Nat) : Builtin.Str.subAt ⟨y.toArray⟩ ⟨x.toArray⟩ i = decide ((y.drop i).take x.length = x) := by
  unfold Builtin.Str.subAt
  have e : (y.toArray.extract i (i + (⟨x.toArray⟩ : Str).length)) = ((y.drop i).take x.length).toArray := by
    simp [Str.length, List.extract_eq_take_drop]
  show (y.toArray.extract i (i + (⟨x.toArray⟩ : Str).length) == x.toArray) = _
  rw [e, Bool.eq_iff_iff]
  simp
theorem pre_at (y x : Cs) (i : Nat) : (i + x.length ≤ y.length ∧ (y.drop i).take x.length = x) ↔ (i ≤ y.length ∧ x <+: y.drop i) := by
  constructor
  · rintro ⟨h1, h2⟩
    exact ⟨by omega, List.prefix_iff_eq_take.mpr h2.symm⟩
  · rintro ⟨h1, h2⟩
    have h3 := h2.length_le
    rw [List.length_drop] at h3
    exact ⟨by omega, (List.prefix_iff_eq_take.mp h2).symm⟩
theorem hasSub_iff (x : Cs) : ∀ y : Cs, hasSub x y = true ↔ ∃ i, i ≤ y.length ∧ x <+: y.drop i
  | [] => by
    unfold hasSub
    simp only [List.isEmpty_iff, List.length_nil, Nat.le_zero, List.drop_nil, List.prefix_nil]
    exact ⟨fun h => ⟨0, rfl, h⟩, fun ⟨_, _, h⟩ => h⟩
  | c :: y => by
    unfold hasSub
    rw [Bool.or_eq_true, hasSub_iff x y, List.isPrefixOf_iff_prefix]
    constructor
    · rintro (h | ⟨i, h1, h2⟩)
      · exact ⟨0, Nat.zero_le _, h⟩
      · exact ⟨i + 1, by simpa using h1, h2⟩
    · rintro ⟨i, h1, h2⟩
      cases i with
      | zero => exact .inl h2
      | succ i => exact .inr ⟨i, by simpa using h1, h2⟩
theorem hasSub_ok (x y : Cs) : Txt.contains ⟨y.toArray⟩ ⟨x.toArray⟩ = hasSub x y := by
  rw [Bool.eq_iff_iff, hasSub_iff]
  refine (StrLaws.found_iff (⟨y.toArray⟩ : Str) ⟨x.toArray⟩).trans ?_
  constructor
  · rintro ⟨i, h1, h2⟩
    rw [subAt_eq] at h2
    exact ⟨i, (pre_at y x i).mp ⟨by simpa [Str.length] using h1, by simpa using h2⟩⟩
  · rintro ⟨i, h⟩
    obtain ⟨h1, h2⟩ := (pre_at y x i).mpr h
    exact ⟨i, by simpa [Str.length] using h1, by rw [subAt_eq]; simpa using h2⟩

theorem starts_ok (x p : Cs) : Txt.startswith ⟨x.toArray⟩ ⟨p.toArray⟩ = p.isPrefixOf x := by
  rw [Bool.eq_iff_iff, List.isPrefixOf_iff_prefix]
  unfold Txt.startswith
  rw [subAt_eq]
  have := pre_at x p 0
  simp [Str.length] at this ⊢
  simpa using this
theorem ends_ok (x p : Cs) : Txt.endswith ⟨x.toArray⟩ ⟨p.toArray⟩ = p.isSuffixOf x := by
  rw [Bool.eq_iff_iff, List.isSuffixOf_iff_suffix]
  unfold Txt.endswith
  rw [subAt_eq]
  have key : (p.length ≤ x.length ∧ (x.drop (x.length - p.length)).take p.length = p) ↔ p <:+ x := by
    constructor
    · rintro ⟨h1, h2⟩
      rw [List.suffix_iff_eq_drop]
      rw [List.take_of_length_le (by simp; omega)] at h2
      exact h2.symm
    · intro h
      have hl := h.length_le
      refine ⟨hl, ?_⟩
      have := List.suffix_iff_eq_drop.mp h
      rw [← this, List.take_length]
  rw [← key]
  simp [Str.length]
theorem joinL_glue (sep a y : Cs) : ∀ r : List Cs, joinL sep ((a ++ y) :: r) = a ++ joinL sep (y :: r)
  | [] => by simp [joinL]
  | z :: r => by simp [joinL]
theorem joinL_fold (sep : Cs) : ∀ (l : List Cs) (x : Cs), joinL sep (x :: l) = l.foldl (fun a p => a ++ sep ++ p) x
  | [], x => rfl
  | y :: l, x => by
    rw [List.foldl_cons, ← joinL_fold sep l, joinL, joinL_glue, List.append_assoc]
theorem fold_arr (sep : Cs) : ∀ (l : List Cs) (x : Cs), ((l.map fun c => (⟨c.toArray⟩ : Str)).foldl (fun acc p => acc ++ sep.toArray ++ p.cps) x.toArray) = (l.foldl (fun a p => a ++ sep ++ p) x).toArray
  | [], x => rfl
  | y :: l, x => by
    rw [List.map_cons, List.foldl_cons, List.foldl_cons, ← fold_arr sep l]
    simp
theorem join_ok (sep : Cs) (l : List Cs) : Txt.join ⟨sep.toArray⟩ (l.map fun c => (⟨c.toArray⟩ : Str)) = ⟨(joinL sep l).toArray⟩ := by
  unfold Txt.join Builtin.Str.glued
  cases l with
  | nil => simp [joinL, Str.empty]
  | cons x l =>
    rw [joinL_fold, ← fold_arr]
    simp

theorem occ_one (x : Cs) (c : Nat) (limit : Nat) (hl : x.length < limit) : ∀ (n lo : Nat) (st : Array Nat × Nat), lo + n = x.length + 1 → st.1.size ≤ lo → st.2 ≤ lo →
    ((forIn (m := Id) (List.range' lo n) st (StrLaws.occBody ⟨x.toArray⟩ ⟨[c].toArray⟩ x.length limit)).run.1).size = st.1.size + (x.drop lo).countP (· == c) := by
  intro n
  induction n with
  | zero => intro lo st h _ _; rw [List.drop_eq_nil_of_le (by omega)]; simp
  | succ n ih =>
    intro lo st h1 h2 h3
    rw [List.range'_succ, List.forIn_cons]
    have ho : lo ≤ x.length := by omega
    rcases Nat.lt_or_ge lo x.length with hlt | hge
    · have hd : x.drop lo = x[lo] :: x.drop (lo + 1) := List.drop_eq_getElem_cons hlt
      have hs : Builtin.Str.subAt ⟨x.toArray⟩ ⟨[c].toArray⟩ lo = decide (x[lo] = c) := by
        rw [subAt_eq, Bool.eq_iff_iff, decide_eq_true_eq, decide_eq_true_eq, hd]
        show List.take 1 (x[lo] :: x.drop (lo + 1)) = [c] ↔ _
        simp only [List.take_succ_cons, List.take_zero, List.cons.injEq, and_true]
      by_cases hc : x[lo] = c
      · have hb : StrLaws.occBody ⟨x.toArray⟩ ⟨[c].toArray⟩ x.length limit lo st = pure (ForInStep.yield (st.1.push lo, lo + 1)) := by
          unfold StrLaws.occBody
          rw [if_pos ⟨⟨⟨by omega, h3⟩, by simp [Str.length]; omega⟩, by rw [hs]; simp [hc]⟩]
          simp [Str.length]
        rw [hb]
        show ((forIn (m := Id) (List.range' (lo + 1) n) (st.1.push lo, lo + 1) _).run.1).size = _
        rw [ih (lo + 1) _ (by omega) (by simp; omega) (Nat.le_refl _), hd, List.countP_cons]
        simp [hc]; omega
      · have hb : StrLaws.occBody ⟨x.toArray⟩ ⟨[c].toArray⟩ x.length limit lo st = pure (ForInStep.yield (st.1, st.2)) := by
          unfold StrLaws.occBody
          rw [if_neg]
          rintro ⟨_, q⟩
          rw [hs] at q; simp [hc] at q
        rw [hb]
        show ((forIn (m := Id) (List.range' (lo + 1) n) (st.1, st.2) _).run.1).size = _
        rw [ih (lo + 1) _ (by omega) (by show st.1.size ≤ _; omega) (by show st.2 ≤ _; omega), hd, List.countP_cons]
        simp [hc]
    · have hb : StrLaws.occBody ⟨x.toArray⟩ ⟨[c].toArray⟩ x.length limit lo st = pure (ForInStep.yield (st.1, st.2)) := by
        unfold StrLaws.occBody
        rw [if_neg]
        rintro ⟨⟨_, q⟩, _⟩
        simp [Str.length] at q; omega
      rw [hb]
      show ((forIn (m := Id) (List.range' (lo + 1) n) (st.1, st.2) _).run.1).size = _
      rw [ih (lo + 1) _ (by omega) (by show st.1.size ≤ _; omega) (by show st.2 ≤ _; omega), List.drop_eq_nil_of_le (by omega), List.drop_eq_nil_of_le hge]
theorem count_ok (x : Cs) (c : Nat) : Txt.count ⟨x.toArray⟩ ⟨[c].toArray⟩ = (x.countP (· == c) : Nat) := by
  unfold Txt.count
  rw [StrLaws.occ_eq]
  have h := occ_one x c (x.length + 1) (by omega) (x.length + 1 - 0) 0 (#[], 0) (by omega) (Nat.le_refl _) (Nat.le_refl _)
  simp [Str.length] at h ⊢
  exact congrArg _ h
end Mine
end
section -- NC
set_option maxRecDepth 100000
set_option autoImplicit false
namespace Mine
open PySem

section
variable {B : Base} {d : Nat} {A : Around} {E : Value → Shared → Prop} {σ σ' : AH} {φ : Phi} {s : Shared}

theorem res_here {v : V} {rv : Value} (R : Rep B σ φ s.heap) (r : VR B.Z φ s.heap v rv) (tk : Nat) : Res B φ s σ v rv { s with toks := tk } :=
  ⟨φ, St.of_kp (.refl ..) rfl rfl, R, r⟩
theorem res_here' {v : V} {rv : Value} (R : Rep B σ φ s.heap) (r : VR B.Z φ s.heap v rv) : Res B φ s σ v rv s :=
  ⟨φ, St.refl .., R, r⟩
theorem vr_int {N : Zone} {φ : Phi} {h : Heap} (i : Int) (t : Tok) : VR N φ h (.int i) (.int i t) := by unfold VR; exact ⟨t, rfl⟩
theorem vr_bool {N : Zone} {φ : Phi} {h : Heap} (b : Bool) : VR N φ h (.bool b) (.bool b) := by unfold VR; rfl
theorem vr_none {N : Zone} {φ : Phi} {h : Heap} : VR N φ h .none .none := by unfold VR; rfl
theorem vr_str {N : Zone} {φ : Phi} {h : Heap} (x : Cs) (t : Tok) : VR N φ h (.str x) (.str ⟨x.toArray⟩ t) := by unfold VR; exact ⟨t, rfl⟩
theorem vr_str' {N : Zone} {φ : Phi} {h : Heap} (x : Cs) (y : Str) (e : y = ⟨x.toArray⟩) (t : Tok) : VR N φ h (.str x) (.str y t) := by subst e; exact vr_str x t
/-- a new list of ours: what newList does -/
theorem res_new (Y : Sys B) (R : Rep B σ φ s.heap) {vs : List V} {xs : List Value} (r : VRs B.Z φ s.heap vs xs) (hl : vs.length ≤ LIM) (tk : Nat) :
    Res B φ s (σ ++ [.list vs]) (.obj σ.length) (.ref s.heap.objs.size) { s with heap := s.heap.push (lstO xs.toArray 0), toks := tk } := by
  have k : Kp B.tabs [] s.heap (s.heap.push (lstO xs.toArray 0)) := .push ..
  have R' := R.grow Y.ok k
  have fr : s.heap.objs.size ∉ addrs φ := fun hm => absurd (R.lt hm) (Nat.lt_irrefl _)
  refine ⟨φ ++ [(s.heap.objs.size, s.heap.objs.size)], ⟨⟨_, rfl, fun a ha => ?_⟩, k.mono (fun _ h => nomatch h), rfl, id⟩, R'.add fr fr R.stat.size R.stat.size ⟨rfl, xs, 0, Heap.get?_push_size _ rfl, VRs_mono (Vk.of k (Safe.nil B.Z _) (pre_refl ..)) _ r, hl⟩, ?_⟩
  · rcases mem_addrs.mp ha with ⟨q, hq, rfl | rfl⟩ <;> simp at hq <;> subst hq <;> exact Nat.le_refl _
  · unfold VR
    exact ⟨(s.heap.objs.size, s.heap.objs.size), by rw [← R.len]; simp, rfl⟩

theorem lim_line {n : Nat} (h : n ≤ LIM) : n ≤ sizeLine := Nat.le_trans h (by decide)

theorem bits_big {i : Int} (h : i.natAbs < BIG) : Builtin.Int.intBits i ≤ 256 := intBits_le_iff.mpr h
theorem log_big {i : Int} (h : i.natAbs < BIG) : i.natAbs.log2 < 9000 := by
  rcases Nat.eq_zero_or_pos i.natAbs with h0 | h0
  · rw [h0]; decide
  · have : i.natAbs.log2 < 256 := (Nat.log2_lt (by omega)).mpr h
    omega

theorem foldl_app (xs : Array Value) (n : Nat) : (List.foldl (fun x1 x2 => x1 ++ x2) (#[] : Array Value) (List.replicate n xs)) = (rep n xs.toList).toArray := by
  have : ∀ (n : Nat) (acc : Array Value), List.foldl (fun x1 x2 => x1 ++ x2) acc (List.replicate n xs) = acc ++ (rep n xs.toList).toArray := by
    intro n
    induction n with
    | zero => intro acc; simp [rep]
    | succ n ih => intro acc; rw [List.replicate_succ, List.foldl_cons, ih]; apply Array.ext'; simp [rep, List.replicate_succ]
  rw [this]; simp
theorem foldl_app_nat (xs : Array Nat) (n : Nat) : (List.foldl (fun x1 x2 => x1 ++ x2) (#[] : Array Nat) (List.replicate n xs)) = (rep n xs.toList).toArray := by
  have : ∀ (n : Nat) (acc : Array Nat), List.foldl (fun x1 x2 => x1 ++ x2) acc (List.replicate n xs) = acc ++ (rep n xs.toList).toArray := by
    intro n
    induction n with
    | zero => intro acc; simp [rep]
    | succ n ih => intro acc; rw [List.replicate_succ, List.foldl_cons, ih]; apply Array.ext'; simp [rep, List.replicate_succ]
  rw [this]; simp
theorem rep_zero {α : Type} (l : List α) : rep 0 l = [] := by simp [rep]
theorem rep_one {α : Type} (l : List α) : rep 1 l = l := by simp [rep]
theorem rep_nil {α : Type} (n : Nat) : rep n ([] : List α) = [] := by simp [rep]
theorem mulTxt (x : Cs) (n : Int) : Txt.mul ⟨x.toArray⟩ n = ⟨(rep n.toNat x).toArray⟩ := by
  unfold Txt.mul
  split
  · rename_i h
    have : n.toNat = 0 := by omega
    rw [this, rep_zero]; rfl
  · split
    · rename_i h
      simp only [Bool.or_eq_true, beq_iff_eq] at h
      rcases h with rfl | h
      · show (⟨x.toArray⟩ : Str) = ⟨(rep 1 x).toArray⟩
        rw [rep_one]
      · have : x = [] := by simpa [Str.length] using h
        subst this
        rw [rep_nil]
    · rw [foldl_app_nat]


/-! ## what a part of a value says of the real one -/
section
variable {Z : Zone} {φ : Phi} {h : Heap} {a : V} {x : Value} {P : Value → Prop}
theorem vInt {i : Int} (e : asInt a = some i) (r : VR Z φ h a x) (k : ∀ t, P (.int i t)) : P x := by
  cases a with
  | int j => unfold VR at r; obtain ⟨t, rfl⟩ := r; exact someE (P := fun i => (∀ t, P (.int i t)) → P (.int j t)) e (fun k => k t) k
  | _ => exact noneE e
theorem vStr {i : Cs} (e : asStr a = some i) (r : VR Z φ h a x) (k : ∀ t, P (.str ⟨i.toArray⟩ t)) : P x := by
  cases a with
  | str j => unfold VR at r; obtain ⟨t, rfl⟩ := r; exact someE (P := fun i : Cs => (∀ t, P (.str ⟨i.toArray⟩ t)) → P (.str ⟨j.toArray⟩ t)) e (fun k => k t) k
  | _ => exact noneE e
theorem vBool {i : Bool} (e : asBool a = some i) (r : VR Z φ h a x) (k : P (.bool i)) : P x := by
  cases a with
  | bool j => unfold VR at r; subst r; exact someE (P := fun i => P (.bool i) → P (.bool j)) e id k
  | _ => exact noneE e
theorem vNone {u : Unit} (e : asNone a = some u) (r : VR Z φ h a x) (k : P .none) : P x := by
  cases a with
  | none => unfold VR at r; subst r; exact k
  | _ => exact noneE e
theorem vTup {vs : List V} (e : asTup a = some vs) (r : VR Z φ h a x) (k : ∀ l xs n, l ∉ Z.hid → h.get? l = some (tupO (List.toArray xs) n) → VRs Z φ h vs xs → P (.ref l)) : P x := by
  cases a with
  | tup j => unfold VR at r; obtain ⟨l, xs, n, rfl, h1, r⟩ := r; exact someE (P := fun vs => VRs Z φ h vs xs → P (.ref l)) e (fun r => by cases e; exact k l xs n h1.1 h1.2 r) (by cases e; exact r)
  | _ => exact noneE e
theorem vObj {i : Nat} (e : asObj a = some i) (r : VR Z φ h a x) (k : ∀ p, φ[i]? = some p → P (.ref p.1)) : P x := by
  cases a with
  | obj j => cases e; unfold VR at r; obtain ⟨p, hp, rfl⟩ := r; exact k p hp
  | _ => exact noneE e
end
theorem lE {o : O} {vs : List V} {φ : Phi} {h : Heap} {p : Addr × Addr} {G : Prop} (e : asL o = some vs) (q : OR B φ h o p) (k : ∀ xs n, p.2 = p.1 → h.get? p.1 = some (lstO (List.toArray xs) n) → VRs B.Z φ h vs xs → vs.length ≤ LIM → G) : G := by
  cases o with
  | list us => cases e; obtain ⟨e2, xs, n, h1, r1, hl⟩ := q; exact k xs n e2 h1 r1 hl
  | _ => exact noneE e
theorem vLst {a : V} {x : Value} {P : Value → Prop} {vs : List V} (e : lstAt a σ = some vs) (R : Rep B σ φ s.heap) (r : VR B.Z φ s.heap a x) (k : ∀ p xs n, s.heap.get? p = some (lstO (List.toArray xs) n) → VRs B.Z φ s.heap vs xs → vs.length ≤ LIM → P (.ref p)) : P x :=
  bindE e fun i h1 e => bindE e fun o h2 e => vObj h1 r fun p hp => by
    obtain ⟨p', hp', q⟩ := R.at_ h2
    cases hp.symm.trans hp'
    exact lE e q fun xs n _ h r l => k _ xs n h r l
theorem vSeq {a : V} {x : Value} {P : Value → Prop} {vs : List V} (e : seqAt a σ = some vs) (R : Rep B σ φ s.heap) (r : VR B.Z φ s.heap a x) (k : ∀ p xs n, s.heap.get? p = some (lstO (List.toArray xs) n) → VRs B.Z φ s.heap vs xs → vs.length ≤ LIM → P (.ref p)) : P x := by
  cases a with
  | obj i => exact vLst (a := .obj i) e R r k
  | flist us => exact ifE e fun hl e => by cases e; unfold VR at r; obtain ⟨p, xs, n, rfl, _, h, r⟩ := r; exact k p xs n h r hl
  | _ => exact noneE e

/-- a value made where we stand -/
theorem leafE {r r' : V × AH} {t : Sem Value} (e : some r = some r') (h : wpAny (model B.prog B.w) A t (Res B φ s r.2 r.1) E s) : wpAny (model B.prog B.w) A t (Res B φ s r'.2 r'.1) E s := someE (P := fun r => wpAny (model B.prog B.w) A t (Res B φ s r.2 r.1) E s) e h
theorem leafV {v v' : V} {t : Sem Value} (e : some v = some v') (h : wpAny (model B.prog B.w) A t (Res B φ s σ v) E s) : wpAny (model B.prog B.w) A t (Res B φ s σ v') E s := someE (P := fun v => wpAny (model B.prog B.w) A t (Res B φ s σ v) E s) e h
theorem newL_ok (Y : Sys B) (R : Rep B σ φ s.heap) {vs : List V} {xs : List Value} {r : V × AH} {t : Sem Value} (e : newL vs σ = some r) (rr : VRs B.Z φ s.heap vs xs)
    (k : vs.length ≤ LIM → (∀ tk, Res B φ s (σ ++ [.list vs]) (.obj σ.length) (.ref s.heap.objs.size) { s with heap := s.heap.push (lstO xs.toArray 0), toks := tk }) → wpAny (model B.prog B.w) A t (Res B φ s (σ ++ [.list vs]) (.obj σ.length)) E s) : wpAny (model B.prog B.w) A t (Res B φ s r.2 r.1) E s :=
  ifE e fun hl e => leafE e (k hl (res_new Y R rr hl))

/-- two ints -/
theorem int2_ok {α : Type} {a b : V} {x y : Value} {k : Int → Int → Option α} {r : α} {P : Value → Value → Prop} (e : int2 a b k = some r) (ra : VR B.Z φ s.heap a x) (rb : VR B.Z φ s.heap b y)
    (H : ∀ i j t u, k i j = some r → P (.int i t) (.int j u)) : P x y :=
  bindE e fun _ h1 e => bindE e fun _ h2 e => vInt (P := fun x => P x y) h1 ra fun t => vInt (P := P _) h2 rb fun u => H _ _ t u e
theorem str2_ok {α : Type} {a b : V} {x y : Value} {k : Cs → Cs → Option α} {r : α} {P : Value → Value → Prop} (e : str2 a b k = some r) (ra : VR B.Z φ s.heap a x) (rb : VR B.Z φ s.heap b y)
    (H : ∀ i j t u, k i j = some r → P (.str ⟨i.toArray⟩ t) (.str ⟨j.toArray⟩ u)) : P x y :=
  bindE e fun _ h1 e => bindE e fun _ h2 e => vStr (P := fun x => P x y) h1 ra fun t => vStr (P := P _) h2 rb fun u => H _ _ t u e

theorem add_txt (x y : Cs) : Str.append ⟨x.toArray⟩ ⟨y.toArray⟩ = ⟨(x ++ y).toArray⟩ := by simp [Str.append]
theorem add_len {x y : Cs} (h : x.length + y.length ≤ LIM) : (⟨x.toArray⟩ : Str).length + (⟨y.toArray⟩ : Str).length ≤ sizeLine := lim_line (by simpa [Str.length] using h)
theorem mul_num {x : Cs} {y : Int} (h : x.length * y.toNat ≤ LIM ∧ y.natAbs ≤ LIM) : (0 < y → 1 < y → ¬ (sizeLine : Int) < 0) := fun _ _ => by decide

theorem rep_arr (xs : List Value) (k : Int) : (List.foldl (fun x1 x2 => x1 ++ x2) (#[] : Array Value) (List.replicate (if xs.toArray.isEmpty = true then 0 else k.toNat) xs.toArray)) = (rep k.toNat xs).toArray := by
  rw [foldl_app]
  split
  · rename_i h0
    have : xs = [] := by simpa using h0
    subst this
    rw [rep_nil, rep_nil]
  · rfl

theorem mul_str {x : Cs} {y : Int} {t u : Tok} (R : Rep B σ φ s.heap) (h : x.length * y.toNat ≤ LIM ∧ y.natAbs ≤ LIM) : wpAny (model B.prog B.w) A (binaryOp .Mult (.str ⟨x.toArray⟩ t) (.int y u)) (Res B φ s σ (.str (rep y.toNat x))) E s := by
  refine SB.mul ⟨?_, ?_, ?_⟩ fun t' tk => res_here R (vr_str' _ _ (mulTxt ..) _) _
  · have := h.2; simp [LIM] at this ⊢; omega
  · intro h1 _
    have h2 := h.1; have h3 := h.2; simp only [LIM] at h2 h3
    have hl : ((⟨List.toArray x⟩ : Str).length : Int) = (x.length : Int) := by simp [Str.length]
    rw [hl, Int.not_lt]
    refine (Int.le_ediv_iff_mul_le (by omega)).mpr ?_
    have : (x.length : Int) * y = ((x.length * y.toNat : Nat) : Int) := by rw [Int.natCast_mul, Int.toNat_of_nonneg (by omega)]
    omega
  · intro _ _
    have h2 := h.1; simp only [LIM] at h2
    have hl : (⟨List.toArray x⟩ : Str).length = x.length := by simp [Str.length]
    rw [hl]; simp [Builtin.Str.tooLong, sizeLine]; omega
theorem mul_lst {p : Addr} {xs : List Value} {n : Nat} {k : Int} {u : Tok} {Q : Value → Shared → Prop} (h1 : s.heap.get? p = some (lstO xs.toArray n)) (hk : xs.length * k.toNat ≤ LIM ∧ k.natAbs ≤ LIM)
    (hq : Q (.ref s.heap.objs.size) { s with heap := s.heap.push (lstO (rep k.toNat xs).toArray 0) }) : wpAny (model B.prog B.w) A (binaryOp .Mult (.ref p) (.int k u)) Q E s := by
  have l1 := hk.1
  have l2 := hk.2
  simp only [LIM] at l1 l2
  refine PySem.wpAny_binaryOp_repeat_ref (T := "list") (U := "int") (by decide) ⟨_, h1, rfl⟩ (fun s' => typeIs_int s' k u) noFill_list_mul PySem.F.fills_int_mul PySem.F.slot_int_rmul repeat_list PySem.F.slot_int_index.lookup
    (call_meets PySem.F.slot_int_rmul (typeIs_int s k u) PySem.F.entry_int_rmul (PySem.F.args_int_rmul_2 _ _) (int___rmul___int_list k u p xs.toArray n)
      ⟨h1, rfl, ⟨_, h1, rfl⟩, call_meets PySem.F.slot_list_mul ⟨_, h1, rfl⟩ PySem.F.entry_list_mul (PySem.F.args_list_mul_2 _ _)
        (AutoListH.list___mul___list_int_3 p xs.toArray n k u (by simp [Builtin.List.listFitsIndex]; omega) (by simp; omega) (by simp [Builtin.List.listTooLong, sizeLine]; omega))
        ⟨h1, ?_⟩⟩)
  rw [rep_arr]; exact hq
theorem add_ok (Y : Sys B) {a b : V} {r : V × AH} {x y : Value} (e : binV .Add a b σ = some r) (R : Rep B σ φ s.heap) (ra : VR B.Z φ s.heap a x) (rb : VR B.Z φ s.heap b y) : wpAny (model B.prog B.w) A (binaryOp .Add x y) (Res B φ s r.2 r.1) E s := by
  cases a with
  | int i => exact bindE e fun _ h2 e => vInt (P := fun x => wpAny _ _ (binaryOp _ x y) _ E s) (a := .int i) rfl ra fun t => vInt (P := fun y => wpAny _ _ (binaryOp _ _ y) _ E s) h2 rb fun u => leafE e (PyProof.Rows.add_int (res_here R (vr_int ..) _))
  | str z => exact bindE e fun w h2 e => ifE e fun h e => vStr (P := fun x => wpAny _ _ (binaryOp _ x y) _ E s) (a := .str z) rfl ra fun t => vStr (P := fun y => wpAny _ _ (binaryOp _ _ y) _ E s) h2 rb fun u => leafE e (PyProof.Rows.add_str (fun t' tk => res_here R (vr_str' _ _ (add_txt ..) _) _) (add_len h))
  | obj i => exact bindE e fun _ h1 e => bindE e fun _ h2 e => vLst (P := fun x => wpAny _ _ (binaryOp _ x y) _ E s) h1 R ra fun p xs n g1 r1 _ => vLst (P := fun y => wpAny _ _ (binaryOp _ _ y) _ E s) h2 R rb fun q ys m g2 r2 _ => newL_ok Y R e (VRs_append r1 r2) fun hl z => PySem.P.add_list g1 g2 (by simpa using z s.toks) (lim_line (by simpa [VRs_length r1, VRs_length r2] using hl))
  | _ => exact noneE e
theorem mul_ok (Y : Sys B) {a b : V} {r : V × AH} {x y : Value} (e : binV .Mult a b σ = some r) (R : Rep B σ φ s.heap) (ra : VR B.Z φ s.heap a x) (rb : VR B.Z φ s.heap b y) : wpAny (model B.prog B.w) A (binaryOp .Mult x y) (Res B φ s r.2 r.1) E s := by
  cases a with
  | int i => exact bindE e fun _ h2 e => ifE e fun h e => vInt (P := fun x => wpAny _ _ (binaryOp _ x y) _ E s) (a := .int i) rfl ra fun t => vInt (P := fun y => wpAny _ _ (binaryOp _ _ y) _ E s) h2 rb fun u => leafE e (PyProof.Rows.mul_int (res_here R (vr_int ..) _) (IntMulOk.of_le (bits_big h.1) (bits_big h.2) (by decide)))
  | str z => exact bindE e fun w h2 e => ifE e fun h e => vStr (P := fun x => wpAny _ _ (binaryOp _ x y) _ E s) (a := .str z) rfl ra fun t => vInt (P := fun y => wpAny _ _ (binaryOp _ _ y) _ E s) h2 rb fun u => leafE e (mul_str R h)
  | obj i => exact bindE e fun _ h1 e => bindE e fun _ h2 e => ifE e fun h e => vLst (P := fun x => wpAny _ _ (binaryOp _ x y) _ E s) h1 R ra fun p xs n g1 r1 _ => vInt (P := fun y => wpAny _ _ (binaryOp _ _ y) _ E s) h2 rb fun u => newL_ok Y R e (VRs_rep _ r1) fun hl z => mul_lst g1 (by rw [← VRs_length r1]; exact h) (by simpa using z s.toks)
  | _ => exact noneE e
theorem bin_ok (Y : Sys B) {op : Operator} {a b : V} {r : V × AH} {x y : Value} (e : binV op a b σ = some r) (R : Rep B σ φ s.heap) (ra : VR B.Z φ s.heap a x) (rb : VR B.Z φ s.heap b y) :
    wpAny (model B.prog B.w) A (binaryOp op x y) (Res B φ s r.2 r.1) E s := by
  cases op with
  | Add => exact add_ok Y e R ra rb
  | Sub => exact int2_ok (P := fun x y => wpAny _ _ (binaryOp _ x y) _ E s) e ra rb fun i j t u e => leafE e (PyProof.Rows.sub_int (res_here R (vr_int ..) _))
  | FloorDiv => exact int2_ok (P := fun x y => wpAny _ _ (binaryOp _ x y) _ E s) e ra rb fun i j t u e => nifE e fun h e => leafE e (PyProof.Rows.floordiv_int (fun q => h (.inl q)) (res_here R (vr_int ..) _) (.inl (PyProof.noPylong_of_log2 (log_big (Nat.lt_of_not_le fun q => h (.inr q))))))
  | Mod => exact int2_ok (P := fun x y => wpAny _ _ (binaryOp _ x y) _ E s) e ra rb fun i j t u e => nifE e fun h e => leafE e (PyProof.Rows.mod_int h (res_here R (vr_int ..) _))
  | Pow => exact int2_ok (P := fun x y => wpAny _ _ (binaryOp _ x y) _ E s) e ra rb fun i j t u e => ifE e fun h e => leafE e (PyProof.Rows.pow_int_small h.1 (by omega) h.2.2 (res_here R (vr_int ..) _))
  | Mult => exact mul_ok Y e R ra rb
  | _ => exact noneE e

open SeqAt in
theorem eqL_get {f : V → V → Option Bool} : ∀ {as bs : List V} {r : Bool}, eqL f as bs = some r → as.length = bs.length ∧ ∃ e : Nat → Bool, (∀ j a b, as[j]? = some a → bs[j]? = some b → f a b = some (e j)) ∧ (List.range as.length).all e = r
  | [], [], r, h => by cases h; exact ⟨rfl, fun _ => true, (fun j a b q => noneE q), rfl⟩
  | a :: as, b :: bs, r, h => bindE h fun x h1 h => bindE h fun y h2 h => (by
    cases h
    obtain ⟨hl, e, he, hr⟩ := eqL_get h2
    refine ⟨congrArg Nat.succ hl, fun j => match j with | 0 => x | j + 1 => e j, fun j => ?_, ?_⟩
    · cases j with
      | zero => intro a' b' q1 q2; cases q1; cases q2; exact h1
      | succ j => exact he j
    · rw [List.length_cons, List.range_succ_eq_map, List.all_cons, List.all_map, ← hr]; rfl)
  | [], _ :: _, _, h => noneE h
  | _ :: _, [], _, h => noneE h
theorem str_beq (a b : Cs) : ((⟨a.toArray⟩ : Str) == ⟨b.toArray⟩) = decide (a = b) := by
  rw [Bool.eq_iff_iff]; simp
/-- two real values of one kind, no tuples -/
inductive EqV : Value → Value → Bool → Prop
  | none : EqV .none .none true
  | bool (a b : Bool) : EqV (.bool a) (.bool b) (a == b)
  | int (i j : Int) (t u : Tok) : EqV (.int i t) (.int j u) (decide (i = j))
  | str (a b : Cs) (t u : Tok) : EqV (.str ⟨a.toArray⟩ t) (.str ⟨b.toArray⟩ u) ((⟨a.toArray⟩ : Str) == ⟨b.toArray⟩)
theorem eqB_view {a b : V} {x y : Value} {r : Bool} {N : Zone} {h : Heap} (e : eqB a b = some r) (ra : VR N φ h a x) (rb : VR N φ h b y) : EqV x y r := by
  cases a with
  | none => cases b with
    | none => unfold VR at ra rb; subst ra rb; exact someE (P := EqV _ _) e .none
    | _ => exact noneE e
  | bool i => exact bindE e fun _ h e => vBool (P := fun x => EqV x y r) (a := .bool i) rfl ra (vBool (P := fun y => EqV _ y r) h rb (someE (P := EqV _ _) e (.bool _ _)))
  | int i => exact bindE e fun _ h e => vInt (P := fun x => EqV x y r) (a := .int i) rfl ra fun t => vInt (P := fun y => EqV _ y r) h rb fun u => someE (P := EqV _ _) e (.int _ _ _ _)
  | str i => exact bindE e fun _ h e => vStr (P := fun x => EqV x y r) (a := .str i) rfl ra fun t => vStr (P := fun y => EqV _ y r) h rb fun u => someE (P := EqV _ _) e (str_beq i _ ▸ .str _ _ _ _)
  | _ => exact noneE e
theorem EqV.same {x y : Value} {r : Bool} (q : EqV x y r) (h : x = y) : r = true := by
  cases q with
  | none => rfl
  | bool a b => cases h; simp
  | int i j t u => cases h; simp
  | str a b t u => injection h with h _; simp [h]
theorem EqV.at {x y : Value} {r : Bool} (q : EqV x y r) : SeqAt.EqAt A s x y r := by
  cases q with
  | none => exact SeqAt.EqAt.same _
  | bool a b => exact SeqAt.EqAt.bool_bool _ _
  | int i j t u => exact SeqAt.EqAt.int_int _ _ _ _
  | str a b t u => exact SeqAt.EqAt.str_str _ _ _ _
theorem EqV.rc {x y : Value} {r : Bool} (q : EqV x y r) : SeqAt.RcAt A s x y r ∧ SeqAt.RcNeAt A s x y (!r) := by
  cases q with
  | none => exact ⟨SeqAt.RcAt.none_none, fun prog w E Q h => PySem.EqNone.ne_none_none h⟩
  | bool a b => exact ⟨SeqAt.RcAt.bool_bool _ _, SeqAt.RcNeAt.bool_bool _ _⟩
  | int i j t u => exact ⟨SeqAt.RcAt.int_int _ _ _ _, SeqAt.RcNeAt.int_int _ _ _ _⟩
  | str a b t u => exact ⟨SeqAt.RcAt.str_str _ _ _ _, SeqAt.RcNeAt.str_str _ _ _ _⟩
/-- eqP taken apart -/
theorem eqP_elim {n : Nat} {a b : V} {x y : Value} {r : Bool} {N : Zone} {h : Heap} {G : Prop} (e : eqP n a b = some r) (ra : VR N φ h a x) (rb : VR N φ h b y) (k1 : EqV x y r → G)
    (k2 : ∀ m as bs l xs k l' ys k', n = m + 1 → x = .ref l → y = .ref l' → h.get? l = some (tupO (List.toArray xs) k) → h.get? l' = some (tupO (List.toArray ys) k') → VRs N φ h as xs → VRs N φ h bs ys → eqL (eqP m) as bs = some r → G) : G := by
  cases n with
  | zero => exact k1 (eqB_view e ra rb)
  | succ m => cases a with
    | tup as => exact bindE e fun bs hb e => ifE e fun hl e => vTup (P := fun x' => x = x' → G) (a := .tup as) rfl ra (fun l xs k _ g1 r1 ex => vTup (P := fun y' => y = y' → G) hb rb (fun l' ys k' _ g2 r2 ey => k2 m as bs l xs k l' ys k' rfl ex ey g1 g2 r1 r2 e) rfl) rfl
    | _ => exact k1 (by refine eqB_view ?_ ra rb; exact e)
theorem arr_inj {xs ys : List Value} {k k' : Nat} (h : tupO xs.toArray k = tupO ys.toArray k') : xs = ys := by
  unfold tupO at h
  injection h with _ _ q _
  injection q with q _
  simpa using q
theorem eqP_same {N : Zone} {h : Heap} : ∀ (n : Nat) {a b : V} {x : Value} {r : Bool}, VR N φ h a x → VR N φ h b x → eqP n a b = some r → r = true := by
  intro n
  induction n with
  | zero => intro a b x r ra rb e; exact (eqB_view e ra rb).same rfl
  | succ n ih =>
    intro a b x r ra rb e
    refine eqP_elim e ra rb (fun q => q.same rfl) fun m as bs l xs k l' ys k' hm ex ey g1 g2 r1 r2 e => ?_
    cases hm
    cases ex.symm.trans ey
    cases arr_inj (Option.some.inj (g1.symm.trans g2))
    obtain ⟨hl, ee, he, hr⟩ := eqL_get e
    rw [← hr, List.all_eq_true]
    intro j hj
    have hj : j < as.length := List.mem_range.mp hj
    obtain ⟨x, hx, v1⟩ := VRs_get r1 (List.getElem?_eq_getElem hj)
    obtain ⟨x', hx', v2⟩ := VRs_get r2 (List.getElem?_eq_getElem (hl ▸ hj))
    cases hx.symm.trans hx'
    exact ih v1 v2 (he j _ _ (List.getElem?_eq_getElem hj) (List.getElem?_eq_getElem (hl ▸ hj)))

open SeqAt in
theorem items_of {n : Nat} {as bs : List V} {xs ys : List Value} {r : Bool} (ih : ∀ {a b : V} {x y : Value} {r : Bool}, VR B.Z φ s.heap a x → VR B.Z φ s.heap b y → eqP n a b = some r → SeqAt.EqAt A.in1 s x y r) (r1 : VRs B.Z φ s.heap as xs) (r2 : VRs B.Z φ s.heap bs ys) (e : eqL (eqP n) as bs = some r) :
    xs.length = ys.length ∧ ∃ ee : Nat → Bool, (∀ j (h1 : j < xs.toArray.size) (h2 : j < ys.toArray.size), SeqAt.EqAt A.in1 s xs.toArray[j] ys.toArray[j] (ee j)) ∧ (List.range xs.length).all ee = r := by
  obtain ⟨hl, ee, he, hr⟩ := eqL_get e
  refine ⟨by rw [← VRs_length r1, ← VRs_length r2, hl], ee, fun j h1 h2 => ?_, by rw [← VRs_length r1]; exact hr⟩
  have hj : j < as.length := by rw [VRs_length r1]; exact h1
  obtain ⟨x, hx, v1⟩ := VRs_get r1 (List.getElem?_eq_getElem hj)
  obtain ⟨x', hx', v2⟩ := VRs_get r2 (List.getElem?_eq_getElem (hl ▸ hj))
  cases (List.getElem?_eq_getElem (show j < xs.length from h1)).symm.trans hx
  cases (List.getElem?_eq_getElem (show j < ys.length from h2)).symm.trans hx'
  exact ih v1 v2 (he j _ _ (List.getElem?_eq_getElem hj) (List.getElem?_eq_getElem (hl ▸ hj)))
open SeqAt in
theorem eqAt_ok : ∀ (n : Nat) {A : Around} {a b : V} {x y : Value} {r : Bool}, A.units + n < cLine → VR B.Z φ s.heap a x → VR B.Z φ s.heap b y → eqP n a b = some r → SeqAt.EqAt A s x y r := by
  intro n
  induction n with
  | zero => intro A a b x y r hu ra rb e; exact (eqB_view e ra rb).at
  | succ n ih =>
    intro A a b x y r hu ra rb e
    refine eqP_elim e ra rb EqV.at fun m as bs l xs k l' ys k' hm ex ey g1 g2 r1 r2 e' => ?_
    cases hm
    subst ex ey
    by_cases hll : l = l'
    · subst hll
      exact eqP_same _ ra rb e ▸ SeqAt.EqAt.same _
    · obtain ⟨hs, ee, he, hr⟩ := items_of (A := A) (fun v1 v2 e => ih (A := A.in1) (by rw [Around.in1_units]; omega) v1 v2 e) r1 r2 e'
      have q := SeqAt.RcAt.tuples (A := A) (s := s) (l := l) (b := l') (items := xs.toArray) (items2 := ys.toArray) (e := ee) ⟨_, g1, rfl, k, rfl⟩ ⟨_, g2, rfl, k', rfl⟩ (by omega) he
      simp only [List.size_toArray, ← hs, Nat.min_self, hr, beq_self_eq_true, Bool.and_true] at q
      exact SeqAt.EqAt.of_refs hll q
open SeqAt in
theorem items_eq {n : Nat} {as bs : List V} {xs ys : List Value} {r : Bool} (hu : A.units + 1 + n < cLine) (r1 : VRs B.Z φ s.heap as xs) (r2 : VRs B.Z φ s.heap bs ys) (e : eqL (eqP n) as bs = some r) :
    xs.length = ys.length ∧ ∃ ee : Nat → Bool, (∀ j (h1 : j < xs.toArray.size) (h2 : j < ys.toArray.size), SeqAt.EqAt A.in1 s xs.toArray[j] ys.toArray[j] (ee j)) ∧ (List.range xs.length).all ee = r :=
  items_of (fun v1 v2 e => eqAt_ok n (A := A.in1) (by rw [Around.in1_units]; omega) v1 v2 e) r1 r2 e

theorem strsOf_ok {N : Zone} {h : Heap} : ∀ {vs : List V} {xs : List Value} {l : List Cs}, strsOf vs = some l → VRs N φ h vs xs → PyProof.Rows.StrsAre xs (l.map fun c => (⟨c.toArray⟩ : Str))
  | [], [], _, e, _ => by cases e; exact .nil
  | v :: vs, x :: xs, l, e, r => bindE e fun c h1 e => bindE e fun l' h2 e => (by cases e; unfold VRs at r; exact vStr (P := fun x => PyProof.Rows.StrsAre (x :: xs) ((c :: l').map fun c => (⟨c.toArray⟩ : Str))) h1 r.1 fun t => .cons _ _ (strsOf_ok h2 r.2))
  | [], _ :: _, _, _, r => by unfold VRs at r; exact r.elim
  | _ :: _, [], _, _, r => by unfold VRs at r; exact r.elim
theorem intsOf_ok {N : Zone} {h : Heap} : ∀ {vs : List V} {xs : List Value} {l : List Int}, intsOf vs = some l → VRs N φ h vs xs → PyProof.Rows.IntsAre xs l
  | [], [], _, e, _ => by cases e; exact .nil
  | v :: vs, x :: xs, l, e, r => bindE e fun c h1 e => bindE e fun l' h2 e => (by cases e; unfold VRs at r; exact vInt (P := fun x => PyProof.Rows.IntsAre (x :: xs) (c :: l')) h1 r.1 fun t => .cons _ _ (intsOf_ok h2 r.2))
  | [], _ :: _, _, _, r => by unfold VRs at r; exact r.elim
  | _ :: _, [], _, _, r => by unfold VRs at r; exact r.elim
theorem any_map_str (l : List Cs) (x : Cs) : (l.map fun c => (⟨c.toArray⟩ : Str)).any (· == ⟨x.toArray⟩) = l.any (· == x) := by
  rw [List.any_map]
  congr 1
  funext c
  show ((⟨c.toArray⟩ : Str) == ⟨x.toArray⟩) = (c == x)
  rw [str_beq]; rw [Bool.eq_iff_iff]; simp

theorem lt_ltL : ∀ (a b : Cs), (decide (a < b)) = ltL a b
  | [], [] => by simp [ltL]
  | [], _ :: _ => by simp [ltL]
  | _ :: _, [] => by simp [ltL]
  | a :: as, b :: bs => by
    unfold ltL
    rw [← lt_ltL as bs]
    rw [Bool.eq_iff_iff]
    simp only [decide_eq_true_eq, List.cons_lt_cons_iff]
    by_cases h1 : a < b
    · simp [h1]
    · by_cases h2 : b < a
      · simp only [h1, h2, if_false, if_true, false_or]; constructor
        · rintro ⟨rfl, _⟩; omega
        · intro h; cases h
      · have : a = b := by omega
        simp [this]


open SeqAt in
theorem lists_rc {v u : List V} {xs ys : List Value} {l l' : Addr} {n m : Nat} {r : Bool} (hu : A.units + 10 < cLine) (h1 : s.heap.get? l = some (lstO xs.toArray n)) (h2 : s.heap.get? l' = some (lstO ys.toArray m)) (r1 : VRs B.Z φ s.heap v xs) (r2 : VRs B.Z φ s.heap u ys) (e : listsEq v u = some r) :
    RcAt A s (.ref l) (.ref l') r ∧ RcNeAt A s (.ref l) (.ref l') (!r) := by
  unfold listsEq at e
  by_cases hl : v.length = u.length
  · rw [if_pos hl] at e
    obtain ⟨hs, ee, he, hr⟩ := items_eq (A := A) (n := 3) (by omega) r1 r2 e
    have a1 := RcAt.lists (A := A) (s := s) (l := l) (b := l') (items := xs.toArray) (items2 := ys.toArray) (e := ee) ⟨_, h1, rfl, n, rfl⟩ ⟨_, h2, rfl, m, rfl⟩ (by simp [hs]) (by omega) he
    have a2 := RcNeAt.lists (A := A) (s := s) (l := l) (b := l') (items := xs.toArray) (items2 := ys.toArray) (e := ee) ⟨_, h1, rfl, n, rfl⟩ ⟨_, h2, rfl, m, rfl⟩ (by simp [hs]) (by omega) he
    simp only [List.size_toArray, hr] at a1 a2
    exact ⟨a1, a2⟩
  · rw [if_neg hl] at e
    have hne' : (xs.toArray.size != ys.toArray.size) = true := by
      rw [VRs_length r1, VRs_length r2] at hl
      simpa using hl
    exact someE (P := fun r => RcAt A s (.ref l) (.ref l') r ∧ RcNeAt A s (.ref l) (.ref l') (!r)) e ⟨RcAt.lists_lengths ⟨_, h1, rfl, n, rfl⟩ ⟨_, h2, rfl, m, rfl⟩ hne' (by omega), RcNeAt.lists_lengths ⟨_, h1, rfl, n, rfl⟩ ⟨_, h2, rfl, m, rfl⟩ hne' (by omega)⟩
open SeqAt in
theorem eqP_rc {a b : V} {r : Bool} {x y : Value} (e : eqP 3 a b = some r) (hu : A.units + 10 < cLine) (ra : VR B.Z φ s.heap a x) (rb : VR B.Z φ s.heap b y) : RcAt A s x y r ∧ RcNeAt A s x y (!r) := by
  refine eqP_elim e ra rb EqV.rc fun m as bs l xs k l' ys k' hm ex ey g1 g2 r1 r2 e' => ?_
  cases hm
  subst ex ey
  obtain ⟨hs, ee, he, hr⟩ := items_eq (A := A) (n := 2) (by omega) r1 r2 e'
  have q := RcAt.tuples (A := A) (s := s) (l := l) (b := l') (items := xs.toArray) (items2 := ys.toArray) (e := ee) ⟨_, g1, rfl, k, rfl⟩ ⟨_, g2, rfl, k', rfl⟩ (by omega) he
  have q' := RcNeAt.tuples (A := A) (s := s) (l := l) (b := l') (items := xs.toArray) (items2 := ys.toArray) (e := ee) ⟨_, g1, rfl, k, rfl⟩ ⟨_, g2, rfl, k', rfl⟩ (by omega) he
  simp only [List.size_toArray, ← hs, Nat.min_self, hr, beq_self_eq_true, Bool.and_true] at q q'
  exact ⟨q, q'⟩
theorem eqV_rc {a b : V} {r : Bool} {x y : Value} (e : eqV a b σ = some r) (hu : A.units + 10 < cLine) (R : Rep B σ φ s.heap) (ra : VR B.Z φ s.heap a x) (rb : VR B.Z φ s.heap b y) : SeqAt.RcAt A s x y r ∧ SeqAt.RcNeAt A s x y (!r) := by
  cases a with
  | obj i => exact bindE e fun v h1 e => bindE e fun u h2 e => vLst (P := fun x => SeqAt.RcAt A s x y r ∧ SeqAt.RcNeAt A s x y (!r)) h1 R ra fun p xs n g1 r1 _ => vLst (P := fun y => SeqAt.RcAt A s _ y r ∧ SeqAt.RcNeAt A s _ y (!r)) h2 R rb fun q ys m g2 r2 _ => lists_rc hu g1 g2 r1 r2 e
  | _ => exact (by refine eqP_rc ?_ hu ra rb; exact e)
theorem res_bool {r : Bool} (R : Rep B σ φ s.heap) : ∀ b, b = r → Res B φ s σ (.bool r) (.bool b) s := fun b h => h ▸ res_here' R (vr_bool _)
/-- membership, both ways -/
structure InG (B : Base) (A : Around) (E : Value → Shared → Prop) (σ : AH) (φ : Phi) (s : Shared) (x y : Value) (r : Bool) : Prop where
  yes : wpAny (model B.prog B.w) A (compareOp .In x y) (Res B φ s σ (.bool r)) E s
  no : wpAny (model B.prog B.w) A (compareOp .NotIn x y) (Res B φ s σ (.bool (!r))) E s
theorem mem_ok {a : V} {r : Bool} {x : Value} {l : Addr} {vs : List V} {xs : List Value} {n : Nat} (e : memP a vs = some r) (R : Rep B σ φ s.heap) (ra : VR B.Z φ s.heap a x) (g : s.heap.get? l = some (lstO xs.toArray n)) (r2 : VRs B.Z φ s.heap vs xs) : InG B A E σ φ s x (.ref l) r := by
  cases a with
  | str z => exact bindE e fun l' hl e => vStr (P := fun x => InG B A E σ φ s x (.ref l) r) (a := .str z) rfl ra fun t => someE (P := InG B A E σ φ s _ _) e ⟨PyProof.Rows.in_list_strs ⟨_, g, rfl, n, rfl⟩ (strsOf_ok hl r2) (res_bool R _ (any_map_str _ _)), PyProof.Rows.notin_list_strs ⟨_, g, rfl, n, rfl⟩ (strsOf_ok hl r2) (res_bool R _ (by rw [any_map_str]))⟩
  | int z => exact bindE e fun l' hl e => vInt (P := fun x => InG B A E σ φ s x (.ref l) r) (a := .int z) rfl ra fun t => someE (P := InG B A E σ φ s _ _) e ⟨PyProof.Rows.in_list_ints ⟨_, g, rfl, n, rfl⟩ (intsOf_ok hl r2) (res_bool R _ rfl), PyProof.Rows.notin_list_ints ⟨_, g, rfl, n, rfl⟩ (intsOf_ok hl r2) (res_bool R _ rfl)⟩
  | _ => exact noneE e
theorem in_ok {a b : V} {r : Bool} {x y : Value} (e : inV a b σ = some r) (R : Rep B σ φ s.heap) (ra : VR B.Z φ s.heap a x) (rb : VR B.Z φ s.heap b y) : InG B A E σ φ s x y r := by
  cases b with
  | str w => exact bindE e fun z h1 e => vStr (P := fun x => InG B A E σ φ s x y r) h1 ra fun t => vStr (P := fun y => InG B A E σ φ s _ y r) (a := .str w) rfl rb fun u => someE (P := InG B A E σ φ s _ _) e ⟨SB.contains (res_bool R _ (hasSub_ok _ _)), SB.notContains (res_bool R _ (by rw [hasSub_ok]))⟩
  | obj j => exact bindE e fun l h1 e => vLst (P := fun y => InG B A E σ φ s x y r) h1 R rb fun q ys m g2 r2 _ => mem_ok e R ra g2 r2
  | _ => exact noneE e
theorem cmp_ok {op : CmpOp} {a b : V} {r : Bool} {x y : Value} (e : compareV op a b σ = some r) (hu : A.units + 10 < cLine) (R : Rep B σ φ s.heap) (ra : VR B.Z φ s.heap a x) (rb : VR B.Z φ s.heap b y) :
    wpAny (model B.prog B.w) A (compareOp op x y) (Res B φ s σ (.bool r)) E s := by
  cases op with
  | Eq => exact (eqV_rc e hu R ra rb).1 _ _ _ _ (res_bool R _ rfl)
  | NotEq => exact bindE e fun t h e => someE (P := fun r => wpAny _ _ (compareOp _ x y) (Res B φ s σ (.bool r)) E s) e ((eqV_rc h hu R ra rb).2 _ _ _ _ (res_bool R _ rfl))
  | Lt => cases a with
    | int i => exact bindE e fun _ h2 e => vInt (P := fun x => wpAny _ _ (compareOp _ x y) _ E s) (a := .int i) rfl ra fun t => vInt (P := fun y => wpAny _ _ (compareOp _ _ y) _ E s) h2 rb fun u => PyProof.Rows.lt_int (res_bool R _ (Option.some.inj e))
    | str i => exact bindE e fun _ h2 e => vStr (P := fun x => wpAny _ _ (compareOp _ x y) _ E s) (a := .str i) rfl ra fun t => vStr (P := fun y => wpAny _ _ (compareOp _ _ y) _ E s) h2 rb fun u => PyProof.Rows.lt_str (res_bool R _ ((lt_ltL _ _).trans (Option.some.inj e)))
    | _ => exact noneE e
  | LtE => exact int2_ok (P := fun x y => wpAny _ _ (compareOp _ x y) _ E s) e ra rb fun i j t u e => PyProof.Rows.le_int (res_bool R _ (Option.some.inj e))
  | Gt => exact int2_ok (P := fun x y => wpAny _ _ (compareOp _ x y) _ E s) e ra rb fun i j t u e => PyProof.Rows.gt_int (res_bool R _ (Option.some.inj e))
  | GtE => exact int2_ok (P := fun x y => wpAny _ _ (compareOp _ x y) _ E s) e ra rb fun i j t u e => PyProof.Rows.ge_int (res_bool R _ (Option.some.inj e))
  | Is => exact bindE e fun i h1 e => bindE e fun j h2 e => vBool (P := fun x => wpAny _ _ (compareOp _ x y) _ E s) h1 ra (vBool (P := fun y => wpAny _ _ (compareOp _ _ y) _ E s) h2 rb (PyProof.Rows.is_bool (res_bool R _ (Option.some.inj e))))
  | IsNot => exact bindE e fun i h1 e => bindE e fun j h2 e => vBool (P := fun x => wpAny _ _ (compareOp _ x y) _ E s) h1 ra (vBool (P := fun y => wpAny _ _ (compareOp _ _ y) _ E s) h2 rb (PyProof.Rows.isnot_bool (res_bool R _ (Option.some.inj e))))
  | In => exact (in_ok e R ra rb).yes
  | NotIn => exact bindE e fun t h e => someE (P := fun r => wpAny _ _ (compareOp _ x y) (Res B φ s σ (.bool r)) E s) e (in_ok h R ra rb).no
end
end Mine
end
section -- ND
set_option maxRecDepth 100000
set_option autoImplicit false
namespace Mine
open PySem

theorem range_pick {α : Type} (xs : List α) (a : Nat) : ∀ c : Nat, ((List.range c).filterMap fun k => xs[a + k]?) = (xs.drop a).take c
  | 0 => by simp
  | c + 1 => by
    rw [List.range_succ, List.filterMap_append, range_pick xs a c, List.take_add_one]
    simp [List.getElem?_drop]
    cases h : xs[a + c]? <;> simp [h]
theorem filterMap_same {α β : Type} {f g : α → Option β} : ∀ {l : List α}, (∀ x ∈ l, f x = g x) → l.filterMap f = l.filterMap g
  | [], _ => rfl
  | x :: l, h => by rw [List.filterMap_cons, List.filterMap_cons, h x (.head _), filterMap_same fun y hy => h y (.tail _ hy)]
theorem pick_fwd {α : Type} (xs : List α) (a b : Nat) : (sliceRange a b 1).filterMap (xs[·]?) = (xs.take b).drop a := by
  rw [List.drop_take, ← range_pick]
  unfold sliceRange
  rw [List.filterMap_map]
  have : (if (1 : Int) > 0 then (if (a : Int) < b then ((b : Int) - a + 1 - 1) / 1 else 0) else (if (a : Int) > b then ((a : Int) - b - 1 - 1) / (-1) else 0)).toNat = b - a := by
    split <;> first | (split <;> omega) | omega
  simp only [this]
  congr 1
  funext k
  show xs[((a : Int) + 1 * (k : Int)).toNat]? = xs[a + k]?
  congr 1
  omega
theorem pick_back {α : Type} (xs : List α) : (sliceRange ((xs.length : Int) - 1) (-1) (-1)).filterMap (xs[·]?) = xs.reverse := by
  unfold sliceRange
  rw [List.filterMap_map]
  have : (if (-1 : Int) > 0 then (if ((xs.length : Int) - 1) < -1 then ((-1 : Int) - ((xs.length : Int) - 1) + (-1) - 1) / (-1) else 0) else (if ((xs.length : Int) - 1) > -1 then (((xs.length : Int) - 1) - (-1) - (-1) - 1) / (-(-1)) else 0)).toNat = xs.length := by
    rw [show (-(-1) : Int) = 1 from rfl, Int.ediv_one]
    split
    · omega
    · split <;> omega
  simp only [this]
  have e : xs.reverse = (List.range xs.length).filterMap (fun k => xs.reverse[0 + k]?) := by rw [range_pick, List.drop_zero, List.take_of_length_le (by simp)]
  rw [e]
  apply filterMap_same
  intro k hk
  have hk : k < xs.length := by simpa using hk
  show xs[((xs.length : Int) - 1 + -1 * (k : Int)).toNat]? = _
  rw [Nat.zero_add, List.getElem?_reverse hk]
  congr 1
  omega


theorem clip_le {v : V} {n dflt a : Nat} (hd : dflt ≤ n) (e : clip v n dflt = some a) : a ≤ n := by
  cases v with
  | none => exact someE (P := (· ≤ n)) e hd
  | int k => exact someE (P := (· ≤ n)) e (by split <;> omega)
  | _ => exact noneE e
/-- what a slice's end says -/
structure ClipIs (x : Value) (n dflt a : Nat) (k : Option Int) : Prop where
  part : IsPart x k
  val : (match k with | none => (dflt : Int) | some i => max 0 (min (if i < 0 then i + n else i) n)) = (a : Int)
theorem clip_is {N : Zone} {φ : Phi} {h : Heap} {v : V} {x : Value} {n dflt a : Nat} (e : clip v n dflt = some a) (r : VR N φ h v x) : ∃ k, ClipIs x n dflt a k := by
  cases v with
  | none => unfold VR at r; subst r; exact ⟨none, .none, congrArg Int.ofNat (Option.some.inj e)⟩
  | int k => unfold VR at r; obtain ⟨t, rfl⟩ := r; exact ⟨some k, .int _ _, by have e := Option.some.inj e; show max 0 (min (if k < 0 then k + n else k) n) = (a : Int); rw [← e]; split <;> split <;> omega⟩
  | _ => exact noneE e

section
variable {B : Base} {d : Nat} {A : Around} {E : Value → Shared → Prop} {σ σ' : AH} {φ : Phi} {s : Shared}

theorem sub_tail {T id : String} {o i : Value} {Q : Value → Shared → Prop} (base slice : Expr) (ne : o ≠ .builtin "sys.modules#opaque") (hT : s.TypeIs o T) (hs : Slot T "__getitem__" id)
    (h : wpAny (model B.prog B.w) A (getItem o i) Q E s) :
    wpAny (model B.prog B.w) A (do let r ← subscripted slice (← getitemInPython o) o i; letTemporaryGo base o r; pure r) Q E s := by
  rw [getitemInPython_of_ne ne]
  refine wpAny_bind (wpAny_bind (wpAny_specialOf hT hs.lookup (wpAny_pure ?_)))
  have fin : ∀ t : Sem Value, wpAny (model B.prog B.w) A t Q E s → wpAny (model B.prog B.w) A (do let r ← t; letTemporaryGo base o r; pure r) Q E s := fun t ht =>
    wpAny_bind (wpAny_mono ht (fun r s' hr => wpAny_bind (wpAny_letTemporaryGo (wpAny_pure hr))) fun _ _ x => x)
  refine fin _ ?_
  unfold subscripted
  split
  · exact fun Γ p hΓ => by rw [Sem.wp_operate]; exact h Γ p hΓ
  · rename_i q; cases q
  · exact fun Γ p hΓ => by rw [Sem.wp_operate]; exact h Γ p hΓ

theorem place_eq (k : Int) (n : Nat) : place k n = seqIndex? k n := by
  unfold place seqIndex?
  by_cases h : 0 ≤ k
  · simp only [h, if_true, show ¬ k < 0 by omega, if_false]
    by_cases h2 : k < n <;> simp [h, h2]
  · simp only [h, if_false, show k < 0 by omega, if_true]
    by_cases h2 : 0 ≤ k + n
    · simp [h2, show k + (n : Int) < n by omega]
    · simp [h2]
theorem place_lt {k : Int} {n j : Nat} (e : place k n = some j) : j < n := by
  unfold place at e
  by_cases h : 0 ≤ k
  · rw [if_pos h] at e; exact ifE e fun h2 e => by have := Option.some.inj e; omega
  · rw [if_neg h] at e; exact ifE e fun h2 e => by have := Option.some.inj e; omega


theorem place_cases {k : Int} {n j : Nat} {G : Prop} (e : place k n = some j) (k1 : 0 ≤ k → k < n → j = k.toNat → G) (k2 : k < 0 → 0 ≤ k + n → j = (k + n).toNat → G) : G := by
  unfold place at e
  by_cases h : 0 ≤ k
  · rw [if_pos h] at e; exact ifE e fun h2 e => k1 h h2 (Option.some.inj e).symm
  · rw [if_neg h] at e; exact ifE e fun h2 e => k2 (by omega) h2 (Option.some.inj e).symm
theorem item_list {l : Addr} {items : List Value} {n j : Nat} {k : Int} {t : Tok} {x : Value} {Q : Value → Shared → Prop} (hl : s.heap.get? l = some (lstO items.toArray n)) (hz : items.length ≤ LIM) (e : place k items.length = some j) (hx : items[j]? = some x) (h : Q x s) :
    wpAny (model B.prog B.w) A (getItem (.ref l) (.int k t)) Q E s := by
  simp only [LIM] at hz
  exact place_cases e (fun h0 h1 hj => wpAny_getItem_list ⟨_, hl, rfl, n, rfl⟩ h0 (by omega) (by rw [hj] at hx; simpa using hx) h)
    fun h0 h1 hj => wpAny_getItem_list_neg ⟨_, hl, rfl, n, rfl⟩ h0 (by simp; omega) (by omega) (by rw [hj] at hx; simpa using hx) h
theorem place_lim {k : Int} {n j : Nat} (e : place k n = some j) (hn : n ≤ LIM) : -1000000 ≤ k ∧ k ≤ 1000000 := by
  simp only [LIM] at hn
  exact place_cases e (fun _ _ _ => by omega) fun _ _ _ => by omega

theorem idx_ok (base slice : Expr) {o i v : V} {x y : Value} (e : idxV o i σ = some v) (R : Rep B σ φ s.heap) (ra : VR B.Z φ s.heap o x) (rb : VR B.Z φ s.heap i y) :
    wpAny (model B.prog B.w) A (do let r ← subscripted slice (← getitemInPython x) x y; letTemporaryGo base x r; pure r) (Res B φ s σ v) E s := by
  have seq : (seqAt o σ).bind (fun vs => (asInt i).bind fun k => (place k vs.length).bind fun n => vs[n]?) = some v → wpAny (model B.prog B.w) A (do let r ← subscripted slice (← getitemInPython x) x y; letTemporaryGo base x r; pure r) (Res B φ s σ v) E s := fun e =>
    bindE e fun vs h1 e => bindE e fun k h2 e => bindE e fun j hj hv => vSeq (P := fun x => wpAny _ _ (do let r ← subscripted slice (← getitemInPython x) x y; letTemporaryGo base x r; pure r) _ E s) h1 R ra fun p xs n g r1 hz =>
      vInt (P := fun y => wpAny _ _ (do let r ← subscripted slice (← getitemInPython _) _ y; letTemporaryGo base _ r; pure r) _ E s) h2 rb fun t => by
        obtain ⟨x, hx, rx⟩ := VRs_get r1 hv
        rw [VRs_length r1] at hj hz
        exact sub_tail base slice (by intro q; cases q) ⟨_, g, rfl⟩ slot_list_getitem (item_list g hz hj hx (res_here' R rx))
  cases o with
  | str w => exact bindE e fun k h2 e => ifE e fun hz e => bindE e fun j hj e => bindE e fun c hc e => vStr (P := fun x => wpAny _ _ (do let r ← subscripted slice (← getitemInPython x) x y; letTemporaryGo base x r; pure r) _ E s) (a := .str w) rfl ra fun t => vInt (P := fun y => wpAny _ _ (do let r ← subscripted slice (← getitemInPython _) _ y; letTemporaryGo base _ r; pure r) _ E s) h2 rb fun u => (by
        have hr := place_lim hj hz
        have ch : Txt.charAt ⟨w.toArray⟩ k = some c := by
          unfold Txt.charAt
          rw [show (⟨w.toArray⟩ : Str).length = w.length from by simp [Str.length], ← place_eq, hj]
          simpa using hc
        refine leafV e (sub_tail base slice (by intro q; cases q) (typeIs_str s _ t) PyProof.Rows.slot_str_getitem (SB.getItem ?_ (by rw [ch]; rfl) ?_))
        · simp [fitsSsize]; omega
        · refine res_here R (vr_str' _ _ ?_ _) _
          unfold Txt.item; rw [ch]; rfl)
  | tup vs => exact bindE e fun k h2 e => ifE e fun hz e => bindE e fun j hj hv => vTup (P := fun x => wpAny _ _ (do let r ← subscripted slice (← getitemInPython x) x y; letTemporaryGo base x r; pure r) _ E s) (a := .tup vs) rfl ra fun l xs n _ g r1 => vInt (P := fun y => wpAny _ _ (do let r ← subscripted slice (← getitemInPython _) _ y; letTemporaryGo base _ r; pure r) _ E s) h2 rb fun t => (by
        have hr := place_lim hj hz
        obtain ⟨x, hx, rx⟩ := VRs_get r1 hv
        rw [VRs_length r1] at hj
        exact sub_tail base slice (by intro q; cases q) ⟨_, g, rfl⟩ PyProof.Rows.slot_tuple_getitem (PyProof.Rows.getItem_tuple (items := xs.toArray) (j := j) ⟨_, g, rfl, n, rfl⟩ (by omega) (by omega) (by rw [← place_eq]; simpa using hj) (by simpa using hx) (res_here' R rx)))
  | _ => exact seq e

/-- a slice's bounds pick what we say, of any sequence -/
structure CutIs (l u st : V) (vl vu vs : Value) (n : Nat) (same : Prop) (lo hi s3 : Option Int) : Prop where
  p1 : IsPart vl lo
  p2 : IsPart vu hi
  p3 : IsPart vs s3
  ne : s3 ≠ some 0
  pick : ∀ {β : Type} (ys : List β), ys.length = n → cut ys l u st = some ((sliceRange (sliceBounds lo hi s3 n).1 (sliceBounds lo hi s3 n).2.1 (sliceBounds lo hi s3 n).2.2).filterMap (ys[·]?))
  all : s3.getD 1 = 1 → (sliceRange (sliceBounds lo hi s3 n).1 (sliceBounds lo hi s3 n).2.1 (sliceBounds lo hi s3 n).2.2).length = n → same
theorem range_len (a b : Nat) : (sliceRange (a : Int) b 1).length = b - a := by
  unfold sliceRange
  rw [List.length_map, List.length_range]
  split <;> first | (split <;> omega) | omega
theorem cut_all {α : Type} (xs : List α) (a b : Nat) (hb : b ≤ xs.length) (h : b - a = xs.length) : (xs.take b).drop a = xs := by
  rcases Nat.eq_zero_or_pos xs.length with z | z
  · have : xs = [] := List.eq_nil_of_length_eq_zero z
    subst this; simp
  · have h0 : a = 0 := by omega
    have h3 : b = xs.length := by omega
    subst h0 h3
    simp
theorem cut_pick {N : Zone} {φ : Phi} {h : Heap} {l u st : V} {vl vu vs : Value} (rl : VR N φ h l vl) (ru : VR N φ h u vu) (rs : VR N φ h st vs) {n : Nat} {α : Type} {xs r : List α} (hn : xs.length = n) (e : cut xs l u st = some r) : ∃ lo hi s3, CutIs l u st vl vu vs n (r = xs) lo hi s3 := by
  subst hn
  cases st with
  | none =>
    refine bindE e fun a h1 e => bindE e fun b h2 e => ?_
    obtain ⟨lo, p1, q1⟩ := clip_is h1 rl
    obtain ⟨hi, p2, q2⟩ := clip_is h2 ru
    unfold VR at rs; subst rs
    have b1 : (sliceBounds lo hi none xs.length).1 = (a : Int) := by rw [← q1]; cases lo <;> simp [sliceBounds]
    have b2 : (sliceBounds lo hi none xs.length).2.1 = (b : Int) := by rw [← q2]; cases hi <;> simp [sliceBounds]
    have b3 : (sliceBounds lo hi none xs.length).2.2 = 1 := rfl
    refine ⟨lo, hi, none, p1, p2, .none, (by intro q; cases q), fun ys hy => ?_, fun _ hlen => ?_⟩
    · rw [b1, b2, b3, pick_fwd]
      show (clip l ys.length 0).bind (fun a => (clip u ys.length ys.length).bind fun b => some ((ys.take b).drop a)) = _
      rw [hy, h1, h2]; rfl
    · rw [b1, b2, b3, range_len] at hlen
      exact someE (P := (· = xs)) e (cut_all xs a b (clip_le (Nat.le_refl _) h2) hlen)
  | int k =>
    refine bindE e fun _ h1 e => bindE e fun _ h2 e => ?_
    refine vNone (P := fun vl => ∃ lo hi s3, CutIs l u (.int k) vl vu vs xs.length (r = xs) lo hi s3) h1 rl (vNone (P := fun vu => ∃ lo hi s3, CutIs l u (.int k) _ vu vs xs.length (r = xs) lo hi s3) h2 ru ?_)
    unfold VR at rs; obtain ⟨t, rfl⟩ := rs
    have un : ∀ {β : Type} (ys : List β), cut ys l u (.int k) = if k = 1 then some ys else if k = -1 then some ys.reverse else none := fun ys => by
      show (asNone l).bind (fun _ => (asNone u).bind fun _ => _) = _
      rw [h1, h2]; rfl
    by_cases hk : k = 1
    · subst hk
      refine ⟨none, none, some 1, .none, .none, .int _ _, (by intro q; cases q), fun ys hy => ?_, fun _ _ => (Option.some.inj e).symm⟩
      rw [un, if_pos rfl]
      simp only [sliceBounds, Option.getD_some, show ((1 : Int) > 0) = True by simp, if_true]
      have := pick_fwd ys 0 xs.length
      simp only [Int.ofNat_zero, Int.natCast_zero] at this
      rw [this, List.take_of_length_le (by omega), List.drop_zero]
    · rw [if_neg hk] at e
      refine ifE e fun hk2 e => ?_
      subst hk2
      refine ⟨none, none, some (-1), .none, .none, .int _ _, (by intro q; cases q), fun ys hy => ?_, fun q => by cases q⟩
      rw [un, if_neg hk, if_pos rfl]
      simp only [sliceBounds, Option.getD_some, show ((-1 : Int) > 0) = False by simp, if_false]
      have := pick_back ys
      rw [hy] at this
      rw [this]
  | _ => exact noneE e

theorem cut_vrs {N : Zone} {φ : Phi} {h : Heap} {l u st : V} {vs r : List V} {xs : List Value} (e : cut vs l u st = some r) (q : VRs N φ h vs xs) : ∃ ys, cut xs l u st = some ys ∧ VRs N φ h r ys := by
  have hl := VRs_length q
  cases st with
  | none =>
    refine bindE e fun a h1 e => bindE e fun b h2 e => ⟨(xs.take b).drop a, ?_, someE (P := fun r => VRs N φ h r _) e (VRs_drop _ (VRs_take _ q))⟩
    rw [hl] at h1 h2
    show (clip l xs.length 0).bind (fun a => (clip u xs.length xs.length).bind fun b => some ((xs.take b).drop a)) = _
    rw [h1, h2]; rfl
  | int k =>
    refine bindE e fun _ h1 e => bindE e fun _ h2 e => ?_
    have un : cut xs l u (.int k) = if k = 1 then some xs else if k = -1 then some xs.reverse else none := by
      show (asNone l).bind (fun _ => (asNone u).bind fun _ => _) = _
      rw [h1, h2]; rfl
    rw [un]
    by_cases hk : k = 1
    · rw [if_pos hk] at e ⊢; exact ⟨_, rfl, someE (P := fun r => VRs N φ h r _) e q⟩
    · rw [if_neg hk] at e ⊢
      exact ifE e fun hk2 e => ⟨_, if_pos hk2, someE (P := fun r => VRs N φ h r _) e (VRs_reverse q)⟩
  | _ => exact noneE e
theorem cut_len {α : Type} {xs r : List α} {l u st : V} (e : cut xs l u st = some r) : r.length ≤ xs.length := by
  cases st with
  | none => exact bindE e fun a h1 e => bindE e fun b h2 e => someE (P := fun r : List α => r.length ≤ xs.length) e (by simp; omega)
  | int k =>
    refine bindE e fun _ h1 e => bindE e fun _ h2 e => ?_
    by_cases hk : k = 1
    · rw [if_pos hk] at e; exact someE (P := fun r : List α => r.length ≤ xs.length) e (Nat.le_refl _)
    · rw [if_neg hk] at e; exact ifE e fun _ e => someE (P := fun r : List α => r.length ≤ xs.length) e (by simp)
  | _ => exact noneE e
theorem sliceIdx_bounds (lo hi s3 : Option Int) (n : Nat) : Builtin.Str.strSliceIndices lo hi (s3.getD 1) n = sliceRange (sliceBounds lo hi s3 n).1 (sliceBounds lo hi s3 n).2.1 (sliceBounds lo hi s3 n).2.2 := by
  rfl

theorem part_of {v : Value} {k : Option Int} (p : IsPart v k) : ∃ l : Option (Int × Tok), v = partValue l ∧ k = l.map (·.1) := by
  cases p with
  | none => exact ⟨none, rfl, rfl⟩
  | int i t => exact ⟨some (i, t), rfl, rfl⟩

theorem slc_ok (Y : Sys B) (base slice : Expr) {o l u st : V} {r : V × AH} {x vl vu vs : Value} {sl : Addr} (e : slcV o l u st σ = some r) (R : Rep B σ φ s.heap) (ra : VR B.Z φ s.heap o x)
    (rl : VR B.Z φ s.heap l vl) (ru : VR B.Z φ s.heap u vu) (rs : VR B.Z φ s.heap st vs) (hs : s.heap.IsSliceOf sl vl vu vs) :
    wpAny (model B.prog B.w) A (do let r ← subscripted slice (← getitemInPython x) x (.ref sl); letTemporaryGo base x r; pure r) (Res B φ s r.2 r.1) E s := by
  have seq : (seqAt o σ).bind (fun vs => (cut vs l u st).bind fun r => newL r σ) = some r → wpAny (model B.prog B.w) A (do let r ← subscripted slice (← getitemInPython x) x (.ref sl); letTemporaryGo base x r; pure r) (Res B φ s r.2 r.1) E s := fun e =>
    bindE e fun us h1 e => bindE e fun c hc e => vSeq (P := fun x => wpAny _ _ (do let r ← subscripted slice (← getitemInPython x) x (.ref sl); letTemporaryGo base x r; pure r) _ E s) h1 R ra fun p xs n g r1 hz => by
      obtain ⟨ys, hy, ry⟩ := cut_vrs hc r1
      obtain ⟨lo, hi', s3, q⟩ := cut_pick rl ru rs (VRs_length r1) hc
      refine newL_ok Y R e ry fun hl z => sub_tail base slice (by intro q; cases q) ⟨_, g, rfl⟩ slot_list_getitem (wpAny_getItem_list_slice (items := xs.toArray) ⟨_, g, rfl, n, rfl⟩ hs q.p1 q.p2 q.p3 q.ne ?_ ?_)
      · have := q.pick xs rfl
        rw [hy] at this
        have z' : slicePick xs.toArray lo hi' s3 = ys.toArray := by
          unfold slicePick
          rw [Option.some.inj this]
          simp
        rw [z']
        exact z s.toks
      · rw [VRs_length r1] at hz; simpa using lim_line hz
  cases o with
  | str w => exact ifE e fun hz e => bindE e fun c hr e => vStr (P := fun x => wpAny _ _ (do let r ← subscripted slice (← getitemInPython x) x (.ref sl); letTemporaryGo base x r; pure r) _ E s) (a := .str w) rfl ra fun tk => (by
      obtain ⟨lo, hi', s3, q⟩ := cut_pick rl ru rs rfl hr
      obtain ⟨l1, rfl, rfl⟩ := part_of q.p1
      obtain ⟨l2, rfl, rfl⟩ := part_of q.p2
      obtain ⟨l3, rfl, rfl⟩ := part_of q.p3
      have hlen : (⟨w.toArray⟩ : Str).length = w.length := by simp [Str.length]
      have hp : slicePicked ⟨w.toArray⟩ l1 l2 l3 = sliceRange (sliceBounds (l1.map (·.1)) (l2.map (·.1)) (l3.map (·.1)) w.length).1 (sliceBounds (l1.map (·.1)) (l2.map (·.1)) (l3.map (·.1)) w.length).2.1 (sliceBounds (l1.map (·.1)) (l2.map (·.1)) (l3.map (·.1)) w.length).2.2 := by
        unfold slicePicked; rw [hlen, sliceIdx_bounds]
      refine leafE e (sub_tail base slice (by intro q; cases q) (typeIs_str s _ tk) PyProof.Rows.slot_str_getitem (wpAny_getItem_str_slice hs ?_ ?_))
      · have := q.ne
        cases l3 with
        | none => rfl
        | some p => simp at this ⊢; exact this
      · unfold sliceMade
        by_cases hc : (Option.map (·.1) l3).getD 1 == 1 && (slicePicked ⟨w.toArray⟩ l1 l2 l3).length == (⟨w.toArray⟩ : Str).length
        · rw [if_pos hc]
          simp only [Bool.and_eq_true, beq_iff_eq] at hc
          have := q.all hc.1 (by rw [← hp]; rw [hlen] at hc; exact hc.2)
          subst this
          exact res_here' R (vr_str ..)
        · rw [if_neg hc]
          have q := q.pick w rfl
          rw [hr, ← hp] at q
          have q := Option.some.inj q
          refine ⟨?_, res_here R (vr_str' _ _ ?_ _) _⟩
          · have := cut_len hr
            show (Array.size _) ≤ _
            simp only [List.size_toArray]
            refine Nat.le_trans ?_ (lim_line (Nat.le_trans this hz))
            rw [q]; simp
          · rw [q]; simp)
  | _ => exact seq e
end
end Mine
end
section -- NE
set_option maxRecDepth 100000
set_option autoImplicit false
namespace Mine
open PySem
section
variable {B : Base} {d : Nat} {A : Around} {E : Value → Shared → Prop} {σ σ' : AH} {φ : Phi} {s : Shared}

theorem resB_here {b : Bool} (R : Rep B σ φ s.heap) (tk : Nat) : ResB B φ s σ b b { s with toks := tk } := ⟨φ, St.of_kp (.refl ..) rfl rfl, R, rfl⟩
theorem resB_of {b b' : Bool} (h : b' = b) (R : Rep B σ φ s.heap) (tk : Nat) : ResB B φ s σ b b' { s with toks := tk } := ⟨φ, St.of_kp (.refl ..) rfl rfl, R, h⟩
theorem truth_ok {v : V} {b : Bool} {x : Value} (e : truth v σ = some b) (R : Rep B σ φ s.heap) (r : VR B.Z φ s.heap v x) : wpAny (model B.prog B.w) A (truthy x) (ResB B φ s σ b) E s := by
  cases v with
  | bool i => exact vBool (P := fun x => wpAny _ _ (truthy x) _ E s) (a := .bool i) rfl r (wpAny_truthy_bool (resB_of (Option.some.inj e) R _))
  | int i => exact vInt (P := fun x => wpAny _ _ (truthy x) _ E s) (a := .int i) rfl r fun t => PyProof.Rows.truthy_int (resB_of (Eq.trans (by rw [Bool.eq_iff_iff]; simp) (Option.some.inj e)) R _)
  | str z => exact ifE e fun hz e => vStr (P := fun x => wpAny _ _ (truthy x) _ E s) (a := .str z) rfl r fun t => PySem.P.truthy_str (by simp [Str.length, LIM] at hz ⊢; omega) (resB_of (Eq.trans (by rw [Bool.eq_iff_iff]; cases z <;> simp [Str.length]; omega) (Option.some.inj e)) R _)
  | none => exact vNone (P := fun x => wpAny _ _ (truthy x) _ E s) (a := .none) rfl r (PyProof.Rows.truthy_none (resB_of (Option.some.inj e) R _))
  | obj i => exact bindE e fun vs h1 e => vLst (P := fun x => wpAny _ _ (truthy x) _ E s) h1 R r fun p xs n g r1 hz => wpAny_truthy_list (items := xs.toArray) ⟨_, g, rfl, n, rfl⟩ (by rw [VRs_length r1] at hz; simp only [LIM] at hz; simp; omega) (resB_of (Eq.trans (by have := VRs_length r1; cases vs <;> cases xs <;> simp_all) (Option.some.inj e)) R _)
  | _ => exact noneE e
theorem not_ok {v : V} {b : Bool} {x : Value} (e : truth v σ = some b) (R : Rep B σ φ s.heap) (r : VR B.Z φ s.heap v x) : wpAny (model B.prog B.w) A (unaryOp .Not x) (Res B φ s σ (.bool !b)) E s := by
  exact PyProof.Rows.not_of (wpAny_mono (truth_ok e R r) (fun b' s' ⟨φ', h1, h2, h3⟩ => ⟨φ', h1, h2, h3 ▸ vr_bool _⟩) fun _ _ h => h)

/-! ## what is handed on -/
theorem Res.bind {v : V} {t : Sem Value} {Q : Value → Shared → Prop} (h : wpAny (model B.prog B.w) A t (Res B φ s σ' v) E s)
    (k : ∀ φ' s' x, St B φ s φ' s' → Rep B σ' φ' s'.heap → VR B.Z φ' s'.heap v x → Q x s') : wpAny (model B.prog B.w) A t Q E s :=
  wpAny_mono h (fun x s' ⟨φ', h1, h2, h3⟩ => k φ' s' x h1 h2 h3) fun _ _ q => q
theorem ResB.bind {b : Bool} {t : Sem Bool} {Q : Bool → Shared → Prop} (h : wpAny (model B.prog B.w) A t (ResB B φ s σ' b) E s)
    (k : ∀ φ' s', St B φ s φ' s' → Rep B σ' φ' s'.heap → Q b s') : wpAny (model B.prog B.w) A t Q E s :=
  wpAny_mono h (fun x s' ⟨φ', h1, h2, h3⟩ => by subst h3; exact k φ' s' h1 h2) fun _ _ q => q
theorem ResL.bind {vs : List V} {t : Sem (List Value)} {Q : List Value → Shared → Prop} (h : wpAny (model B.prog B.w) A t (ResL B φ s σ' vs) E s)
    (k : ∀ φ' s' x, St B φ s φ' s' → Rep B σ' φ' s'.heap → VRs B.Z φ' s'.heap vs x → Q x s') : wpAny (model B.prog B.w) A t Q E s :=
  wpAny_mono h (fun x s' ⟨φ', h1, h2, h3⟩ => k φ' s' x h1 h2 h3) fun _ _ q => q
theorem Res.after {φ' : Phi} {s' s'' : Shared} {v : V} {x : Value} (st : St B φ s φ' s') (r : Res B φ' s' σ' v x s'') : Res B φ s σ' v x s'' := r.elim fun φ'' h => ⟨φ'', st.trans h.1, h.2⟩
theorem ResB.after {φ' : Phi} {s' s'' : Shared} {b c : Bool} (st : St B φ s φ' s') (r : ResB B φ' s' σ' b c s'') : ResB B φ s σ' b c s'' := r.elim fun φ'' h => ⟨φ'', st.trans h.1, h.2⟩
theorem ResL.after {φ' : Phi} {s' s'' : Shared} {v : List V} {x : List Value} (st : St B φ s φ' s') (r : ResL B φ' s' σ' v x s'') : ResL B φ s σ' v x s'' := r.elim fun φ'' h => ⟨φ'', st.trans h.1, h.2⟩
theorem wp_after {t : Sem Value} {φ' : Phi} {s' : Shared} {v : V} (st : St B φ s φ' s') (h : wpAny (model B.prog B.w) A t (Res B φ' s' σ' v) E s') : wpAny (model B.prog B.w) A t (Res B φ s σ' v) E s' :=
  wpAny_mono h (fun _ _ q => q.after st) fun _ _ q => q
theorem wp_afterB {t : Sem Bool} {φ' : Phi} {s' : Shared} {b : Bool} (st : St B φ s φ' s') (h : wpAny (model B.prog B.w) A t (ResB B φ' s' σ' b) E s') : wpAny (model B.prog B.w) A t (ResB B φ s σ' b) E s' :=
  wpAny_mono h (fun _ _ q => q.after st) fun _ _ q => q
theorem wp_afterL {t : Sem (List Value)} {φ' : Phi} {s' : Shared} {v : List V} (st : St B φ s φ' s') (h : wpAny (model B.prog B.w) A t (ResL B φ' s' σ' v) E s') : wpAny (model B.prog B.w) A t (ResL B φ s σ' v) E s' :=
  wpAny_mono h (fun _ _ q => q.after st) fun _ _ q => q

/-- where a run stands -/
structure At (B : Base) (d : Nat) (sc : Scope) (ren : Ren) (nx : Nat) (A : Around) (env : Env) (loc : Loc) (σ : AH) (φ : Phi) (s : Shared) : Prop where
  rm : Room A d
  V : EnvOK B sc ren nx env loc φ s.heap
  R : Rep B σ φ s.heap
theorem At.step {sc : Scope} {ren : Ren} {nx : Nat} {env : Env} {loc : Loc} {σ' : AH} {φ' : Phi} {s' : Shared} (K : At B d sc ren nx A env loc σ φ s) (st : St B φ s φ' s') (R' : Rep B σ' φ' s'.heap) : At B d sc ren nx A env loc σ' φ' s' := ⟨K.rm, K.V.step st K.R, R'⟩
/-- an expression and its translation -/
structure Snd (B : Base) (C : Oracle) (d : Nat) (sc : Scope) (ren : Ren) (nx : Nat) (e : Expr) (e' : Mine.E) : Prop where
  star : ∀ x p, e ≠ .Starred x p
  set : ∀ a k p, e ≠ .Set a k p
  val : ∀ {loc : Loc} {σ : AH} {r : V × AH} {A : Around} {Ex : Value → Shared → Prop} {φ : Phi} {s : Shared} {env : Env}, ev C e' loc σ = some r → At B d sc ren nx A env loc σ φ s → wpAny (model B.prog B.w) A (eval e env) (Res B φ s r.2 r.1) Ex s
  tst : ∀ {loc : Loc} {σ : AH} {r : V × AH} {A : Around} {Ex : Value → Shared → Prop} {φ : Phi} {s : Shared} {env : Env} {b : Bool}, ev C e' loc σ = some r → truth r.1 r.2 = some b → At B d sc ren nx A env loc σ φ s → wpAny (model B.prog B.w) A (isTrue e env (eval e env)) (ResB B φ s r.2 b) Ex s

/-- where isTrue has no form of its own -/
theorem true_plain {e : Expr} {env : Env} {v : V} {b : Bool} (hp : isTrue e env (eval e env) = (do let v ← eval e env; standAt e.pos; holding [v] (truthy v))) (h : wpAny (model B.prog B.w) A (eval e env) (Res B φ s σ' v) E s) (hb : truth v σ' = some b) :
    wpAny (model B.prog B.w) A (isTrue e env (eval e env)) (ResB B φ s σ' b) E s := by
  rw [hp]
  exact wpAny_bind (Res.bind h fun φ' s' x st R r => wpAny_bind (wpAny_standAt (wpAny_holding (wp_afterB st (truth_ok hb R r)))))

theorem load_ok {sc : Scope} {ren : Ren} {nx : Nat} {env : Env} {loc : Loc} {x : Str} {i : Nat} {v : V} (K : At B d sc ren nx A env loc σ φ s) (hx : ren.lookup x = some i) (hl : loc[i]? = some (some v)) (hc : (x == ("__classdict__" : Str)) = false) :
    wpAny (model B.prog B.w) A (loadName env x) (Res B φ s σ v) E s := by
  obtain ⟨rv, q, r⟩ := K.V.vals x i v hx hl
  rcases q with ⟨hk, m, hn, hm⟩ | ⟨hk | hk, c, hcell, hv⟩
  · exact wpAny_loadName_local K.V.fk hk hn hm (res_here' K.R r)
  · exact wpAny_loadName_cell K.V.fk hk hcell hv (res_here' K.R r)
  · exact wpAny_loadName_free K.V.fk hk hcell hv (res_here' K.R r) hc
theorem EnvOK.kindE {sc : Scope} {ren : Ren} {nx : Nat} {env : Env} {loc : Loc} {h : Heap} (V : EnvOK B sc ren nx env loc φ h) {x : Str} {k : NameKind} (hk : sc.names.lookup x = some k) (hn : k ≠ .free) : env.kindOf x = some k :=
  (V.kind x k hk).elim id fun h => absurd h.1 hn
theorem global_load {env : Env} {x : Str} (hk : env.kindOf x = some .globalImplicit) (fk : env.scope.kind = .function) : loadName env x = loadGlobal env x := by
  unfold loadName
  simp only [Env.blockKind, fk, hk, ScopeKind.isAnnotationScope, Bool.false_and, Bool.false_eq_true, if_false]
theorem global_ok {sc : Scope} {ren : Ren} {nx : Nat} {env : Env} {loc : Loc} {x : Str} {rv : Value} {Q : Value → Shared → Prop} (K : At B d sc ren nx A env loc σ φ s) (hk : sc.names.lookup x = some .globalImplicit)
    (hg : B.mg x = some rv ∨ (B.mg x = none ∧ B.mb x = some rv)) (h : Q rv s) : wpAny (model B.prog B.w) A (loadName env x) Q E s := by
  rw [global_load (K.V.kindE hk (by decide)) K.V.fk]
  unfold loadGlobal
  rw [K.V.glob, K.V.blt]
  refine wpAny_bind (wpAny_nsGet K.R.stat.g ?_)
  rcases hg with hg | ⟨hg, hb⟩
  · rw [hg]; exact wpAny_pure h
  · rw [hg]
    refine wpAny_bind (wpAny_nsGet K.R.stat.b ?_)
    rw [hb]; exact wpAny_pure h
end
end Mine
end
section -- NF
set_option maxRecDepth 100000
set_option autoImplicit false
namespace Mine
open PySem

theorem starEach_cons {e : Expr} {rest : List Expr} {env : Env} (h : ∀ x p, e ≠ .Starred x p) : starEach (e :: rest) env = (false, eval e env) :: starEach rest env := by
  cases e <;> first | rfl | exact absurd rfl (h _ _)
theorem marks_no {e : Expr} (op : CmpOp) (h : ∀ a k p, e ≠ .Set a k p) : behindInMarks op e = false := by
  cases e <;> first | rfl | exact absurd rfl (h _ _ _)
theorem folded_no {e : Expr} (env : Env) (x : Value) (h : ∀ a k p, e ≠ .Set a k p) : foldedSetIterable e env x = pure x := by
  cases e <;> first | rfl | exact absurd rfl (h _ _ _)

section
variable {B : Base} {C : Oracle} {d : Nat} {A : Around} {Ex : Value → Shared → Prop} {σ σ' : AH} {φ : Phi} {s : Shared} {sc : Scope} {ren : Ren} {nx : Nat} {env : Env} {loc : Loc}

inductive Snd2 (B : Base) (C : Oracle) (d : Nat) (sc : Scope) (ren : Ren) (nx : Nat) : List Expr → List Mine.E → Prop
  | nil : Snd2 B C d sc ren nx [] []
  | cons {e : Expr} {e' : Mine.E} {es : List Expr} {es' : List Mine.E} : Snd B C d sc ren nx e e' → Snd2 B C d sc ren nx es es' → Snd2 B C d sc ren nx (e :: es) (e' :: es')

/-- e with its value, then what comes behind it -/
theorem Snd.run {e : Expr} {e' : Mine.E} (q : Snd B C d sc ren nx e e') {r : V × AH} (h : ev C e' loc σ = some r) (K : At B d sc ren nx A env loc σ φ s) {Q : Value → Shared → Prop}
    (k : ∀ φ' s' x, St B φ s φ' s' → At B d sc ren nx A env loc r.2 φ' s' → VR B.Z φ' s'.heap r.1 x → Q x s') : wpAny (model B.prog B.w) A (eval e env) Q Ex s :=
  Res.bind (q.val h K) fun φ' s' x st R' r => k φ' s' x st (K.step st R') r
theorem Snd.test {e : Expr} {e' : Mine.E} (q : Snd B C d sc ren nx e e') {r : V × AH} {b : Bool} (h : ev C e' loc σ = some r) (hb : truth r.1 r.2 = some b) (K : At B d sc ren nx A env loc σ φ s) {Q : Bool → Shared → Prop}
    (k : ∀ φ' s', St B φ s φ' s' → At B d sc ren nx A env loc r.2 φ' s' → Q b s') : wpAny (model B.prog B.w) A (isTrue e env (eval e env)) Q Ex s :=
  ResB.bind (q.tst h hb K) fun φ' s' st R' => k φ' s' st (K.step st R')

theorem args_ok (pos : Pos) : ∀ {es : List Expr} {es' : List Mine.E}, Snd2 B C d sc ren nx es es' → ∀ {r : List V × AH} {σ : AH} {φ : Phi} {s : Shared}, evs C es' loc σ = some r → At B d sc ren nx A env loc σ φ s →
    wpAny (model B.prog B.w) A (spliced (backTo pos (starEach es env))) (ResL B φ s r.2 r.1) Ex s := by
  intro es es' q
  induction q with
  | nil => intro r σ φ s h K; exact someE (P := fun r => wpAny (model B.prog B.w) A (spliced (backTo pos (starEach [] env))) (ResL B φ s r.2 r.1) Ex s) h (wpAny_pure ⟨φ, St.refl .., K.R, VRs_nil⟩)
  | cons q1 q2 ih =>
    intro r σ φ s h K
    refine bindE h fun p h1 h => bindE h fun us h2 h => ?_
    rw [starEach_cons q1.star]
    show wpAny _ _ (do let v ← eval _ env; let here ← (pure [v] : Sem (List Value)); return here ++ (← holding here (spliced (backTo pos (starEach _ env))))) _ _ _
    exact wpAny_bind (q1.run h1 K fun φ1 s1 x st1 K1 r1 => wpAny_bind (wpAny_pure (wpAny_bind (wpAny_holding (ResL.bind (ih h2 K1) fun φ2 s2 xs st2 R2 r2 => wpAny_pure (someE (P := fun r => ResL B φ s r.2 r.1 (x :: xs) s2) h ⟨φ2, st1.trans st2, R2, VRs_cons (st2.vr K1.R r1) r2⟩))))))

noncomputable def opW (op : BoolOp) : Bool := match op with
  | .And => true
  | .Or => false
theorem boolOp_ok (pos : Pos) (op : BoolOp) : ∀ {es : List Expr} {es' : List Mine.E}, Snd2 B C d sc ren nx es es' → ∀ {r : V × AH} {σ : AH} {φ : Phi} {s : Shared}, evLog C (opW op) es' loc σ = some r → At B d sc ren nx A env loc σ φ s →
    wpAny (model B.prog B.w) A (boolOp pos op (evalEach es env)) (Res B φ s r.2 r.1) Ex s ∧ ∀ b, truth r.1 r.2 = some b → wpAny (model B.prog B.w) A (allTrue op es env) (ResB B φ s r.2 b) Ex s := by
  intro es es' q
  induction q with
  | nil => intro r σ φ s h; exact noneE h
  | @cons e e' es es' q1 q2 ih =>
    intro r σ φ s h K
    refine bindE h fun p h1 h => ?_
    cases q2 with
    | nil =>
      cases h
      refine ⟨q1.val h1 K, fun b hb => ?_⟩
      show wpAny _ _ (do match op, ← isTrue e env (eval e env) with | .And, false => pure false | .Or, true => pure true | _, _ => allTrue op [] env) _ _ _
      refine wpAny_bind (q1.test h1 hb K fun φ1 s1 st1 K1 => ?_)
      cases op <;> cases b <;> exact wpAny_pure ⟨φ1, st1, K1.R, rfl⟩
    | @cons e2 e2' es es' q2 q3 =>
      refine bindE (show (truth p.1 p.2).bind (fun t => cond (t == opW op) (evLog C (opW op) (e2' :: es') loc p.2) (some p)) = some r from h) fun t ht h => ⟨?_, fun b hb => ?_⟩
      · show wpAny _ _ (do
          let v ← eval e env
          standAt pos
          let t ← holding [v] (truthy v)
          match op, t with
          | .And, false | .Or, true => pure v
          | _, _ => boolOp pos op (evalEach (e2 :: es) env)) _ _ _
        refine wpAny_bind (q1.run h1 K fun φ1 s1 x st1 K1 r1 => wpAny_bind (wpAny_standAt (wpAny_bind (wpAny_holding (ResB.bind (truth_ok ht K1.R r1) fun φ2 s2 st2 R2 => ?_)))))
        have stop : some p = some r → wpAny (model B.prog B.w) A (pure x) (Res B φ s r.2 r.1) Ex s2 := fun h => someE (P := fun r => wpAny (model B.prog B.w) A (pure x) (Res B φ s r.2 r.1) Ex s2) h (wpAny_pure ⟨φ2, st1.trans st2, R2, st2.vr K1.R r1⟩)
        cases op <;> cases t
        · exact stop h
        · exact wp_after (st1.trans st2) (ih h (K1.step st2 R2)).1
        · exact wp_after (st1.trans st2) (ih h (K1.step st2 R2)).1
        · exact stop h
      · show wpAny _ _ (do match op, ← isTrue e env (eval e env) with | .And, false => pure false | .Or, true => pure true | _, _ => allTrue op (e2 :: es) env) _ _ _
        refine wpAny_bind (q1.test h1 ht K fun φ1 s1 st1 K1 => ?_)
        have stop : some p = some r → ResB B φ s r.2 b t s1 := fun h => ⟨φ1, st1, Option.some.inj h ▸ K1.R, Option.some.inj (ht.symm.trans (Option.some.inj h ▸ hb))⟩
        cases op <;> cases t
        · exact wpAny_pure (stop h)
        · exact wp_afterB st1 ((ih h K1).2 b hb)
        · exact wp_afterB st1 ((ih h K1).2 b hb)
        · exact wpAny_pure (stop h)

theorem Room.cmp (rm : Room A d) : A.units + 10 < cLine := by have := rm.units; omega
theorem wp_operate {t : Sem Value} {xs : List Value} {Q : Value → Shared → Prop} {M : Model} (h : wpAny M A t Q Ex s) : wpAny M A (operate xs t) Q Ex s := fun Γ p hΓ => by rw [Sem.wp_operate]; exact h Γ p hΓ
theorem wp_release {α : Type} {t : Sem α} {xs ys : List Value} {Q : α → Shared → Prop} {M : Model} (h : wpAny M A t Q Ex s) : wpAny M A (do release xs ys; t) Q Ex s := wpAny_bind fun Γ p hΓ => by rw [Sem.wp_release]; exact h
/-- one comparison -/
theorem cmp_run {op : CmpOp} {e : Expr} {e' : Mine.E} {pos : Pos} {x : V} {xv : Value} {p : V × AH} {c : Bool} (q : Snd B C d sc ren nx e e') (h1 : ev C e' loc σ = some p) (hc : compareV op x p.1 p.2 = some c) (K : At B d sc ren nx A env loc σ φ s) (r : VR B.Z φ s.heap x xv) {α : Type} {F : Value → Sem Value → Sem α} {Q : α → Shared → Prop}
    (k : ∀ φ1 s1 yv, St B φ s φ1 s1 → At B d sc ren nx A env loc p.2 φ1 s1 → VR B.Z φ1 s1.heap p.1 yv → wpAny (model B.prog B.w) A (compareOp op xv yv) (Res B φ1 s1 p.2 (.bool c)) Ex s1 → wpAny (model B.prog B.w) A (F yv (compareOp op xv yv)) Q Ex s1) :
    wpAny (model B.prog B.w) A (do let rv ← holding [xv] (eval e env); standAt pos; F rv (compareOp op xv rv)) Q Ex s :=
  wpAny_bind (wpAny_holding (q.run h1 K fun φ1 s1 yv st1 K1 r1 => wpAny_bind (wpAny_standAt (k φ1 s1 yv st1 K1 r1 (cmp_ok hc K.rm.cmp K1.R (st1.vr K.R r) r1)))))

theorem chain_ok (pos : Pos) : ∀ {es : List Expr} {es' : List Mine.E}, Snd2 B C d sc ren nx es es' → ∀ {ops : List CmpOp} {x : V} {r : Bool × AH} {σ : AH} {φ : Phi} {s : Shared} {xv : Value}, evCmp C x ops es' loc σ = some r →
    At B d sc ren nx A env loc σ φ s → VR B.Z φ s.heap x xv →
    wpAny (model B.prog B.w) A (compareChain pos xv ops (markedEach ops es (evalEach es env))) (Res B φ s r.2 (.bool r.1)) Ex s ∧
    wpAny (model B.prog B.w) A (testChain pos xv ops (markedEach ops es (evalEach es env))) (ResB B φ s r.2 r.1) Ex s := by
  intro es es' q
  induction q with
  | nil => intro ops x r σ φ s xv h; cases ops <;> exact noneE h
  | @cons e e' es es' q1 q2 ih =>
    intro ops x r σ φ s xv h K rx
    cases ops with
    | nil => exact noneE h
    | cons op ops =>
      refine bindE h fun p h1 h => bindE h fun c hc h => ifE h fun hlen h => ?_
      cases ops with
      | nil =>
        cases q2 with
        | cons _ _ => cases hlen
        | nil =>
          cases (show some (c, p.2) = some r from h)
          have hm : markedEach [op] [e] (evalEach [e] env) = [eval e env] := congrArg (· :: []) (markedBehindIn_of_false (marks_no op q1.set))
          rw [hm]
          refine ⟨cmp_run (F := fun rv t => operate [xv, rv] t) q1 h1 hc K rx fun φ1 s1 yv st1 K1 r1 z => wp_operate (wp_after st1 z), cmp_run (F := fun rv t => do let c ← operate [xv, rv] t; holding [c] (truthy c)) q1 h1 hc K rx fun φ1 s1 yv st1 K1 r1 z => wpAny_bind (wp_operate (Res.bind z fun φ2 s2 cv st2 R2 r2 => wpAny_holding ?_))⟩
          exact vBool (P := fun cv => wpAny _ _ (truthy cv) _ _ s2) (a := .bool c) rfl r2 (wpAny_truthy_bool ⟨φ2, st1.trans st2, R2, rfl⟩)
      | cons op2 ops =>
        cases q2 with
        | nil => cases hlen
        | @cons e2 e2' es es' q2 q3 =>
          have hm : markedEach (op :: op2 :: ops) (e :: e2 :: es) (evalEach (e :: e2 :: es) env) = eval e env :: markedEach (op2 :: ops) (e2 :: es) (evalEach (e2 :: es) env) := rfl
          rw [hm]
          have step : ∀ {α : Type} (F : Value → Value → Sem α) (Q : α → Shared → Prop), (∀ φ1 s1 yv, St B φ s φ1 s1 → At B d sc ren nx A env loc p.2 φ1 s1 → VR B.Z φ1 s1.heap p.1 yv → wpAny (model B.prog B.w) A (F yv (.bool c)) Q Ex s1) →
              wpAny (model B.prog B.w) A (do let rv ← holding [xv] (eval e env); standAt pos; let c ← holding [xv, rv] (compareOp op xv rv); release [xv, rv] [c]; F rv c) Q Ex s := fun F Q hF =>
            cmp_run (F := fun rv t => do let c ← holding [xv, rv] t; release [xv, rv] [c]; F rv c) q1 h1 hc K rx fun φ1 s1 yv st1 K1 r1 z => wpAny_bind (wpAny_holding (Res.bind z fun φ2 s2 cv st2 R2 r2 => wp_release (vBool (P := fun cv => wpAny _ _ (F yv cv) Q Ex s2) (a := .bool c) rfl r2 (hF φ2 s2 yv (st1.trans st2) (K1.step st2 R2) (st2.vr K1.R r1)))))
          refine ⟨step (fun rv c => do if ← holding [c, rv] (truthy c) then compareChain pos rv (op2 :: ops) (markedEach (op2 :: ops) (e2 :: es) (evalEach (e2 :: es) env)) else pure c) _ fun φ1 s1 yv st1 K1 r1 => wpAny_bind (wpAny_holding (wpAny_truthy_bool ?_)),
            step (fun rv c => do if ← holding [c, rv] (truthy c) then testChain pos rv (op2 :: ops) (markedEach (op2 :: ops) (e2 :: es) (evalEach (e2 :: es) env)) else pure false) _ fun φ1 s1 yv st1 K1 r1 => wpAny_bind (wpAny_holding (wpAny_truthy_bool ?_))⟩
          · cases c with
            | false => cases (show some (false, p.2) = some r from h); exact wpAny_pure ⟨φ1, st1, K1.R, vr_bool _⟩
            | true => exact wp_after st1 (ih h K1 r1).1
          · cases c with
            | false => cases (show some (false, p.2) = some r from h); exact wpAny_pure ⟨φ1, st1, K1.R, rfl⟩
            | true => exact wp_afterB st1 (ih h K1 r1).2
end
end Mine
end
section -- NG
set_option maxRecDepth 100000
set_option autoImplicit false
namespace Mine
open PySem

/-- a step that may turn W's objects, too -/
structure StW (B : Base) (W : List Addr) (φ : Phi) (s : Shared) (φ' : Phi) (s' : Shared) : Prop where
  pre : ∃ ψ, φ' = φ ++ ψ ∧ ∀ a ∈ addrs ψ, s.heap.objs.size ≤ a
  keep : Kp B.tabs (W ++ addrs φ) s.heap s'.heap
  safe : Safe B.Z W s.heap
  os : s'.os = s.os
  gens : PyProof.Rows.AllBare s.gens → PyProof.Rows.AllBare s'.gens

section
variable {B : Base} {W W' : List Addr} {σ : AH} {φ φ' φ'' : Phi} {s s' s'' : Shared}

theorem StW.of (x : St B φ s φ' s') (S : Safe B.Z W s.heap) : StW B W φ s φ' s' :=
  ⟨x.pre, x.keep.mono fun b hb => .inl (List.mem_append.mpr (.inr hb)), S, x.os, x.gens⟩
theorem StW.refl (B : Base) (φ : Phi) (s : Shared) (S : Safe B.Z W s.heap) : StW B W φ s φ s := StW.of (St.refl ..) S
theorem StW.trans (x : StW B W φ s φ' s') (y : StW B W φ' s' φ'' s'') : StW B W φ s φ'' s'' := by
  obtain ⟨ψ, rfl, h1⟩ := x.pre
  obtain ⟨ψ', rfl, h2⟩ := y.pre
  refine ⟨⟨ψ ++ ψ', by simp, fun a ha => ?_⟩, x.keep.trans' y.keep fun b hb => ?_, x.safe, y.os.trans x.os, fun q => y.gens (x.gens q)⟩
  · rw [addrs_append] at ha
    rcases List.mem_append.mp ha with ha | ha
    · exact h1 a ha
    · exact Nat.le_trans x.keep.size (h2 a ha)
  · rcases List.mem_append.mp hb with hb | hb
    · exact .inl (List.mem_append.mpr (.inl hb))
    · rw [addrs_append] at hb
      rcases List.mem_append.mp hb with hb | hb
      · exact .inl (List.mem_append.mpr (.inr hb))
      · exact .inr (h1 b hb)
theorem StW.get (x : StW B W φ s φ' s') (i : Nat) (p : Addr × Addr) (e : φ[i]? = some p) : φ'[i]? = some p := by
  obtain ⟨ψ, rfl, _⟩ := x.pre
  rw [List.getElem?_append_left (List.getElem?_eq_some_iff.mp e).1]; exact e
theorem StW.vk (x : StW B W φ s φ' s') (R : Rep B σ φ s.heap) : Vk B.Z φ s.heap B.Z φ' s'.heap :=
  Vk.of x.keep (fun a ha => by
    rcases List.mem_append.mp ha with ha | ha
    · exact x.safe a ha
    · exact R.safe a ha) x.pre
theorem StW.vr (x : StW B W φ s φ' s') (R : Rep B σ φ s.heap) {v : V} {a : Value} (r : VR B.Z φ s.heap v a) : VR B.Z φ' s'.heap v a := VR_mono (x.vk R) v r
theorem StW.vrs (x : StW B W φ s φ' s') (R : Rep B σ φ s.heap) {v : List V} {a : List Value} (r : VRs B.Z φ s.heap v a) : VRs B.Z φ' s'.heap v a := VRs_mono (x.vk R) v r
theorem StW.widen (x : StW B W φ s φ' s') (h : ∀ b ∈ W, b ∈ W' ∨ s.heap.objs.size ≤ b) (S : Safe B.Z W' s.heap) : StW B W' φ s φ' s' :=
  ⟨x.pre, x.keep.mono fun b hb => by
    rcases List.mem_append.mp hb with hb | hb
    · rcases h b hb with q | q
      · exact .inl (List.mem_append.mpr (.inl q))
      · exact .inr q
    · exact .inl (List.mem_append.mpr (.inr hb)), S, x.os, x.gens⟩
/-- what was made behind the start is no one's -/
theorem St.close (x : St B φ s φ' s') (y : StW B W φ' s' φ'' s'') (h : ∀ b ∈ W, s.heap.objs.size ≤ b) : St B φ s φ'' s'' := by
  obtain ⟨ψ, rfl, h1⟩ := x.pre
  obtain ⟨ψ', rfl, h2⟩ := y.pre
  refine ⟨⟨ψ ++ ψ', by simp, fun a ha => ?_⟩, x.keep.trans' y.keep fun b hb => ?_, y.os.trans x.os, fun q => y.gens (x.gens q)⟩
  · rw [addrs_append] at ha
    rcases List.mem_append.mp ha with ha | ha
    · exact h1 a ha
    · exact Nat.le_trans x.keep.size (h2 a ha)
  · rcases List.mem_append.mp hb with hb | hb
    · exact .inr (h b hb)
    · rw [addrs_append] at hb
      rcases List.mem_append.mp hb with hb | hb
      · exact .inl hb
      · exact .inr (h1 b hb)
/-- the frame's own places -/
noncomputable def ownW (sc : Scope) (env : Env) : List Addr := env.locals :: sc.names.filterMap fun x => if x.2 = .cell then env.cells.lookup x.1 else none

variable {sc : Scope} {ren : Ren} {nx : Nat} {env : Env} {loc : Loc}

theorem EnvOK.own (V : EnvOK B sc ren nx env loc φ s.heap) : ∀ a ∈ ownW sc env, a ∉ addrs φ ∧ B.N ≤ a ∧ ((∃ m, s.heap.Ns a m) ∨ ∃ v, s.heap.IsCell a v) := by
  intro a ha
  rcases List.mem_cons.mp ha with rfl | ha
  · exact ⟨V.base, V.above, .inl V.ns⟩
  · obtain ⟨x, _, hx⟩ := List.mem_filterMap.mp ha
    exact ifE hx fun _ hx => ⟨(V.cells _ _ hx).2.1, (V.cells _ _ hx).2.2, .inr (V.cells _ _ hx).1⟩
theorem EnvOK.safe (V : EnvOK B sc ren nx env loc φ s.heap) : Safe B.Z (ownW sc env) s.heap := fun a ha => by
  obtain ⟨_, h2, h3⟩ := V.own a ha
  refine ⟨h2, fun o e => ?_⟩
  rcases h3 with ⟨m, o', es, ep, e', hd, _⟩ | ⟨v, o', e', hd⟩
  · rw [e] at e'; cases e'
    exact ⟨(fun _ items n q => by rw [q] at hd; cases hd), (fun vs q => by rw [q] at hd; cases hd)⟩
  · rw [e] at e'; cases e'
    exact ⟨(fun _ items n q => by rw [q] at hd; cases hd), (fun vs q => by rw [q] at hd; cases hd)⟩
theorem EnvOK.lt (V : EnvOK B sc ren nx env loc φ s.heap) : ∀ a ∈ ownW sc env, a < s.heap.objs.size := fun a ha => by
  rcases (V.own a ha).2.2 with ⟨m, n⟩ | ⟨v, n⟩
  · exact n.lt
  · exact n.lt
theorem EnvOK.cellsLt (V : EnvOK B sc ren nx env loc φ s.heap) {x : Str} {c : Addr} (e : env.cells.lookup x = some c) : c < s.heap.objs.size := by
  obtain ⟨⟨v, n⟩, _⟩ := V.cells x c e
  exact n.lt

/-- the environment stands where only places off it are turned -/
theorem EnvOK.stepW (V : EnvOK B sc ren nx env loc φ s.heap) (x : StW B W φ s φ' s') (R : Rep B σ φ s.heap) (h1 : env.locals ∉ W) (h2 : ∀ y c, env.cells.lookup y = some c → c ∉ W) : EnvOK B sc ren nx env loc φ' s'.heap := by
  obtain ⟨ψ, hφ, hψ⟩ := x.pre
  have off : ∀ a, a < s.heap.objs.size → a ∉ addrs φ → a ∉ addrs φ' := fun a e ha hm => by
    rw [hφ, addrs_append] at hm
    rcases List.mem_append.mp hm with hm | hm
    · exact ha hm
    · exact absurd (Nat.lt_of_lt_of_le e (hψ a hm)) (Nat.lt_irrefl _)
  have offW : ∀ a, a ∉ W → a ∉ addrs φ → a ∉ W ++ addrs φ := fun a q1 q2 hm => by
    rcases List.mem_append.mp hm with hm | hm
    · exact q1 hm
    · exact q2 hm
  refine ⟨V.fk, V.kind, V.glob, V.blt, ?_, V.above, ?_, fun y c e => ?_, V.inj, V.has, V.rinj, V.rlt, V.free, fun y i v e1 e2 => ?_⟩
  · obtain ⟨m, n⟩ := V.ns
    exact off _ n.lt V.base
  · obtain ⟨m, n⟩ := V.ns
    exact ⟨m, x.keep.ns n (offW _ h1 V.base)⟩
  · obtain ⟨⟨v, n⟩, a, b⟩ := V.cells y c e
    exact ⟨⟨v, x.keep.cell n (offW _ (h2 y c e) a)⟩, off c n.lt a, b⟩
  · obtain ⟨rv, q, r⟩ := V.vals y i v e1 e2
    exact ⟨rv, q.keep x.keep (offW _ h1 V.base) fun c e => offW _ (h2 y c e) (V.cells y c e).2.1, x.vr R r⟩

/-- the environment with one name stored, at a place a of its own -/
theorem EnvOK.store {a : Addr} {h' : Heap} (Y : Sys B) (V : EnvOK B sc ren nx env loc φ s.heap) (R : Rep B σ φ s.heap) {x : Str} {i : Nat} {v : Mine.V} {xv : Value} (hr : ren.lookup x = some i) (r : VR B.Z φ s.heap v xv) (ha : a ∈ ownW sc env) (sb : Heap.SameBut a s.heap h')
    (hns : ∃ m, h'.Ns env.locals m) (hc : ∀ y c, env.cells.lookup y = some c → ∃ v, h'.IsCell c v) (hx : Holds env h' x xv) (hy : ∀ y rv, y ≠ x → Holds env s.heap y rv → Holds env h' y rv) :
    (∀ tk, StW B (ownW sc env) φ s φ { s with heap := h', toks := tk }) ∧ Rep B σ φ h' ∧ EnvOK B sc ren nx env (loc.set i (some v)) φ h' := by
  have S := V.safe
  have kp : Kp B.tabs [a] s.heap h' := .sameBut sb (List.mem_singleton.mpr rfl)
  have hs : Safe B.Z [a] s.heap := fun b hb => S b (List.mem_singleton.mp hb ▸ ha)
  have R' : Rep B σ φ h' := R.off Y.ok kp hs fun b hb => List.mem_singleton.mp hb ▸ (V.own a ha).1
  have vk : Vk B.Z φ s.heap B.Z φ h' := Vk.of kp hs (pre_refl ..)
  refine ⟨fun tk => ⟨pre_refl .., kp.mono fun b hb => .inl (List.mem_append.mpr (.inl (List.mem_singleton.mp hb ▸ ha))), S, rfl, id⟩, R', V.fk, V.kind, V.glob, V.blt, V.base, V.above, hns, fun y c e => ⟨hc y c e, (V.cells y c e).2⟩, V.inj, V.has, V.rinj, V.rlt, fun j u hj e => ?_, fun y j u e1 e2 => ?_⟩
  · have : i ≠ j := by have := V.rlt x i hr; omega
    rw [List.getElem?_set_ne this] at e; exact V.free j u hj e
  · by_cases hyx : y = x
    · subst hyx
      cases hr.symm.trans e1
      rw [List.getElem?_set] at e2
      simp only [if_true] at e2
      refine ifE e2 fun _ e2 => ?_
      cases e2
      exact ⟨xv, hx, VR_mono vk v r⟩
    · have : i ≠ j := fun q => hyx (V.rinj y x j e1 (q ▸ hr))
      rw [List.getElem?_set_ne this] at e2
      obtain ⟨rv, q, r'⟩ := V.vals y j u e1 e2
      exact ⟨rv, hy y rv hyx q, VR_mono vk u r'⟩
/-- a name stored -/
theorem store_ok (Y : Sys B) {d : Nat} {A : Around} {Ex : Value → Shared → Prop} (K : At B d sc ren nx A env loc σ φ s) {x : Str} {i : Nat} {v : Mine.V} {xv : Value} (hx : nameSlot sc ren x = some i) (r : VR B.Z φ s.heap v xv) {Q : Unit → Shared → Prop}
    (k : ∀ s', StW B (ownW sc env) φ s φ s' → At B d sc ren nx A env (loc.set i (some v)) σ φ s' → Q () s') : wpAny (model B.prog B.w) A (storeName env x xv) Q Ex s := by
  have V := K.V
  have fin : ∀ {h' : Heap} {tk : Nat}, ((∀ tk, StW B (ownW sc env) φ s φ { s with heap := h', toks := tk }) ∧ Rep B σ φ h' ∧ EnvOK B sc ren nx env (loc.set i (some v)) φ h') → Q () { s with heap := h', toks := tk } := fun h => k _ (h.1 _) ⟨K.rm, h.2.2, h.2.1⟩
  refine bindE hx fun kd hk hx => ifE hx fun hkd hr => ?_
  rcases hkd with rfl | rfl
  · have hk' : env.kindOf x = some .local := V.kindE hk (by decide)
    obtain ⟨m, n⟩ := V.ns
    refine wpAny_storeName_local hk' n (fun h' n' sb => fin ?_) (by rw [V.fk]; rfl)
    have kp : Kp B.tabs [env.locals] s.heap h' := .sameBut sb (List.mem_singleton.mpr rfl)
    have nin : ∀ y c, env.cells.lookup y = some c → c ∉ [env.locals] := fun y c e q => by
      obtain ⟨⟨v, o, e1, hd⟩, _⟩ := V.cells y c e
      obtain ⟨o', es, ep, e2, hd2, _⟩ := n
      rw [List.mem_singleton.mp q] at e1
      cases e1.symm.trans e2
      cases hd.symm.trans hd2
    refine V.store Y K.R hr r (List.mem_cons_self ..) sb ⟨_, n'⟩ (fun y c e => (V.cells y c e).1.elim fun v n => ⟨v, kp.cell n (nin y c e)⟩) (.inl ⟨hk', _, n', by simp⟩) fun y rv hy q => ?_
    rcases q with ⟨hky, m', n2, hm⟩ | ⟨hky, c, hc, hv⟩
    · refine .inl ⟨hky, _, n', ?_⟩
      simp only [hy, if_false]
      obtain ⟨o1, es1, ep1, g1, d1, _, f1⟩ := n
      obtain ⟨o2, es2, ep2, g2, d2, _, f2⟩ := n2
      cases g1.symm.trans g2
      cases d1.symm.trans d2
      rw [← f1, f2]; exact hm
    · exact .inr ⟨hky, c, hc, kp.cell hv (nin y c hc)⟩
  · have hk' : env.kindOf x = some .cell := V.kindE hk (by decide)
    obtain ⟨c, hc⟩ := V.has x i hr (.inl hk')
    obtain ⟨⟨v0, n⟩, a1, b1⟩ := V.cells x c hc
    have hcW : c ∈ ownW sc env := List.mem_cons_of_mem _ (List.mem_filterMap.mpr ⟨(x, .cell), mem_of_lookup hk, by simp [hc]⟩)
    refine wpAny_storeName_cell V.fk hk' hc n fun h' n' sb => fin ?_
    have kp : Kp B.tabs [c] s.heap h' := .sameBut sb (List.mem_singleton.mpr rfl)
    have nl : env.locals ∉ [c] := fun q => by
      obtain ⟨m, o', es, ep, e2, hd2, _⟩ := V.ns
      obtain ⟨o, e1, hd⟩ := n
      rw [List.mem_singleton.mp q] at e2
      cases e1.symm.trans e2
      cases hd.symm.trans hd2
    have nin : ∀ y c', env.cells.lookup y = some c' → y ≠ x → c' ∉ [c] := fun y c' e hy q => hy (V.inj y x c (by rw [e, List.mem_singleton.mp q]) hc)
    refine V.store Y K.R hr r hcW sb (V.ns.elim fun m n => ⟨m, kp.ns n nl⟩) (fun y c' e => ?_) (.inr ⟨.inl hk', c, hc, n'⟩) fun y rv hy q => q.keep kp nl fun c' hc' => nin y c' hc' hy
    by_cases hy : y = x
    · subst hy
      cases hc.symm.trans e
      exact ⟨_, n'⟩
    · exact (V.cells y c' e).1.elim fun v n => ⟨v, kp.cell n (nin y c' e hy)⟩
end
end Mine
end
section -- NSz
set_option maxRecDepth 100000
set_option autoImplicit false
namespace Mine
open PySem

theorem upd_size (h : Heap) (a : Addr) (f : Obj → Obj) : (h.update a f).objs.size = h.objs.size := by
  cases h; simp [Heap.update]
theorem runs_size {M : Model} {Γ : Ctx} {p : Pos} {t : Sem Fin} {fs : List Frame} {s s' : Shared} {e : End} (h : Runs M Γ p t fs s e s') : s.heap.objs.size ≤ s'.heap.objs.size := by
  induction h <;> (try simp only [Shared.setGen, upd_size, Heap.size_push] at *) <;> omega
theorem returns_size {M : Model} {Γ : Ctx} {p : Pos} {s s' : Shared} {r : Result} (h : Returns M Γ p s r s') : s.heap.objs.size ≤ s'.heap.objs.size := runs_size h
theorem wakes_size {M : Model} {Γ : Ctx} {p : Pos} {g : Nat} {r : Resume} {s s' : Shared} {res : GenResult} (h : Wakes M Γ p g r s res s') : s.heap.objs.size ≤ s'.heap.objs.size := by
  unfold Wakes at h
  split at h
  · exact h.elim
  · split at h
    · obtain ⟨e₁, s₁, hr, _, _, rfl⟩ := h; exact (runs_size hr : (s.setGen g .running).heap.objs.size ≤ s₁.heap.objs.size)
    · rw [h.2]; exact Nat.le_refl _
    · rw [h.2]; exact Nat.le_refl _
  · obtain ⟨e₁, s₁, hr, _, _, rfl⟩ := h; exact (runs_size hr : (s.setGen g .running).heap.objs.size ≤ s₁.heap.objs.size)
  · rw [h.2]; exact Nat.le_refl _
  · rw [h.2]; exact Nat.le_refl _
theorem wp_size {α : Type} (M : Model) (Γ : Ctx) (n : Nat) (t : Sem α) : ∀ (Q : α → Pos → Shared → Prop) (E : Value → Pos → Shared → Prop) (p : Pos) (s : Shared), n ≤ s.heap.objs.size → Sem.wp M Γ t Q E p s →
    Sem.wp M Γ t (fun a p' s' => n ≤ s'.heap.objs.size ∧ Q a p' s') E p s := by
  induction t with
  | pure a => intro Q E p s hn h; exact ⟨hn, h⟩
  | raise e => intro Q E p s hn h; exact h
  | unsupported _ => intro Q E p s _ h; exact h
  | finish _ => intro Q E p s _ h; exact h
  | rule _ k ih => intro Q E p s hn h; exact ih () Q E p s hn h
  | «at» p' k ih => intro Q E p s hn h; exact ih () Q E p' s hn h
  | load a _ k ih => intro Q E p s hn h; obtain ⟨o, ho, h⟩ := h; exact ⟨o, ho, ih o Q E p s hn h⟩
  | update a _ f k ih => intro Q E p s hn h; exact ⟨h.1, ih () Q E p _ (by show n ≤ (s.heap.update a f).objs.size; rw [upd_size]; exact hn) h.2⟩
  | loadIfAlive a k ih => intro Q E p s hn h; exact ih _ Q E p s hn h
  | point _ k ih => intro Q E p s hn h; exact ih () Q E p s hn h
  | register _ _ => intro Q E p s _ h; exact h
  | alloc o k ih => intro Q E p s hn h; exact ih _ Q E p _ (by show n ≤ (s.heap.push o).objs.size; rw [Heap.size_push]; omega) h
  | fresh k ih => intro Q E p s hn h; exact ih _ Q E p _ hn h
  | ask k ih => intro Q E p s hn h; exact ih _ Q E p s hn h
  | choose src m k ih => intro Q E p s hn h; exact ⟨h.1, ih _ Q E p _ hn h.2⟩
  | os q _ k ih => intro Q E p s hn h; exact ih _ Q E p _ hn h
  | call c hd g l k ih =>
    intro Q E p s hn h
    obtain ⟨r, s₁, hr, h⟩ := h
    exact ⟨r, s₁, hr, ih r Q E p s₁ (Nat.le_trans hn (returns_size hr)) h⟩
  | handled own k ih => intro Q E p s hn h; exact ih _ Q E p s hn h
  | genState g k ih => intro Q E p s hn h; obtain ⟨st, hg, h⟩ := h; exact ⟨st, hg, ih _ Q E p s hn h⟩
  | newGen c k ih => intro Q E p s hn h; exact ih _ Q E p _ hn h
  | resume g r l k ih =>
    intro Q E p s hn h
    obtain ⟨res, s₁, hw, h⟩ := h
    exact ⟨res, s₁, hw, ih res Q E p s₁ (Nat.le_trans hn (wakes_size hw)) h⟩
  | yield v g l k _ => intro Q E p s _ h; exact h
  | stack k ih => intro Q E p s hn h; exact ih _ Q E p s hn h
  | fork c k _ => intro Q E p s _ h; exact h
  | thread k ih => intro Q E p s hn h; exact ih _ Q E p s hn h
  | await a f d l k _ => intro Q E p s _ h; exact h
theorem wpAny_size {α : Type} {M : Model} {A : Around} {t : Sem α} {Q : α → Shared → Prop} {E : Value → Shared → Prop} {s : Shared} (h : wpAny M A t (fun a s' => s.heap.objs.size ≤ s'.heap.objs.size → Q a s') E s) : wpAny M A t Q E s :=
  fun Γ p hΓ => Sem.wp_mono M Γ t (fun _ _ _ q => q.2 q.1) (fun _ _ _ q => q) p s (wp_size M Γ _ t _ _ p s (Nat.le_refl _) (h Γ p hΓ))
end Mine
end
section -- NH
set_option maxRecDepth 100000
set_option autoImplicit false
namespace Mine
open PySem

/-- a real iterator and ours; W: what it turns as it walks -/
inductive ItR (B : Base) (φ : Phi) (h : Heap) : It → Addr → List Addr → Prop
  | lst {i k : Nat} {a : Addr} {p : Addr × Addr} : φ[i]? = some p → h.IsListIter a p.1 k → ItR B φ h (.lst i k) a [a]
  | rng {a : Addr} {x left step : Int} : IsRangeIter h a x left step → ItR B φ h (.vals ((List.range left.toNat).map fun (k : Nat) => V.int (x + k * step))) a [a]
  | txt {a : Addr} {x : Str} {t : Tok} {k : Nat} {ty : String} : (ty = "str_ascii_iterator" ∨ ty = "str_iterator") → h.IsStrIter a ty x t k → ItR B φ h (.vals ((x.cps.toList.drop k).map fun c => V.str [c])) a [a]
  | seq {a l : Addr} {items : List Value} {n : Nat} {us : List V} {k : Nat} : h.IsListIter a l k → l < B.N → h.get? l = some (lstO (List.toArray items) n) → VRs B.Z φ h us items → ItR B φ h (.vals (us.drop k)) a [a]
  | zip {i j k : Nat} {a TI TO i1 i2 : Addr} {p q : Addr × Addr} {u v : Value} : φ[i]? = some p → φ[j]? = some q → ZipApart a TI TO i1 i2 p.1 q.1 → IsZip h a TI TO .none → IsPair h TI (.ref i1) (.ref i2) → IsPair h TO u v →
      h.IsListIter i1 p.1 k → h.IsListIter i2 q.1 k → TI ∉ B.hid → TO ∈ B.hid → ItR B φ h (.zip i j k) a [a, TO, i1, i2]

noncomputable def itSafe (B : Base) (φ : Phi) (h : Heap) (W : List Addr) : Prop := Safe B.Z W h ∧ ∀ a ∈ W, a ∉ addrs φ ∧ a < h.objs.size

section
variable {B : Base} {A : Around} {Ex : Value → Shared → Prop} {σ : AH} {φ φ' : Phi} {s s' : Shared}

/-- no iterator whose pairs are let go -/
noncomputable def NoPair (o : Obj) : Prop := ∀ n, o.cls = .type n → ["enumerate", "zip", "dict_itemiterator", "dict_reverseitemiterator", "odict_iterator", "itertools.zip_longest", "itertools.pairwise"].contains n = false
theorem letGo_off {t : Expr} {a : Addr} {v : Value} {o : Obj} {Q : Unit → Shared → Prop} (ho : s.heap.get? a = some o) (hc : NoPair o) (h : Q () s) :
    wpAny (model B.prog B.w) A (letOwnedTupleGo t (.ref a) v) Q Ex s := by
  have key : wpAny (model B.prog B.w) A (letOwnedTupleGo (.List [] ⟨0, 0, 0, 0⟩) (.ref a) v) Q Ex s := by
    unfold letOwnedTupleGo
    cases v <;> first | exact wpAny_pure h | skip
    refine wpAny_bind (wpAny_load ho ?_)
    split
    · rename_i n vs h1 h2
      rw [hc n h1]
      exact wpAny_pure h
    · exact wpAny_pure h
  cases t <;> first | exact key | exact wpAny_pure h

/-- what a drawn item leaves -/
structure Drawn (B : Base) (σ : AH) (φ : Phi) (s : Shared) (a : Addr) (W : List Addr) (q : V × It) (xv : Value) (s' : Shared) : Prop where
  st : StW B W φ s φ s'
  R : Rep B σ φ s'.heap
  S : itSafe B φ s'.heap W
  r : VR B.Z φ s'.heap q.1 xv
  I : ItR B φ s'.heap q.2 a W
/-- what stands where the walk goes on -/
structure NextK (B : Base) (A : Around) (Ex : Value → Shared → Prop) (σ : AH) (φ : Phi) (s : Shared) (a : Addr) (W : List Addr) (t : Expr) (r : Option (V × It)) (Q : Option Value → Shared → Prop) : Prop where
  no : r = none → ∀ s1, StW B W φ s φ s1 → Rep B σ φ s1.heap → Q none s1
  yes : ∀ q xv s1, r = some q → wpAny (model B.prog B.w) A (letOwnedTupleGo t (.ref a) xv) (fun _ s2 => Drawn B σ φ s a W q xv s2) Ex s1 → Q (some xv) s1

theorem one_step (Y : Sys B) {a : Addr} {h' : Heap} {tk : Nat} (R : Rep B σ φ s.heap) (S : itSafe B φ s.heap [a]) (kp : Kp B.tabs [a] s.heap h') {o : Obj} (ho : h'.get? a = some o) (h1 : ∀ items n, o ≠ tupO items n) (h2 : ∀ vs, o ≠ rngO vs) :
    StW B [a] φ s φ { s with heap := h', toks := tk } ∧ Rep B σ φ h' ∧ itSafe B φ h' [a] :=
  ⟨⟨pre_refl .., kp.mono (fun b hb => .inl (List.mem_append.mpr (.inl hb))), S.1, rfl, id⟩, R.off Y.ok kp S.1 fun b hb => (S.2 b hb).1, fun b hb => ⟨(S.1 b hb).1, fun o' e => by
    cases (List.mem_singleton.mp hb ▸ ho).symm.trans e
    exact ⟨fun _ => h1, h2⟩⟩, fun b hb => ⟨(S.2 b hb).1, Nat.lt_of_lt_of_le (S.2 b hb).2 kp.size⟩⟩
/-- the item drawn off an iterator of one object -/
theorem NextK.one {Q : Option Value → Shared → Prop} {a : Addr} {t : Expr} {r : Option (V × It)} {q : V × It} (N : NextK B A Ex σ φ s a [a] t r Q) (Y : Sys B) (R : Rep B σ φ s.heap) (S : itSafe B φ s.heap [a]) (e : r = some q) {h' : Heap} {tk : Nat} (sb : Heap.SameBut a s.heap h') {o : Obj} (ho : h'.get? a = some o) (hn : NoPair o)
    (h1 : ∀ items n, o ≠ tupO items n) (h2 : ∀ vs, o ≠ rngO vs) {xv : Value} (hq : Vk B.Z φ s.heap B.Z φ h' → VR B.Z φ h' q.1 xv ∧ ItR B φ h' q.2 a [a]) : Q (some xv) { s with heap := h', toks := tk } := by
  have kp : Kp B.tabs [a] s.heap h' := .sameBut sb (List.mem_singleton.mpr rfl)
  obtain ⟨s1, s2, s3⟩ := one_step (tk := tk) Y R S kp ho h1 h2
  have g := hq (Vk.of kp S.1 (pre_refl ..))
  exact N.yes q xv _ e (letGo_off ho hn ⟨s1, s2, s3, g.1, g.2⟩)
theorem NextK.stop {Q : Option Value → Shared → Prop} {a : Addr} {W : List Addr} {t : Expr} {r : Option (V × It)} (N : NextK B A Ex σ φ s a W t r Q) (Y : Sys B) (R : Rep B σ φ s.heap) (S : itSafe B φ s.heap W) (e : r = none) {h' : Heap} (kp : Kp B.tabs W s.heap h') : Q none { s with heap := h' } :=
  N.no e _ ⟨pre_refl .., kp.mono (fun b hb => .inl (List.mem_append.mpr (.inl hb))), S.1, rfl, id⟩ (R.off Y.ok kp S.1 fun b hb => (S.2 b hb).1)

theorem no_tup {o : Obj} {c : String} (hc : o.cls = .type c) (h : c ≠ "tuple") : ∀ items n, o ≠ tupO items n := fun items n z => h (Value.type.inj (hc.symm.trans (congrArg Obj.cls z)))
theorem no_rng {o : Obj} {c : String} (hc : o.cls = .type c) (h : c ≠ "range") : ∀ vs, o ≠ rngO vs := fun vs z => h (Value.type.inj (hc.symm.trans (congrArg Obj.cls z)))
theorem no_pair {o : Obj} {c : String} (hc : o.cls = .type c) (h : ["enumerate", "zip", "dict_itemiterator", "dict_reverseitemiterator", "odict_iterator", "itertools.zip_longest", "itertools.pairwise"].contains c = false) : NoPair o := fun n e => Value.type.inj (hc.symm.trans e) ▸ h
theorem cls_txt {h : Heap} {a : Addr} {ty : String} {x : Str} {t : Tok} {k : Nat} (hty : ty = "str_ascii_iterator" ∨ ty = "str_iterator") (q : h.IsStrIter a ty x t k) : ∃ o, h.get? a = some o ∧ (∀ items n, o ≠ tupO items n) ∧ (∀ vs, o ≠ rngO vs) ∧ NoPair o ∧ o.cls ≠ .none := by
  obtain ⟨o, e, hc, _⟩ := q
  rcases hty with rfl | rfl
  · exact ⟨o, e, no_tup hc (by decide), no_rng hc (by decide), no_pair hc (by decide), by rw [hc]; exact nofun⟩
  · exact ⟨o, e, no_tup hc (by decide), no_rng hc (by decide), no_pair hc (by decide), by rw [hc]; exact nofun⟩
theorem cls_it {h : Heap} {a l : Addr} {k : Nat} (q : h.IsListIter a l k) : ∃ o, h.get? a = some o ∧ (∀ items n, o ≠ tupO items n) ∧ (∀ vs, o ≠ rngO vs) ∧ NoPair o ∧ o.cls ≠ .none := by
  obtain ⟨o, e, hc, _⟩ := q
  exact ⟨o, e, no_tup hc (by decide), no_rng hc (by decide), no_pair hc (by decide), by rw [hc]; exact nofun⟩

theorem vals_cons {vs vs' : List V} {v : V} {r : Option (V × It)} (e : nextOf (.vals vs) σ = some r) (hc : vs = v :: vs') : r = some (v, .vals vs') := by subst hc; exact (Option.some.inj e).symm
theorem vals_nil {vs : List V} {r : Option (V × It)} (e : nextOf (.vals vs) σ = some r) (hc : vs = []) : r = none := by subst hc; exact (Option.some.inj e).symm

variable {Q : Option Value → Shared → Prop} {t : Expr} {r : Option (V × It)}
/-- a list walked: of ours, or of the script -/
theorem next_list (Y : Sys B) {a l : Addr} {k : Nat} {items : List Value} {n : Nat} {us : List V} (hh : A.handled = none) (hit : s.heap.IsListIter a l k) (hl : s.heap.get? l = some (lstO items.toArray n)) (rs : VRs B.Z φ s.heap us items) (S : itSafe B φ s.heap [a]) (R : Rep B σ φ s.heap) (N : NextK B A Ex σ φ s a [a] t r Q)
    (he : us[k]? = none → r = none) {it' : It} (hy : ∀ v, us[k]? = some v → r = some (v, it')) (hI : ∀ h', h'.IsListIter a l (k + 1) → Vk B.Z φ s.heap B.Z φ h' → ItR B φ h' it' a [a]) : wpAny (model B.prog B.w) A (pyNext (.ref a)) Q Ex s := by
  cases hv : us[k]? with
  | some v =>
    obtain ⟨x, hx, rx⟩ := VRs_get rs hv
    refine wpAny_pyNext_list_item hit (items := items.toArray) ⟨_, hl, rfl, n, rfl⟩ (by simpa using hx) fun h' hit' sb => ?_
    obtain ⟨o', e', c1, c2, c3, _⟩ := cls_it hit'
    exact N.one Y R S (hy v hv) sb e' c3 c1 c2 fun vk => ⟨VR_mono vk v rx, hI h' hit' vk⟩
  | none => exact wpAny_size (wpAny_pyNext_list_end hh hit (items := items.toArray) ⟨_, hl, rfl, n, rfl⟩ (by rw [List.getElem?_eq_none_iff, VRs_length rs] at hv; simpa using hv) fun h' ext hs => N.stop Y R S (he hv) (.extBut ext (List.mem_singleton.mpr rfl) hs))
theorem rng_cons {x left step : Int} (h : 0 < left) : ((List.range left.toNat).map fun (k : Nat) => V.int (x + k * step)) = V.int x :: (List.range (left - 1).toNat).map fun (k : Nat) => V.int (x + step + k * step) := by
  rw [show left.toNat = (left - 1).toNat + 1 by omega, List.range_succ_eq_map, List.map_cons, List.map_map]
  congr 1
  · simp
  · refine List.map_congr_left fun k _ => congrArg V.int ?_
    show x + ((k + 1 : Nat) : Int) * step = _
    rw [Int.natCast_succ, Int.add_mul, Int.one_mul, Int.add_assoc, Int.add_comm step]
theorem next_rng (Y : Sys B) {a : Addr} {x left step : Int} (hh : A.handled = none) (hit : IsRangeIter s.heap a x left step) (e : nextOf (.vals ((List.range left.toNat).map fun (k : Nat) => V.int (x + k * step))) σ = some r) (S : itSafe B φ s.heap [a]) (R : Rep B σ φ s.heap) (N : NextK B A Ex σ φ s a [a] t r Q) : wpAny (model B.prog B.w) A (pyNext (.ref a)) Q Ex s := by
  by_cases hl : 0 < left
  · exact wpAny_pyNext_range_item hit hl fun h' hit' sb => N.one Y R S (vals_cons e (rng_cons hl)) sb hit' (no_pair rfl (by decide)) (no_tup rfl (by decide)) (no_rng rfl (by decide)) fun vk => ⟨vr_int _ _, .rng hit'⟩
  · exact wpAny_size (wpAny_pyNext_range_end hh hit (by omega) fun h' ext hs => N.stop Y R S (vals_nil e (by rw [show left.toNat = 0 by omega]; rfl)) (.extBut ext (List.mem_singleton.mpr rfl) hs))
theorem next_txt (Y : Sys B) {a : Addr} {x : Str} {tk : Tok} {k : Nat} {ty : String} (hh : A.handled = none) (hty : ty = "str_ascii_iterator" ∨ ty = "str_iterator") (hit : s.heap.IsStrIter a ty x tk k) (e : nextOf (.vals ((x.cps.toList.drop k).map fun c => V.str [c])) σ = some r) (S : itSafe B φ s.heap [a]) (R : Rep B σ φ s.heap) (N : NextK B A Ex σ φ s a [a] t r Q) : wpAny (model B.prog B.w) A (pyNext (.ref a)) Q Ex s := by
  cases hk : x.cps[k]? with
  | some c =>
    have hc : (x.cps.toList.drop k).map (fun c => V.str [c]) = V.str [c] :: ((x.cps.toList.drop (k + 1)).map fun c => V.str [c]) := by
      have hk' : x.cps.toList[k]? = some c := by simpa using hk
      obtain ⟨hlt, hcc⟩ := List.getElem?_eq_some_iff.mp hk'
      rw [List.drop_eq_getElem_cons hlt, List.map_cons, hcc]
    have fin : ∀ h', h'.IsStrIter a ty x tk (k + 1) → Heap.SameBut a s.heap h' → Q (some (.str ⟨#[c]⟩ s.toks)) { s with heap := h', toks := s.toks + 1 } := fun h' hit' sb => by
      obtain ⟨o', e', c1, c2, c3, _⟩ := cls_txt hty hit'
      exact N.one Y R S (vals_cons e hc) sb e' c3 c1 c2 fun vk => ⟨vr_str [c] _, .txt hty hit'⟩
    rcases hty with rfl | rfl
    · exact wpAny_pyNext_ascii_item hit hk fin
    · exact wpAny_pyNext_wide_item hit hk fin
  | none =>
    have fin : ∀ h', Heap.ExtBut a s.heap h' → s.heap.objs.size ≤ h'.objs.size → Q none { s with heap := h' } := fun h' ext hs => N.stop Y R S (vals_nil e (by rw [List.drop_eq_nil_of_le (by simpa using Array.getElem?_eq_none_iff.mp hk)]; rfl)) (.extBut ext (List.mem_singleton.mpr rfl) hs)
    rcases hty with rfl | rfl
    · exact wpAny_size (wpAny_pyNext_ascii_end hh hit hk fin)
    · exact wpAny_size (wpAny_pyNext_wide_end hh hit hk fin)

theorem list_at (R : Rep B σ φ s.heap) {i : Nat} {p : Addr × Addr} {vs : List V} (hp : φ[i]? = some p) (e : lstAt (.obj i) σ = some vs) {G : Prop} (k : ∀ xs n, p.2 = p.1 → s.heap.get? p.1 = some (lstO (List.toArray xs) n) → VRs B.Z φ s.heap vs xs → vs.length ≤ LIM → G) : G :=
  bindE (show (σ[i]?).bind asL = some vs from e) fun o h2 e => by
    obtain ⟨p', hp', q⟩ := R.at_ h2
    cases hp.symm.trans hp'
    exact lE e q k
/-- zip: it ends -/
theorem zip_keep {a TO i1 i2 : Addr} {h h' : Heap} (hk : ∀ b o, b ≠ a → b ≠ TO → b ≠ i1 → b ≠ i2 → h.get? b = some o → h'.get? b = some o) (hs : h.objs.size ≤ h'.objs.size) : Kp B.tabs [a, TO, i1, i2] h h' :=
  ⟨fun b o e hb => .inl (hk b o (fun q => hb (by simp [q])) (fun q => hb (by simp [q])) (fun q => hb (by simp [q])) (fun q => hb (by simp [q])) e), hs⟩
theorem next_zip (Y : Sys B) {es : List Expr} {m : Nat} {p0 : Pos} {i j k : Nat} {a TI TO i1 i2 : Addr} {p q : Addr × Addr} {u v : Value} (hh : A.handled = none) (hp : φ[i]? = some p) (hq : φ[j]? = some q) (D : ZipApart a TI TO i1 i2 p.1 q.1) (hzp : IsZip s.heap a TI TO .none) (hTI : IsPair s.heap TI (.ref i1) (.ref i2)) (hTO : IsPair s.heap TO u v)
    (hi1 : s.heap.IsListIter i1 p.1 k) (hi2 : s.heap.IsListIter i2 q.1 k) (hTIh : TI ∉ B.hid) (hTOh : TO ∈ B.hid) (e : nextOf (.zip i j k) σ = some r) (S : itSafe B φ s.heap [a, TO, i1, i2]) (R : Rep B σ φ s.heap) (N : NextK B A Ex σ φ s a [a, TO, i1, i2] (.Tuple es m p0) r Q) : wpAny (model B.prog B.w) A (pyNext (.ref a)) Q Ex s := by
  refine bindE e fun xs h1 e => bindE e fun ys h2 e => list_at R hp h1 fun xs' n1 _ l1 r1 _ => list_at R hq h2 fun ys' n2 _ l2 r2 _ => ?_
  cases hx : xs[k]? with
  | none =>
    rw [hx] at e
    cases hy : ys[k]? with
    | some _ => rw [hy] at e; exact noneE e
    | none =>
      rw [hy] at e
      refine wpAny_size (wpAny_pyNext_zip_end hh D hzp hTI hTO hi1 hi2 (xs := xs'.toArray) (ys := ys'.toArray) ⟨_, l1, rfl, n1, rfl⟩ ⟨_, l2, rfl, n2, rfl⟩ (.inl ?_) fun h' hk hs => N.stop Y R S (Option.some.inj e).symm (zip_keep hk hs))
      rw [List.getElem?_eq_none_iff, VRs_length r1] at hx
      simpa using hx
  | some v1 =>
    rw [hx] at e
    refine bindE e fun v2 hy e => ?_
    obtain ⟨x1, hx1, rx1⟩ := VRs_get r1 hx
    obtain ⟨x2, hx2, rx2⟩ := VRs_get r2 hy
    refine wpAny_pyNext_zip_item D hzp hTI hTO hi1 hi2 (xs := xs'.toArray) (ys := ys'.toArray) ⟨_, l1, rfl, n1, rfl⟩ ⟨_, l2, rfl, n2, rfl⟩ (by simpa using hx1) (by simpa using hx2) fun h' hz' hTO' hi1' hi2' hT hsz hk => ?_
    refine N.yes _ _ _ (Option.some.inj e).symm (wpAny_letOwnedTupleGo_zip hz' fun h'' hz'' sb => ?_)
    have kp : Kp B.tabs [a, TO, i1, i2] s.heap h'' := zip_keep (fun b o n1 n2 n3 n4 e => (sb.2 b n1).trans (hk b o n1 n2 n3 n4 e)) (by rw [sb.1, hsz]; omega)
    have vk : Vk B.Z φ s.heap B.Z φ h'' := Vk.of kp S.1 (pre_refl ..)
    have g1 : h''.IsListIter i1 p.1 (k + 1) := hi1'.extBut sb.extBut D.i1z
    have g2 : h''.IsListIter i2 q.1 (k + 1) := hi2'.extBut sb.extBut D.i2z
    have gTO : IsPair h'' TO x1 x2 := (sb.2 _ D.TOz).trans hTO'
    have gT : IsPair h'' s.heap.objs.size x1 x2 := (sb.2 _ (Nat.ne_of_gt (Heap.lt_size hzp))).trans hT
    have same : ∀ {b : Addr} {o : Obj}, h''.get? b = some o → (b ∉ B.hid → ∀ items n, o ≠ tupO items n) → (∀ vs, o ≠ rngO vs) → ∀ o', h''.get? b = some o' → (b ∉ B.Z.hid → ∀ items n, o' ≠ tupO items n) ∧ ∀ vs, o' ≠ rngO vs := fun e1 n1 n2 o' e2 => by cases e1.symm.trans e2; exact ⟨n1, n2⟩
    refine ⟨⟨pre_refl .., kp.mono (fun b hb => .inl (List.mem_append.mpr (.inl hb))), S.1, rfl, id⟩, R.off Y.ok kp S.1 fun b hb => (S.2 b hb).1, ⟨fun b hb => ⟨(S.1 b hb).1, ?_⟩, fun b hb => ⟨(S.2 b hb).1, Nat.lt_of_lt_of_le (S.2 b hb).2 kp.size⟩⟩, ?_, .zip hp hq D hz'' (vk.tup TI _ 0 hTIh hTI).2 gTO g1 g2 hTIh hTOh⟩
    · obtain ⟨o1, f1, c1, c2, _⟩ := cls_it g1
      obtain ⟨o2, f2, d1, d2, _⟩ := cls_it g2
      simp only [List.mem_cons, List.not_mem_nil, or_false] at hb
      rcases hb with rfl | rfl | rfl | rfl
      · exact same hz'' (fun _ => no_tup rfl (by decide)) (no_rng rfl (by decide))
      · exact same gTO (fun h => absurd hTOh h) (no_rng rfl (by decide))
      · exact same f1 (fun _ => c1) c2
      · exact same f2 (fun _ => d1) d2
    · unfold VR
      exact ⟨s.heap.objs.size, [x1, x2], 0, rfl, ⟨fun hm => absurd (R.stat.hid _ hm) (Nat.lt_irrefl _), gT⟩, VRs_cons (VR_mono vk _ rx1) (VRs_cons (VR_mono vk _ rx2) VRs_nil)⟩

/-- the next item, and the names' tuple let go -/
theorem next_ok (Y : Sys B) {it : It} {a : Addr} {W : List Addr} (hh : A.handled = none) (hz : ∀ i j k, it = .zip i j k → ∃ es n p, t = .Tuple es n p) (e : nextOf it σ = some r) (I : ItR B φ s.heap it a W) (S : itSafe B φ s.heap W) (R : Rep B σ φ s.heap) (N : NextK B A Ex σ φ s a W t r Q) :
    wpAny (model B.prog B.w) A (pyNext (.ref a)) Q Ex s := by
  cases I with
  | @lst i k a p hp hit =>
    refine bindE e fun vs h1 e => list_at R hp h1 fun xs n _ l1 r1 _ => next_list Y hh hit l1 r1 S R N (fun h => ?_) (it' := .lst i (k + 1)) (fun v h => ?_) fun h' hi vk => .lst hp hi
    · rw [h] at e; exact (Option.some.inj e).symm
    · rw [h] at e; exact (Option.some.inj e).symm
  | rng hit => exact next_rng Y hh hit e S R N
  | txt hty hit => exact next_txt Y hh hty hit e S R N
  | @seq a l items n us k hit hlo hl rs =>
    refine next_list Y hh hit hl rs S R N (fun h => vals_nil e (List.drop_eq_nil_of_le (List.getElem?_eq_none_iff.mp h))) (it' := .vals (us.drop (k + 1))) (fun v h => vals_cons e ?_) fun h' hi vk => .seq hi hlo (vk.low _ _ _ hlo hl).2 (VRs_mono vk us rs)
    obtain ⟨hlt, hv⟩ := List.getElem?_eq_some_iff.mp h
    rw [List.drop_eq_getElem_cons hlt, hv]
  | @zip i j k _ _ _ _ _ _ _ _ _ hp hq D h1 h2 h3 h4 h5 h6 h7 =>
    obtain ⟨es, m, p0, rfl⟩ := hz i j k rfl
    exact next_zip Y hh hp hq D h1 h2 h3 h4 h5 h6 h7 e S R N

/-- what a fresh iterator leaves -/
structure Fresh (B : Base) (φ : Phi) (s : Shared) (it : It) (a : Addr) (s1 : Shared) : Prop where
  kp : Kp B.tabs [] s.heap s1.heap
  os : s1.os = s.os
  gens : s1.gens = s.gens
  ge : s.heap.objs.size ≤ a
  I : ItR B φ s1.heap it a [a]
  S : itSafe B φ s1.heap [a]
noncomputable def Fresh1 (B : Base) (φ : Phi) (s : Shared) (it : It) (x : Value) (s1 : Shared) : Prop := ∃ a, x = .ref a ∧ Fresh B φ s it a s1
theorem fresh_one (R : Rep B σ φ s.heap) {it : It} {c : String} {vs : Array Value} (h1 : c ≠ "tuple") (h2 : c ≠ "range") (I : ItR B φ (s.heap.push { cls := .type c, data := .fields vs }) it s.heap.objs.size [s.heap.objs.size]) : Fresh1 B φ s it (.ref s.heap.objs.size) { s with heap := s.heap.push { cls := .type c, data := .fields vs } } := by
  refine ⟨_, rfl, .push .., rfl, rfl, Nat.le_refl _, I, fun a ha => ?_, fun a ha => ?_⟩
  · cases List.mem_singleton.mp ha
    refine ⟨R.stat.size, fun o' e => ?_⟩
    cases (Heap.get?_push_size (o := { cls := .type c, data := .fields vs }) s.heap rfl).symm.trans e
    exact ⟨fun _ => no_tup rfl h1, no_rng rfl h2⟩
  · cases List.mem_singleton.mp ha
    exact ⟨fun hm => absurd (R.lt hm) (Nat.lt_irrefl _), by show _ < (s.heap.push _).objs.size; rw [Heap.size_push]; omega⟩
theorem fits_small {x : Int} (h : x.natAbs ≤ 3000000) : Builtin.Range.rangeFitsLong x = true := by simp [Builtin.Range.rangeFitsLong]; omega
theorem rng_small {a b c : Int} (ha : a.natAbs ≤ LIM) (hb : b.natAbs ≤ LIM) (hc : c = 1 ∨ c = -1) : Builtin.Range.small a b c = true ∧ rngL a b c = (List.range (Builtin.Range.rangeSize a b c).toNat).map fun (k : Nat) => V.int (a + k * c) := by
  simp only [LIM] at ha hb
  rcases hc with rfl | rfl
  · have hs : Builtin.Range.rangeSize a b 1 = if a < b then b - a else 0 := by simp [Builtin.Range.rangeSize]
    refine ⟨?_, ?_⟩
    · unfold Builtin.Range.small
      rw [fits_small (by omega), fits_small (by omega), fits_small (by decide), hs, fits_small (by split <;> omega)]
      simp only [show (1 : Int) > 0 by decide, if_true, fits_small (show (b + (1 - 1)).natAbs ≤ 3000000 by omega)]; simp
    · rw [hs]
      simp only [rngL, if_true, Int.mul_one]
      congr 2; split <;> omega
  · have hs : Builtin.Range.rangeSize a b (-1) = if a > b then a - b else 0 := by simp [Builtin.Range.rangeSize]
    refine ⟨?_, ?_⟩
    · unfold Builtin.Range.small
      rw [fits_small (by omega), fits_small (by omega), fits_small (by decide), hs, fits_small (by split <;> omega)]
      simp only [show ¬ ((-1 : Int) > 0) by decide, if_false, fits_small (show (b + (-1 + 1)).natAbs ≤ 3000000 by omega)]; simp
    · rw [hs]
      simp only [rngL, show ((-1 : Int) = 1) = False by simp, if_false, Int.mul_neg, Int.mul_one, ← Int.sub_eq_add_neg]
      congr 2; split <;> omega
theorem iter_ok {v : V} {it : It} {x : Value} (e : iterOf v σ = some it) (R : Rep B σ φ s.heap) (r : VR B.Z φ s.heap v x) : wpAny (model B.prog B.w) A (pyIter x) (Fresh1 B φ s it) Ex s := by
  cases v with
  | obj i => exact bindE e fun vs h1 e => vObj (P := fun x => wpAny _ _ (pyIter x) _ Ex s) (a := .obj i) rfl r fun p hp => list_at R hp h1 fun xs n _ g _ _ => someE (P := fun it => wpAny _ _ (pyIter _) (Fresh1 B φ s it) Ex s) e (wpAny_pyIter_list (items := xs.toArray) ⟨_, g, rfl, n, rfl⟩ (fresh_one R (by decide) (by decide) (.lst hp ⟨_, Heap.get?_push_size _ rfl, rfl, rfl⟩)))
  | flist us =>
    unfold VR at r
    obtain ⟨a, xs, n, rfl, hlo, h1, r1⟩ := r
    exact someE (P := fun it => wpAny _ _ (pyIter _) (Fresh1 B φ s it) Ex s) e (wpAny_pyIter_list (items := xs.toArray) ⟨_, h1, rfl, n, rfl⟩ (fresh_one R (by decide) (by decide) (.seq (us := us) (k := 0) ⟨_, Heap.get?_push_size _ rfl, rfl, rfl⟩ hlo (Heap.get?_push_of_some _ h1) (VRs_mono (Vk.of (tabs := B.tabs) (Kp.push B.tabs [] s.heap _) (Safe.nil B.Z _) (pre_refl ..)) _ r1))))
  | str z =>
    refine vStr (P := fun x => wpAny _ _ (pyIter x) _ Ex s) (a := .str z) rfl r fun t => someE (P := fun it => wpAny _ _ (pyIter _) (Fresh1 B φ s it) Ex s) e ?_
    cases ha : (⟨z.toArray⟩ : Str).cps.all (· < 128) with
    | true => exact wpAny_pyIter_ascii ha (fresh_one R (by decide) (by decide) (.txt (x := ⟨z.toArray⟩) (k := 0) (.inl rfl) ⟨_, Heap.get?_push_size _ rfl, rfl, rfl⟩))
    | false => exact wpAny_pyIter_wide ha (fresh_one R (by decide) (by decide) (.txt (x := ⟨z.toArray⟩) (k := 0) (.inr rfl) ⟨_, Heap.get?_push_size _ rfl, rfl, rfl⟩))
  | rng a b c =>
    refine ifE e fun hg e => ?_
    unfold VR at r
    obtain ⟨x, t, u, y, rfl, hr⟩ := r
    obtain ⟨h1, h2⟩ := rng_small hg.1 hg.2.1 hg.2.2
    rw [h2] at e
    exact someE (P := fun it => wpAny _ _ (pyIter _) (Fresh1 B φ s it) Ex s) e (wpAny_pyIter_range hr h1 (fresh_one R (by decide) (by decide) (.rng (Heap.get?_push_size _ rfl))))
  | _ => exact noneE e
theorem iterOf_zip {v : V} {i j k : Nat} : iterOf v σ ≠ some (.zip i j k) := fun e => by
  cases v with
  | obj _ => exact bindE e fun _ _ e => nomatch e
  | rng _ _ _ => exact ifE e fun _ e => nomatch e
  | _ => exact nomatch e
theorem nextOf_zip {it : It} {v : V} {i j k : Nat} (e : nextOf it σ = some (some (v, .zip i j k))) : ∃ i j k, it = .zip i j k := by
  cases it with
  | zip i j k => exact ⟨i, j, k, rfl⟩
  | lst i k => exact bindE e fun vs _ e => by revert e; cases vs[k]? <;> exact nofun
  | vals vs => cases vs <;> exact nomatch e
end
end Mine
end
section -- NJ
set_option maxRecDepth 100000
set_option autoImplicit false
namespace Mine
open PySem

section
variable {B : Base} {C : Oracle} {d : Nat} {A : Around} {Ex : Value → Shared → Prop} {σ σ' : AH} {φ φ' : Phi} {s s' : Shared} {sc : Scope} {ren : Ren} {nx : Nat} {env : Env} {loc loc' : Loc}

structure Unp (B : Base) (φ : Phi) (s : Shared) (us : List V) (n : Nat) (xs : List Value) (s1 : Shared) : Prop where
  st : St B φ s φ s1
  kp : Kp B.tabs [] s.heap s1.heap
  len : us.length = n
  rs : VRs B.Z φ s1.heap us xs
theorem unpack_fin {us : List V} {n : Nat} {xs : List Value} {h' : Heap} (ext : Heap.ExtBut s.heap.objs.size s.heap h') (hs : s.heap.objs.size ≤ h'.objs.size) (hn : us.length = n) (q : VRs B.Z φ s.heap us xs) : Unp B φ s us n xs { s with heap := h' } :=
  have kp : Kp B.tabs [] s.heap h' := .keeps (fun b o e => ext b o (Nat.ne_of_lt (Heap.lt_size e)) e) hs
  ⟨St.of_kp kp rfl rfl, kp, hn, VRs_mono (Vk.of kp (Safe.nil B.Z _) (pre_refl ..)) _ q⟩
theorem unpack_ok (hh : A.handled = none) {v : V} {n : Nat} {us : List V} {x : Value} (e : unpackV v n σ = some us) (R : Rep B σ φ s.heap) (r : VR B.Z φ s.heap v x) :
    wpAny (model B.prog B.w) A (unpackItems x n none) (Unp B φ s us n) Ex s := by
  cases v with
  | tup vs =>
    refine ifE e fun hn e => ?_
    cases e
    refine vTup (P := fun x => wpAny _ _ (unpackItems x n none) _ Ex s) (a := .tup us) rfl r fun l xs k _ g r1 => ?_
    have hl : n = xs.toArray.size := hn.symm.trans (VRs_length r1)
    rw [hl]
    exact wpAny_size (wpAny_unpackItems_tuple hh (items := xs.toArray) ⟨_, g, rfl, k, rfl⟩ fun h' ext hs => unpack_fin ext hs (hn.trans hl) r1)
  | obj i =>
    refine bindE e fun vs h1 e => ifE e fun hn e => ?_
    cases e
    refine vLst (P := fun x => wpAny _ _ (unpackItems x n none) _ Ex s) h1 R r fun p xs k g r1 _ => ?_
    have hl : n = xs.toArray.size := hn.symm.trans (VRs_length r1)
    rw [hl]
    exact wpAny_size (PySem.W.kun_itemsOf hh (items := xs.toArray) ⟨_, g, rfl, k, rfl⟩ fun h' ext hs => unpack_fin ext hs (hn.trans hl) r1)
  | _ => exact noneE e

theorem eName_eq {e : Expr} {x : Str × Pos} (h : eName e = some x) : e = .Name x.1 x.2 := by
  cases e with
  | Name y p => exact someE (P := fun x : Str × Pos => Expr.Name y p = .Name x.1 x.2) h rfl
  | _ => exact noneE h
theorem eTup_eq {e : Expr} {x : List Expr × Nat × Pos} (h : eTup e = some x) : e = .Tuple x.1 x.2.1 x.2.2 := by
  cases e with
  | Tuple y k p => exact someE (P := fun x : List Expr × Nat × Pos => Expr.Tuple y k p = .Tuple x.1 x.2.1 x.2.2) h rfl
  | _ => exact noneE h
theorem eSub_eq {e : Expr} {x : Expr × Expr × Pos} (h : eSub e = some x) : e = .Subscript x.1 x.2.1 x.2.2 := by
  cases e with
  | Subscript y k p => exact someE (P := fun x : Expr × Expr × Pos => Expr.Subscript y k p = .Subscript x.1 x.2.1 x.2.2) h rfl
  | _ => exact noneE h

theorem nameSlots_false : ∀ {es : List Expr} {is : List Nat}, nameSlots sc ren es = some is → (∀ x ∈ assignEach es env, x.1 = false) ∧ (assignEach es env).length = is.length
  | [], is, h => by cases h; exact ⟨nofun, rfl⟩
  | e :: es, is, h => bindE h fun x h1 h => bindE h fun i h2 h => bindE h fun is' h3 h => by
    cases h
    rw [eName_eq h1]
    obtain ⟨a, b⟩ := nameSlots_false h3
    exact ⟨fun y hy => (List.mem_cons.mp hy).elim (fun e => e ▸ rfl) (a y), congrArg Nat.succ b⟩
theorem nameSlots_ok (Y : Sys B) : ∀ {es : List Expr} {is : List Nat}, nameSlots sc ren es = some is → ∀ {vs : List V} {xs : List Value} {loc : Loc} {s : Shared}, vs.length = is.length → VRs B.Z φ s.heap vs xs → At B d sc ren nx A env loc σ φ s →
    ∀ {Q : Unit → Shared → Prop}, (∀ s', StW B (ownW sc env) φ s φ s' → At B d sc ren nx A env (setAll is vs loc) σ φ s' → Q () s') → wpAny (model B.prog B.w) A (assignInOrder ((assignEach es env).map (·.2)) xs) Q Ex s
  | [], is, h, vs, xs, loc, s, hl, r, K, _, k => by
    cases h
    cases List.eq_nil_of_length_eq_zero hl
    exact wpAny_pure (k s (StW.refl _ _ _ K.V.safe) K)
  | e :: es, is, h, vs, xs, loc, s, hl, r, K, _, k => bindE h fun x h1 h => bindE h fun i h2 h => bindE h fun is' h3 h => by
    cases h
    rw [eName_eq h1]
    cases vs with
    | nil => cases hl
    | cons v vs =>
      cases xs with
      | nil => unfold VRs at r; exact r.elim
      | cons xv xs =>
        unfold VRs at r
        show wpAny _ _ (do holding xs (assign (.Name x.1 x.2) env xv); assignInOrder ((assignEach es env).map (·.2)) xs) _ _ _
        exact wpAny_bind (wpAny_holding (wpAny_assign_Name (store_ok Y K h2 r.1 fun s1 st1 K1 => nameSlots_ok Y h3 (Nat.succ.inj hl) (st1.vrs K.R r.2) K1 fun s2 st2 K2 => k s2 (st1.trans st2) K2)))

/-- a target assigned -/
theorem tgt_ok (Y : Sys B) {t : Expr} {t' : Tgt} {v : V} {x : Value} (ht : trTgt sc ren t = some t') (e : assignT t' v loc σ = some loc') (K : At B d sc ren nx A env loc σ φ s) (r : VR B.Z φ s.heap v x) {Q : Unit → Shared → Prop}
    (k : ∀ s', StW B (ownW sc env) φ s φ s' → At B d sc ren nx A env loc' σ φ s' → Q () s') : wpAny (model B.prog B.w) A (assign t env x) Q Ex s := by
  unfold trTgt at ht
  cases hn : eName t with
  | some y =>
    rw [hn] at ht
    refine bindE ht fun i hi ht => ?_
    cases ht
    cases e
    rw [eName_eq hn]
    exact wpAny_assign_Name (store_ok Y K hi r k)
  | none =>
    rw [hn] at ht
    refine bindE ht fun w hw ht => bindE ht fun is his ht => ifE ht fun _ ht => ?_
    cases ht
    refine bindE e fun us hu e => ?_
    cases e
    rw [eTup_eq hw]
    show wpAny _ _ (do standAt _; unpack x (assignEach w.1 env)) _ _ _
    refine wpAny_bind (wpAny_standAt ?_)
    unfold unpack
    obtain ⟨f1, f2⟩ := nameSlots_false (env := env) his
    rw [List.findIdx?_eq_none_iff.mpr fun x hx => by rw [f1 x hx], f2]
    exact wpAny_bind (wpAny_holding (wpAny_mono (unpack_ok (Ex := Ex) K.rm.handled hu K.R r) (fun xs s1 h1 => nameSlots_ok Y his h1.len h1.rs (K.step h1.st (K.R.grow Y.ok h1.kp)) fun s2 st2 K2 => k s2 ((StW.of h1.st K.V.safe).trans st2) K2) fun _ _ q => q))

/-- a comprehension's tests -/
theorem ifs_off : ∀ l : List Expr, forIn (m := Sem) l false (fun c r => if r = true then do let ok ← isTrue c env (eval c env); pure (ForInStep.yield ok) else pure (ForInStep.yield r)) = pure false
  | [] => rfl
  | x :: l => by rw [List.forIn_cons]; exact ifs_off l
theorem ifs_ok' : ∀ {es : List Expr} {es' : List Mine.E}, Snd2 B C d sc ren nx es es' → ∀ {b : Bool × AH} {σ : AH} {φ : Phi} {s : Shared}, evIfs C es' loc σ = some b → At B d sc ren nx A env loc σ φ s →
    wpAny (model B.prog B.w) A (forIn es true fun c r => if r = true then do let ok ← isTrue c env (eval c env); pure (ForInStep.yield ok) else pure (ForInStep.yield r)) (ResB B φ s b.2 b.1) Ex s := by
  intro es es' q
  induction q with
  | nil => intro b σ φ s h K; cases h; exact wpAny_pure ⟨φ, St.refl .., K.R, rfl⟩
  | @cons e e' es es' q1 q2 ih =>
    intro b σ φ s h K
    refine bindE h fun p h1 h => bindE h fun t ht h => ?_
    rw [List.forIn_cons]
    refine wpAny_bind (wpAny_bind (q1.test h1 ht K fun φ1 s1 st1 K1 => wpAny_pure ?_))
    cases t with
    | false =>
      cases (show some (false, p.2) = some b from h)
      show wpAny _ _ (forIn (m := Sem) es false (fun c r => if r = true then do let ok ← isTrue c env (eval c env); pure (ForInStep.yield ok) else pure (ForInStep.yield r))) _ _ _
      rw [ifs_off]
      exact wpAny_pure ⟨φ1, st1, K1.R, rfl⟩
    | true => exact wp_afterB st1 (ih h K1)
end
end Mine
end
section -- NK
set_option maxRecDepth 100000
set_option autoImplicit false
namespace Mine
open PySem

section
variable {B : Base} {C : Oracle} {d : Nat} {A : Around} {Ex : Value → Shared → Prop} {W W' W1 : List Addr} {σ σ' : AH} {φ φ' φ'' : Phi} {s s' s'' : Shared} {sc : Scope} {ren : Ren} {nx : Nat} {env : Env} {loc loc' : Loc}

theorem StW.seq (x : StW B W φ s φ' s') (y : StW B W' φ' s' φ'' s'') (h : ∀ b ∈ W', b ∈ W ∨ s.heap.objs.size ≤ b) : StW B W φ s φ'' s'' := by
  obtain ⟨ψ, rfl, h1⟩ := x.pre
  obtain ⟨ψ', rfl, h2⟩ := y.pre
  refine ⟨⟨ψ ++ ψ', by simp, fun a ha => ?_⟩, x.keep.trans' y.keep fun b hb => ?_, x.safe, y.os.trans x.os, fun q => y.gens (x.gens q)⟩
  · rw [addrs_append] at ha
    rcases List.mem_append.mp ha with ha | ha
    · exact h1 a ha
    · exact Nat.le_trans x.keep.size (h2 a ha)
  · rcases List.mem_append.mp hb with hb | hb
    · rcases h b hb with q | q
      · exact .inl (List.mem_append.mpr (.inl q))
      · exact .inr q
    · rw [addrs_append] at hb
      rcases List.mem_append.mp hb with hb | hb
      · exact .inl (List.mem_append.mpr (.inr hb))
      · exact .inr (h1 b hb)
theorem StW.toSt (x : StW B [] φ s φ' s') : St B φ s φ' s' := ⟨x.pre, x.keep, x.os, x.gens⟩
theorem StW.size (x : StW B W φ s φ' s') : s.heap.objs.size ≤ s'.heap.objs.size := x.keep.size
theorem StW.offφ (x : StW B W φ s φ' s') {a : Addr} (h1 : a ∉ addrs φ) (h2 : a < s.heap.objs.size) : a ∉ addrs φ' := fun hm => by
  obtain ⟨ψ, rfl, hψ⟩ := x.pre
  rw [addrs_append] at hm
  rcases List.mem_append.mp hm with hm | hm
  · exact h1 hm
  · exact absurd (Nat.lt_of_lt_of_le h2 (hψ a hm)) (Nat.lt_irrefl _)

/-- an object off what was turned stands -/
theorem StW.same (x : StW B W φ s φ' s') {a : Addr} {o : Obj} (e : s.heap.get? a = some o) (hc : o.cls ≠ .none) (h1 : a ∉ W) (h2 : a ∉ addrs φ) : s'.heap.get? a = some o :=
  x.keep.get e (fun hm => by rcases List.mem_append.mp hm with hm | hm; exact h1 hm; exact h2 hm) hc

theorem ItR.has {h : Heap} {it : It} {a : Addr} (I : ItR B φ h it a W) : ∀ b ∈ W, ∃ o, h.get? b = some o ∧ o.cls ≠ .none := by
  have li : ∀ {b l k}, h.IsListIter b l k → ∃ o, h.get? b = some o ∧ o.cls ≠ .none := fun q => (cls_it q).elim fun o h => ⟨o, h.1, h.2.2.2.2⟩
  intro b hb
  cases I with
  | lst hp q => rw [List.mem_singleton.mp hb]; exact li q
  | rng q => rw [List.mem_singleton.mp hb]; exact ⟨_, q, nofun⟩
  | txt hty q => rw [List.mem_singleton.mp hb]; exact (cls_txt hty q).elim fun o h => ⟨o, h.1, h.2.2.2.2⟩
  | seq q => rw [List.mem_singleton.mp hb]; exact li q
  | zip _ _ _ hz _ hTO h1 h2 =>
    simp only [List.mem_cons, List.not_mem_nil, or_false] at hb
    rcases hb with rfl | rfl | rfl | rfl
    · exact ⟨_, hz, nofun⟩
    · exact ⟨_, hTO, nofun⟩
    · exact li h1
    · exact li h2

theorem it_keep (R : Rep B σ φ s.heap) {it : It} {a : Addr} (I : ItR B φ s.heap it a W) (S : itSafe B φ s.heap W) (x : StW B W1 φ s φ' s') (hd : ∀ b ∈ W, b ∉ W1) : ItR B φ' s'.heap it a W ∧ itSafe B φ' s'.heap W := by
  have vk := x.vk R
  have same : ∀ b ∈ W, ∀ o, s.heap.get? b = some o → o.cls ≠ .none → s'.heap.get? b = some o := fun b hb o e hc => x.same e hc (hd b hb) (S.2 b hb).1
  have li : ∀ {b l k}, b ∈ W → s.heap.IsListIter b l k → s'.heap.IsListIter b l k := fun hb q => by
    obtain ⟨o, e, _, _, _, c⟩ := cls_it q
    obtain ⟨o', e', r⟩ := q
    cases e.symm.trans e'
    exact ⟨o, same _ hb o e c, r⟩
  constructor
  · cases I with
    | lst hp q => exact .lst (vk.pre _ _ hp) (li (List.mem_singleton.mpr rfl) q)
    | rng q => exact .rng (same _ (List.mem_singleton.mpr rfl) _ q nofun)
    | txt hty q =>
      obtain ⟨o, e, _, _, _, c⟩ := cls_txt hty q
      obtain ⟨o', e', r'⟩ := q
      cases e.symm.trans e'
      exact .txt hty ⟨o, same _ (List.mem_singleton.mpr rfl) o e c, r'⟩
    | seq q hl hg hv => exact .seq (li (List.mem_singleton.mpr rfl) q) hl (vk.low _ _ _ hl hg).2 (VRs_mono vk _ hv)
    | zip hp hq hap hz hTI hTO h1 h2 n1 n2 => exact .zip (vk.pre _ _ hp) (vk.pre _ _ hq) hap (same _ (by simp) _ hz nofun) (vk.tup _ #[_, _] _ n1 hTI).2 (same _ (by simp) _ hTO nofun) (li (by simp) h1) (li (by simp) h2) n1 n2
  · refine ⟨fun b hb => ⟨(S.1 b hb).1, fun o e => ?_⟩, fun b hb => ⟨x.offφ (S.2 b hb).1 (S.2 b hb).2, Nat.lt_of_lt_of_le (S.2 b hb).2 x.size⟩⟩
    obtain ⟨o', e', hc⟩ := I.has b hb
    cases e.symm.trans (same b hb o' e' hc)
    exact (S.1 b hb).2 _ e'

theorem iterSelf_ok {it : It} {a : Addr} {Q : Value → Shared → Prop} (I : ItR B φ s.heap it a W) (h : Q (.ref a) s) : wpAny (model B.prog B.w) A (pyIter (.ref a)) Q Ex s := by
  cases I with
  | lst _ q => exact wpAny_pyIter_listiter q h
  | rng q => exact wpAny_pyIter_rangeiter q h
  | txt hty q =>
    rcases hty with rfl | rfl
    · exact wpAny_pyIter_striter_ascii q h
    · exact wpAny_pyIter_striter_wide q h
  | seq q => exact wpAny_pyIter_listiter q h
  | zip _ _ _ hz => exact wpAny_pyIter_zip hz h

theorem EnvOK.weaken {h : Heap} (V : EnvOK B sc ren nx env loc φ h) (hw : ∀ (i : Nat) (v : Mine.V), loc'[i]? = some (some v) → loc[i]? = some (some v)) : EnvOK B sc ren nx env loc' φ h :=
  ⟨V.fk, V.kind, V.glob, V.blt, V.base, V.above, V.ns, V.cells, V.inj, V.has, V.rinj, V.rlt, fun i v hi e => V.free i v hi (hw i v e), fun x i v e1 e2 => V.vals x i v e1 (hw i v e2)⟩

theorem setAll_get {is : List Nat} : ∀ {vs : List V} {loc : Loc} {i : Nat} {v : V}, i ∉ is → loc[i]? = some (some v) → (setAll is vs loc)[i]? = some (some v) := by
  induction is with
  | nil => intro vs loc i v _ e; simpa [setAll] using e
  | cons j is ih =>
    intro vs loc i v hi e
    cases vs with
    | nil => simpa [setAll] using e
    | cons u vs =>
      simp only [setAll]
      refine ih (fun h => hi (List.mem_cons_of_mem _ h)) ?_
      rw [List.getElem?_set_ne (fun q => hi (by rw [q]; exact List.mem_cons_self ..))]
      exact e
/-- what was there is there behind an assignment to unset slots -/
theorem unset_keep {t : Tgt} {v : V} (hu : unsetT t loc = true) (e : assignT t v loc σ = some loc') : ∀ (i : Nat) (u : V), loc[i]? = some (some u) → loc'[i]? = some (some u) := by
  intro i u h
  have ni : i ∉ tgtSlots t := fun hm => by
    have := List.all_eq_true.mp hu i hm
    simp [h] at this
  cases t with
  | var j =>
    cases e
    rw [List.getElem?_set_ne (fun q => ni (by simp [tgtSlots, q]))]
    exact h
  | vars is =>
    refine bindE e fun us _ e => ?_
    cases e
    exact setAll_get ni h

/-- the list that a comprehension builds -/
structure AccOK (B : Base) (D : Addr) (acc : List V) (φ : Phi) (h : Heap) : Prop where
  is : ∃ items n, h.get? D = some (lstO (List.toArray items) n) ∧ VRs B.Z φ h acc items
  off : D ∉ addrs φ
  low : B.N ≤ D

theorem AccOK.lt {D : Addr} {acc : List V} {h : Heap} (x : AccOK B D acc φ h) : D < h.objs.size := by obtain ⟨_, _, e, _⟩ := x.is; exact Heap.lt_size e
theorem AccOK.step {D : Addr} {acc : List V} (x : AccOK B D acc φ s.heap) (R : Rep B σ φ s.heap) (y : StW B W φ s φ' s') (hD : D ∉ W) : AccOK B D acc φ' s'.heap := by
  obtain ⟨items, n, e, r⟩ := x.is
  exact ⟨⟨items, n, y.same e (by intro z; cases z) hD x.off, y.vrs R r⟩, y.offφ x.off (Heap.lt_size e), x.low⟩
theorem AccOK.safe {D : Addr} {acc : List V} {h : Heap} (x : AccOK B D acc φ h) : Safe B.Z [D] h := fun a ha => by
  rw [List.mem_singleton.mp ha]
  obtain ⟨items, n, e, _⟩ := x.is
  refine ⟨x.low, fun o e' => ?_⟩
  rw [e] at e'; cases e'
  exact ⟨(fun _ _ _ z => by have := congrArg Obj.cls z; simp at this), (fun _ z => by have := congrArg Obj.cls z; simp at this)⟩

/-- places off a frame and its list -/
structure Off (W : List Addr) (env : Env) (D : Addr) : Prop where
  list : D ∉ W
  locals : env.locals ∉ W
  cells : ∀ y c, env.cells.lookup y = some c → c ∉ W
theorem Off.own {D : Addr} (x : Off W env D) : ∀ b ∈ W, b ∉ ownW sc env := fun b hb hm => by
  rcases List.mem_cons.mp hm with rfl | hm
  · exact x.locals hb
  · obtain ⟨y, _, hy⟩ := List.mem_filterMap.mp hm
    exact ifE hy fun _ hy => x.cells _ _ hy hb
/-- the list's place is off the frame -/
structure OffD (env : Env) (D : Addr) : Prop where
  locals : env.locals ≠ D
  cells : ∀ y c, env.cells.lookup y = some c → c ≠ D
theorem OffD.own {D : Addr} (x : OffD env D) : D ∉ ownW sc env := fun hm => by
  rcases List.mem_cons.mp hm with h | hm
  · exact x.locals h.symm
  · obtain ⟨y, _, hy⟩ := List.mem_filterMap.mp hm
    exact ifE hy fun _ hy => x.cells _ _ hy rfl
theorem Safe.append {N : Zone} {h : Heap} (x : Safe N W h) (y : Safe N W' h) : Safe N (W ++ W') h := fun a ha => by
  rcases List.mem_append.mp ha with ha | ha
  · exact x a ha
  · exact y a ha

theorem compTurn_last {elt : Expr} {gens : List Comprehension} {cs : Scope} {pos : Pos} {dep : Nat} {it acc : Value} {t it0 : Expr} {ifs : List Expr} (hg : gens[dep]? = some ⟨t, it0, ifs, 0⟩) (hn : gens[dep + 1]? = none) :
    compTurn (.ListComp elt gens cs pos) dep it acc env = (standAt it0.pos >>= fun _ => pyNext it >>= fun r => match r with
      | none => pure (.done .next)
      | some v => letOwnedTupleGo t it v >>= fun _ => assign t env v >>= fun _ =>
        (forIn ifs true fun c r => if r = true then do let ok ← isTrue c env (eval c env); pure (ForInStep.yield ok) else pure (ForInStep.yield r)) >>= fun ok =>
        if ok = true then ((eval elt env >>= fun x => call (.builtin "list.append") [acc, x] >>= fun _ => pure ()) >>= fun _ =>
            again (.compLoop (.ListComp elt gens cs pos) dep it acc env))
        else again (.compLoop (.ListComp elt gens cs pos) dep it acc env)) := by
  unfold compTurn
  dsimp only
  rw [hg, hn]
  rfl
theorem compTurn_more {elt : Expr} {gens : List Comprehension} {cs : Scope} {pos : Pos} {dep : Nat} {it acc : Value} {t it0 t2 it2 : Expr} {ifs ifs2 : List Expr} (hg : gens[dep]? = some ⟨t, it0, ifs, 0⟩) (hn : gens[dep + 1]? = some ⟨t2, it2, ifs2, 0⟩) :
    compTurn (.ListComp elt gens cs pos) dep it acc env = (standAt it0.pos >>= fun _ => pyNext it >>= fun r => match r with
      | none => pure (.done .next)
      | some v => letOwnedTupleGo t it v >>= fun _ => assign t env v >>= fun _ =>
        (forIn ifs true fun c r => if r = true then do let ok ← isTrue c env (eval c env); pure (ForInStep.yield ok) else pure (ForInStep.yield r)) >>= fun ok =>
        if ok = true then (do
            let x ← eval it2 env
            standAt it2.pos
            let x ← foldedSetIterable it2 env x
            let it' ← holding [x] (pyIter x)
            let _ ← runOwn (.compStart (.ListComp elt gens cs pos) (dep + 1) it' acc env) env
            again (.compLoop (.ListComp elt gens cs pos) dep it acc env))
        else again (.compLoop (.ListComp elt gens cs pos) dep it acc env)) := by
  unfold compTurn
  dsimp only
  rw [hg, hn]
  rfl
end
end Mine
end
section -- NL
set_option maxRecDepth 100000
set_option autoImplicit false
namespace Mine
open PySem

/-! ## the names of a comprehension's scope -/
/-- one name of a comprehension's scope -/
inductive IR (ren : Ren) (p : Str × NameKind) (r : List (Str × NameKind)) (n : Nat) (ren' : Ren) : Prop
  | skip : p.2 ≠ .free → ownCount (p :: r) = ownCount r → innerRen ren r n = some ren' → IR ren p r n ren'
  | own (l : Ren) : p.2 = .local ∨ p.2 = .cell → ownCount (p :: r) = ownCount r + 1 → innerRen ren r (n + 1) = some l → ren' = (p.1, n) :: l → IR ren p r n ren'
  | free (i : Nat) (l : Ren) : p.2 = .free → ownCount (p :: r) = ownCount r → ren.lookup p.1 = some i → innerRen ren r n = some l → ren' = (p.1, i) :: l → IR ren p r n ren'
theorem innerRen_cons {ren : Ren} {p : Str × NameKind} {r : List (Str × NameKind)} {n : Nat} {ren' : Ren} (h : innerRen ren (p :: r) n = some ren') : IR ren p r n ren' := by
  obtain ⟨x, k⟩ := p
  cases k with
  | «local» =>
    by_cases h0 : x = (".0" : Str)
    · rw [innerRen, if_pos h0] at h; exact .skip nofun (by rw [ownCount, if_pos h0]) h
    · rw [innerRen, if_neg h0] at h; exact bindE h fun l h1 h => .own l (.inl rfl) (by rw [ownCount, if_neg h0]) h1 (Option.some.inj h).symm
  | cell => exact bindE h fun l h1 h => .own l (.inr rfl) rfl h1 (Option.some.inj h).symm
  | free => exact bindE h fun i h1 h => bindE h fun l h2 h => .free i l rfl rfl h1 h2 (Option.some.inj h).symm
  | globalImplicit => exact .skip nofun rfl h
  | globalExplicit => exact noneE h
theorem lookup_cons_cases {α : Type} {x y : Str} {i j : α} {l : List (Str × α)} (e : ((y, i) :: l).lookup x = some j) : (x = y ∧ i = j) ∨ l.lookup x = some j := by
  rw [List.lookup_cons] at e
  cases hb : x == y with
  | true => rw [hb] at e; exact .inl ⟨beq_iff_eq.mp hb, Option.some.inj e⟩
  | false => rw [hb] at e; exact .inr e
theorem innerRen_get {ren : Ren} : ∀ {names : List (Str × NameKind)} {n : Nat} {ren' : Ren}, innerRen ren names n = some ren' → ∀ x i, ren'.lookup x = some i →
    (n ≤ i ∧ i < n + ownCount names ∧ ((x, NameKind.local) ∈ names ∨ (x, NameKind.cell) ∈ names)) ∨ ((x, NameKind.free) ∈ names ∧ ren.lookup x = some i)
  | [], n, ren', h, x, i, e => by cases h; exact nomatch e
  | p :: r, n, ren', h, x, i, e => by
    have up : ∀ {q : Str × NameKind}, q ∈ r → q ∈ p :: r := fun h => List.mem_cons_of_mem _ h
    cases innerRen_cons h with
    | skip _ hc h1 => rw [hc]; exact (innerRen_get h1 x i e).imp (fun ⟨a, b, q⟩ => ⟨a, b, q.imp up up⟩) fun ⟨a, b⟩ => ⟨up a, b⟩
    | own l hk hc h1 hl =>
      subst hl
      rw [hc]
      rcases lookup_cons_cases e with ⟨rfl, rfl⟩ | e
      · exact .inl ⟨Nat.le_refl _, by omega, hk.imp (fun h => by rw [← h]; exact List.mem_cons_self ..) fun h => by rw [← h]; exact List.mem_cons_self ..⟩
      · exact (innerRen_get h1 x i e).imp (fun ⟨a, b, q⟩ => ⟨by omega, by omega, q.imp up up⟩) fun ⟨a, b⟩ => ⟨up a, b⟩
    | free j l hk hc hj h1 hl =>
      subst hl
      rw [hc]
      rcases lookup_cons_cases e with ⟨rfl, rfl⟩ | e
      · exact .inr ⟨by rw [← hk]; exact List.mem_cons_self .., hj⟩
      · exact (innerRen_get h1 x i e).imp (fun ⟨a, b, q⟩ => ⟨a, b, q.imp up up⟩) fun ⟨a, b⟩ => ⟨up a, b⟩
theorem innerRen_inj {ren : Ren} {nx : Nat} (rinj : ∀ x y i, ren.lookup x = some i → ren.lookup y = some i → x = y) (rlt : ∀ x i, ren.lookup x = some i → i < nx) :
    ∀ {names : List (Str × NameKind)} {n : Nat} {ren' : Ren}, nx ≤ n → innerRen ren names n = some ren' → ∀ x y i, ren'.lookup x = some i → ren'.lookup y = some i → x = y
  | [], n, ren', _, h, x, y, i, e, _ => by cases h; exact nomatch e
  | p :: r, n, ren', hn, h, x, y, i, e1, e2 => by
    have two : ∀ {z : Str} {j : Nat} {l : Ren}, (∀ u, l.lookup u = some j → u = z) → (∀ x y i, l.lookup x = some i → l.lookup y = some i → x = y) → ((z, j) :: l).lookup x = some i → ((z, j) :: l).lookup y = some i → x = y := fun {z} {j} {l} no ih e1 e2 => by
      rcases lookup_cons_cases e1 with ⟨rfl, rfl⟩ | f1 <;> rcases lookup_cons_cases e2 with ⟨rfl, h⟩ | f2
      · rfl
      · exact (no y f2).symm
      · subst h; exact no x f1
      · exact ih x y i f1 f2
    cases innerRen_cons h with
    | skip _ _ h1 => exact innerRen_inj rinj rlt hn h1 x y i e1 e2
    | own l _ _ h1 hl =>
      subst hl
      refine two (fun u hu => ?_) (innerRen_inj rinj rlt (by omega) h1) e1 e2
      rcases innerRen_get h1 u n hu with ⟨a, _⟩ | ⟨_, b⟩
      · omega
      · have := rlt u n b; omega
    | free j l _ _ hj h1 hl =>
      subst hl
      refine two (fun u hu => ?_) (innerRen_inj rinj rlt hn h1) e1 e2
      rcases innerRen_get h1 u j hu with ⟨a, _⟩ | ⟨_, b⟩
      · have := rlt p.1 j hj; omega
      · exact rinj u p.1 j b hj
theorem innerRen_free {ren : Ren} : ∀ {names : List (Str × NameKind)} {n : Nat} {r' : Ren}, innerRen ren names n = some r' → ∀ x, (x, NameKind.free) ∈ names → ∃ i, ren.lookup x = some i
  | [], _, _, _, _, hx => nomatch hx
  | p :: r, n, r', h, x, hx => by
    have tail : ∀ {l n}, innerRen ren r n = some l → p.2 ≠ .free → ∃ i, ren.lookup x = some i := fun h1 hk => (List.mem_cons.mp hx).elim (fun e => absurd (congrArg Prod.snd e).symm hk) (innerRen_free h1 x)
    cases innerRen_cons h with
    | skip hk _ h1 => exact tail h1 hk
    | own l hk _ h1 _ => exact tail h1 (by rcases hk with hk | hk <;> · rw [hk]; exact nofun)
    | free j l _ _ hj h1 _ => exact (List.mem_cons.mp hx).elim (fun e => ⟨j, by rw [show x = p.1 from congrArg Prod.fst e]; exact hj⟩) (innerRen_free h1 x)

noncomputable def closeFrom (env : Env) : List (Str × NameKind) → List (Str × Addr) → List (Str × Addr)
  | [], acc => acc
  | (x, k) :: r, acc => if k == .free then (match env.cells.lookup x with
      | some c => closeFrom env r ((x, c) :: acc)
      | none => closeFrom env r acc) else closeFrom env r acc

theorem closureFor_eq {scope : Scope} {env : Env} (h : ∀ x ∈ scope.names, x.2 = .free → ∃ c, env.cells.lookup x.1 = some c) : closureFor scope env = pure (closeFrom env scope.names []) := by
  have go : ∀ (f : Str × NameKind → List (Str × Addr) → Sem (ForInStep (List (Str × Addr)))), (∀ name kind cs, f (name, kind) cs = if (kind == NameKind.free) = true then do let c ← cellOf env name; pure (ForInStep.yield ((name, c) :: cs)) else pure (ForInStep.yield cs)) →
      ∀ (names : List (Str × NameKind)) (acc : List (Str × Addr)), (∀ x ∈ names, x.2 = .free → ∃ c, env.cells.lookup x.1 = some c) → (forIn (m := Sem) names acc f) = pure (closeFrom env names acc) := by
    intro f hf names
    induction names with
    | nil => intro acc _; rfl
    | cons x r ih =>
      intro acc hx
      obtain ⟨x, k⟩ := x
      rw [List.forIn_cons, hf]
      unfold closeFrom
      have hr := fun acc => ih acc fun y hy => hx y (List.mem_cons_of_mem _ hy)
      by_cases hk : k = .free
      · subst hk
        obtain ⟨c, hc⟩ := hx (x, .free) (List.mem_cons_self ..) rfl
        have hc' : env.cells.lookup x = some c := hc
        have : cellOf env x = pure c := by unfold cellOf; rw [hc']
        simp only [beq_self_eq_true, if_true, hc', this]
        exact hr _
      · have : (k == NameKind.free) = false := by simpa using hk
        simp only [this, Bool.false_eq_true, if_false]
        exact hr _
  simp only [closureFor]
  rw [go _ (fun _ _ _ => rfl) _ _ h]
  rfl

theorem closeFrom_get {env : Env} {x : Str} {c : Addr} : ∀ {names : List (Str × NameKind)} {acc : List (Str × Addr)}, (closeFrom env names acc).lookup x = some c → env.cells.lookup x = some c ∨ acc.lookup x = some c
  | [], acc, h => .inr h
  | (y, k) :: r, acc, h => by
    unfold closeFrom at h
    split at h
    · split at h
      · rename_i c' hc
        rcases closeFrom_get h with q | q
        · exact .inl q
        · rw [List.lookup_cons] at q
          split at q
          · rename_i hb; cases q; rw [beq_iff_eq.mp hb]; exact .inl hc
          · exact .inr q
      · exact closeFrom_get h
    · exact closeFrom_get h
theorem closeFrom_has {env : Env} {x : Str} {c : Addr} (hc : env.cells.lookup x = some c) : ∀ {names : List (Str × NameKind)} {acc : List (Str × Addr)}, (x, NameKind.free) ∈ names ∨ acc.lookup x = some c → (closeFrom env names acc).lookup x = some c
  | [], acc, h => by
    rcases h with h | h
    · cases h
    · exact h
  | (y, k) :: r, acc, h => by
    unfold closeFrom
    split
    · rename_i hk
      have hk : k = .free := beq_iff_eq.mp hk
      subst hk
      split
      · rename_i c' hc'
        refine closeFrom_has hc ?_
        rw [List.lookup_cons]
        by_cases hxy : x = y
        · subst hxy; rw [hc] at hc'; cases hc'; simp
        · have hb : (x == y) = false := by simpa using hxy
          rw [hb]
          rcases h with h | h
          · rcases List.mem_cons.mp h with h | h
            · cases h; exact absurd rfl hxy
            · exact .inl h
          · exact .inr h
      · rename_i hn
        refine closeFrom_has hc ?_
        rcases h with h | h
        · rcases List.mem_cons.mp h with h | h
          · cases h; rw [hc] at hn; cases hn
          · exact .inl h
        · exact .inr h
    · rename_i hk
      refine closeFrom_has hc ?_
      rcases h with h | h
      · rcases List.mem_cons.mp h with h | h
        · cases h; exact absurd rfl hk
        · exact .inl h
      · exact .inr h

theorem cellsFrom_app : ∀ (names : List (Str × NameKind)) (n : Nat) (acc : List (Str × Addr)), cellsFrom n names acc = cellsFrom n names [] ++ acc
  | [], _, _ => rfl
  | (x, k) :: r, n, acc => by
    unfold cellsFrom
    split
    · rw [cellsFrom_app r (n + 1) ((x, n) :: acc), cellsFrom_app r (n + 1) [(x, n)]]; simp
    · exact cellsFrom_app r n acc
theorem cellsFrom_mem : ∀ {names : List (Str × NameKind)} {n : Nat} {x : Str} {c : Addr}, (x, c) ∈ cellsFrom n names [] → (x, NameKind.cell) ∈ names
  | [], n, x, c, h => by cases h
  | (y, k) :: r, n, x, c, h => by
    unfold cellsFrom at h
    split at h
    · rename_i hk
      rw [cellsFrom_app] at h
      rcases List.mem_append.mp h with h | h
      · exact List.mem_cons_of_mem _ (cellsFrom_mem h)
      · simp at h; rw [h.1]; rw [← beq_iff_eq.mp hk]; exact List.mem_cons_self ..
    · exact List.mem_cons_of_mem _ (cellsFrom_mem h)
theorem lookup_of_mem {α : Type} {x : Str} {c : α} : ∀ {l : List (Str × α)}, (x, c) ∈ l → ∃ c', l.lookup x = some c'
  | (y, d) :: r, h => by
    rw [List.lookup_cons]
    cases hb : x == y with
    | true => exact ⟨_, rfl⟩
    | false =>
      rcases List.mem_cons.mp h with h | h
      · cases h; simp at hb
      · exact lookup_of_mem h
theorem cellsFrom_has : ∀ {names : List (Str × NameKind)} {n : Nat} {x : Str}, (x, NameKind.cell) ∈ names → ∃ c, (cellsFrom n names []).lookup x = some c
  | (y, k) :: r, n, x, h => by
    have : ∃ c, (x, c) ∈ cellsFrom n ((y, k) :: r) [] := by
      unfold cellsFrom
      rcases List.mem_cons.mp h with h | h
      · cases h
        simp only [beq_self_eq_true, if_true]
        rw [cellsFrom_app]; exact ⟨n, List.mem_append.mpr (.inr (List.mem_singleton.mpr rfl))⟩
      · split
        · obtain ⟨c, hc⟩ := cellsFrom_has (n := n + 1) h
          rw [cellsFrom_app]; exact ⟨c, List.mem_append.mpr (.inl (mem_of_lookup hc))⟩
        · obtain ⟨c, hc⟩ := cellsFrom_has (n := n) h
          exact ⟨c, mem_of_lookup hc⟩
    obtain ⟨c, hc⟩ := this
    exact lookup_of_mem hc
theorem lookup_app {α : Type} (x : Str) : ∀ (l1 l2 : List (Str × α)), (l1 ++ l2).lookup x = (l1.lookup x).or (l2.lookup x)
  | [], _ => by simp
  | (y, c) :: r, l2 => by
    rw [List.cons_append, List.lookup_cons, List.lookup_cons]
    split
    · rfl
    · exact lookup_app x r l2

theorem newEnv_comp {M : Model} {A : Around} {Ex : Value → Shared → Prop} {s : Shared} {scope : Scope} {globals : Addr} {cl : List (Str × Addr)} {qual : Str} {env : Env} {Q : Env → Shared → Prop}
    (h : Q (newEnv scope s.heap.objs.size globals (cellsFrom (s.heap.objs.size + 1) scope.names cl) qual none .none (some env) builtinsNs) { s with heap := pushCells (s.heap.push { cls := .type "dict", data := .dict #[] }) scope.names }) :
    wpAny M A (newFunctionEnv scope globals cl [] qual none .none (some env)) Q Ex s := by
  simp only [newFunctionEnv, Option.isSome_some, if_true]
  refine wpAny_bind (wpAny_alloc ?_)
  refine wpAny_bind (wpAny_layCells _ (fun name kind cells => by cases hkc : kind == NameKind.cell <;> simp [hkc]) _ _ _ _ ?_)
  rw [show ({ s with heap := s.heap.push { cls := .type "dict", data := .dict #[] } } : Shared).heap.objs.size = s.heap.objs.size + 1 from Heap.size_push ..]
  exact wpAny_bind (wpAny_pure (wpAny_pure h))

theorem lookup_nodup {x : Str} {k : NameKind} : ∀ {l : List (Str × NameKind)}, (l.map (·.1)).Nodup → (x, k) ∈ l → l.lookup x = some k
  | (y, j) :: r, hn, h => by
    rw [List.map_cons, List.nodup_cons] at hn
    rw [List.lookup_cons]
    rcases List.mem_cons.mp h with h' | h'
    · cases h'; simp
    · have : (x == y) = false := by
        rw [beq_eq_false_iff_ne]; intro q; subst q
        exact hn.1 (List.mem_map.mpr ⟨_, h', rfl⟩)
      rw [this]
      exact lookup_nodup hn.2 h'
theorem lookup_relabel {env : Env} {x : Str} : ∀ {names : List (Str × NameKind)}, (names.map fun (n, k) => if (k == NameKind.free && env.scope.kind == .function && env.kindOf n == some .cell) = true then (n, NameKind.cell) else (n, k)).lookup x =
    (names.lookup x).map fun k => if (k == NameKind.free && env.scope.kind == .function && env.kindOf x == some .cell) = true then NameKind.cell else k
  | [] => rfl
  | (y, k) :: r => by
    rw [List.map_cons, List.lookup_cons (k := y)]
    cases hb : x == y with
    | true =>
      have := beq_iff_eq.mp hb
      subst this
      simp only
      split <;> simp_all [List.lookup_cons]
    | false =>
      have ih := @lookup_relabel env x r
      simp only
      rw [← ih]
      split <;> simp [List.lookup_cons, hb]

theorem pushCells_size : ∀ (names : List (Str × NameKind)) (h : Heap), h.objs.size ≤ (pushCells h names).objs.size
  | [], _ => Nat.le_refl _
  | (_, k) :: r, h => by
    unfold pushCells
    split
    · refine Nat.le_trans ?_ (pushCells_size r _); rw [Heap.size_push]; omega
    · exact pushCells_size r h

section
variable {B : Base} {σ : AH} {φ : Phi} {s : Shared} {sc cs : Scope} {ren ren' : Ren} {nx : Nat} {env : Env} {loc : Loc}

noncomputable def cEnv (cs : Scope) (env : Env) (n : Nat) : Env := { newEnv cs n env.globals (cellsFrom (n + 1) cs.names (closeFrom env cs.names [])) env.qual none .none (some env) builtinsNs with scope := relabel cs env }
noncomputable def cHeap (cs : Scope) (h : Heap) : Heap := pushCells (h.push { cls := .type "dict", data := .dict #[] }) cs.names

theorem cEnv_cells {n : Nat} {x : Str} {c : Addr} (e : (cEnv cs env n).cells.lookup x = some c) : ((x, NameKind.cell) ∈ cs.names ∧ (cellsFrom (n + 1) cs.names []).lookup x = some c) ∨ ((∀ c', (cellsFrom (n + 1) cs.names []).lookup x ≠ some c') ∧ env.cells.lookup x = some c) := by
  have e : (cellsFrom (n + 1) cs.names (closeFrom env cs.names [])).lookup x = some c := e
  rw [cellsFrom_app, lookup_app] at e
  cases hl : (cellsFrom (n + 1) cs.names []).lookup x with
  | some c' => rw [hl] at e; cases e; exact .inl ⟨cellsFrom_mem (mem_of_lookup hl), rfl⟩
  | none =>
    rw [hl] at e
    refine .inr ⟨(fun _ h => by cases h), ?_⟩
    rcases closeFrom_get (show (closeFrom env cs.names []).lookup x = some c by simpa using e) with q | q
    · exact q
    · simp at q

theorem comp_env (R : Rep B σ φ s.heap) (V : EnvOK B sc ren nx env loc φ s.heap) (hk : cs.kind = .function) (nd : (cs.names.map (·.1)).Nodup)
    (hf : (cs.names.all fun p => p.2 != .free || sc.names.lookup p.1 == some .cell || sc.names.lookup p.1 == some .free) = true) (hr : innerRen ren cs.names nx = some ren') :
    EnvOK B cs ren' (nx + ownCount cs.names) (cEnv cs env s.heap.objs.size) loc φ (cHeap cs s.heap) ∧ Kp B.tabs [] s.heap (cHeap cs s.heap) ∧
    (∀ b ∈ ownW cs (cEnv cs env s.heap.objs.size), s.heap.objs.size ≤ b) ∧ (∀ y c, (cEnv cs env s.heap.objs.size).cells.lookup y = some c → s.heap.objs.size ≤ c ∨ env.cells.lookup y = some c) ∧
    (∀ x ∈ cs.names, x.2 = .free → ∃ c, env.cells.lookup x.1 = some c) := by
  have keep : ∀ b o, s.heap.get? b = some o → (cHeap cs s.heap).get? b = some o := fun b o e => pushCells_keeps _ _ b o (Heap.get?_push_of_some _ e)
  have size : s.heap.objs.size + 1 ≤ (cHeap cs s.heap).objs.size := by have := pushCells_size cs.names (s.heap.push { cls := .type "dict", data := .dict #[] }); rw [Heap.size_push] at this; exact this
  have kp : Kp B.tabs [] s.heap (cHeap cs s.heap) := .keeps keep (by omega)
  have ns : (cHeap cs s.heap).Ns s.heap.objs.size fun _ => none := (Heap.Ns.new s.heap (.type "dict")).keeps (pushCells_keeps _ _)
  have ok := cellsFrom_ok cs.names (s.heap.push { cls := .type "dict", data := .dict #[] }) (s.heap.objs.size + 1) [] ⟨fun _ _ hm => (nomatch hm), List.Pairwise.nil⟩ (by rw [Heap.size_push]; exact Nat.le_refl _)
  rw [Heap.size_push] at ok
  have fkind : ∀ x, (x, NameKind.free) ∈ cs.names → env.kindOf x = some .cell ∨ env.kindOf x = some .free := fun x hx => by
    have := List.all_eq_true.mp hf _ hx
    simp at this
    rcases this with h | h
    · rcases V.kind x _ h with q | ⟨q, _⟩
      · exact .inl q
      · cases q
    · rcases V.kind x _ h with q | ⟨_, q⟩
      · exact .inr q
      · exact .inl q
  -- a free name has its slot in ren and so a cell
  have fcell : ∀ x ∈ cs.names, x.2 = .free → ∃ c, env.cells.lookup x.1 = some c := fun x hx he => by
    obtain ⟨x, k⟩ := x
    have he : k = .free := he
    subst he
    obtain ⟨i, hi⟩ := innerRen_free hr x hx
    exact V.has x i hi (fkind x hx)
  have cells : ∀ y c, (cEnv cs env s.heap.objs.size).cells.lookup y = some c → s.heap.objs.size ≤ c ∨ env.cells.lookup y = some c := fun y c e => by
    rcases cEnv_cells e with ⟨_, q⟩ | ⟨_, q⟩
    · have := (ok.empty _ _ (mem_of_lookup q)).2; exact .inl (by omega)
    · exact .inr q
  have kof : ∀ x, (cEnv cs env s.heap.objs.size).kindOf x = (cs.names.lookup x).map fun k => if (k == NameKind.free && env.scope.kind == .function && env.kindOf x == some .cell) = true then NameKind.cell else k := fun x => lookup_relabel
  have freeCell : ∀ x c, (x, NameKind.free) ∈ cs.names → env.cells.lookup x = some c → (cEnv cs env s.heap.objs.size).cells.lookup x = some c := fun x c hx hc => by
    show (cellsFrom (s.heap.objs.size + 1) cs.names (closeFrom env cs.names [])).lookup x = some c
    rw [cellsFrom_app, lookup_app]
    cases hl : (cellsFrom (s.heap.objs.size + 1) cs.names []).lookup x with
    | some c' =>
      have h1 := lookup_nodup nd (cellsFrom_mem (mem_of_lookup hl))
      rw [lookup_nodup nd hx] at h1; cases h1
    | none => simpa using closeFrom_has hc (.inl hx)
  refine ⟨⟨hk, fun x k e => ?_, V.glob, V.blt, fun hm => absurd (R.lt hm) (Nat.lt_irrefl _), R.stat.size, ⟨_, ns⟩, fun x c e => ?_, fun x y c e1 e2 => ?_, fun x i e h => ?_, innerRen_inj V.rinj V.rlt (Nat.le_refl _) hr, fun x i e => ?_, fun i v hi => V.free i v (by omega), fun x i v e1 e2 => ?_⟩, kp, fun b hb => ?_, cells, fcell⟩
  · rw [kof, e]
    simp only [Option.map_some]
    split
    · rename_i hc
      simp at hc
      exact .inr ⟨hc.1.1, rfl⟩
    · exact .inl rfl
  · rcases cEnv_cells e with ⟨_, q⟩ | ⟨_, q⟩
    · obtain ⟨h1, h2⟩ := ok.empty _ _ (mem_of_lookup q)
      have := R.stat.size
      exact ⟨⟨_, h1⟩, fun hm => absurd (Nat.lt_of_lt_of_le (R.lt hm) (Nat.le_of_succ_le h2)) (Nat.lt_irrefl _), by omega⟩
    · obtain ⟨⟨v, h1⟩, h2, h3⟩ := V.cells x c q
      exact ⟨⟨v, h1.keeps keep⟩, h2, h3⟩
  · rcases cEnv_cells e1 with ⟨_, q1⟩ | ⟨_, q1⟩ <;> rcases cEnv_cells e2 with ⟨_, q2⟩ | ⟨_, q2⟩
    · exact name_of_addr ok.apart (mem_of_lookup q1) (mem_of_lookup q2)
    · have h1 := (ok.empty _ _ (mem_of_lookup q1)).2
      exact absurd (Nat.lt_of_lt_of_le (V.cellsLt q2) (Nat.le_of_succ_le h1)) (Nat.lt_irrefl _)
    · have h1 := (ok.empty _ _ (mem_of_lookup q2)).2
      exact absurd (Nat.lt_of_lt_of_le (V.cellsLt q1) (Nat.le_of_succ_le h1)) (Nat.lt_irrefl _)
    · exact V.inj x y c q1 q2
  · have hk' : (x, NameKind.cell) ∈ cs.names ∨ (x, NameKind.free) ∈ cs.names := by
      rw [kof] at h
      cases hl : cs.names.lookup x with
      | none => rw [hl] at h; simp at h
      | some k =>
        rw [hl] at h
        have hm := mem_of_lookup hl
        cases k with
        | cell => exact .inl hm
        | free => exact .inr hm
        | «local» => simp at h
        | globalImplicit => simp at h
        | globalExplicit => simp at h
    rcases hk' with hm | hm
    · obtain ⟨c, hc⟩ := cellsFrom_has (n := s.heap.objs.size + 1) hm
      refine ⟨c, ?_⟩
      show (cellsFrom (s.heap.objs.size + 1) cs.names (closeFrom env cs.names [])).lookup x = some c
      rw [cellsFrom_app, lookup_app, hc]; rfl
    · obtain ⟨c, hc⟩ := fcell _ hm rfl
      exact ⟨c, freeCell x c hm hc⟩
  · rcases innerRen_get hr x i e with ⟨_, q, _⟩ | ⟨_, q⟩
    · exact q
    · have := V.rlt x i q; omega
  · rcases innerRen_get hr x i e1 with ⟨q, _⟩ | ⟨hm, q⟩
    · exact absurd e2 (V.free i v q)
    · obtain ⟨rv, hh, rr⟩ := V.vals x i v q e2
      refine ⟨rv, ?_, VR_mono (Vk.of kp (Safe.nil B.Z _) (pre_refl ..)) v rr⟩
      rcases hh with ⟨hl, _⟩ | ⟨_, c, hc, hv⟩
      · rcases fkind x hm with z | z <;> · rw [z] at hl; cases hl
      · refine .inr ⟨?_, c, freeCell x c hm hc, hv.keeps keep⟩
        rw [kof, lookup_nodup nd hm]
        simp only [Option.map_some]
        split
        · exact .inl rfl
        · exact .inr rfl
  · rcases List.mem_cons.mp hb with rfl | hb
    · exact Nat.le_refl _
    · obtain ⟨y, hy, hc⟩ := List.mem_filterMap.mp hb
      split at hc
      · rename_i hk'
        obtain ⟨y, k⟩ := y
        have hk' : k = .cell := hk'
        subst hk'
        rcases cEnv_cells hc with ⟨_, q⟩ | ⟨q, _⟩
        · have := (ok.empty _ _ (mem_of_lookup q)).2; omega
        · obtain ⟨c', hc'⟩ := cellsFrom_has (n := s.heap.objs.size + 1) hy
          exact absurd hc' (q c')
      · cases hc
end
end Mine
end
section -- NM
set_option maxRecDepth 100000
set_option autoImplicit false
namespace Mine
open PySem

inductive SndGs (B : Base) (C : Oracle) (d : Nat) (sc : Scope) (ren : Ren) (nx : Nat) : List Comprehension → List G → Prop
  | nil : SndGs B C d sc ren nx [] []
  | cons {t it : Expr} {ifs : List Expr} {t' : Tgt} {it' : Mine.E} {ifs' : List Mine.E} {gs : List Comprehension} {gs' : List G} : trTgt sc ren t = some t' → Snd B C d sc ren nx it it' → Snd2 B C d sc ren nx ifs ifs' →
      SndGs B C d sc ren nx gs gs' → SndGs B C d sc ren nx (⟨t, it, ifs, 0⟩ :: gs) (.mk t' it' ifs' :: gs')

/-- a turn of a comprehension -/
noncomputable def compF (C : Oracle) (elt : Loc → AH → Option (V × AH)) (t : Tgt) (ifs : List E) (gs : List G) (loc : Loc) : V → List V → AH → Option ((List V ⊕ Empty) × AH) := fun v acc s =>
  (assignT t v loc s).bind fun l => (evIfs C ifs l s).bind fun b => cond b.1 ((evGens C elt gs l l acc b.2).bind fun r => some (.inl r.1, r.2)) (some (.inl acc, b.2))

section
variable {B : Base} {C : Oracle} {d : Nat} {A : Around} {Ex : Value → Shared → Prop} {cs : Scope} {ren : Ren} {nx : Nat}

theorem compStart_any {elt : Expr} {gens : List Comprehension} {cs : Scope} {pos : Pos} {dep : Nat} {it acc : Value} {t it0 : Expr} {ifs : List Expr} {env : Env} {s : Shared} {R : Result → Shared → Prop} (hg : gens[dep]? = some ⟨t, it0, ifs, 0⟩)
    (h : codeAny (model B.prog B.w) A (.compLoop (.ListComp elt gens cs pos) dep it acc env) R s)
    (hit : ∀ Ex (Q : Value → Shared → Prop), Q it s → wpAny (model B.prog B.w) A (pyIter it) Q Ex s) :
    codeAny (model B.prog B.w) A (.compStart (.ListComp elt gens cs pos) dep it acc env) R s := by
  refine codeAny_of_tree ?_
  show wpAny _ _ ((compStart (.ListComp elt gens cs pos) dep it acc env).onRaise (fun x => do noteFrame x env; standAt theWindowsPlace)) _ _ s
  refine wpAny_notedAt ?_
  unfold compStart
  have hc : (clausesOf (.ListComp elt gens cs pos))[dep]? = some ⟨t, it0, ifs, 0⟩ := hg
  rw [hc]
  show wpAny _ _ (ask >>= _) _ _ s
  refine wpAny_bind (wpAny_askSetting (wpAny_ite ?_))
  split
  · exact wpAny_bind (wpAny_pure (wpAny_pure (And.intro rfl h)))
  · refine wpAny_bind (wpAny_rule ?_)
    show wpAny _ _ (standAt it0.pos >>= _) _ _ s
    exact wpAny_bind (wpAny_standAt (wpAny_bind (hit _ _ (wpAny_pure (And.intro rfl h)))))

/-- where a comprehension's loop stands -/
structure CAt (B : Base) (d : Nat) (cs : Scope) (ren : Ren) (nx : Nat) (A : Around) (cenv : Env) (D : Addr) (loc : Loc) (acc : List V) (σ : AH) (φ : Phi) (s : Shared) : Prop where
  K : At B d cs ren nx A cenv loc σ φ s
  Ac : AccOK B D acc φ s.heap
theorem CAt.stepW {cenv : Env} {D : Addr} {loc : Loc} {acc : List V} {σ σ' : AH} {φ φ' : Phi} {s s' : Shared} {W : List Addr} (X : CAt B d cs ren nx A cenv D loc acc σ φ s) (st : StW B W φ s φ' s') (R' : Rep B σ' φ' s'.heap) (hoff : Off W cenv D) : CAt B d cs ren nx A cenv D loc acc σ' φ' s' :=
  ⟨⟨X.K.rm, X.K.V.stepW st X.K.R hoff.locals hoff.cells, R'⟩, X.Ac.step X.K.R st hoff.list⟩
theorem Off.nil {env : Env} {D : Addr} : Off [] env D := ⟨nofun, nofun, fun _ _ _ => nofun⟩
theorem CAt.step {cenv : Env} {D : Addr} {loc : Loc} {acc : List V} {σ σ' : AH} {φ φ' : Phi} {s s' : Shared} (X : CAt B d cs ren nx A cenv D loc acc σ φ s) (st : St B φ s φ' s') (R' : Rep B σ' φ' s'.heap) : CAt B d cs ren nx A cenv D loc acc σ' φ' s' :=
  X.stepW (StW.of (W := []) st (Safe.nil _ _)) R' Off.nil
theorem it_step {σ : AH} {φ φ' : Phi} {s s' : Shared} (R : Rep B σ φ s.heap) {it : It} {a : Addr} {W : List Addr} (I : ItR B φ s.heap it a W) (S : itSafe B φ s.heap W) (x : St B φ s φ' s') : ItR B φ' s'.heap it a W ∧ itSafe B φ' s'.heap W :=
  it_keep R I S (StW.of (W := []) x (Safe.nil _ _)) (fun _ _ => nofun)
/-- the places that a comprehension's own run turns -/
noncomputable abbrev cW (cs : Scope) (cenv : Env) (D : Addr) : List Addr := D :: ownW cs cenv
theorem Off.far {Wi : List Addr} {cenv : Env} {D : Addr} (x : Off Wi cenv D) : ∀ b ∈ Wi, b ∉ cW cs cenv D := fun b hb hm => (List.mem_cons.mp hm).elim (fun e => x.list (e ▸ hb)) (x.own b hb)
theorem CAt.safe {cenv : Env} {D : Addr} {loc : Loc} {acc : List V} {σ : AH} {φ : Phi} {s : Shared} (X : CAt B d cs ren nx A cenv D loc acc σ φ s) : Safe B.Z (cW cs cenv D) s.heap := X.Ac.safe.append X.K.V.safe

/-- what the innermost part of a turn does -/
noncomputable def BodyOK (B : Base) (C : Oracle) (d : Nat) (cs : Scope) (ren : Ren) (nx : Nat) (cenv : Env) (D : Addr) (A : Around) (elt : Loc → AH → Option (V × AH)) (gs : List G) (body : Sem PySem.Fin) (loop : Code) : Prop :=
  ∀ {loc : Loc} {acc : List V} {σ : AH} {φ : Phi} {s : Shared} {r : List V × AH} {Ex : Value → Shared → Prop} {Q : PySem.Fin → Shared → Prop}, evGens C elt gs loc loc acc σ = some r → CAt B d cs ren nx A cenv D loc acc σ φ s →
    (∀ φ' s', StW B (cW cs cenv D) φ s φ' s' → CAt B d cs ren nx A cenv D loc r.1 r.2 φ' s' → Q (.again loop) s') → wpAny (model B.prog B.w) A body Q Ex s
/-- what a loop does -/
noncomputable def LoopOK (B : Base) (C : Oracle) (d : Nat) (cs : Scope) (ren : Ren) (nx : Nat) (cenv : Env) (D : Addr) (A : Around) (elt : Loc → AH → Option (V × AH)) (t : Expr) (t' : Tgt) (ifs' : List E) (gs : List G) (loop : Addr → Code) : Prop :=
  ∀ (fuel : Nat) {it : It} {a : Addr} {Wi : List Addr} {acc : List V} {r : (List V ⊕ Empty) × AH} {σ : AH} {φ : Phi} {s : Shared} {loc : Loc} {R : Result → Shared → Prop}, unsetT t' loc = true →
    loopM (compF C elt t' ifs' gs loc) fuel it acc σ = some r → (∀ i j k, it = .zip i j k → ∃ es n p, t = .Tuple es n p) → ItR B φ s.heap it a Wi → itSafe B φ s.heap Wi → Off Wi cenv D → CAt B d cs ren nx A cenv D loc acc σ φ s →
    (∀ acc' φ' s', r.1 = .inl acc' → StW B (Wi ++ cW cs cenv D) φ s φ' s' → CAt B d cs ren nx A cenv D loc acc' r.2 φ' s' → R (.ok .next) s') → codeAny (model B.prog B.w) A (loop a) R s

theorem loop_ok (Y : Sys B) (rm : Room A d) {cenv : Env} {D : Addr} (hOD : OffD cenv D) {elt : Loc → AH → Option (V × AH)} {t : Expr} {t' : Tgt} {ifs : List Expr} {ifs' : List E} {gs : List G} {loop : Addr → Code} {body : Addr → Sem PySem.Fin} {p0 : Pos}
    (ht : trTgt cs ren t = some t') (hifs : Snd2 B C d cs ren nx ifs ifs') (hb : ∀ a, BodyOK B C d cs ren nx cenv D A elt gs (body a) (loop a))
    (hl : ∀ a R s, (∀ E' : Value → Shared → Prop, wpAny (model B.prog B.w) A (standAt p0 >>= fun _ => pyNext (.ref a) >>= fun r => match r with
      | none => pure (.done .next)
      | some v => letOwnedTupleGo t (.ref a) v >>= fun _ => assign t cenv v >>= fun _ =>
        (forIn ifs true fun c r => if r = true then do let ok ← isTrue c cenv (eval c cenv); pure (ForInStep.yield ok) else pure (ForInStep.yield r)) >>= fun ok =>
        if ok = true then body a else again (loop a)) (fun fin s' => match fin with
          | .done f => R (.ok f) s'
          | .again c' => c'.quiet = true ∧ codeAny (model B.prog B.w) A c' R s') E' s) → codeAny (model B.prog B.w) A (loop a) R s) (hq : ∀ a, (loop a).quiet = true) :
    LoopOK B C d cs ren nx cenv D A elt t t' ifs' gs loop := by
  intro fuel
  induction fuel with
  | zero => intro it a Wi acc r σ φ s loc R hu h; exact noneE h
  | succ fuel ih =>
    intro it a Wi acc r σ φ s loc R hu h hz I S hoff X k
    have inW : ∀ b ∈ Wi, b ∈ Wi ++ cW cs cenv D := fun b hb => List.mem_append.mpr (.inl hb)
    have inC : ∀ b ∈ cW cs cenv D, b ∈ Wi ++ cW cs cenv D := fun b hb => List.mem_append.mpr (.inr hb)
    have Sall : Safe B.Z (Wi ++ cW cs cenv D) s.heap := S.1.append X.safe
    refine bindE h fun o ho h => hl a R s fun E' => (wpAny_bind (wpAny_standAt (wpAny_bind (next_ok (t := t) Y rm.handled hz ho I S X.K.R ⟨fun e s1 st R1 => ?_, fun q xv s1 e hgo => ?_⟩))))
    · subst e
      cases h
      exact wpAny_pure (k acc φ s1 rfl (st.widen (fun b hb => .inl (inW b hb)) Sall) (X.stepW st R1 hoff))
    · subst e
      refine wpAny_bind (wpAny_mono hgo (fun _ s2 hd => ?_) fun _ _ q => q)
      have W2 : StW B (Wi ++ cW cs cenv D) φ s φ s2 := hd.st.widen (fun b hb => .inl (inW b hb)) Sall
      have X2 := X.stepW hd.st hd.R hoff
      refine bindE (show (compF C elt t' ifs' gs loc q.1 acc σ).bind _ = some r from h) fun w hF h => bindE hF fun l1 hl1 hF => bindE hF fun b hb1 hF => wpAny_bind (tgt_ok Y ht hl1 X2.K hd.r fun s3 st3 K3 => ?_)
      obtain ⟨I3, S3⟩ := it_keep X2.K.R hd.I hd.S st3 hoff.own
      have W3 := W2.seq st3 fun b hb => .inl (inC b (List.mem_cons_of_mem _ hb))
      have A3 := X2.Ac.step X2.K.R st3 hOD.own
      refine wpAny_bind (ResB.bind (ifs_ok' hifs hb1 K3) fun φ4 s4 st4 R4 => ?_)
      obtain ⟨I4, S4⟩ := it_step K3.R I3 S3 st4
      have X4 : CAt B d cs ren nx A cenv D l1 acc b.2 φ4 s4 := CAt.step ⟨K3, A3⟩ st4 R4
      have W4 := W3.seq (StW.of (W := []) st4 (Safe.nil _ _)) fun _ => nofun
      have zq : ∀ i j k, q.2 = .zip i j k → ∃ es n p, t = .Tuple es n p := fun i j k e => by
        obtain ⟨i, j, k, e⟩ := nextOf_zip (v := q.1) (i := i) (j := j) (k := k) (by rw [ho, ← e])
        exact hz i j k e
      have go : ∀ {acc' : List V} {σ' : AH} {φ5 : Phi} {s5 : Shared}, w = (.inl acc', σ') → StW B (cW cs cenv D) φ4 s4 φ5 s5 → CAt B d cs ren nx A cenv D l1 acc' σ' φ5 s5 → (loop a).quiet = true ∧ codeAny (model B.prog B.w) A (loop a) R s5 := fun ew st5 X5 => by
        subst ew
        obtain ⟨I5, S5⟩ := it_keep X4.K.R I4 S4 st5 hoff.far
        exact ⟨hq a, ih hu h zq I5 S5 hoff ⟨⟨X5.K.rm, X5.K.V.weaken (unset_keep hu hl1), X5.K.R⟩, X5.Ac⟩ fun acc' φ' s' e x X' => k acc' φ' s' e ((W4.seq st5 fun b hb => .inl (inC b hb)).seq x fun b hb => .inl hb) X'⟩
      cases hbb : b.1 with
      | true =>
        rw [hbb] at hF
        exact bindE hF fun g hg hF => hb a hg X4 fun φ5 s5 st5 X5 => go (Option.some.inj hF).symm st5 X5
      | false =>
        rw [hbb] at hF
        exact wpAny_pure (go (Option.some.inj hF).symm (StW.refl _ _ _ X4.safe) X4)

theorem comp_tree {elt : Expr} {gens : List Comprehension} {pos : Pos} {dep : Nat} {it acc : Value} {cenv : Env} {R : Result → Shared → Prop} {s : Shared} (h : ∀ E' : Value → Shared → Prop, wpAny (model B.prog B.w) A (compTurn (.ListComp elt gens cs pos) dep it acc cenv) (fun fin s' => match fin with
          | .done f => R (.ok f) s'
          | .again c' => c'.quiet = true ∧ codeAny (model B.prog B.w) A c' R s') E' s) : codeAny (model B.prog B.w) A (.compLoop (.ListComp elt gens cs pos) dep it acc cenv) R s := by
  refine codeAny_of_tree ?_
  show wpAny _ _ ((compTurn (.ListComp elt gens cs pos) dep it acc cenv).onRaise (fun x => do noteFrame x cenv; theTreesLotGoes x)) _ _ s
  exact wpAny_noted (h _)

theorem gen_ok (Y : Sys B) (rm : Room A d) {elt : Expr} {elt' : Mine.E} (He : Snd B C d cs ren nx elt elt') {gens : List Comprehension} {pos : Pos} {cenv : Env} {D : Addr} (hOD : OffD cenv D) :
    ∀ {gs : List Comprehension} {gs' : List G}, SndGs B C d cs ren nx gs gs' → ∀ {dep : Nat} {t it0 : Expr} {ifs : List Expr} {t' : Tgt} {ifs' : List Mine.E}, gens.drop dep = ⟨t, it0, ifs, 0⟩ :: gs → trTgt cs ren t = some t' → Snd2 B C d cs ren nx ifs ifs' →
    LoopOK B C d cs ren nx cenv D A (fun l s => ev C elt' l s) t t' ifs' gs' fun a => .compLoop (.ListComp elt gens cs pos) dep (.ref a) (.ref D) cenv := by
  intro gs gs' hgs
  induction hgs with
  | nil =>
    intro dep t it0 ifs t' ifs' hdrop ht hifs
    have hget : gens[dep]? = some ⟨t, it0, ifs, 0⟩ := by have := congrArg (·[0]?) hdrop; simpa using this
    have hnext : gens[dep + 1]? = none := by have := congrArg (·[1]?) hdrop; simpa using this
    refine loop_ok Y rm hOD (p0 := it0.pos) (body := fun a => ((eval elt cenv >>= fun x => call (.builtin "list.append") [.ref D, x] >>= fun _ => pure ()) >>= fun _ => again (.compLoop (.ListComp elt gens cs pos) dep (.ref a) (.ref D) cenv))) ht hifs ?_ (fun a R s h => comp_tree (by rw [compTurn_last hget hnext]; exact h)) fun _ => rfl
    intro a loc acc σ φ s r Ex Q hg X k
    refine bindE hg fun p h1 hg => ifE hg fun hlen hg => wpAny_bind (wpAny_bind (He.run h1 X.K fun φ5 s5 yv st5 K5 rv => wpAny_bind ?_))
    have X5 := X.step st5 K5.R
    obtain ⟨items, n, hD, rs⟩ := X5.Ac.is
    refine wpAny_list_append_plain (items := items.toArray) ⟨n, hD⟩ (fun h' hp sb => ?_) (lim_line (by rw [VRs_length rs] at hlen; exact Nat.le_of_lt hlen))
    obtain ⟨n', hp⟩ := hp
    have kp : Kp B.tabs [D] s5.heap h' := .sameBut sb (List.mem_singleton.mpr rfl)
    have stA : StW B [D] φ5 s5 φ5 { s5 with heap := h' } := ⟨pre_refl .., kp.mono (fun b hb => .inl (List.mem_append.mpr (.inl hb))), X5.Ac.safe, rfl, id⟩
    have V6 := K5.V.stepW stA K5.R (fun hm => hOD.locals (List.mem_singleton.mp hm)) (fun y c e hm => hOD.cells y c e (List.mem_singleton.mp hm))
    refine wpAny_pure (wpAny_pure (k φ5 _ (((StW.refl B φ s X.safe).seq (StW.of (W := []) st5 (Safe.nil _ _)) fun _ => nofun).seq stA fun b hb => .inl (by rw [List.mem_singleton.mp hb]; exact List.mem_cons_self ..)) ?_))
    cases hg
    exact ⟨⟨rm, V6, K5.R.off Y.ok kp X5.Ac.safe fun b hb => by rw [List.mem_singleton.mp hb]; exact X5.Ac.off⟩, ⟨items ++ [yv], n', by rw [hp]; simp, VRs_append (stA.vrs K5.R rs) (VRs_one (stA.vr K5.R rv))⟩, X5.Ac.off, X5.Ac.low⟩
  | @cons t2 it2 ifs2 t2' it2' ifs2' gs gs' ht2 hs2 hifs2 hgs2 IH =>
    intro dep t it0 ifs t' ifs' hdrop ht hifs
    have hget : gens[dep]? = some ⟨t, it0, ifs, 0⟩ := by have := congrArg (·[0]?) hdrop; simpa using this
    have hnext : gens[dep + 1]? = some ⟨t2, it2, ifs2, 0⟩ := by have := congrArg (·[1]?) hdrop; simpa using this
    have hdrop2 : gens.drop (dep + 1) = ⟨t2, it2, ifs2, 0⟩ :: gs := by have := congrArg List.tail hdrop; rwa [List.tail_drop] at this
    refine loop_ok Y rm hOD (p0 := it0.pos) (body := fun a => (do
            let x ← eval it2 cenv
            standAt it2.pos
            let x ← foldedSetIterable it2 cenv x
            let it' ← holding [x] (pyIter x)
            let _ ← runOwn (.compStart (.ListComp elt gens cs pos) (dep + 1) it' (.ref D) cenv) cenv
            again (.compLoop (.ListComp elt gens cs pos) dep (.ref a) (.ref D) cenv))) ht hifs ?_ (fun a R s h => comp_tree (by rw [compTurn_more hget hnext]; exact h)) fun _ => rfl
    intro a loc acc σ φ s r Ex Q hg X k
    refine ifE (show (if unsetT t2' loc = true then _ else none) = some r from hg) fun hu2 hg => bindE hg fun p h1 hg => bindE hg fun i2 hi2 hg => bindE hg fun w hloop hg => ?_
    refine wpAny_bind (hs2.run h1 X.K fun φ5 s5 yv st5 K5 rv => wpAny_bind (wpAny_standAt (wpAny_bind ?_)))
    rw [folded_no cenv yv hs2.set]
    refine wpAny_pure (wpAny_bind (wpAny_holding (wpAny_mono (iter_ok hi2 K5.R rv) (fun iv s6 hfr => ?_) fun _ _ q => q)))
    obtain ⟨a2, rfl, hf⟩ := hfr
    have st6 : St B φ5 s5 φ5 s6 := St.of_kp hf.kp hf.os hf.gens
    have X5 := X.step st5 K5.R
    have X6 := X5.step st6 (K5.R.grow Y.ok hf.kp)
    have old : ∀ {b : Addr}, b < s5.heap.objs.size → b ∉ [a2] := fun hb hm => by
      rw [List.mem_singleton.mp hm] at hb
      exact absurd (Nat.lt_of_lt_of_le hb hf.ge) (Nat.lt_irrefl _)
    refine wpAny_bind (wpAny_runOwn (h := none) ?_)
    show codeAny _ A _ _ _
    refine compStart_any hnext (IH hdrop2 ht2 hifs2 FUEL hu2 hloop (fun i j k e => absurd hi2 (by rw [e]; exact iterOf_zip)) hf.I hf.S ⟨old X5.Ac.lt, old (K5.V.lt _ (List.mem_cons_self ..)), fun y c e => old (K5.V.cellsLt e)⟩ X6 fun acc' φ7 s7 ew st7 X7 => ?_) (fun Ex Q hq => iterSelf_ok hf.I hq)
    rw [ew] at hg
    cases hg
    refine wpAny_pure (k φ7 s7 ((((StW.refl B φ s X.safe).seq (StW.of (W := []) st5 (Safe.nil _ _)) fun _ => nofun).seq (StW.of (W := []) st6 (Safe.nil _ _)) fun _ => nofun).seq st7 fun b hb => ?_) X7)
    rcases List.mem_append.mp hb with hb | hb
    · rw [List.mem_singleton.mp hb]
      exact .inr (Nat.le_trans st5.keep.size hf.ge)
    · exact .inl hb
end
end Mine
end
section -- NN
set_option maxRecDepth 100000
set_option autoImplicit false
namespace Mine
open PySem

section
variable {B : Base} {C : Oracle} {d : Nat} {A : Around} {Ex : Value → Shared → Prop} {σ σ' : AH} {φ φ' : Phi} {s s' : Shared}

theorem res_newG (Y : Sys B) (R : Rep B σ φ s.heap) {h' : Heap} {c' : Nat} {vs : List V} {xs : List Value} (keep : ∀ b o, s.heap.get? b = some o → h'.get? b = some o) (hs : s.heap.objs.size ≤ h'.objs.size)
    (hD : h'.get? s.heap.objs.size = some (lstO xs.toArray c')) (r : VRs B.Z φ s.heap vs xs) (hl : vs.length ≤ LIM) (tk : Nat) :
    Res B φ s (σ ++ [.list vs]) (.obj σ.length) (.ref s.heap.objs.size) { s with heap := h', toks := tk } := by
  have k : Kp B.tabs [] s.heap h' := .keeps keep hs
  have R' := R.grow Y.ok k
  have fr : s.heap.objs.size ∉ addrs φ := fun hm => absurd (R.lt hm) (Nat.lt_irrefl _)
  refine ⟨φ ++ [(s.heap.objs.size, s.heap.objs.size)], ⟨⟨_, rfl, fun a ha => ?_⟩, k.mono (fun _ h => nomatch h), rfl, id⟩, R'.add fr fr R.stat.size R.stat.size ⟨rfl, xs, c', hD, VRs_mono (Vk.of k (Safe.nil B.Z _) (pre_refl ..)) _ r, hl⟩, ?_⟩
  · rcases mem_addrs.mp ha with ⟨q, hq, rfl | rfl⟩ <;> simp at hq <;> subst hq <;> exact Nat.le_refl _
  · unfold VR
    exact ⟨(s.heap.objs.size, s.heap.objs.size), by rw [← R.len]; simp, rfl⟩
/-- a value that is no object of ours, where the heap only grew -/
theorem res_grow (Y : Sys B) (R : Rep B σ φ s.heap) {h' : Heap} {v : V} {x : Value} (keep : ∀ b o, s.heap.get? b = some o → h'.get? b = some o) (hs : s.heap.objs.size ≤ h'.objs.size) (r : VR B.Z φ h' v x) (tk : Nat) :
    Res B φ s σ v x { s with heap := h', toks := tk } := by
  have k : Kp B.tabs [] s.heap h' := .keeps keep hs
  exact ⟨φ, St.of_kp k rfl rfl, R.grow Y.ok k, r⟩

theorem maxS_app : ∀ (a : Cs) (m x : Nat), maxS (a ++ [x]) m = if maxS a m < x then x else maxS a m
  | [], m, x => rfl
  | c :: a, m, x => by simp only [List.cons_append, maxS]; exact maxS_app a _ x
theorem argBest_max (c : Nat) (r : Cs) : ∀ k, k ≤ r.length → (c :: r)[argBest (fun i j => decide ((c :: r).getD j 0 < (c :: r).getD i 0)) k]? = some (maxS (r.take k) c)
  | 0, _ => by simp [argBest, maxS]
  | k + 1, h => by
    have ih := argBest_max c r k (by omega)
    have hk : (c :: r)[k + 1]? = some (r[k]'(by omega)) := by simp
    have ht : r.take (k + 1) = r.take k ++ [r[k]'(by omega)] := by rw [List.take_add_one, List.getElem?_eq_getElem (by omega)]; rfl
    rw [ht, maxS_app]
    unfold argBest
    have e1 : (c :: r).getD (k + 1) 0 = r[k]'(by omega) := by rw [List.getD_eq_getElem?_getD, hk]; rfl
    have e2 : (c :: r).getD (argBest (fun i j => decide ((c :: r).getD j 0 < (c :: r).getD i 0)) k) 0 = maxS (r.take k) c := by rw [List.getD_eq_getElem?_getD, ih]; rfl
    simp only [e1, e2]
    by_cases hlt : maxS (r.take k) c < r[k]'(by omega)
    · simp only [hlt, decide_true, if_true]; exact hk
    · simp only [hlt, decide_false, Bool.false_eq_true, if_false]; exact ih
  termination_by k => k

theorem one_char {x : Cs} {n : Nat} {v : Value} (h : SignAt (⟨x.toArray⟩ : Str) n v) : ∃ c t, x[n]? = some c ∧ v = .str ⟨#[c]⟩ t := by
  obtain ⟨c, u, h1, h2⟩ := h
  exact ⟨c, u, by simpa using h1, h2⟩

theorem max_str_ok {c : Nat} {r : Cs} {t : Tok} {Q : Value → Shared → Prop} (hh : A.handled = none)
    (h : ∀ h' tk u, (∀ b o, s.heap.get? b = some o → h'.get? b = some o) → Q (.str ⟨#[maxS r c]⟩ u) { s with heap := h', toks := tk }) :
    wpAny (model B.prog B.w) A (call (.builtin "max") [.str ⟨(c :: r).toArray⟩ t]) Q Ex s := by
  refine call_max_walk (wpAny_pyIter_str fun o S W S0 => ⟨_, _, _, _, _, _, fun i j => decide ((c :: r).getD j 0 < (c :: r).getD i 0), rfl, W _ hh, S0, ?_, ?_, ?_, ?_⟩)
  · intro b hb; rw [List.mem_singleton.mp hb]; show _ < (s.heap.push o).objs.size; rw [Heap.size_push]; omega
  · simp
  · intro i j vi vj s1 Q1 E1 hi hj hq
    obtain ⟨ci, ti, hi1, rfl⟩ := one_char hi
    obtain ⟨cj, tj, hj1, rfl⟩ := one_char hj
    refine P.gt_str ?_
    have e1 : (c :: r).getD i 0 = ci := by rw [List.getD_eq_getElem?_getD, hi1]; rfl
    have e2 : (c :: r).getD j 0 = cj := by rw [List.getD_eq_getElem?_getD, hj1]; rfl
    have : decide ((⟨#[cj]⟩ : Str).cps.toList < (⟨#[ci]⟩ : Str).cps.toList) = decide ((c :: r).getD j 0 < (c :: r).getD i 0) := by
      rw [e1, e2]; show decide ([cj] < [ci]) = _; rw [lt_ltL]; unfold ltL; by_cases q : cj < ci <;> simp [q, ltL]
    rw [this]; exact hq
  · intro v h' tk hP hk
    obtain ⟨cm, tm, h1, rfl⟩ := one_char hP
    have hn : (⟨(c :: r).toArray⟩ : Str).cps.size - 1 = r.length := by simp
    rw [hn, argBest_max c r r.length (Nat.le_refl _)] at h1
    cases h1
    rw [List.take_length]
    refine h h' tk tm fun b o' e => hk b o' ?_ (Heap.get?_push_of_some _ e)
    intro hm; exact absurd (Heap.lt_size e) (by rw [List.mem_singleton.mp hm]; exact Nat.lt_irrefl _)

theorem vrs_chars {N : Zone} {h : Heap} (x : Cs) : ∀ {xs : List Value} (k : Nat), xs.length + k = x.length → (∀ j v, xs[j]? = some v → SignAt (⟨x.toArray⟩ : Str) (j + k) v) → VRs N φ h ((x.drop k).map fun c => V.str [c]) xs
  | [], k, e, _ => by rw [List.drop_eq_nil_of_le (by simp at e; omega)]; exact VRs_nil
  | y :: ys, k, e, h1 => by
    obtain ⟨c, t, h2, rfl⟩ := one_char (h1 0 y rfl)
    have hk : k < x.length := by simp at e; omega
    rw [List.drop_eq_getElem_cons hk]
    have : x[k] = c := by
      have h2 : x[k]? = some c := by simpa using h2
      rw [List.getElem?_eq_getElem hk] at h2; exact Option.some.inj h2
    rw [this]
    refine VRs_cons (vr_str [c] t) (vrs_chars x (k + 1) (by simp at e ⊢; omega) fun j v hj => ?_)
    have := h1 (j + 1) v (by simpa using hj)
    rwa [show j + 1 + k = j + (k + 1) by omega] at this

/-- the contracts of an accumulator's own text, for str() -/
noncomputable def StrAcc (B : Base) : Prop := ∀ (A : Around) (Ex : Value → Shared → Prop) (σ : AH) (φ : Phi) (s : Shared) (i : Nat) (n : Int) (vs : List V) (x : Cs) (xv : Value), Room A 0 → Rep B σ φ s.heap → σ[i]? = some (.acc n vs) → strOfAcc vs = some x → x.length ≤ LIM → vs.length ≤ LIM →
  VR B.Z φ s.heap (.obj i) xv → wpAny (model B.prog B.w) A (call (.type "str") [xv]) (Res B φ s σ (.str x)) Ex s

theorem vA0 {N : Zone} {h : Heap} {xs : List Value} {P : List Value → Prop} (r : VRs N φ h [] xs) (k : P []) : P xs := by
  cases xs with
  | nil => exact k
  | cons x xs => unfold VRs at r; exact r.elim
theorem vCons {N : Zone} {h : Heap} {v : V} {vs : List V} {xs : List Value} {P : List Value → Prop} (r : VRs N φ h (v :: vs) xs) (k : ∀ x ys, VR N φ h v x → VRs N φ h vs ys → P (x :: ys)) : P xs := by
  cases xs with
  | nil => unfold VRs at r; exact r.elim
  | cons x xs => unfold VRs at r; exact k x xs r.1 r.2
theorem vA1 {N : Zone} {h : Heap} {v : V} {vs : List V} {xs : List Value} {P : List Value → Prop} (e : a1 vs = some v) (r : VRs N φ h vs xs) (k : ∀ x, VR N φ h v x → P [x]) : P xs := by
  match vs, e with
  | [u], e => cases e; exact vCons r fun x ys rx ry => vA0 (P := fun ys => P (x :: ys)) ry (k x rx)
theorem vA2 {N : Zone} {h : Heap} {v : V × V} {vs : List V} {xs : List Value} {P : List Value → Prop} (e : a2 vs = some v) (r : VRs N φ h vs xs) (k : ∀ x y, VR N φ h v.1 x → VR N φ h v.2 y → P [x, y]) : P xs := by
  match vs, e with
  | [u, w], e => cases e; exact vCons r fun x ys rx ry => vA1 (P := fun ys => P (x :: ys)) rfl ry fun y ry => k x y rx ry
theorem vA3 {N : Zone} {h : Heap} {v : V × V × V} {vs : List V} {xs : List Value} {P : List Value → Prop} (e : a3 vs = some v) (r : VRs N φ h vs xs) (k : ∀ x y z, VR N φ h v.1 x → VR N φ h v.2.1 y → VR N φ h v.2.2 z → P [x, y, z]) : P xs := by
  match vs, e with
  | [u, w, o], e => cases e; exact vCons r fun x ys rx ry => vA2 (P := fun ys => P (x :: ys)) rfl ry fun y z ry rz => k x y z rx ry rz
theorem vC {x : Cs} {c : Nat} {P : Cs → Prop} (e : oneC x = some c) (k : P [c]) : P x := by
  match x, e with
  | [d], e => cases e; exact k
theorem vHd {x : Cs} {p : Nat × Cs} {P : Cs → Prop} (e : headC x = some p) (k : P (p.1 :: p.2)) : P x := by
  match x, e with
  | c :: r, e => cases e; exact k
theorem len_ok {x : Value} {l : Addr} {xs : List Value} {n : Nat} {vs : List V} {r : V × AH} (R : Rep B σ φ s.heap) (e : some (V.int vs.length, σ) = some r) (g : s.heap.get? l = some (lstO xs.toArray n)) (rs : VRs B.Z φ s.heap vs xs) (hz : vs.length ≤ LIM) : wpAny (model B.prog B.w) A (call (.builtin "len") [.ref l] []) (Res B φ s r.2 r.1) Ex s := by
  have hl := VRs_length rs
  simp only [LIM] at hz
  refine leafE e (Calls.call_len_list (items := xs.toArray) ⟨_, g, rfl, n, rfl⟩ (by simp; omega) ?_)
  rw [show (xs.toArray.size : Int) = vs.length from by simp [hl]]; exact res_here R (vr_int _ _) _
theorem rng_ok (Y : Sys B) (R : Rep B σ φ s.heap) {a b c : Int} {tk : Nat} {x : Value} {t u y : Tok} {o : Obj} (ho : o.isFreed = false) (h : IsRange (s.heap.push o) s.heap.objs.size a b c t u y) : Res B φ s σ (.rng a b c) (.ref s.heap.objs.size) { s with heap := s.heap.push o, toks := tk } :=
  res_grow Y R (fun b o e => Heap.get?_push_of_some _ e) (by rw [Heap.size_push]; omega) (by unfold VR; exact ⟨_, _, _, _, rfl, h⟩) _

theorem callB_ok (Y : Sys B) (SA : StrAcc B) (rm : Room A 0) {b : Bi} {vs : List V} {r : V × AH} {xs : List Value} (e : callB b vs σ = some r) (R : Rep B σ φ s.heap) (rs : VRs B.Z φ s.heap vs xs) :
    wpAny (model B.prog B.w) A (call (biVal b) xs []) (Res B φ s r.2 r.1) Ex s := by
  have hh := rm.handled
  cases b with
  | len =>
    refine bindE e fun v h1 e => vA1 (P := fun xs => wpAny _ _ (call _ xs []) _ Ex s) h1 rs fun x rx => ?_
    have seq : (seqAt v σ).bind (fun vs => some (V.int vs.length, σ)) = some r → wpAny (model B.prog B.w) A (call (biVal .len) [x] []) (Res B φ s r.2 r.1) Ex s := fun e => bindE e fun us h2 e => vSeq (P := fun x => wpAny _ _ (call _ [x] []) _ Ex s) h2 R rx fun p ys n g ry hz => len_ok (x := x) R e g ry hz
    cases v with
    | str z =>
      refine ifE e fun hz e => vStr (P := fun x => wpAny _ _ (call _ [x] []) _ Ex s) (a := .str z) rfl rx fun t => leafE e ?_
      simp only [LIM] at hz
      have hl : ((⟨z.toArray⟩ : Str).length : Int) = z.length := by simp [Str.length]
      refine P.len_str (by rw [hl]; omega) ?_
      rw [hl]; exact res_here R (vr_int _ _) _
    | _ => exact seq e
  | chr => exact bindE e fun v h1 e => bindE e fun i h2 e => ifE e fun hi e => vA1 (P := fun xs => wpAny _ _ (call _ xs []) _ Ex s) h1 rs fun x rx => vInt (P := fun x => wpAny _ _ (call _ [x] []) _ Ex s) h2 rx fun t => leafE e (P.chr_of_int (by simp; omega) (res_here R (vr_str' _ _ (by simp) _) _))
  | ord => exact bindE e fun v h1 e => bindE e fun w h2 e => bindE e fun c h3 e => vA1 (P := fun xs => wpAny _ _ (call _ xs []) _ Ex s) h1 rs fun x rx => vStr (P := fun x => wpAny _ _ (call _ [x] []) _ Ex s) h2 rx fun t => leafE e (vC (P := fun w => wpAny _ _ (call _ [.str ⟨w.toArray⟩ t] []) _ Ex s) h3 (P.ord_of_char (res_here R (vr_int _ _) _)))
  | range =>
    match vs, e with
    | [v], e => exact bindE e fun n h2 e => vA1 (P := fun xs => wpAny _ _ (call _ xs []) _ Ex s) rfl rs fun x rx => vInt (P := fun x => wpAny _ _ (call _ [x] []) _ Ex s) h2 rx fun t => leafE e (call_range_1 (rng_ok (x := x) Y R rfl (Heap.get?_push_size _ rfl)))
    | [v, u], e => exact vA2 (P := fun xs => wpAny _ _ (call _ xs []) _ Ex s) rfl rs fun x y rx ry => int2_ok (P := fun x y => wpAny _ _ (call _ [x, y] []) _ Ex s) e rx ry fun i j t u e => leafE e (call_range_2 (rng_ok (x := x) Y R rfl (Heap.get?_push_size _ rfl)))
    | [v, u, w], e => exact vA3 (P := fun xs => wpAny _ _ (call _ xs []) _ Ex s) rfl rs fun x y z rx ry rz => int2_ok (P := fun x y => wpAny _ _ (call _ [x, y, z] []) _ Ex s) e rx ry fun i j t u e => bindE e fun c h3 e => ifE e fun hc e => vInt (P := fun z => wpAny _ _ (call _ [_, _, z] []) _ Ex s) h3 rz fun t3 => leafE e (by rw [hc.1]; exact call_range_3 (by decide) (rng_ok (x := x) Y R rfl (Heap.get?_push_size _ rfl)) (.inl (PyProof.noPylong_of_log2 (by decide +kernel))))
    | [], e => exact noneE e
    | _ :: _ :: _ :: _ :: _, e => exact noneE e
  | list =>
    refine bindE e fun v h1 e => vA1 (P := fun xs => wpAny _ _ (call _ xs []) _ Ex s) h1 rs fun x rx => ?_
    have seq : (seqAt v σ).bind (fun vs => newL vs σ) = some r → wpAny (model B.prog B.w) A (call (biVal .list) [x] []) (Res B φ s r.2 r.1) Ex s := fun e => bindE e fun us h2 e => vSeq (P := fun x => wpAny _ _ (call _ [x] []) _ Ex s) h2 R rx fun p ys n g ry _ => ifE e fun hz e => leafE e (wpAny_size (call_list_seq p (.inl rfl) g rfl rfl (fun h' c' hk hD hs => res_newG Y R hk hs hD ry hz _) (lim_line (by rw [VRs_length ry] at hz; exact hz))))
    cases v with
    | str z =>
      refine ifE e fun hz e => vStr (P := fun x => wpAny _ _ (call _ [x] []) _ Ex s) (a := .str z) rfl rx fun t => leafE e ?_
      refine wpAny_size (call_list_str hh ⟨z.toArray⟩ t (fun h' tk acc' c' hk hD hi hs => ?_) (lim_line (by simpa using hz)))
      obtain ⟨acc'⟩ := acc'
      refine res_newG Y R (xs := acc') hk hs hD ?_ hz tk
      have h1 : acc'.length = z.length := by simpa using hi.1
      have := vrs_chars (N := B.Z) (φ := φ) (h := s.heap) z (xs := acc') 0 (by omega) (fun j v hj => hi.2 j v (by simpa using hj))
      simpa using this
    | _ => exact seq e
  | max => exact bindE e fun v h1 e => bindE e fun w h2 e => bindE e fun p h3 e => vA1 (P := fun xs => wpAny _ _ (call _ xs []) _ Ex s) h1 rs fun x rx => vStr (P := fun x => wpAny _ _ (call _ [x] []) _ Ex s) h2 rx fun t => leafE e (vHd (P := fun w => wpAny _ _ (call _ [.str ⟨w.toArray⟩ t] []) _ Ex s) h3 (wpAny_size (max_str_ok hh fun h' tk u hk hs => res_grow Y R hk hs (vr_str' _ _ (by simp) _) tk)))
  | sum =>
    refine bindE e fun v h1 e => bindE e fun us h2 e => bindE e fun l hl e => vA1 (P := fun xs => wpAny _ _ (call _ xs []) _ Ex s) h1 rs fun x rx => vLst (P := fun x => wpAny _ _ (call _ [x] []) _ Ex s) h2 R rx fun p items n g ry _ => leafE e ?_
    have ia := intsOf_ok hl ry
    obtain ⟨ys, hy⟩ := ia.allInts.items
    refine wpAny_size (PySem.sum_intListG hh (xs := ys) ⟨_, g, rfl, n, by rw [← hy]⟩ fun h' tk t' hk hs => ?_)
    refine res_grow Y R hk hs ?_ tk
    have e1 : l = ys.toList.map (·.1) := by
      rw [← PySem.nums_intItems, ← hy]
      exact (show PySem.numsOf items.toArray.toList = l from ia.numsOf).symm
    have e2 : preSum (numAt ys) ys.size = l.foldl (· + ·) 0 := by
      rw [preSum_eq, List.take_of_length_le (by simp), ← e1, List.sum_eq_foldl]
    rw [e2]; exact vr_int _ _
  | str =>
    refine bindE e fun v h1 e => bindE e fun q h2 e => bindE e fun x hx e => ifE e fun hz e => bindE h2 fun i h3 h2 => bindE h2 fun o h4 h2 => vA1 (P := fun xs => wpAny _ _ (call _ xs []) _ Ex s) h1 rs fun xv rv => leafE e ?_
    cases v with
    | obj j => cases h3; cases o with
      | acc n us => cases h2; exact SA A Ex σ φ s _ n us x xv rm R h4 hx hz.1 hz.2 rv
      | _ => exact noneE h2
    | _ => exact noneE h3
  | _ => exact noneE e
end
end Mine
end
section -- NT2
set_option maxRecDepth 100000
set_option autoImplicit false
namespace Mine
open PySem

theorem pre_iff (p r : Cs) : (r.take p.length = p) ↔ p.isPrefixOf r = true := by
  rw [List.isPrefixOf_iff_prefix, List.prefix_iff_eq_take]
  exact eq_comm
theorem subAt_pre (y x : Cs) (i : Nat) : Builtin.Str.subAt ⟨y.toArray⟩ ⟨x.toArray⟩ i = x.isPrefixOf (y.drop i) := by
  rw [subAt_eq, Bool.eq_iff_iff, decide_eq_true_eq]
  exact pre_iff x (y.drop i)

/-! ## find -/
theorem findIn_fuel (x s : Cs) (fin : Nat) : ∀ (n m k : Nat), fin + 1 ≤ k + n → fin + 1 ≤ k + m → findIn x s n k fin = findIn x s m k fin
  | 0, 0, _, _, _ => rfl
  | 0, m + 1, k, h, _ => by unfold findIn; rw [if_neg (by omega)]
  | n + 1, 0, k, _, h => by
    show (if _ then _ else _) = _
    rw [if_neg (by omega)]; rfl
  | n + 1, m + 1, k, h1, h2 => by
    unfold findIn
    split
    · split
      · rfl
      · exact findIn_fuel x s fin n m (k + 1) (by omega) (by omega)
    · rfl
theorem findIn_out (x s : Cs) (fin : Nat) (n k : Nat) (h : ¬ k + x.length ≤ fin) : findIn x s n k fin = -1 := by
  cases n with
  | zero => rfl
  | succ n => unfold findIn; rw [if_neg h]

theorem occ_find (x p : Cs) (hi : Nat) : ∀ (n lo : Nat) (f : Nat), lo + n = hi + 1 → f ≤ lo →
    (match (forIn (m := Id) (List.range' lo n) ((#[] : Array Nat), f) (StrLaws.occBody ⟨x.toArray⟩ ⟨p.toArray⟩ hi 1)).run.1.toList with | i :: _ => (i : Int) | [] => -1) = findIn p x n lo hi
  | 0, _, _, _, _ => rfl
  | n + 1, lo, f, h, hf => by
    rw [List.range'_succ, List.forIn_cons]
    unfold findIn
    by_cases h1 : lo + p.length ≤ hi
    · rw [if_pos h1]
      by_cases h2 : p.isPrefixOf (x.drop lo) = true
      · rw [if_pos h2]
        have hb : StrLaws.occBody ⟨x.toArray⟩ ⟨p.toArray⟩ hi 1 lo ((#[] : Array Nat), f) = pure (ForInStep.yield ((#[] : Array Nat).push lo, lo + p.length)) := by
          unfold StrLaws.occBody
          rw [if_pos ⟨⟨⟨by simp, hf⟩, by simpa [Str.length] using h1⟩, by rw [subAt_pre]; exact h2⟩]
          simp [Str.length]
        rw [hb]
        have := StrLaws.occ_head_keeps ⟨x.toArray⟩ ⟨p.toArray⟩ hi 1 lo (List.range' (lo + 1) n) ((#[] : Array Nat).push lo, lo + p.length) (by simp)
        show (match (forIn (m := Id) (List.range' (lo + 1) n) ((#[] : Array Nat).push lo, lo + p.length) _).run.1.toList with | i :: _ => (i : Int) | [] => -1) = _
        generalize (forIn (m := Id) (List.range' (lo + 1) n) ((#[] : Array Nat).push lo, lo + p.length) (StrLaws.occBody ⟨x.toArray⟩ ⟨p.toArray⟩ hi 1)).run.1 = arr at this
        have h3 : arr.toList[0]? = some lo := by simpa using this
        cases hL : arr.toList with
        | nil => rw [hL] at h3; cases h3
        | cons a r => rw [hL] at h3; cases h3; rfl
      · rw [if_neg h2]
        have hb : StrLaws.occBody ⟨x.toArray⟩ ⟨p.toArray⟩ hi 1 lo ((#[] : Array Nat), f) = pure (ForInStep.yield ((#[] : Array Nat), f)) := by
          unfold StrLaws.occBody
          rw [if_neg]
          rintro ⟨_, q⟩
          rw [subAt_pre] at q; exact h2 q
        rw [hb]
        exact occ_find x p hi n (lo + 1) f (by omega) (by omega)
    · rw [if_neg h1]
      have hb : StrLaws.occBody ⟨x.toArray⟩ ⟨p.toArray⟩ hi 1 lo ((#[] : Array Nat), f) = pure (ForInStep.yield ((#[] : Array Nat), f)) := by
        unfold StrLaws.occBody
        rw [if_neg]
        rintro ⟨⟨_, q⟩, _⟩
        simp [Str.length] at q; omega
      rw [hb]
      show (match (forIn (m := Id) (List.range' (lo + 1) n) ((#[] : Array Nat), f) _).run.1.toList with | i :: _ => (i : Int) | [] => -1) = _
      rw [occ_find x p hi n (lo + 1) f (by omega) (by omega)]
      exact findIn_out p x hi n (lo + 1) (by omega)

theorem find_ok (x p : Cs) (lo hi n : Nat) (hn : hi + 1 ≤ lo + n) : (match Builtin.Str.occurrences ⟨x.toArray⟩ ⟨p.toArray⟩ lo hi 1 with | i :: _ => (i : Int) | [] => -1) = findIn p x n lo hi := by
  rw [StrLaws.occ_eq]
  by_cases h : lo ≤ hi + 1
  · rw [occ_find x p hi (hi + 1 - lo) lo lo (by omega) (Nat.le_refl _)]
    exact findIn_fuel p x hi _ _ _ (by omega) hn
  · rw [show hi + 1 - lo = 0 by omega]
    rw [findIn_out p x hi n lo (by omega)]
    rfl

/-! ## split -/
noncomputable def occF (x y : Cs) : Nat → Nat → Nat → List Nat
  | 0, _, _ => []
  | n + 1, lo, f => if f ≤ lo ∧ lo + y.length ≤ x.length ∧ y.isPrefixOf (x.drop lo) = true then lo :: occF x y n (lo + 1) (lo + y.length) else occF x y n (lo + 1) f

theorem occF_free (x y : Cs) : ∀ (n lo f f' : Nat), f ≤ lo → f' ≤ lo → occF x y n lo f = occF x y n lo f'
  | 0, _, _, _, _, _ => rfl
  | n + 1, lo, f, f', h, h' => by
    unfold occF
    by_cases c : lo + y.length ≤ x.length ∧ y.isPrefixOf (x.drop lo) = true
    · rw [if_pos ⟨h, c⟩, if_pos ⟨h', c⟩]
    · rw [if_neg (fun q => c q.2), if_neg (fun q => c q.2)]
      exact occF_free x y n (lo + 1) f f' (by omega) (by omega)
theorem occF_skip (x y : Cs) : ∀ (k n lo : Nat), occF x y (n + k) lo (lo + k) = occF x y n (lo + k) (lo + k)
  | 0, _, _ => rfl
  | k + 1, n, lo => by
    rw [show n + (k + 1) = (n + k) + 1 by omega]
    rw [occF, if_neg (by rintro ⟨q, _⟩; omega)]
    have := occF_skip x y k n (lo + 1)
    rw [show lo + 1 + k = lo + (k + 1) by omega] at this
    exact this

theorem occ_all (x y : Cs) (limit : Nat) (hl : x.length < limit) (hy : 0 < y.length) : ∀ (n lo : Nat) (st : Array Nat × Nat), lo + n = x.length + 1 → st.1.size ≤ lo →
    (forIn (m := Id) (List.range' lo n) st (StrLaws.occBody ⟨x.toArray⟩ ⟨y.toArray⟩ x.length limit)).run.1.toList = st.1.toList ++ occF x y n lo st.2
  | 0, lo, st, _, _ => by simp [occF]
  | n + 1, lo, st, h, hs => by
    rw [List.range'_succ, List.forIn_cons]
    unfold occF
    by_cases c : st.2 ≤ lo ∧ lo + y.length ≤ x.length ∧ y.isPrefixOf (x.drop lo) = true
    · rw [if_pos c]
      have hb : StrLaws.occBody ⟨x.toArray⟩ ⟨y.toArray⟩ x.length limit lo st = pure (ForInStep.yield (st.1.push lo, lo + y.length)) := by
        unfold StrLaws.occBody
        rw [if_pos ⟨⟨⟨by omega, c.1⟩, by simpa [Str.length] using c.2.1⟩, by rw [subAt_pre]; exact c.2.2⟩]
        simp [Str.length]
      rw [hb]
      show (forIn (m := Id) (List.range' (lo + 1) n) (st.1.push lo, lo + y.length) _).run.1.toList = _
      rw [occ_all x y limit hl hy n (lo + 1) _ (by omega) (by simp; omega)]
      simp
    · rw [if_neg c]
      have hb : StrLaws.occBody ⟨x.toArray⟩ ⟨y.toArray⟩ x.length limit lo st = pure (ForInStep.yield (st.1, st.2)) := by
        unfold StrLaws.occBody
        rw [if_neg]
        rintro ⟨⟨⟨_, q1⟩, q2⟩, q3⟩
        rw [subAt_pre] at q3
        exact c ⟨q1, by simpa [Str.length] using q2, q3⟩
      rw [hb]
      show (forIn (m := Id) (List.range' (lo + 1) n) (st.1, st.2) _).run.1.toList = _
      rw [occ_all x y limit hl hy n (lo + 1) _ (by omega) (by show st.1.size ≤ _; omega)]

noncomputable def partsF (x : Cs) (w : Nat) : Nat → List Nat → List Cs
  | start, [] => [x.drop start]
  | start, c :: cs => ((x.take c).drop start) :: partsF x w (c + w) cs

theorem strSub_eq (x : Cs) (i j : Nat) : Builtin.Str.strSub ⟨x.toArray⟩ i j = ⟨((x.take j).drop i).toArray⟩ := by
  unfold Builtin.Str.strSub
  simp [List.extract_eq_take_drop, List.drop_take]

theorem parts_eq (x : Cs) (w : Nat) : ∀ (cuts : List Nat) (start : Nat), ((start :: cuts.map (· + w)).zip (cuts ++ [(⟨x.toArray⟩ : Str).length])).map (fun (p : Nat × Nat) => Builtin.Str.strSub ⟨x.toArray⟩ p.1 p.2) = (partsF x w start cuts).map fun c => ⟨c.toArray⟩
  | [], start => by simp [partsF, strSub_eq, Str.length]
  | c :: cs, start => by
    have ih := parts_eq x w cs (c + w)
    simp only [List.map_cons, List.cons_append, List.zip_cons_cons, partsF] at ih ⊢
    rw [ih, strSub_eq]

theorem split_parts (x : Cs) (c : Nat) (sep : Cs) : ∀ (m lo start : Nat) (cur : Cs), lo ≤ x.length → x.length + 1 ≤ lo + m → start ≤ lo → cur.reverse = (x.take lo).drop start →
    splitOn (c :: sep) m (x.drop lo) cur = partsF x (c :: sep).length start (occF x (c :: sep) (x.length + 1 - lo) lo lo)
  | 0, lo, _, _, h1, h2, _, _ => by omega
  | m + 1, lo, start, cur, h1, h2, h3, h4 => by
    rcases Nat.lt_or_ge lo x.length with hlt | hge
    · have hd : x.drop lo = x[lo] :: x.drop (lo + 1) := List.drop_eq_getElem_cons hlt
      rw [show x.length + 1 - lo = (x.length - lo) + 1 by omega, occF]
      rw [hd, splitOn, ← hd]
      by_cases hp : (c :: sep).isPrefixOf (x.drop lo) = true
      · have hle : lo + (c :: sep).length ≤ x.length := by
          have := (List.isPrefixOf_iff_prefix.mp hp).length_le
          rw [List.length_drop] at this
          simp only [List.length_cons] at this ⊢
          omega
        rw [if_pos hp, if_pos ⟨Nat.le_refl _, hle, hp⟩, List.drop_drop, partsF, h4]
        congr 1
        have hw : 1 ≤ (c :: sep).length := by simp
        have := split_parts x c sep m (lo + (c :: sep).length) (lo + (c :: sep).length) [] hle (by omega) (Nat.le_refl _) (by simp)
        rw [this]
        congr 1
        have e := occF_skip x (c :: sep) ((c :: sep).length - 1) (x.length + 1 - (lo + (c :: sep).length)) (lo + 1)
        rw [show x.length + 1 - (lo + (c :: sep).length) + ((c :: sep).length - 1) = x.length - lo by omega, show lo + 1 + ((c :: sep).length - 1) = lo + (c :: sep).length by omega] at e
        exact e.symm
      · rw [if_neg hp, if_neg (fun q => hp q.2.2)]
        have e : (x[lo] :: cur).reverse = (x.take (lo + 1)).drop start := by
          rw [List.reverse_cons, h4, List.take_add_one, List.getElem?_eq_getElem hlt]
          rw [List.drop_append_of_le_length (by simp; omega)]
          rfl
        rw [split_parts x c sep m (lo + 1) start _ (by omega) (by omega) (by omega) e]
        congr 1
        rw [show x.length + 1 - (lo + 1) = x.length - lo by omega]
        exact occF_free x _ _ _ _ _ (Nat.le_refl _) (by omega)
    · have : lo = x.length := by omega
      subst this
      rw [List.drop_length, splitOn, h4, show x.length + 1 - x.length = 0 + 1 by omega, occF, if_neg (by rintro ⟨_, q, _⟩; simp only [List.length_cons] at q; omega), occF, partsF, List.take_length]

theorem kind_le {x y : Cs} (h : ∀ c ∈ y, c ∈ x) : Builtin.Str.strKind ⟨y.toArray⟩ ≤ Builtin.Str.strKind ⟨x.toArray⟩ := by
  unfold Builtin.Str.strKind
  simp only [List.all_toArray]
  by_cases h1 : (x.all fun c => decide (c < 256)) = true
  · rw [if_pos h1, if_pos (List.all_eq_true.mpr fun c hc => List.all_eq_true.mp h1 c (h c hc))]
    exact Nat.le_refl _
  · rw [if_neg h1]
    by_cases h2 : (x.all fun c => decide (c < 65536)) = true
    · rw [if_pos h2, if_pos (List.all_eq_true.mpr fun c hc => List.all_eq_true.mp h2 c (h c hc))]
      split <;> omega
    · rw [if_neg h2]
      split
      · omega
      · split <;> omega

theorem occF_none (x y : Cs) (h : ∀ i, ¬ (i + y.length ≤ x.length ∧ y.isPrefixOf (x.drop i) = true)) : ∀ (n lo f : Nat), occF x y n lo f = []
  | 0, _, _ => rfl
  | n + 1, lo, f => by rw [occF, if_neg (fun q => h lo q.2)]; exact occF_none x y h n _ _

theorem split_ok (x : Cs) (c : Nat) (sep : Cs) : Txt.split ⟨x.toArray⟩ ⟨(c :: sep).toArray⟩ = (splitOn (c :: sep) (x.length + 1) x []).map fun z => (⟨z.toArray⟩ : Str) := by
  have main := split_parts x c sep (x.length + 1) 0 0 [] (Nat.zero_le _) (by omega) (Nat.le_refl _) (by simp)
  rw [List.drop_zero, Nat.sub_zero] at main
  have ho : Builtin.Str.occurrences ⟨x.toArray⟩ ⟨(c :: sep).toArray⟩ 0 (⟨x.toArray⟩ : Str).length ((⟨x.toArray⟩ : Str).length + 1) = occF x (c :: sep) (x.length + 1) 0 0 := by
    rw [StrLaws.occ_eq]
    have := occ_all x (c :: sep) (x.length + 1) (by omega) (by simp) (x.length + 1) 0 (#[], 0) (by omega) (by simp)
    simpa [Str.length] using this
  unfold Txt.split
  rw [ho, main]
  have pe : Builtin.Str.partsBetween ⟨x.toArray⟩ (occF x (c :: sep) (x.length + 1) 0 0) (⟨(c :: sep).toArray⟩ : Str).length = (partsF x (c :: sep).length 0 (occF x (c :: sep) (x.length + 1) 0 0)).map fun z => (⟨z.toArray⟩ : Str) := by
    unfold Builtin.Str.partsBetween
    rw [show (⟨(c :: sep).toArray⟩ : Str).length = (c :: sep).length by simp [Str.length]]
    exact parts_eq x (c :: sep).length _ 0
  split
  · rename_i hc
    have : occF x (c :: sep) (x.length + 1) 0 0 = [] := by
      refine occF_none _ _ (fun i q => ?_) _ _ _
      rw [Bool.or_eq_true, decide_eq_true_eq, decide_eq_true_eq] at hc
      rcases hc with hc | hc
      · simp [Str.length] at hc
        have := q.1
        simp at this
        omega
      · refine absurd hc (Nat.not_lt.mpr (kind_le fun z hz => ?_))
        exact List.mem_of_mem_drop ((List.isPrefixOf_iff_prefix.mp q.2).subset hz)
    rw [this]; simp [partsF]
  · split
    · rename_i hc
      rw [List.isEmpty_iff.mp hc]; simp [partsF]
    · exact pe
end Mine
end
section -- NN2
set_option maxRecDepth 100000
set_option maxHeartbeats 4000000
set_option autoImplicit false
namespace Mine
open PySem Builtin Builtin.Str

theorem gives_find4 (x y : Str) (i j : Int) (t u v q : Tok) : Gives («str.find» ⟨[.str x t, .str y u, .int i v, .int j q], []⟩) (.int (match occurrences x y (fromIndex x.length i) (min (fromIndex x.length j) x.length) 1 with | k :: _ => (k : Int) | [] => -1)) := by
  show Gives (match occurrences x y (fromIndex x.length i) (min (fromIndex x.length j) x.length) 1 with | k :: _ => retInt k | [] => (do rule "str.find.not-found"; retInt (-1))) _
  cases occurrences x y (fromIndex x.length i) (min (fromIndex x.length j) x.length) 1 with
  | nil => exact .rule (.of_eq rfl)
  | cons k _ => exact .of_eq rfl

section
variable {prog : Program} {w : World} {A : Around} {E : Value → Shared → Prop} {s : Shared} {Q : Value → Shared → Prop}

theorem find4_call {x p : Cs} {a b : Int} {t u v q : Tok} (ha : 0 ≤ a) (hb : 0 ≤ b) (hb2 : b ≤ x.length) (hq : Q (.int (findIn p x (x.length + 1) a.toNat b.toNat) s.toks) { s with toks := s.toks + 1 }) :
    wpAny (model prog w) A (call (.builtin "str.find") [.str ⟨x.toArray⟩ t, .str ⟨p.toArray⟩ u, .int a v, .int b q]) Q E s := by
  have h1 : fromIndex (⟨x.toArray⟩ : Str).length a = a.toNat := by unfold fromIndex; rw [if_neg (by omega)]; omega
  have h2 : fromIndex (⟨x.toArray⟩ : Str).length b = b.toNat := by unfold fromIndex; rw [if_neg (by omega)]; omega
  have h3 : min b.toNat (⟨x.toArray⟩ : Str).length = b.toNat := by simp [Str.length]; omega
  refine call_gives F.slot_str_find (typeIs_str _ _ _) F.entry_str_find (F.args_str_find_4 _ _ _ _) (gives_find4 ⟨x.toArray⟩ ⟨p.toArray⟩ a b t u v q) ?_
  rw [h1, h2, h3]
  have e := find_ok x p a.toNat b.toNat (x.length + 1) (by omega)
  revert e
  cases occurrences ⟨x.toArray⟩ ⟨p.toArray⟩ a.toNat b.toNat 1 with
  | nil => intro e; rw [← e] at hq; exact hq
  | cons k r => intro e; rw [← e] at hq; exact hq

theorem split_call {x : Cs} {c : Nat} {sep : Cs} {t u : Tok} (hl : x.length ≤ LIM) (hq : ∀ (l : List (Str × Tok)) tk, l.map (·.1) = (splitOn (c :: sep) (x.length + 1) x []).map (fun z => (⟨z.toArray⟩ : Str)) → Q (.ref s.heap.objs.size) { s with heap := s.heap.push (lstO (strValues l).toArray 0), toks := tk }) :
    wpAny (model prog w) A (call (.builtin "str.split") [.str ⟨x.toArray⟩ t, .str ⟨(c :: sep).toArray⟩ u]) Q E s := by
  have hy : ((⟨(c :: sep).toArray⟩ : Str).length == 0) = false := by simp [Str.length]
  have hsz : (⟨x.toArray⟩ : Str).length + 2 ≤ sizeLine := by
    have : x.length ≤ 1000000 := hl
    rw [sizeLine_eq]; simp [Str.length]; omega
  have hn : (partsBetween ⟨x.toArray⟩ (occurrences ⟨x.toArray⟩ ⟨(c :: sep).toArray⟩ 0 (⟨x.toArray⟩ : Str).length ((⟨x.toArray⟩ : Str).length + 1)) (⟨(c :: sep).toArray⟩ : Str).length).length ≤ sizeLine := by
    have e1 := StrLaws.occ_length_le ⟨x.toArray⟩ ⟨(c :: sep).toArray⟩ 0 (⟨x.toArray⟩ : Str).length ((⟨x.toArray⟩ : Str).length + 1)
    rw [length_partsBetween]; omega
  have so := split_ok x c sep
  rw [← so] at hq
  cases h1 : (decide ((⟨x.toArray⟩ : Str).length < (⟨(c :: sep).toArray⟩ : Str).length) || decide (strKind ⟨x.toArray⟩ < strKind ⟨(c :: sep).toArray⟩))
  · cases hf : (occurrences ⟨x.toArray⟩ ⟨(c :: sep).toArray⟩ 0 (⟨x.toArray⟩ : Str).length ((⟨x.toArray⟩ : Str).length + 1)).isEmpty
    · refine call_meets F.slot_str_split (typeIs_str _ _ _) F.entry_str_split (F.args_str_split_2 _ _) (meets_str_split_sep _ _ t u h1 hy hf (by omega) hn) ?_
      show wants Q E _ { s with toks := _, heap := s.heap.push { cls := .type "list", data := .seq (strsFrom s.toks (partsBetween ⟨x.toArray⟩ (occurrences ⟨x.toArray⟩ ⟨(c :: sep).toArray⟩ 0 (⟨x.toArray⟩ : Str).length ((⟨x.toArray⟩ : Str).length + 1)) (⟨(c :: sep).toArray⟩ : Str).length)).toArray } }
      rw [strsFrom_eq]
      exact hq (numbered s.toks _) _ ((numbered_texts _ _).trans ((if_neg (ne_true_of_eq_false h1)).trans (if_neg (ne_true_of_eq_false hf))).symm)
    · exact call_meets F.slot_str_split (typeIs_str _ _ _) F.entry_str_split (F.args_str_split_2 _ _) (meets_str_split_not_found _ _ t u h1 hy hf)
        (hq [(⟨x.toArray⟩, t)] s.toks ((if_neg (ne_true_of_eq_false h1)).trans (if_pos hf)).symm)
  · exact call_meets F.slot_str_split (typeIs_str _ _ _) F.entry_str_split (F.args_str_split_2 _ _) (meets_str_split_cannot_occur _ _ t u h1)
      (hq [(⟨x.toArray⟩, t)] s.toks (if_pos h1).symm)
end

theorem vrs_texts {N : Zone} {φ : Phi} {h : Heap} : ∀ (l : List (Str × Tok)) (z : List Cs), l.map (·.1) = z.map (fun c => (⟨c.toArray⟩ : Str)) → VRs N φ h (z.map V.str) (strValues l)
  | [], [], _ => VRs_nil
  | [], _ :: _, e => by simp at e
  | _ :: _, [], e => by simp at e
  | p :: l, c :: z, e => by
    simp only [List.map_cons, List.cons.injEq] at e
    exact VRs_cons (vr_str' _ _ e.1 _) (vrs_texts l z e.2)
end Mine
end
section -- NO
set_option maxRecDepth 100000
set_option autoImplicit false
namespace Mine
open PySem

theorem methOf_name {n : Str} {m : Mt} (h : methOf n = some m) : n = nameOf m := beq_iff_eq.mp (List.find?_some (p := fun m => n == nameOf m) h)

/-! ## texts -/
theorem joinL_len (sep : Cs) : ∀ l : List Cs, (l.map List.length).sum + l.length * sep.length ≤ (joinL sep l).length + sep.length
  | [] => by simp [joinL]
  | [x] => by simp [joinL]
  | x :: y :: r => by
    have ih := joinL_len sep (y :: r)
    simp only [joinL, List.length_append, List.map_cons, List.sum_cons, List.length_cons] at ih ⊢
    simp only [Nat.add_mul, Nat.one_mul] at ih ⊢
    omega

section
variable {B : Base} {C : Oracle} {d : Nat} {A : Around} {Ex : Value → Shared → Prop} {σ σ' σ1 : AH} {φ φ' : Phi} {s s' : Shared}

set_option genInjectivity false in
set_option genSizeOf false in
structure AccOps (B : Base) where
  fn : Mt → Option Addr
  get : ∀ {m f}, fn m = some f → ∀ (A : Around) (Ex : Value → Shared → Prop) (s : Shared) (pl : Sem Bool) (Q : Value × List Value → Shared → Prop) (σ : AH) (φ : Phi) (i : Nat) (n : Int) (vs : List V) (p : Addr × Addr), A.handled = none → Rep B σ φ s.heap → σ[i]? = some (.acc n vs) → φ[i]? = some p →
    Q (.ref f, [.ref p.1]) s → wpAny (model B.prog B.w) A (getMethod (.ref p.1) (nameOf m) pl) Q Ex s
  keeper : ∀ {m f}, fn m = some f → ∀ h, (∀ a o, B.K.lookup a = some o → h.get? a = some o) → ∃ k, (k = Keeper.frame ∨ k = Keeper.machine ∨ k = Keeper.boundFrame) ∧ PySem.W.Looks (model B.prog B.w) h (keeperOf (.ref f)) k
  has : ∀ {m} {i : Nat} {n : Int} {vs args : List V} {σ : AH} {r : V × AH}, accM i n vs m args σ = some r → ∃ f, fn m = some f
  call : ∀ {m f}, fn m = some f → ∀ (A : Around) (Ex : Value → Shared → Prop) (s : Shared) (σ : AH) (r : V × AH) (φ : Phi) (i : Nat) (n : Int) (vs args : List V) (p : Addr × Addr) (xs : List Value), Room A 0 → Rep B σ φ s.heap → σ[i]? = some (.acc n vs) → φ[i]? = some p →
    accM i n vs m args σ = some r → VRs B.Z φ s.heap args xs → wpAny (model B.prog B.w) A (PySem.call (.ref f) (.ref p.1 :: xs) []) (Res B φ s r.2 r.1) Ex s
  str : StrAcc B

/-- the function that a method name finds, by the kind of the object -/
noncomputable def strFn (m : Mt) : Option Value := match m with
  | .join => some (.builtin "str.join")
  | .split => some (.builtin "str.split")
  | .startswith => some (.builtin "str.startswith")
  | .endswith => some (.builtin "str.endswith")
  | .find => some (.builtin "str.find")
  | .count => some (.builtin "str.count")
  | _ => none
noncomputable def lstFn (m : Mt) : Option Value := match m with
  | .append => some (.builtin "list.append")
  | .pop => some (.builtin "list.pop")
  | .extend => some (.builtin "list.extend")
  | _ => none
noncomputable def methFn (AO : AccOps B) (k : Nat) (m : Mt) : Option Value := match k with
  | 1 => strFn m
  | 2 => lstFn m
  | 3 => (AO.fn m).bind fun f => some (.ref f)
  | _ => none
theorem kind_at {i : Nat} {o : O} (h : σ[i]? = some o) : kindV (.obj i) σ = kindO o := by show (match σ[i]? with | some o => kindO o | none => 0) = _; rw [h]

theorem str_fn {z : Cs} {m : Mt} {args : List V} {r : V × AH} (e : strM z m args σ = some r) : ∃ f, strFn m = some f := by
  cases m <;> first | exact ⟨_, rfl⟩ | exact noneE e
theorem lst_fn {i : Nat} {vs : List V} {m : Mt} {args : List V} {r : V × AH} (e : lstM i vs m args σ = some r) : ∃ f, lstFn m = some f := by
  cases m <;> first | exact ⟨_, rfl⟩ | exact noneE e
theorem meth_fn (AO : AccOps B) {o : V} {m : Mt} {args : List V} {r : V × AH} (e : callM o m args σ = some r) : ∃ f, methFn AO (kindV o σ) m = some f := by
  cases o with
  | str x => exact str_fn e
  | obj i =>
    refine bindE e fun ob h e => ?_
    rw [kind_at h]
    cases ob with
    | list vs => exact lst_fn e
    | acc n vs => exact (AO.has e).elim fun f hf => ⟨.ref f, by show (AO.fn m).bind _ = _; rw [hf]; rfl⟩
    | dict _ => exact noneE e
  | _ => exact noneE e

theorem get_str {z : Cs} {t : Tok} {m : Mt} {f : Value} {pl : Sem Bool} {Q : Value × List Value → Shared → Prop} (hf : strFn m = some f) (k : Q (f, [.str ⟨z.toArray⟩ t]) s) : wpAny (model B.prog B.w) A (getMethod (.str ⟨z.toArray⟩ t) (nameOf m) pl) Q Ex s := by
  cases m with
  | join => cases hf; show wpAny _ _ (getMethod _ ("join" : Str) pl) _ _ _; with_reducible exact getMethod_builtin (typeIs_str _ _ _) F.plainAttrs_str F.slot_str_join F.type_str_join GM.noRef k
  | split => cases hf; show wpAny _ _ (getMethod _ ("split" : Str) pl) _ _ _; with_reducible exact getMethod_builtin (typeIs_str _ _ _) F.plainAttrs_str F.slot_str_split F.type_str_split GM.noRef k
  | startswith => cases hf; show wpAny _ _ (getMethod _ ("startswith" : Str) pl) _ _ _; with_reducible exact getMethod_builtin (typeIs_str _ _ _) F.plainAttrs_str F.slot_str_startswith F.type_str_startswith GM.noRef k
  | endswith => cases hf; show wpAny _ _ (getMethod _ ("endswith" : Str) pl) _ _ _; with_reducible exact getMethod_builtin (typeIs_str _ _ _) F.plainAttrs_str F.slot_str_endswith F.type_str_endswith GM.noRef k
  | find => cases hf; show wpAny _ _ (getMethod _ ("find" : Str) pl) _ _ _; with_reducible exact getMethod_builtin (typeIs_str _ _ _) F.plainAttrs_str F.slot_str_find F.type_str_find GM.noRef k
  | count => cases hf; show wpAny _ _ (getMethod _ ("count" : Str) pl) _ _ _; with_reducible exact getMethod_builtin (typeIs_str _ _ _) F.plainAttrs_str F.slot_str_count F.type_str_count GM.noRef k
  | _ => exact noneE hf
theorem get_lst {p : Addr} {xs : List Value} {n : Nat} {m : Mt} {f : Value} {pl : Sem Bool} {Q : Value × List Value → Shared → Prop} (h1 : s.heap.get? p = some (lstO xs.toArray n)) (hf : lstFn m = some f) (k : Q (f, [.ref p]) s) : wpAny (model B.prog B.w) A (getMethod (.ref p) (nameOf m) pl) Q Ex s := by
  have ty : s.TypeIs (.ref p) "list" := ⟨_, h1, rfl⟩
  have hd : ∀ a, Value.ref p = .ref a → ∃ o, s.heap.get? a = some o ∧ o.dict = Option.none := fun a e => by cases e; exact ⟨_, h1, rfl⟩
  cases m with
  | append => cases hf; show wpAny _ _ (getMethod _ ("append" : Str) pl) _ _ _; with_reducible exact getMethod_builtin ty F.plainAttrs_list F.slot_list_append F.type_list_append hd k
  | pop => cases hf; show wpAny _ _ (getMethod _ ("pop" : Str) pl) _ _ _; with_reducible exact getMethod_builtin ty F.plainAttrs_list F.slot_list_pop F.type_list_pop hd k
  | extend => cases hf; show wpAny _ _ (getMethod _ ("extend" : Str) pl) _ _ _; with_reducible exact getMethod_builtin ty F.plainAttrs_list F.slot_list_extend F.type_list_extend hd k
  | _ => exact noneE hf
theorem get_ok (AO : AccOps B) (hh : A.handled = none) {o : V} {m : Mt} {x f : Value} {pl : Sem Bool} {Q : Value × List Value → Shared → Prop} (hf : methFn AO (kindV o σ) m = some f) (R : Rep B σ φ s.heap) (r : VR B.Z φ s.heap o x)
    (k : Q (f, [x]) s) : wpAny (model B.prog B.w) A (getMethod x (nameOf m) pl) Q Ex s := by
  cases o with
  | str z => unfold VR at r; obtain ⟨t, rfl⟩ := r; exact get_str hf k
  | obj i =>
    unfold VR at r; obtain ⟨p, hp, rfl⟩ := r
    obtain ⟨ob, hi, q⟩ := R.back hp
    rw [kind_at hi] at hf
    cases ob with
    | list vs => exact lE (o := .list vs) rfl q fun xs n _ g _ _ => get_lst g hf k
    | acc n vs => exact bindE hf fun g hg e => AO.get hg A Ex s pl Q σ φ i n vs p hh R hi hp (by cases e; exact k)
    | dict _ => exact noneE hf
  | _ => exact noneE hf

theorem lim_index {k : Int} {n j : Nat} (h : place k n = some j) (hn : n ≤ LIM) : Builtin.List.listFitsIndex k = true := by
  have := place_lim h hn
  unfold Builtin.List.listFitsIndex
  simp
  omega
theorem mapSeq_lst (f : Array Value → Array Value) (xs : Array Value) (n : Nat) : ∃ n', Obj.mapSeq f (lstO xs n) = lstO (f xs) n' := ⟨_, rfl⟩
theorem erase_arr (xs : List Value) (k : Nat) : xs.toArray.eraseIdxIfInBounds k = (xs.eraseIdx k).toArray := by
  simp [Array.eraseIdxIfInBounds]
  intro h; exact (List.eraseIdx_of_length_le h).symm
theorem erase_last {α : Type} (xs : List α) : xs.eraseIdx (xs.length - 1) = xs.dropLast := by
  rw [List.eraseIdx_eq_take_drop_succ, List.dropLast_eq_take]
  cases xs with
  | nil => rfl
  | cons x xs => simp

/-- a list of ours turned in place -/
theorem list_put (Y : Sys B) (R : Rep B σ φ s.heap) {i : Nat} {p : Addr × Addr} {h' : Heap} {us : List V} {ys : List Value} {c : Nat} {v : V} {x : Value} {vs0 : List V} (hi : σ[i]? = some (.list vs0)) (hp : φ[i]? = some p)
    (sb : Heap.SameBut p.1 s.heap h') (hg : h'.get? p.1 = some (lstO ys.toArray c)) (r : VRs B.Z φ s.heap us ys) (hz : us.length ≤ LIM) (rv : VR B.Z φ s.heap v x) :
    Res B φ s (σ.set i (.list us)) v x { s with heap := h' } := by
  obtain ⟨p', hp', e2, items, n, h1, _⟩ := R.at_ hi
  rw [hp] at hp'; cases hp'
  have kp : Kp B.tabs [p.1, p.2] s.heap h' := .sameBut sb (List.mem_cons_self ..)
  have S : Safe B.Z [p.1, p.2] s.heap := fun a ha => R.safe a (by
    have m1 : p.1 ∈ addrs φ := mem_addrs.mpr ⟨p, List.mem_of_getElem? hp, .inl rfl⟩
    have m2 : p.2 ∈ addrs φ := mem_addrs.mpr ⟨p, List.mem_of_getElem? hp, .inr rfl⟩
    rcases List.mem_cons.mp ha with rfl | ha
    · exact m1
    · rw [List.mem_singleton.mp ha]; exact m2)
  have vk : Vk B.Z φ s.heap B.Z φ h' := Vk.of kp S (pre_refl ..)
  have st : St B φ s φ { s with heap := h' } := ⟨pre_refl .., kp.mono (fun b hb => .inl (by
    have m1 : p.1 ∈ addrs φ := mem_addrs.mpr ⟨p, List.mem_of_getElem? hp, .inl rfl⟩
    have m2 : p.2 ∈ addrs φ := mem_addrs.mpr ⟨p, List.mem_of_getElem? hp, .inr rfl⟩
    rcases List.mem_cons.mp hb with rfl | hb
    · exact m1
    · rw [List.mem_singleton.mp hb]; exact m2)), rfl, id⟩
  exact ⟨φ, st, R.put Y.ok hp kp ⟨e2, ys, c, hg, VRs_mono vk _ r, hz⟩, VR_mono vk _ rv⟩

theorem lstM_ok (Y : Sys B) {i : Nat} {vs : List V} {m : Mt} {args : List V} {r : V × AH} {f : Value} {p : Addr × Addr} {xs items : List Value} {n : Nat} (e : lstM i vs m args σ = some r) (hf : lstFn m = some f) (R : Rep B σ φ s.heap) (hi : σ[i]? = some (.list vs)) (hp : φ[i]? = some p) (h1 : s.heap.get? p.1 = some (lstO items.toArray n)) (r1 : VRs B.Z φ s.heap vs items) (hz : vs.length ≤ LIM) (rs : VRs B.Z φ s.heap args xs) :
    wpAny (model B.prog B.w) A (call f (.ref p.1 :: xs) []) (Res B φ s r.2 r.1) Ex s := by
  have hl := VRs_length r1
  have hs : items.toArray.size ≤ sizeLine := lim_line (by rw [hl] at hz; exact hz)
  have pop : ∀ {j : Nat} {v : V} {y : Value}, VR B.Z φ s.heap v y → some (v, σ.set i (.list (vs.eraseIdx j))) = some r → Res B φ s r.2 r.1 y { s with heap := s.heap.update p.1 (Obj.mapSeq fun xs => xs.eraseIdxIfInBounds j) } := fun {j} {v} {y} ry e => by
    cases e
    obtain ⟨n', hn'⟩ := mapSeq_lst (fun xs => xs.eraseIdxIfInBounds j) items.toArray n
    refine list_put Y R hi hp (Heap.SameBut.update ..) (ys := items.eraseIdx j) (c := n') ?_ (VRs_erase _ r1) (Nat.le_trans (List.length_eraseIdx_le ..) hz) ry
    rw [Heap.get?_update_self _ h1 (by rw [hn']; rfl), hn', erase_arr]
  cases m with
  | append =>
    cases hf
    refine bindE e fun v ha e => ifE e fun hlt e => vA1 (P := fun xs => wpAny _ _ (call _ (_ :: xs) []) _ Ex s) ha rs fun y ry => leafE e ?_
    refine wpAny_list_append_plain (items := items.toArray) ⟨n, h1⟩ (fun h' hp' sb => ?_) hs
    obtain ⟨n', hp'⟩ := hp'
    exact list_put Y R hi hp sb (ys := items ++ [y]) (c := n') (by rw [hp']; simp) (VRs_append r1 (VRs_one ry)) (by simp; omega) vr_none
  | pop =>
    cases hf
    cases args with
    | nil =>
      refine bindE e fun u hu e => vA0 (P := fun xs => wpAny _ _ (call _ (_ :: xs) []) _ Ex s) rs ?_
      rw [List.getLast?_eq_getElem?] at hu
      obtain ⟨y, hy, ry⟩ := VRs_get r1 hu
      rw [hl] at hy
      refine call_meets F.slot_list_pop ⟨_, h1, rfl⟩ F.entry_list_pop (F.args_list_pop_1 _) (MeetsSeq.list_pop_last p.1 items.toArray n y (by simpa using hy) hs) ⟨h1, pop ry ?_⟩
      rw [show items.toArray.size = vs.length from hl.symm, erase_last]; exact e
    | cons w ws =>
      refine bindE e fun v ha e => bindE e fun k hk e => bindE e fun j hj e => bindE e fun u hu e => vA1 (P := fun xs => wpAny _ _ (call _ (_ :: xs) []) _ Ex s) ha rs fun y ry => vInt (P := fun y => wpAny _ _ (call _ [_, y] []) _ Ex s) hk ry fun t => ?_
      obtain ⟨y, hy, ry⟩ := VRs_get r1 hu
      exact call_meets F.slot_list_pop ⟨_, h1, rfl⟩ F.entry_list_pop (F.args_list_pop_2 _ _) (MeetsSeq.list_pop_at p.1 items.toArray n _ t j y (lim_index hj hz) (by rw [place_eq, hl] at hj; simpa using hj) (by simpa using hy) hs) ⟨h1, pop ry e⟩
  | extend =>
    cases hf
    refine bindE e fun v ha e => bindE e fun j hj e => nifE e fun hij e => bindE e fun us hu e => ifE e fun hlen e => vA1 (P := fun xs => wpAny _ _ (call _ (_ :: xs) []) _ Ex s) ha rs fun y ry => vObj (P := fun y => wpAny _ _ (call _ [_, y] []) _ Ex s) hj ry fun q hq => list_at R hq hu fun items2 n2 _ g1 g2 gz => leafE e ?_
    have hl2 := VRs_length g2
    have hd : ¬(!items.toArray.isEmpty && Builtin.List.listTooLong (items.toArray.size + items2.toArray.size)) = true := by
      have := lim_line hlen
      unfold Builtin.List.listTooLong
      simp; omega
    refine call_meets F.slot_list_extend ⟨_, h1, rfl⟩ F.entry_list_extend (F.args_list_extend_2 _ _) (AutoSeq1.list_extend_list_list_0 p.1 items.toArray n q.1 items2.toArray n2 hd hs (by have := lim_line hlen; simp; omega)) ⟨h1, g1, ?_⟩
    obtain ⟨n', hn'⟩ := mapSeq_lst (fun xs => xs ++ items2.toArray) items.toArray n
    refine list_put Y R hi hp (Heap.SameBut.update ..) (ys := items ++ items2) (c := n') ?_ (VRs_append r1 g2) (by simp; omega) vr_none
    rw [Heap.get?_update_self _ h1 (by rw [hn']; rfl), hn']; simp
  | _ => exact noneE hf
theorem strM_ok (Y : Sys B) {z : Cs} {t : Tok} {m : Mt} {args : List V} {r : V × AH} {f : Value} {xs : List Value} (e : strM z m args σ = some r) (hf : strFn m = some f) (R : Rep B σ φ s.heap) (rs : VRs B.Z φ s.heap args xs) :
    wpAny (model B.prog B.w) A (call f (.str ⟨z.toArray⟩ t :: xs) []) (Res B φ s r.2 r.1) Ex s := by
  cases m with
  | join =>
    cases hf
    refine bindE e fun v ha e => bindE e fun vs hv e => bindE e fun l hl e => ifE e fun hlen e => vA1 (P := fun xs => wpAny _ _ (call _ (_ :: xs) []) _ Ex s) ha rs fun y ry => vLst (P := fun y => wpAny _ _ (call _ [_, y] []) _ Ex s) hv R ry fun p items n g r1 hz => leafE e ?_
    have hb := joinL_len z l
    refine PyProof.Rows.join_list (items := items.toArray) ⟨_, g, rfl, n, rfl⟩ (strsOf_ok hl r1) ?_ fun t' k => ?_
    · simp only [List.map_map, List.length_map, Str.length]
      have : (List.map ((fun x : Str => x.cps.size) ∘ fun c : Cs => (⟨c.toArray⟩ : Str)) l) = l.map List.length := by apply List.map_congr_left; intro a _; simp
      rw [this]; simp only [LIM] at hlen; simp; omega
    · rw [join_ok]; exact res_here R (vr_str _ _) _
  | split => cases hf; exact bindE e fun v ha e => bindE e fun w hw e => bindE e fun q hq e => ifE e fun hlen e => vA1 (P := fun xs => wpAny _ _ (call _ (_ :: xs) []) _ Ex s) ha rs fun y ry => vStr (P := fun y => wpAny _ _ (call _ [_, y] []) _ Ex s) hw ry fun u => vHd (P := fun w => wpAny _ _ (call _ [_, .str ⟨w.toArray⟩ u] []) _ Ex s) hq (ifE e fun hz e => leafE e (split_call hlen fun l tk hl => res_new Y R (vrs_texts l _ hl) hz tk))
  | startswith => cases hf; exact bindE e fun v ha e => bindE e fun w hw e => vA1 (P := fun xs => wpAny _ _ (call _ (_ :: xs) []) _ Ex s) ha rs fun y ry => vStr (P := fun y => wpAny _ _ (call _ [_, y] []) _ Ex s) hw ry fun u => leafE e (SC.startswith (by rw [starts_ok]; exact res_here' R (vr_bool _)))
  | endswith => cases hf; exact bindE e fun v ha e => bindE e fun w hw e => vA1 (P := fun xs => wpAny _ _ (call _ (_ :: xs) []) _ Ex s) ha rs fun y ry => vStr (P := fun y => wpAny _ _ (call _ [_, y] []) _ Ex s) hw ry fun u => leafE e (SC.endswith (by rw [ends_ok]; exact res_here' R (vr_bool _)))
  | find => cases hf; exact bindE e fun v ha e => bindE e fun w hw e => vA3 (P := fun xs => wpAny _ _ (call _ (_ :: xs) []) _ Ex s) ha rs fun y y1 y2 ry r1 r2 => vStr (P := fun y => wpAny _ _ (call _ [_, y, y1, y2] []) _ Ex s) hw ry fun u => int2_ok (P := fun y1 y2 => wpAny _ _ (call _ [_, _, y1, y2] []) _ Ex s) e r1 r2 fun a b u1 u2 e => ifE e fun hab e => leafE e (find4_call hab.1 hab.2.1 hab.2.2 (res_here R (vr_int _ _) _))
  | count => cases hf; exact bindE e fun v ha e => bindE e fun w hw e => bindE e fun c hc e => vA1 (P := fun xs => wpAny _ _ (call _ (_ :: xs) []) _ Ex s) ha rs fun y ry => vStr (P := fun y => wpAny _ _ (call _ [_, y] []) _ Ex s) hw ry fun u => vC (P := fun w => wpAny _ _ (call _ [_, .str ⟨w.toArray⟩ u] []) _ Ex s) hc (leafE e (SC.count (by rw [count_ok]; exact res_here R (vr_int _ _) _)))
  | _ => exact noneE hf
theorem callM_ok (Y : Sys B) (AO : AccOps B) (rm : Room A 0) {o : V} {m : Mt} {args : List V} {r : V × AH} {x f : Value} {xs : List Value} (e : callM o m args σ = some r) (hf : methFn AO (kindV o σ) m = some f) (R : Rep B σ φ s.heap) (ro : VR B.Z φ s.heap o x) (rs : VRs B.Z φ s.heap args xs) :
    wpAny (model B.prog B.w) A (call f (x :: xs) []) (Res B φ s r.2 r.1) Ex s := by
  cases o with
  | str z => unfold VR at ro; obtain ⟨t, rfl⟩ := ro; exact strM_ok Y e hf R rs
  | obj i =>
    refine bindE e fun ob hi e => ?_
    unfold VR at ro; obtain ⟨p, hp, rfl⟩ := ro
    rw [kind_at hi] at hf
    cases ob with
    | list vs =>
      obtain ⟨p', hp', q⟩ := R.at_ hi
      cases hp.symm.trans hp'
      exact lE (o := .list vs) rfl q fun items n _ g r1 hz => lstM_ok Y e hf R hi hp g r1 hz rs
    | acc n vs => exact bindE hf fun g hg hf => by cases hf; exact AO.call hg A Ex s σ r φ i n vs args p xs rm R hi hp e rs
    | dict _ => exact noneE e
  | _ => exact noneE e
end
end Mine
end
section -- NP
set_option maxRecDepth 100000
set_option autoImplicit false
namespace Mine
open PySem

section
variable {B : Base} {C : Oracle} {d : Nat} {A : Around} {Ex : Value → Shared → Prop} {σ σ' σ1 : AH} {φ φ' : Phi} {s s' : Shared} {sc cs : Scope} {ren ren' : Ren} {nx nx' : Nat} {env : Env} {loc : Loc}

theorem plainArgs {es : List Expr} {es' : List Mine.E} (pos : Pos) (q : Snd2 B C d sc ren nx es es') : (backTo pos (starEach es env)).any (·.1) = false := by
  induction q with
  | nil => rfl
  | cons q1 _ ih => rw [starEach_cons q1.star]; simpa [backTo] using ih

theorem callWith_ok {f : Value} {first : List Value} {pos : Pos} {es : List Expr} {es' : List Mine.E} {P : Heap → Prop} {r : List Mine.V × AH} (q : Snd2 B C d sc ren nx es es')
    (hk : ∀ h, P h → ∃ k, (k = Keeper.frame ∨ k = Keeper.machine ∨ k = Keeper.boundFrame) ∧ PySem.W.Looks (model B.prog B.w) h (keeperOf f) k)
    (h : evs C es' loc σ = some r) (K : At B d sc ren nx A env loc σ φ s) {Q : Value → Shared → Prop}
    (k : ∀ φ' s' xs, St B φ s φ' s' → At B d sc ren nx A env loc r.2 φ' s' → VRs B.Z φ' s'.heap r.1 xs → P s'.heap ∧ wpAny (model B.prog B.w) A (call f (first ++ xs) []) Q Ex s') :
    wpAny (model B.prog B.w) A (callWith pos f first (backTo pos (starEach es env)) (backToKw pos (keywordEach [] env))) Q Ex s := by
  refine PySem.W.callWith_of (P := P) (by rw [plainArgs pos q]; rfl) hk ?_
  show wpAny _ _ (evalArgs f true (backTo pos (starEach es env)) []) _ _ _
  cases q with
  | nil =>
    cases h
    exact PyProof.Rows.evalArgs_nil3 (k φ s [] (St.refl ..) K VRs_nil)
  | cons q1 q2 =>
    have main : wpAny (model B.prog B.w) A (spliced (backTo pos (starEach _ env))) (fun xs s' => P s'.heap ∧ wpAny (model B.prog B.w) A (call f (first ++ xs) []) Q Ex s') Ex s :=
      ResL.bind (args_ok pos (.cons q1 q2) h K) fun φ' s' xs st R' r => k φ' s' xs st (K.step st R') r
    rw [starEach_cons q1.star] at main ⊢
    exact Calls.evalArgs_plain main

/-- the scope of a comprehension -/
structure CScope (sc cs : Scope) (ren : Ren) (nx : Nat) (ren' : Ren) : Prop where
  hk : cs.kind = .function
  nd : (cs.names.map (·.1)).Nodup
  hf : (cs.names.all fun p => p.2 != .free || sc.names.lookup p.1 == some .cell || sc.names.lookup p.1 == some .free) = true
  hr : innerRen ren cs.names nx = some ren'
theorem CScope.of (h : compScope sc cs = true) (hr : innerRen ren cs.names nx = some ren') : CScope sc cs ren nx ren' := by
  unfold compScope at h
  rw [Bool.and_eq_true, Bool.and_eq_true] at h
  exact ⟨of_decide_eq_true h.1.1, of_decide_eq_true h.1.2, h.2, hr⟩
/-- the frame of a comprehension, behind it -/
structure CEnd (φ' : Phi) (s s' : Shared) (Cc : Addr) : Prop where
  off : Cc ∉ addrs φ'
  ge : s.heap.objs.size ≤ Cc
  ns : ∃ m, s'.heap.Ns Cc m

theorem comp_tail (Y : Sys B) {elt : Expr} {elt' : Mine.E} (He : Snd B C d cs ren' (nx + ownCount cs.names) elt elt') {t it0 : Expr} {ifs : List Expr} {t' : Tgt} {ifs' : List Mine.E} {gs : List Comprehension} {gs' : List G} {pos : Pos}
    (hgs : SndGs B C d cs ren' (nx + ownCount cs.names) gs gs') (ht : trTgt cs ren' t = some t') (hifs : Snd2 B C d cs ren' (nx + ownCount cs.names) ifs ifs') (CS : CScope sc cs ren nx ren')
    (K : At B d sc ren nx A env loc σ φ s) {it : It} {a : Addr} {Wi : List Addr} (I : ItR B φ s.heap it a Wi) (S : itSafe B φ s.heap Wi) (hcell : ∀ y c, env.cells.lookup y = some c → c ∉ Wi)
    (hu : unsetT t' loc = true) {r : (List Mine.V ⊕ Empty) × AH} (hloop : loopM (compF C (fun l s => ev C elt' l s) t' ifs' gs' loc) FUEL it [] σ = some r) (hz : ∀ i j k, it = .zip i j k → ∃ es n p, t = .Tuple es n p) (hlen : ∀ acc, r.1 = .inl acc → acc.length ≤ LIM)
    {use : Option (Value → Sem Unit)} {Q : Value → Shared → Prop}
    (k : ∀ acc φ' s' x Cc, r.1 = .inl acc → StW B Wi φ s φ' s' → Rep B (r.2 ++ [.list acc]) φ' s'.heap → VR B.Z φ' s'.heap (.obj r.2.length) x → CEnd φ' s s' Cc → compPost (model B.prog B.w) A Ex use Q x Cc (.ok .next) s') :
    wpAny (model B.prog B.w) A (newList []) (fun acc s₃ => wpAny (model B.prog B.w) A (newFunctionEnv cs env.globals (closeFrom env cs.names []) [] env.qual none .none (some env)) (fun cenv s₄ =>
      codeAny (model B.prog B.w) A (.compStart (.ListComp elt (⟨t, it0, ifs, 0⟩ :: gs) cs pos) 0 (.ref a) acc { cenv with scope := relabel cs env }) (compPost (model B.prog B.w) A Ex use Q acc cenv.locals) s₄) Ex s₃) Ex s := by
  refine wpAny_newObj_type (hd := by size_fits) (newEnv_comp ?_)
  have kp1 : Kp B.tabs [] s.heap (s.heap.push (lstO #[] 0)) := .push ..
  have R3 : Rep B σ φ (s.heap.push (lstO #[] 0)) := K.R.grow Y.ok kp1
  have st3 : St B φ s φ { s with heap := s.heap.push (lstO #[] 0) } := St.of_kp kp1 rfl rfl
  have V3 := K.V.step st3 K.R
  obtain ⟨V4, kp2, hown, hcells, _⟩ := comp_env (s := { s with heap := s.heap.push (lstO #[] 0) }) R3 V3 CS.hk CS.nd CS.hf CS.hr
  have sz : (s.heap.push (lstO #[] 0)).objs.size = s.heap.objs.size + 1 := Heap.size_push ..
  generalize hs4 : ({ s with heap := cHeap cs (s.heap.push (lstO #[] 0)) } : Shared) = s4
  have hh4 : s4.heap = cHeap cs (s.heap.push (lstO #[] 0)) := by rw [← hs4]
  have kp3 : Kp B.tabs [] s.heap s4.heap := by rw [hh4]; exact kp1.trans kp2
  have st4 : St B φ s φ s4 := St.of_kp kp3 (by rw [← hs4]) (by rw [← hs4])
  obtain ⟨I4, S4⟩ := it_step K.R I S st4
  have hDget : s4.heap.get? s.heap.objs.size = some (lstO #[] 0) := by
    rw [hh4]
    exact pushCells_keeps _ _ _ _ (Heap.get?_push_of_some _ (Heap.get?_push_size _ rfl))
  have old : ∀ {c : Addr}, (s.heap.push (lstO #[] 0)).objs.size ≤ c → s.heap.objs.size < c := fun {c} h => by rw [sz] at h; exact h
  have hOD : OffD (cEnv cs env (s.heap.push (lstO #[] 0)).objs.size) s.heap.objs.size := ⟨Nat.ne_of_gt (old (Nat.le_refl _)), fun y c e => (hcells y c e).elim (fun q => Nat.ne_of_gt (old q)) fun q => Nat.ne_of_lt (K.V.cellsLt q)⟩
  have hOff : Off Wi (cEnv cs env (s.heap.push (lstO #[] 0)).objs.size) s.heap.objs.size := ⟨fun hm => Nat.lt_irrefl _ (S.2 _ hm).2, fun hm => Nat.lt_asymm (S.2 _ hm).2 (old (Nat.le_refl _)), fun y c e hm => (hcells y c e).elim (fun q => Nat.lt_asymm (S.2 _ hm).2 (old q)) fun q => hcell y c q hm⟩
  have key : codeAny (model B.prog B.w) A (.compStart (.ListComp elt (⟨t, it0, ifs, 0⟩ :: gs) cs pos) 0 (.ref a) (.ref s.heap.objs.size) (cEnv cs env (s.heap.push (lstO #[] 0)).objs.size))
      (compPost (model B.prog B.w) A Ex use Q (.ref s.heap.objs.size) (s.heap.push (lstO #[] 0)).objs.size) s4 := by
    refine compStart_any (t := t) (it0 := it0) (ifs := ifs) rfl (gen_ok Y K.rm He hOD hgs (dep := 0) rfl ht hifs FUEL hu hloop hz I4 S4 hOff ⟨⟨K.rm, by rw [hh4]; exact V4, K.R.grow Y.ok kp3⟩, ⟨⟨[], 0, hDget, VRs_nil⟩, fun hm => absurd (K.R.lt hm) (Nat.lt_irrefl _), K.R.stat.size⟩⟩ fun acc φ' s' ea st X => ?_) (fun Ex Q hq => iterSelf_ok I4 hq)
    have stA : StW B Wi φ s φ' s' := (StW.of st4 S.1).seq st fun b hb => by
      rcases List.mem_append.mp hb with hb | hb
      · exact .inl hb
      · rcases List.mem_cons.mp hb with rfl | hb
        · exact .inr (Nat.le_refl _)
        · exact .inr (Nat.le_of_lt (old (hown b hb)))
    obtain ⟨items, n, hDg, rs⟩ := X.Ac.is
    have mem1 : ∀ b ∈ addrs [(s.heap.objs.size, s.heap.objs.size)], b = s.heap.objs.size := fun b hb => by
      rcases mem_addrs.mp hb with ⟨q, hq, e | e⟩ <;> rw [e, List.mem_singleton.mp hq]
    refine k acc (φ' ++ [(s.heap.objs.size, s.heap.objs.size)]) s' _ _ ea ?_ (X.K.R.add (p := (s.heap.objs.size, s.heap.objs.size)) X.Ac.off X.Ac.off X.Ac.low X.Ac.low (o := .list acc) ⟨rfl, items, n, hDg, rs, hlen acc ea⟩) ?_ ⟨fun hm => ?_, Nat.le_of_lt (old (Nat.le_refl _)), X.K.V.ns⟩
    · obtain ⟨ψ, rfl, hψ⟩ := stA.pre
      refine ⟨⟨ψ ++ [(s.heap.objs.size, s.heap.objs.size)], by simp, fun b hb => ?_⟩, stA.keep, stA.safe, stA.os, stA.gens⟩
      rw [addrs_append] at hb
      exact (List.mem_append.mp hb).elim (hψ b) fun hb => Nat.le_of_eq (mem1 b hb).symm
    · unfold VR
      exact ⟨(s.heap.objs.size, s.heap.objs.size), by rw [← X.K.R.len]; simp, rfl⟩
    · rw [addrs_append] at hm
      exact (List.mem_append.mp hm).elim X.K.V.base fun hm => hOD.locals (mem1 _ hm)
  rw [← hs4] at key
  exact key
end
end Mine
end
section -- NQ
set_option maxRecDepth 100000
set_option autoImplicit false
namespace Mine
open PySem

section
variable {B : Base} {C : Oracle} {d : Nat} {A : Around} {Ex : Value → Shared → Prop} {σ σ' σ1 : AH} {φ φ' : Phi} {s s' : Shared} {sc cs : Scope} {ren ren' : Ren} {nx nx' : Nat} {env : Env} {loc : Loc}

theorem St.conv {B' : Base} (x : St B φ s φ' s') (e : B'.tabs = B.tabs) : St B' φ s φ' s' := ⟨x.pre, e ▸ x.keep, x.os, x.gens⟩

/-- the same facts with other tuples hidden -/
theorem OR_conv {H : List Addr} {h h' : Heap} (k : Vk B.Z φ h (B.hide H).Z φ' h') {o : O} {p : Addr × Addr}
    (k1 : ∀ o, h.get? p.1 = some o → h'.get? p.1 = some o) (k2 : ∀ o, h.get? p.2 = some o → h'.get? p.2 = some o) (r : OR B φ h o p) : OR (B.hide H) φ' h' o p := by
  cases o with
  | list vs => obtain ⟨e2, items, n, e1, q⟩ := r; exact ⟨e2, items, n, k1 _ e1, VRs_mono k vs q.1, q.2⟩
  | acc sz vs => obtain ⟨items, n, sl, es, ep, e1, q, e2, d⟩ := r; exact ⟨items, n, sl, es, ep, k1 _ e1, ⟨VRs_mono k vs q.1, q.2⟩, k2 _ e2, d⟩
  | dict _ => exact r.elim
theorem Rep.conv {H : List Addr} {h h' : Heap} (R : Rep B σ φ h) (k : Vk B.Z φ h (B.hide H).Z φ h') (keep : ∀ b o, h.get? b = some o → h'.get? b = some o) (S : Stat (B.hide H) h') : Rep (B.hide H) σ φ h' :=
  ⟨S, R.len, R.above, R.apart, fun i o p e1 e2 => OR_conv k (keep _) (keep _) (R.rel i o p e1 e2)⟩
theorem Stat.conv {H : List Addr} {h : Heap} (S : Stat B h) (hH : ∀ a ∈ H, a < h.objs.size) : Stat (B.hide H) h := ⟨S.K, S.g, S.b, S.nolimit, S.tab, S.size, hH⟩
theorem EnvOK.conv {H : List Addr} {h h' : Heap} (V : EnvOK B sc ren nx env loc φ h) (k : Vk B.Z φ h (B.hide H).Z φ h') (keep : ∀ b o, h.get? b = some o → h'.get? b = some o) : EnvOK (B.hide H) sc ren nx env loc φ h' := by
  refine ⟨V.fk, V.kind, V.glob, V.blt, V.base, V.above, ?_, fun y c e => ?_, V.inj, V.has, V.rinj, V.rlt, V.free, fun y i v e1 e2 => ?_⟩
  · obtain ⟨m, n⟩ := V.ns; exact ⟨m, n.keeps keep⟩
  · obtain ⟨⟨v, n⟩, a, b⟩ := V.cells y c e; exact ⟨⟨v, n.keeps keep⟩, a, b⟩
  · obtain ⟨rv, q, r⟩ := V.vals y i v e1 e2
    refine ⟨rv, ?_, VR_mono k v r⟩
    rcases q with ⟨a, m, n, e⟩ | ⟨a, c, e, n⟩
    · exact .inl ⟨a, m, n.keeps keep, e⟩
    · exact .inr ⟨a, c, e, n.keeps keep⟩

theorem comp_free (R : Rep B σ φ s.heap) (V : EnvOK B sc ren nx env loc φ s.heap) (CS : CScope sc cs ren nx ren') : closureFor cs env = pure (closeFrom env cs.names []) :=
  closureFor_eq (comp_env R V CS.hk CS.nd CS.hf CS.hr).2.2.2.2

theorem comp_mk (Y : Sys B) {elt it0 t : Expr} {elt' it' : Mine.E} {ifs : List Expr} {t' : Tgt} {ifs' : List Mine.E} {gs : List Comprehension} {gs' : List G} {pos : Pos} (hit : Snd B C d sc ren nx it0 it')
    (He : Snd B C d cs ren' (nx + ownCount cs.names) elt elt') (hgs : SndGs B C d cs ren' (nx + ownCount cs.names) gs gs') (ht : trTgt cs ren' t = some t') (hifs : Snd2 B C d cs ren' (nx + ownCount cs.names) ifs ifs')
    (CS : CScope sc cs ren nx ren') {r : V × AH} (h : ev C (.comp elt' (.mk t' it' ifs' :: gs')) loc σ = some r) (K : At B d sc ren nx A env loc σ φ s) {use : Option (Value → Sem Unit)} {Q : Value → Shared → Prop}
    (k : ∀ φ' s' x Cc, St B φ s φ' s' → Rep B r.2 φ' s'.heap → VR B.Z φ' s'.heap r.1 x → CEnd φ' s s' Cc → compPost (model B.prog B.w) A Ex use Q x Cc (.ok .next) s') :
    wpAny (model B.prog B.w) A (comprehension (.ListComp elt (⟨t, it0, ifs, 0⟩ :: gs) cs pos) cs env (firstIterPos (⟨t, it0, ifs, 0⟩ :: gs) pos) (newList []) (firstAsync (⟨t, it0, ifs, 0⟩ :: gs)) (firstIter (⟨t, it0, ifs, 0⟩ :: gs) env) use) Q Ex s := by
  refine bindE h fun w hg h => ifE h fun hlen h => ifE (show (if unsetT t' loc = true then _ else none) = some w from hg) fun hu hg => bindE hg fun p h1 hg => bindE hg fun i1 hi1 hg => bindE hg fun r0 hloop hg => ?_
  cases h
  show wpAny _ _ (comprehension _ _ _ _ _ false _ _) _ _ _
  refine wpAny_comprehension_free (cl := closeFrom env cs.names []) rfl (fun x => folded_no env x hit.set) (comp_free K.R K.V CS) CS.hk (fun x hx hl => hl ▸ lookup_nodup CS.nd hx) ?_
  show wpAny _ _ (eval it0 env) _ _ _
  refine hit.run h1 K fun φ1 s1 xv st1 K1 r1 => wpAny_mono (iter_ok hi1 K1.R r1) (fun iv s2 hfr => ?_) fun _ _ q => q
  obtain ⟨a, rfl, hf⟩ := hfr
  have st2 : St B φ1 s1 φ1 s2 := St.of_kp hf.kp hf.os hf.gens
  have end_ : ∀ acc, r0.1 = .inl acc → acc = w.1 ∧ r0.2 = w.2 := fun acc e => by rw [e] at hg; cases hg; exact ⟨rfl, rfl⟩
  refine comp_tail Y He hgs ht hifs CS (K1.step st2 (K1.R.grow Y.ok hf.kp)) hf.I hf.S (fun y c e hm => ?_) hu hloop (fun i j k e => absurd hi1 (by rw [e]; exact iterOf_zip)) (fun acc e => (end_ acc e).1 ▸ hlen) fun acc φ' s' x Cc ea st R' rv hc => ?_
  · rw [List.mem_singleton.mp hm] at e
    exact absurd (Nat.lt_of_lt_of_le (K1.V.cellsLt e) hf.ge) (Nat.lt_irrefl _)
  · have hsz := st1.keep.size
    rw [(end_ acc ea).1, (end_ acc ea).2] at R'
    rw [(end_ acc ea).2] at rv
    exact k φ' s' x Cc ((st1.trans st2).close st fun b hb => by rw [List.mem_singleton.mp hb]; exact Nat.le_trans hsz hf.ge) R' rv ⟨hc.off, Nat.le_trans (Nat.le_trans hsz hf.kp.size) hc.ge, hc.ns⟩

theorem zap (n l1 l2 : Nat) (h1 : l1 < n) (h2 : l2 < n) : ZipApart (n + 4) (n + 2) (n + 3) n (n + 1) l1 l2 := by
  constructor <;> (show ¬ ((_ : Nat) = _)) <;> omega
theorem four (n a : Nat) (h : a ∈ [n + 4, n + 3, n, n + 1]) : n ≤ a ∧ a < n + 5 := by
  simp only [List.mem_cons, List.not_mem_nil, or_false] at h; omega
theorem seven (n : Nat) : n + 3 < n + 5 ∧ n + 2 ≠ n + 3 ∧ ¬ n + 2 < n := by omega

theorem comp_zip (Y : Sys B) {elt ex ey t : Expr} {elt' x' y' : Mine.E} {ifs : List Expr} {t' : Tgt} {ifs' : List Mine.E} {gs : List Comprehension} {gs' : List G} {zn : Str} {zp zpos pos : Pos}
    (hzk : sc.names.lookup zn = some .globalImplicit) (hzg : B.GT zn = some (.bi .zip)) (hx : Snd B C d sc ren nx ex x') (hy : Snd B C d sc ren nx ey y')
    (He : ∀ H, Snd (B.hide H) C d cs ren' (nx + ownCount cs.names) elt elt') (hgs : ∀ H, SndGs (B.hide H) C d cs ren' (nx + ownCount cs.names) gs gs') (ht : trTgt cs ren' t = some t') (hifs : ∀ H, Snd2 (B.hide H) C d cs ren' (nx + ownCount cs.names) ifs ifs')
    (CS : CScope sc cs ren nx ren') {r : V × AH} (h : ev C (.comp elt' (.zip t' x' y' ifs' :: gs')) loc σ = some r) (K : At B d sc ren nx A env loc σ φ s) {use : Option (Value → Sem Unit)} {Q : Value → Shared → Prop}
    (k : ∀ φ' s' x Cc, St B φ s φ' s' → Rep B r.2 φ' s'.heap → VR B.Z φ' s'.heap r.1 x → CEnd φ' s s' Cc → compPost (model B.prog B.w) A Ex use Q x Cc (.ok .next) s') :
    wpAny (model B.prog B.w) A (comprehension (.ListComp elt (⟨t, .Call (.Name zn zp) [ex, ey] [] zpos, ifs, 0⟩ :: gs) cs pos) cs env (firstIterPos (⟨t, .Call (.Name zn zp) [ex, ey] [] zpos, ifs, 0⟩ :: gs) pos) (newList []) (firstAsync (⟨t, .Call (.Name zn zp) [ex, ey] [] zpos, ifs, 0⟩ :: gs))
      (firstIter (⟨t, .Call (.Name zn zp) [ex, ey] [] zpos, ifs, 0⟩ :: gs) env) use) Q Ex s := by
  refine bindE h fun w hg h => ifE h fun hlen h => ifE (show (if unsetT t' loc = true then _ else none) = some w from hg) fun hu hg => bindE hg fun px h1 hg => bindE hg fun py h2 hg => bindE hg fun i1 hzo hg => bindE hg fun r0 hloop hfin => ?_
  cases h
  cases t' with
  | var _ => exact noneE hzo
  | vars is =>
  refine bindE hzo fun i hi hzo => bindE hzo fun j hj hzo => bindE hzo fun l1 hl1 hzo => bindE hzo fun l2 hl2 hzo => ?_
  cases hzo
  obtain ⟨es, tn, tp, rfl⟩ : ∃ es n p, t = .Tuple es n p := by
    unfold trTgt at ht
    cases hn : eName t with
    | some _ => rw [hn] at ht; exact bindE ht fun _ _ e => nomatch e
    | none => rw [hn] at ht; exact bindE ht fun w hw _ => ⟨_, _, _, eTup_eq hw⟩
  show wpAny _ _ (comprehension _ _ _ _ _ false _ _) _ _ _
  refine wpAny_comprehension_free (cl := closeFrom env cs.names []) rfl (fun x => rfl) (comp_free K.R K.V CS) CS.hk (fun x hx hl => hl ▸ lookup_nodup CS.nd hx) ?_
  show wpAny _ _ (eval (.Name zn zp) env >>= fun f => callWith zpos f [] (backTo zpos (starEach [ex, ey] env)) (backToKw zpos (keywordEach [] env))) _ _ _
  obtain ⟨hdb, hmg, hmb⟩ := Y.bi zn .zip hzg
  refine wpAny_bind (wpAny_Name (global_ok K hzk (.inr ⟨hmg, hmb⟩) ?_) hdb)
  have hev : evs C [x', y'] loc σ = some ([px.1, py.1], py.2) := by
    show (ev C x' loc σ).bind (fun p => ((ev C y' loc p.2).bind fun p => (some (([] : List V), p.2)).bind fun q => some (p.1 :: q.1, q.2)).bind fun q => some (p.1 :: q.1, q.2)) = _
    rw [h1]; show ((ev C y' loc px.2).bind fun p => _).bind _ = _; rw [h2]; rfl
  refine callWith_ok (P := fun _ => True) (.cons hx (.cons hy .nil)) (fun h _ => ⟨.machine, .inr (.inl rfl), PySem.W.Looks.now⟩) hev K fun φ2 s2 xs st2 K2 rs => ⟨trivial, ?_⟩
  refine vA2 (P := fun xs => wpAny _ _ (call _ ([] ++ xs) []) _ Ex s2) (v := (px.1, py.1)) rfl rs fun xv yv rx ry => vObj (P := fun xv => wpAny _ _ (call _ [xv, yv] []) _ Ex s2) hi rx fun p hp => vObj (P := fun yv => wpAny _ _ (call _ [_, yv] []) _ Ex s2) hj ry fun q hq => list_at K2.R hp hl1 fun xs n1 _ g1 _ _ => list_at K2.R hq hl2 fun ys n2 _ g2 _ _ => ?_
  refine wpAny_size (call_zip_2 (xs := xs.toArray) (ys := ys.toArray) ⟨_, g1, rfl, n1, rfl⟩ ⟨_, g2, rfl, n2, rfl⟩ fun h' hz hTI hTO hi1 hi2 hsz hkeep hle => wpAny_pyIter_zip hz ?_)
  have hp1 : (p.1 : Nat) < s2.heap.objs.size := Heap.lt_size g1
  have hq1 : (q.1 : Nat) < s2.heap.objs.size := Heap.lt_size g2
  generalize hn : s2.heap.objs.size = n at hz hTI hTO hi1 hi2 hsz hp1 hq1
  obtain ⟨m1, m2, m3⟩ := seven n
  have kpz : Kp B.tabs [] s2.heap h' := .keeps hkeep hle
  have hidlt : ∀ a ∈ B.hid, (a : Nat) < n := fun a ha => hn ▸ K2.R.stat.hid a ha
  have vk : Vk B.Z φ2 s2.heap (B.hide ((n + 3) :: B.hid)).Z φ2 h' :=
    ⟨fun a items m ha e => ⟨fun hm => (List.mem_cons.mp hm).elim (fun hm => absurd (show n + 3 < n from hm ▸ hn ▸ Heap.lt_size e) (Nat.not_lt.mpr (Nat.le_add_right n 3))) ha, hkeep _ _ e⟩, fun a items m l e => ⟨l, hkeep _ _ e⟩, fun a vs e => hkeep _ _ e, fun _ _ e => e⟩
  have st3 : St B φ s φ2 { s2 with heap := h' } := st2.trans (St.of_kp kpz rfl rfl)
  have R3 : Rep (B.hide ((n + 3) :: B.hid)) _ φ2 h' := K2.R.conv vk hkeep ((K2.R.stat.keep Y.ok kpz (fun _ h => nomatch h)).conv fun a ha => by
    rcases List.mem_cons.mp ha with rfl | ha
    · exact hsz ▸ m1
    · exact hsz ▸ Nat.lt_of_lt_of_le (hidlt a ha) (Nat.le_add_right n 5))
  have I3 : ItR (B.hide ((n + 3) :: B.hid)) φ2 h' (.zip i j 0) (n + 4) [n + 4, n + 3, n, n + 1] :=
    .zip hp hq (zap n p.1 q.1 hp1 hq1) hz hTI hTO hi1 hi2 (fun hm => (List.mem_cons.mp hm).elim m2 fun hm => m3 (hidlt _ hm)) (List.mem_cons_self ..)
  have fresh : ∀ a ∈ [n + 4, n + 3, n, n + 1], n ≤ a ∧ a < n + 5 := four n
  have S3 : itSafe (B.hide ((n + 3) :: B.hid)) φ2 h' [n + 4, n + 3, n, n + 1] := by
    have same : ∀ {b : Addr} {o : Obj}, h'.get? b = some o → (b ∉ (n + 3) :: B.hid → ∀ items n, o ≠ tupO items n) → (∀ vs, o ≠ rngO vs) → ∀ o', h'.get? b = some o' → (b ∉ (n + 3) :: B.hid → ∀ items n, o' ≠ tupO items n) ∧ ∀ vs, o' ≠ rngO vs := fun e1 n1 n2 o' e2 => by cases e1.symm.trans e2; exact ⟨n1, n2⟩
    refine ⟨fun a ha => ⟨Nat.le_trans (hn ▸ K2.R.stat.size) (fresh a ha).1, ?_⟩, fun a ha => ⟨fun hm => absurd (show a < n from hn ▸ K2.R.lt hm) (Nat.not_lt.mpr (fresh a ha).1), hsz ▸ (fresh a ha).2⟩⟩
    obtain ⟨o1, f1, c1, c2, _⟩ := cls_it hi1
    obtain ⟨o2, f2, d1, d2, _⟩ := cls_it hi2
    simp only [List.mem_cons, List.not_mem_nil, or_false] at ha
    rcases ha with rfl | rfl | rfl | rfl
    · exact same hz (fun _ => no_tup rfl (by decide)) (no_rng rfl (by decide))
    · exact same hTO (fun h => absurd (List.mem_cons_self ..) h) (no_rng rfl (by decide))
    · exact same f1 (fun _ => c1) c2
    · exact same f2 (fun _ => d1) d2
  have hs3 : s.heap.objs.size ≤ n := hn ▸ st2.keep.size
  have end_ : ∀ acc, r0.1 = .inl acc → acc = w.1 ∧ r0.2 = w.2 := fun acc e => by rw [e] at hfin; cases hfin; exact ⟨rfl, rfl⟩
  refine comp_tail (B := B.hide ((n + 3) :: B.hid)) (s := { s2 with heap := h' }) (Y.hide _) (He _) (hgs _) ht (hifs _) CS ⟨K.rm, K2.V.conv vk hkeep, R3⟩ I3 S3 (fun y c e hm => absurd (show c < n from hn ▸ K2.V.cellsLt e) (Nat.not_lt.mpr (fresh c hm).1)) hu hloop (fun _ _ _ _ => ⟨es, tn, tp, rfl⟩) (fun acc e => (end_ acc e).1 ▸ hlen) fun acc φ' s' x Cc ea st R' rv hc => ?_
  rw [(end_ acc ea).1, (end_ acc ea).2] at R'
  rw [(end_ acc ea).2] at rv
  have vk' : Vk (B.hide ((n + 3) :: B.hid)).Z φ' s'.heap B.Z φ' s'.heap := ⟨fun a items m ha e => ⟨fun hm => ha (List.mem_cons_of_mem _ hm), e⟩, fun a items m l e => ⟨l, e⟩, fun _ _ e => e, fun _ _ e => e⟩
  exact k φ' s' x Cc ((St.close (B := B.hide ((n + 3) :: B.hid)) (st3.conv rfl) st fun b hb => Nat.le_trans hs3 (fresh b hb).1).conv rfl) (Rep.conv (B := B.hide ((n + 3) :: B.hid)) (H := B.hid) R' vk' (fun _ _ e => e) (R'.stat.conv fun a ha => R'.stat.hid a (List.mem_cons_of_mem _ ha))) (VR_mono vk' _ rv) ⟨hc.off, Nat.le_trans (Nat.le_trans hs3 (hsz ▸ Nat.le_add_right n 5)) hc.ge, hc.ns⟩
end
end Mine
end
section -- NR
set_option maxRecDepth 100000
set_option autoImplicit false
namespace Mine
open PySem

/-- what the translation needs of the program -/
structure Env0 (B : Base) (C : Oracle) (d : Nat) : Prop where
  Y : Sys B
  HO : ∀ H, OrOK (B.hide H) C d
  AO : ∀ H, Nonempty (AccOps (B.hide H))
  sup : B.GT "super" = none
theorem Env0.hide {B : Base} {C : Oracle} {d : Nat} (E : Env0 B C d) (H : List Addr) : Env0 (B.hide H) C d := ⟨E.Y.hide H, fun H' => E.HO H', fun H' => E.AO H', E.sup⟩

section
variable {B : Base} {C : Oracle} {d : Nat} {A : Around} {Ex : Value → Shared → Prop} {σ σ' σ1 : AH} {φ φ' : Phi} {s s' : Shared} {sc cs : Scope} {ren ren' : Ren} {nx nx' : Nat} {env : Env} {loc : Loc}

theorem Room.mono {d d' : Nat} (r : Room A d) (h : d' ≤ d) : Room A d' := ⟨r.handled, by have := r.depth; omega, by have := r.units; omega, r.frames⟩

theorem Snd.mk' {e : Expr} {e' : Mine.E} (h1 : ∀ x p, e ≠ .Starred x p) (h2 : ∀ a k p, e ≠ .Set a k p) (hp : ∀ env, isTrue e env (eval e env) = (do let v ← eval e env; standAt e.pos; holding [v] (truthy v)))
    (h : ∀ {loc : Loc} {σ : AH} {r : V × AH} {A : Around} {Ex : Value → Shared → Prop} {φ : Phi} {s : Shared} {env : Env}, ev C e' loc σ = some r → At B d sc ren nx A env loc σ φ s → wpAny (model B.prog B.w) A (eval e env) (Res B φ s r.2 r.1) Ex s) : Snd B C d sc ren nx e e' :=
  ⟨h1, h2, h, fun he hb K => true_plain (hp _) (h he K) hb⟩

/-- a slice's part -/
noncomputable def SndO (B : Base) (C : Oracle) (d : Nat) (sc : Scope) (ren : Ren) (nx : Nat) (o : Option Expr) (e' : Mine.E) : Prop :=
  ∀ {loc : Loc} {σ : AH} {r : V × AH} {A : Around} {Ex : Value → Shared → Prop} {φ : Phi} {s : Shared} {env : Env}, ev C e' loc σ = some r → At B d sc ren nx A env loc σ φ s → wpAny (model B.prog B.w) A (valueOrNone (evalOpt o env)) (Res B φ s r.2 r.1) Ex s

theorem attrBase_plain {o : Expr} {attr : Str} {w : Sem Value} {Q : Value → Shared → Prop} {M : Model} (ho : ∀ p q, o ≠ .Call (.Name "super" p) [] [] q) (h : wpAny M A w Q Ex s) : wpAny M A (attributeBase o attr env w) Q Ex s := by
  unfold attributeBase
  split
  · rename_i id p pos
    have : (id != "super") = true := bne_iff_ne.mpr fun e => ho p pos (by rw [e])
    simp only [this, Bool.true_or, if_true]
    exact h
  · exact h

theorem lit_ok {c : Const} {k : Nat} {p : Pos} {v : V} (h : litOf c = some v) (R : Rep B σ φ s.heap) : wpAny (model B.prog B.w) A (eval (.Constant c k p) env) (Res B φ s σ v) Ex s := by
  cases c with
  | none => exact leafV h (wpAny_Constant_none (res_here' R vr_none))
  | bool b => exact leafV h (wpAny_Constant_bool (res_here' R (vr_bool _)))
  | int i => exact leafV h (wpAny_Constant_int (res_here R (vr_int _ _) _))
  | str z => exact leafV h (wpAny_Constant_str (res_here R (vr_str' _ _ (by simp [chars]) _) _))
  | _ => exact noneE h

theorem tuple_ok (Y : Sys B) {vs : List Mine.V} {xs : List Value} (R : Rep B σ φ s.heap) (r : VRs B.Z φ s.heap vs xs) (hl : vs.length ≤ LIM) : wpAny (model B.prog B.w) A (newTuple xs) (Res B φ s σ (.tup vs)) Ex s := by
  refine wpAny_newTuple ?_ (lim_line (by rw [VRs_length r] at hl; exact hl))
  have kp : Kp B.tabs [] s.heap (s.heap.push (tupO xs.toArray 0)) := .push ..
  refine res_grow Y R (fun b o e => Heap.get?_push_of_some _ e) kp.size ?_ s.toks
  unfold VR
  exact ⟨_, xs, 0, rfl, ⟨fun hm => absurd (R.stat.hid _ hm) (Nat.lt_irrefl _), Heap.get?_push_size _ rfl⟩, VRs_mono (Vk.of kp (Safe.nil B.Z _) (pre_refl ..)) _ r⟩

theorem list_ok (Y : Sys B) {r : V × AH} {vs : List Mine.V} {xs : List Value} (R : Rep B σ φ s.heap) (rs : VRs B.Z φ s.heap vs xs) (e : newL vs σ = some r) : wpAny (model B.prog B.w) A (newList xs) (Res B φ s r.2 r.1) Ex s :=
  newL_ok Y R e rs fun hl z => wpAny_newObj_type (z _) (by show xs.toArray.size ≤ sizeLine; exact lim_line (by rw [VRs_length rs] at hl; exact hl))

theorem slice_made {l u st : Mine.V} {vl vu vs : Value} (Y : Sys B) (R : Rep B σ φ s.heap) {Q : Value → Shared → Prop}
    (k : ∀ s', St B φ s φ s' → Rep B σ φ s'.heap → s'.heap.IsSliceOf s.heap.objs.size vl vu vs → Q (.ref s.heap.objs.size) s') : wpAny (model B.prog B.w) A (newFields "slice" [vl, vu, vs]) Q Ex s := by
  refine wpAny_newObj_type (k _ (St.of_kp (.push ..) rfl rfl) (R.grow Y.ok (.push ..)) ⟨_, Heap.get?_push_size _ rfl, rfl, rfl⟩) (by size_fits)

/-- what tr gives is sound, at fuel n -/
structure TrOK (C : Oracle) (d n : Nat) : Prop where
  e : ∀ {B : Base}, Env0 B C d → ∀ {sc : Scope} {ren : Ren} {nx : Nat} {x : Expr} {x' : Mine.E}, tr B.GT n sc ren nx x = some x' → Snd B C d sc ren nx x x'
  es : ∀ {B : Base}, Env0 B C d → ∀ {sc : Scope} {ren : Ren} {nx : Nat} {x : List Expr} {x' : List Mine.E}, trs B.GT n sc ren nx x = some x' → Snd2 B C d sc ren nx x x'
  o : ∀ {B : Base}, Env0 B C d → ∀ {sc : Scope} {ren : Ren} {nx : Nat} {x : Option Expr} {x' : Mine.E}, trO B.GT n sc ren nx x = some x' → SndO B C d sc ren nx x x'
  gs : ∀ {B : Base}, Env0 B C d → ∀ {sc : Scope} {ren : Ren} {nx : Nat} {x : List Comprehension} {x' : List G}, trGs B.GT n sc ren nx x = some x' → SndGs B C d sc ren nx x x'

theorem tr_es {n : Nat} (ih : TrOK C d n) (E : Env0 B C d) {x : List Expr} {x' : List Mine.E} (h : trs B.GT (n + 1) sc ren nx x = some x') : Snd2 B C d sc ren nx x x' := by
  cases x with
  | nil => cases h; exact .nil
  | cons e es => exact bindE h fun a h1 h => bindE h fun as h2 h => by cases h; exact .cons (ih.e E h1) (ih.es E h2)
theorem tr_o {n : Nat} (ih : TrOK C d n) (E : Env0 B C d) {x : Option Expr} {x' : Mine.E} (h : trO B.GT (n + 1) sc ren nx x = some x') : SndO B C d sc ren nx x x' := by
  cases x with
  | none => cases h; intro _ _ _ _ _ _ _ _ he K; cases he; exact wpAny_pure (res_here' K.R vr_none)
  | some e => exact fun he K => (ih.e E h).val he K
theorem tr_gs {n : Nat} (ih : TrOK C d n) (E : Env0 B C d) {x : List Comprehension} {x' : List G} (h : trGs B.GT (n + 1) sc ren nx x = some x') : SndGs B C d sc ren nx x x' := by
  cases x with
  | nil => cases h; exact .nil
  | cons g gs =>
    obtain ⟨t, it, ifs, as⟩ := g
    exact ifE h fun h0 h => bindE h fun t' h1 h => bindE h fun it' h2 h => bindE h fun ifs' h3 h => bindE h fun gs' h4 hfin => by
      cases h0
      cases hfin
      exact .cons h1 (ih.e E h2) (ih.es E h3) (ih.gs E h4)

theorem eCall_eq {e : Expr} {x : Expr × List Expr × List Keyword × Pos} (h : eCall e = some x) : e = .Call x.1 x.2.1 x.2.2.1 x.2.2.2 := by
  cases e with
  | Call f as kw p => exact someE (P := fun x : Expr × List Expr × List Keyword × Pos => Expr.Call f as kw p = .Call x.1 x.2.1 x.2.2.1 x.2.2.2) h rfl
  | _ => exact noneE h
theorem eAttr_eq {e : Expr} {x : Expr × Str × Pos} (h : eAttr e = some x) : e = .Attribute x.1 x.2.1 x.2.2 := by
  cases e with
  | Attribute f as p => exact someE (P := fun x : Expr × Str × Pos => Expr.Attribute f as p = .Attribute x.1 x.2.1 x.2.2) h rfl
  | _ => exact noneE h
theorem eSlc_eq {e : Expr} {x : Option Expr × Option Expr × Option Expr × Pos} (h : eSlc e = some x) : e = .Slice x.1 x.2.1 x.2.2.1 x.2.2.2 := by
  cases e with
  | Slice l u st p => exact someE (P := fun x : Option Expr × Option Expr × Option Expr × Pos => Expr.Slice l u st p = .Slice x.1 x.2.1 x.2.2.1 x.2.2.2) h rfl
  | _ => exact noneE h
theorem l0_eq {α : Type} {l : List α} {u : Unit} (h : l0 l = some u) : l = [] := by
  cases l with
  | nil => rfl
  | cons _ _ => exact noneE h
theorem l1_eq {α : Type} {l : List α} {a : α} (h : l1 l = some a) : l = [a] := by
  match l, h with
  | [b], h => rw [Option.some.inj h]
theorem l2_eq {α : Type} {l : List α} {p : α × α} (h : l2 l = some p) : l = [p.1, p.2] := by
  match l, h with
  | [b, c], h => rw [← Option.some.inj h]
theorem gName_eq {GT : Str → Option GV} {x : Str} {g : GV} (h : gName GT sc x = some g) : sc.names.lookup x = some .globalImplicit ∧ GT x = some g := ifE h fun a b => ⟨a, b⟩
structure ZipIs (GT : Str → Option GV) (sc : Scope) (e : Expr) (p : Expr × Expr) : Prop where
  is : ∃ zn zp zpos, e = .Call (.Name zn zp) [p.1, p.2] [] zpos ∧ sc.names.lookup zn = some .globalImplicit ∧ GT zn = some (.bi .zip)
theorem zipArgs_eq {GT : Str → Option GV} {e : Expr} {p : Expr × Expr} (h : zipArgs GT sc e = some p) : ZipIs GT sc e p :=
  bindE h fun c h1 h => bindE h fun z h2 h => bindE h fun _ h3 h => bindE h fun q h4 h => bindE h fun g h5 h => by
    obtain ⟨a, b⟩ := gName_eq h5
    cases g with
    | bi bb => cases bb with
      | zip =>
        cases h
        exact ⟨_, _, _, by rw [eCall_eq h1, eName_eq h2, l0_eq h3, l2_eq h4], a, b⟩
      | _ => exact noneE h
    | _ => exact noneE h

theorem comp_any {n : Nat} (ih : TrOK C d n) (E : Env0 B C d) {elt : Expr} {gens : List Comprehension} {pos : Pos} {e' : Mine.E}
    (h : tr B.GT (n + 1) sc ren nx (.ListComp elt gens cs pos) = some e') {r : V × AH} (hev : ev C e' loc σ = some r) (K : At B d sc ren nx A env loc σ φ s) {use : Option (Value → Sem Unit)} {Q : Value → Shared → Prop}
    (k : ∀ φ' s' x Cc, St B φ s φ' s' → Rep B r.2 φ' s'.heap → VR B.Z φ' s'.heap r.1 x → CEnd φ' s s' Cc → compPost (model B.prog B.w) A Ex use Q x Cc (.ok .next) s') :
    wpAny (model B.prog B.w) A (comprehension (.ListComp elt gens cs pos) cs env (firstIterPos gens pos) (newList []) (firstAsync gens) (firstIter gens env) use) Q Ex s := by
  refine ifE h fun hs h => bindE h fun ren' hr h => ?_
  have CS : CScope sc cs ren nx ren' := .of hs hr
  cases gens with
  | nil => exact noneE h
  | cons g gs =>
    obtain ⟨t, it, ifs, as⟩ := g
    refine ifE h fun h0 h => bindE h fun t' h1 h => bindE h fun ifs' h2 h => bindE h fun gs' h3 h => bindE h fun elt' h4 hfin => ?_
    cases h0
    cases hz : zipArgs B.GT sc it with
    | some p =>
      rw [show (Comprehension.mk t it ifs 0).2 = it from rfl, hz] at hfin
      refine bindE hfin fun x hx hfin => bindE hfin fun y hy hfin => ?_
      cases hfin
      obtain ⟨zn, zp, zpos, rfl, z1, z2⟩ := (zipArgs_eq hz).is
      exact comp_zip E.Y z1 z2 (ih.e E hx) (ih.e E hy) (fun H => ih.e (E.hide H) h4) (fun H => ih.gs (E.hide H) h3) h1 (fun H => ih.es (E.hide H) h2) CS hev K k
    | none =>
      rw [show (Comprehension.mk t it ifs 0).2 = it from rfl, hz] at hfin
      refine bindE hfin fun x hx hfin => ?_
      cases hfin
      exact comp_mk E.Y (ih.e E hx) (ih.e E h4) (ih.gs E h3) h1 (ih.es E h2) CS hev K k

/-- the frame's own place let go -/
theorem post_none {φ' : Phi} {s' : Shared} {x : Value} {Cc : Addr} {v : Mine.V} (Y : Sys B) (st : St B φ s φ' s') (R' : Rep B σ' φ' s'.heap) (rv : VR B.Z φ' s'.heap v x) (hc : CEnd φ' s s' Cc) (hN : B.N ≤ s.heap.objs.size) :
    compPost (model B.prog B.w) A Ex none (Res B φ s σ' v) x Cc (.ok .next) s' := by
  obtain ⟨m, hn⟩ := hc.ns
  refine ⟨m, hn, fun h' sb => ?_⟩
  have kp : Kp B.tabs [Cc] s'.heap h' := .sameBut sb (List.mem_singleton.mpr rfl)
  have S : Safe B.Z [Cc] s'.heap := fun a ha => by
    rw [List.mem_singleton.mp ha]
    obtain ⟨o, es, ep, e, hd, _⟩ := hn
    refine ⟨Nat.le_trans hN hc.ge, fun o' e' => ?_⟩
    cases e.symm.trans e'
    exact ⟨(fun _ items n q => by rw [q] at hd; cases hd), (fun vs q => by rw [q] at hd; cases hd)⟩
  have stw : StW B [Cc] φ' s' φ' { s' with heap := h' } := ⟨pre_refl .., kp.mono (fun b hb => .inl (List.mem_append.mpr (.inl hb))), S, rfl, id⟩
  exact ⟨φ', st.close stw fun b hb => by rw [List.mem_singleton.mp hb]; exact hc.ge, R'.off Y.ok kp S (fun b hb => by rw [List.mem_singleton.mp hb]; exact hc.off), VR_mono (Vk.of kp S (pre_refl ..)) _ rv⟩
end
end Mine
end
section -- NS
set_option maxRecDepth 100000
set_option autoImplicit false
namespace Mine
open PySem

section
variable {B : Base} {C : Oracle} {d : Nat} {A : Around} {Ex : Value → Shared → Prop} {σ σ' σ1 : AH} {φ φ' : Phi} {s s' : Shared} {sc cs : Scope} {ren ren' : Ren} {nx nx' : Nat} {env : Env} {loc : Loc}

theorem super_no {GT : Str → Option GV} (hs : GT "super" = none) {n : Nat} {o : Expr} {o' : Mine.E} (h : tr GT n sc ren nx o = some o') : ∀ p q, o ≠ .Call (.Name "super" p) [] [] q := by
  intro p q e
  subst e
  cases n with
  | zero => exact noneE h
  | succ n => exact bindE h fun g hg _ => noneE (hs.symm.trans (gName_eq hg).2)

theorem meth_keeper (AO : AccOps B) {k : Nat} {m : Mt} {f : Value} (h : methFn AO k m = some f) (hp : Heap) (hK : ∀ a o, B.K.lookup a = some o → hp.get? a = some o) : ∃ k, (k = Keeper.frame ∨ k = Keeper.machine ∨ k = Keeper.boundFrame) ∧ PySem.W.Looks (model B.prog B.w) hp (keeperOf f) k := by
  match k, h with
  | 1, h => cases m <;> first | exact noneE h | (cases h; exact ⟨.machine, .inr (.inl rfl), PySem.W.Looks.now⟩)
  | 2, h => cases m <;> first | exact noneE h | (cases h; exact ⟨.machine, .inr (.inl rfl), PySem.W.Looks.now⟩)
  | 3, h => exact bindE h fun g hg h => by cases h; exact AO.keeper hg hp hK
  | 0, h => exact noneE h
  | _ + 4, h => exact noneE h

theorem few_ok {es : List Expr} {es' : List Mine.E} (pos : Pos) (q : Snd2 B C d sc ren nx es es') (hn : es.length < 20) : methodCallForm (es.length + 0) (backTo pos (starEach es env)) [] = true := by
  have := plainArgs (env := env) pos q
  rw [List.any_eq_false] at this
  unfold methodCallForm
  simp only [Bool.and_eq_true, List.all_eq_true, List.all_nil, decide_eq_true_eq]
  refine ⟨⟨fun x hx => ?_, trivial⟩, ?_⟩
  · have := this x hx
    simpa using this
  · simp; omega

theorem snd_lit {c : Const} {k : Nat} {p : Pos} {v : V} (h : litOf c = some v) : Snd B C d sc ren nx (.Constant c k p) (.lit v) :=
  .mk' nofun nofun (fun _ => rfl) fun he K => by cases he; exact lit_ok h K.R
theorem snd_var {x : Str} {p : Pos} {i : Nat} (hn : ¬ (x = ("__debug__" : Str) ∨ x = ("__classdict__" : Str))) (hi : ren.lookup x = some i) : Snd B C d sc ren nx (.Name x p) (.var i) :=
  .mk' nofun nofun (fun _ => rfl) fun he K => bindE he fun o ho he => by
    cases o with
    | none => exact noneE he
    | some v => cases he; exact wpAny_Name (load_ok K hi ho (beq_eq_false_iff_ne.mpr fun e => hn (.inr e))) (beq_eq_false_iff_ne.mpr fun e => hn (.inl e))
theorem snd_name (E : Env0 B C d) {x : Str} {p : Pos} {x' : Mine.E} (h : trName B.GT sc ren x = some x') : Snd B C d sc ren nx (.Name x p) x' := by
  refine bindE h fun k hk h => ?_
  have var : (if x = ("__debug__" : Str) ∨ x = ("__classdict__" : Str) then none else (ren.lookup x).bind fun i => some (Mine.E.var i)) = some x' → Snd B C d sc ren nx (.Name x p) x' := fun h => nifE h fun hn h => bindE h fun i hi h => by cases h; exact snd_var hn hi
  cases k with
  | globalImplicit =>
      refine bindE h fun g hg h => bindE h fun v hv h => ?_
      cases h
      cases g with
      | cst _ =>
        cases hv
        obtain ⟨hd, rv, hm, hv⟩ := E.Y.cst x _ hg
        exact .mk' nofun nofun (fun _ => rfl) fun he K => by cases he; exact wpAny_Name (global_ok K hk (.inl hm) (res_here' K.R (hv _ _ _))) hd
      | _ => exact noneE hv
  | globalExplicit => exact noneE h
  | _ => exact var h
theorem snd_bool {op : BoolOp} {vs : List Expr} {es' : List Mine.E} {pos : Pos} (q : Snd2 B C d sc ren nx vs es') : Snd B C d sc ren nx (.BoolOp op vs pos) (boolE op es') := by
  have ev_ : ∀ {loc σ r}, ev C (boolE op es') loc σ = some r → evLog C (opW op) es' loc σ = some r := fun h => by cases op <;> exact h
  exact ⟨nofun, nofun, fun he K => (boolOp_ok pos op q (ev_ he) K).1, fun he hb K => (boolOp_ok pos op q (ev_ he) K).2 _ hb⟩
theorem snd_bin (Y : Sys B) {l r : Expr} {a b : Mine.E} {op : Operator} {pos : Pos} (q1 : Snd B C d sc ren nx l a) (q2 : Snd B C d sc ren nx r b) : Snd B C d sc ren nx (.BinOp l op r pos) (.bin op a b) :=
  .mk' nofun nofun (fun _ => rfl) fun he K => bindE he fun _ e1 he => bindE he fun _ e2 he => wpAny_bind (q1.run e1 K fun φ1 s1 xa st1 K1 r1 => wpAny_bind (wpAny_holding (q2.run e2 K1 fun φ2 s2 xb st2 K2 r2 => wpAny_bind (wpAny_standAt (wp_operate (wp_after (st1.trans st2) (bin_ok Y he K2.R (st2.vr K1.R r1) r2)))))))
theorem snd_neg {l : Expr} {a : Mine.E} {pos : Pos} (q1 : Snd B C d sc ren nx l a) : Snd B C d sc ren nx (.UnaryOp .USub l pos) (.neg a) :=
  .mk' nofun nofun (fun _ => rfl) fun he K => bindE he fun _ e1 he => bindE he fun _ e2 he => wpAny_bind (q1.run e1 K fun φ1 s1 xa st1 K1 r1 => wpAny_bind (wpAny_standAt (wpAny_holding (wp_after st1 (leafE he (vInt (P := fun xa => wpAny _ _ (unaryOp .USub xa) _ _ s1) e2 r1 fun t => PyProof.Rows.neg_int (res_here K1.R (vr_int _ _) _)))))))
theorem snd_not {l : Expr} {a : Mine.E} {pos : Pos} (q1 : Snd B C d sc ren nx l a) : Snd B C d sc ren nx (.UnaryOp .Not l pos) (.notE a) :=
  ⟨nofun, nofun, fun he K => bindE he fun _ e1 he => bindE he fun b hb he => wpAny_bind (q1.run e1 K fun φ1 s1 xa st1 K1 r1 => wpAny_bind (wpAny_standAt (wpAny_holding (wp_after st1 (leafE he (not_ok hb K1.R r1)))))),
    fun {_ _ _ _ _ _ _ env _} he hb' K => bindE he fun _ e1 he => bindE he fun b hb he => by
      cases he
      cases hb'
      show wpAny _ _ (isTrue _ env (eval _ env) >>= fun b => pure !b) _ _ _
      exact wpAny_bind (q1.test e1 hb K fun φ1 s1 st1 K1 => wpAny_pure ⟨φ1, st1, K1.R, rfl⟩)⟩
theorem snd_ite {c l r : Expr} {c' a b : Mine.E} {pos : Pos} (q1 : Snd B C d sc ren nx c c') (q2 : Snd B C d sc ren nx l a) (q3 : Snd B C d sc ren nx r b) : Snd B C d sc ren nx (.IfExp c l r pos) (.ite c' a b) :=
  ⟨nofun, nofun, fun {_ _ _ _ _ _ _ env} he K => bindE he fun _ e1 he => bindE he fun t ht he => by
    show wpAny _ _ (isTrue _ env (eval _ env) >>= fun b => if b = true then _ else _) _ _ _
    cases t with
    | true => exact wpAny_bind (q1.test e1 ht K fun φ1 s1 st1 K1 => wp_after st1 (q2.val he K1))
    | false => exact wpAny_bind (q1.test e1 ht K fun φ1 s1 st1 K1 => wp_after st1 (q3.val he K1)),
    fun {_ _ _ _ _ _ _ env _} he hb K => bindE he fun _ e1 he => bindE he fun t ht he => by
    show wpAny _ _ (isTrue _ env (eval _ env) >>= fun b => if b = true then _ else _) _ _ _
    cases t with
    | true => exact wpAny_bind (q1.test e1 ht K fun φ1 s1 st1 K1 => wp_afterB st1 (q2.tst he hb K1))
    | false => exact wpAny_bind (q1.test e1 ht K fun φ1 s1 st1 K1 => wp_afterB st1 (q3.tst he hb K1))⟩
theorem snd_cmp {a : Expr} {a' : Mine.E} {ops : List CmpOp} {es : List Expr} {es' : List Mine.E} {pos : Pos} (q1 : Snd B C d sc ren nx a a') (q2 : Snd2 B C d sc ren nx es es') : Snd B C d sc ren nx (.Compare a ops es pos) (.cmp a' ops es') :=
  ⟨nofun, nofun, fun {_ _ _ _ _ _ _ env} he K => bindE he fun _ e1 he => bindE he fun b e2 he => by
    cases he
    show wpAny _ _ (eval a env >>= fun v => compareChain pos v ops (markedEach ops es (evalEach es env))) _ _ _
    exact wpAny_bind (q1.run e1 K fun φ1 s1 xa st1 K1 r1 => wp_after st1 (chain_ok pos q2 e2 K1 r1).1),
    fun {_ _ _ _ _ _ _ env _} he hb K => bindE he fun _ e1 he => bindE he fun b e2 he => by
    cases he
    cases hb
    show wpAny _ _ (eval a env >>= fun v => testChain pos v ops (markedEach ops es (evalEach es env))) _ _ _
    exact wpAny_bind (q1.run e1 K fun φ1 s1 xa st1 K1 r1 => wp_afterB st1 (chain_ok pos q2 e2 K1 r1).2)⟩
theorem snd_list (Y : Sys B) {es : List Expr} {es' : List Mine.E} {pos : Pos} (q : Snd2 B C d sc ren nx es es') : Snd B C d sc ren nx (.List es pos) (.list es') :=
  .mk' nofun nofun (fun _ => rfl) fun {_ _ _ _ _ _ _ env} he K => bindE he fun _ e1 he => by
    show wpAny _ _ (standAt pos >>= fun _ => spliced (backTo pos (starEach es env)) >>= fun xs => newList xs) _ _ _
    exact wpAny_bind (wpAny_standAt (wpAny_bind (ResL.bind (args_ok pos q e1 K) fun φ1 s1 xs st1 R1 r1 => wp_after st1 (list_ok Y R1 r1 he))))
theorem snd_tup (Y : Sys B) {es : List Expr} {es' : List Mine.E} {k : Nat} {pos : Pos} (q : Snd2 B C d sc ren nx es es') : Snd B C d sc ren nx (.Tuple es k pos) (.tup es') :=
  .mk' nofun nofun (fun _ => rfl) fun {_ _ _ _ _ _ _ env} he K => bindE he fun _ e1 he => ifE he fun hl he => by
    show wpAny _ _ (standAt pos >>= fun _ => spliced (backTo pos (starEach es env)) >>= fun xs => newTuple xs) _ _ _
    exact wpAny_bind (wpAny_standAt (wpAny_bind (ResL.bind (args_ok pos q e1 K) fun φ1 s1 xs st1 R1 r1 => wp_after st1 (leafE he (tuple_ok Y R1 r1 hl)))))
theorem snd_slc (Y : Sys B) {o : Expr} {l u st : Option Expr} {o' l' u' st' : Mine.E} {p pos : Pos} (q1 : Snd B C d sc ren nx o o') (q2 : SndO B C d sc ren nx l l') (q3 : SndO B C d sc ren nx u u') (q4 : SndO B C d sc ren nx st st') : Snd B C d sc ren nx (.Subscript o (.Slice l u st p) pos) (.slc o' l' u' st') :=
  .mk' nofun nofun (fun _ => rfl) fun he K => bindE he fun _ e1 he => bindE he fun _ e2 he => bindE he fun _ e3 he => bindE he fun _ e4 he => by
    refine wpAny_bind (q1.run e1 K fun φ1 s1 xo st1 K1 r1 => wpAny_bind (wpAny_holding ?_))
    refine wpAny_bind (Res.bind (q2 e2 K1) fun φ2 s2 xl st2 R2 r2 => wpAny_bind (wpAny_holding (Res.bind (q3 e3 (K1.step st2 R2)) fun φ3 s3 xu st3 R3 r3 => wpAny_bind (wpAny_holding
      (Res.bind (q4 e4 ((K1.step st2 R2).step st3 R3)) fun φ4 s4 xs st4 R4 r4 => slice_made (l := .none) (u := .none) (st := .none) Y R4 fun s5 st5 R5 hsl => wpAny_bind (wpAny_standAt ?_))))))
    have t34 := st3.trans (st4.trans st5)
    exact wp_after ((st1.trans st2).trans t34) (slc_ok Y _ _ he R5 ((st2.trans t34).vr K1.R r1) (t34.vr R2 r2) ((st4.trans st5).vr R3 r3) (st5.vr R4 r4) hsl)
theorem snd_idx {o i : Expr} {o' i' : Mine.E} {pos : Pos} (q1 : Snd B C d sc ren nx o o') (q2 : Snd B C d sc ren nx i i') : Snd B C d sc ren nx (.Subscript o i pos) (.idx o' i') :=
  .mk' nofun nofun (fun _ => rfl) fun he K => bindE he fun _ e1 he => bindE he fun _ e2 he => bindE he fun _ e3 he => wpAny_bind (q1.run e1 K fun φ1 s1 xo st1 K1 r1 => wpAny_bind (wpAny_holding (q2.run e2 K1 fun φ2 s2 xi st2 K2 r2 => wpAny_bind (wpAny_standAt (wp_after (st1.trans st2) (leafE he (idx_ok _ _ e3 K2.R (st2.vr K1.R r1) r2)))))))
theorem snd_call (E : Env0 B C d) {x : Str} {fp cp : Pos} {g : GV} {as : List Expr} {as' : List Mine.E} {x' : Mine.E} (hg : gName B.GT sc x = some g) (q : Snd2 B C d sc ren nx as as') (h : callE g as' = some x') : Snd B C d sc ren nx (.Call (.Name x fp) as [] cp) x' := by
  obtain ⟨h1, h2⟩ := gName_eq hg
  cases g with
  | fn a =>
    cases h
    obtain ⟨hd, hm⟩ := E.Y.fn x a h2
    refine .mk' nofun nofun (fun _ => rfl) fun {_ _ _ _ _ _ _ env} he K => bindE he fun _ e1 he => ?_
    show wpAny _ _ (eval (.Name x fp) env >>= fun g => callWith cp g [] (backTo cp (starEach as env)) (backToKw cp (keywordEach [] env))) _ _ _
    exact wpAny_bind (wpAny_Name (global_ok K h1 (.inl hm) (callWith_ok (P := fun h => ∀ a o, B.K.lookup a = some o → h.get? a = some o) q (E.Y.keeper x a h2) e1 K fun φ1 s1 xs st1 K1 r1 => ⟨K1.R.stat.K, wp_after st1 (E.HO B.hid _ _ _ _ _ he _ _ _ _ _ K.rm K1.R r1)⟩)) hd)
  | bi b =>
    cases h
    obtain ⟨hd, hm, hb⟩ := E.Y.bi x b h2
    refine .mk' nofun nofun (fun _ => rfl) fun {_ _ _ _ _ _ _ env} he K => bindE he fun _ e1 he => ?_
    show wpAny _ _ (eval (.Name x fp) env >>= fun g => callWith cp g [] (backTo cp (starEach as env)) (backToKw cp (keywordEach [] env))) _ _ _
    exact wpAny_bind (wpAny_Name (global_ok K h1 (.inr ⟨hm, hb⟩) (callWith_ok (P := fun _ => True) q (fun h _ => ⟨.machine, .inr (.inl rfl), by cases b <;> exact PySem.W.Looks.now⟩) e1 K fun φ1 s1 xs st1 K1 r1 => ⟨trivial, wp_after st1 (callB_ok E.Y (Classical.choice (E.AO B.hid)).str (K.rm.mono (Nat.zero_le _)) he K1.R r1)⟩)) hd)
  | cst _ => exact noneE h
theorem snd_meth (E : Env0 B C d) {o : Expr} {o' : Mine.E} {n : Nat} {m : Mt} {ap cp : Pos} {as : List Expr} {as' : List Mine.E} (hl : ap.endLine = cp.line ∧ as.length < 20) (ho : tr B.GT n sc ren nx o = some o') (q1 : Snd B C d sc ren nx o o') (q2 : Snd2 B C d sc ren nx as as') : Snd B C d sc ren nx (.Call (.Attribute o (nameOf m) ap) as [] cp) (.mcall o' m as') := by
  have AB : AccOps B := Classical.choice (E.AO B.hid)
  refine .mk' nofun nofun (fun _ => rfl) fun {_ _ _ _ _ _ _ env} he K => bindE he fun _ e1 he => bindE he fun _ e2 he => ifE he fun hk he => ?_
  obtain ⟨f, hf⟩ := meth_fn AB he
  show wpAny _ _ (attributeBase o (nameOf m) env (eval o env) >>= fun ov => standAt ap.atName >>= fun _ => methodCall o (nameOf m) ap cp env ov (as.length + 0) (backTo cp (starEach as env)) []) _ _ _
  refine wpAny_bind (attrBase_plain (super_no E.sup ho) (q1.run e1 K fun φ1 s1 xo st1 K1 r1 => wpAny_bind (wpAny_standAt ?_)))
  unfold methodCall
  rw [few_ok (env := env) cp q2 hl.2]
  refine wpAny_bind (wpAny_holding ?_)
  show wpAny _ _ (getMethod xo (nameOf m) _) _ _ _
  refine get_ok AB K.rm.handled (hk ▸ hf) K1.R r1 ?_
  have hpos : methodCallPos true o env ap cp = pure cp := by unfold methodCallPos; simp [hl.1]
  show wpAny _ _ (methodCallPos true o env ap cp >>= fun callPos => callWith callPos f [xo] (backTo cp (starEach as env)) []) _ _ _
  rw [hpos]
  exact wpAny_bind (wpAny_pure (callWith_ok (P := fun h => ∀ a o, B.K.lookup a = some o → h.get? a = some o) q2 (meth_keeper AB hf) e2 K1 fun φ2 s2 xs st2 K2 r2 => ⟨K2.R.stat.K, wp_after (st1.trans st2) (callM_ok E.Y AB (K.rm.mono (Nat.zero_le _)) he hf K2.R (st2.vr K1.R r1) r2)⟩))

theorem tr_e {n : Nat} (ih : TrOK C d n) (E : Env0 B C d) {x : Expr} {x' : Mine.E} (h : tr B.GT (n + 1) sc ren nx x = some x') : Snd B C d sc ren nx x x' := by
  cases x with
  | Constant c k p => exact bindE h fun v hv h => by cases h; exact snd_lit hv
  | Name x p => exact snd_name E h
  | BoolOp op vs p => exact bindE h fun es h1 h => by cases h; exact snd_bool (ih.es E h1)
  | BinOp l op r p => exact bindE h fun a h1 h => bindE h fun b h2 h => by cases h; exact snd_bin E.Y (ih.e E h1) (ih.e E h2)
  | UnaryOp op a p =>
      refine bindE h fun a' h1 h => ?_
      cases op with
      | USub => cases h; exact snd_neg (ih.e E h1)
      | Not => cases h; exact snd_not (ih.e E h1)
      | _ => exact noneE h
  | IfExp c a b p => exact bindE h fun a' h1 h => bindE h fun b' h2 h => bindE h fun c' h3 h => by cases h; exact snd_ite (ih.e E h1) (ih.e E h2) (ih.e E h3)
  | Compare a ops es p => exact bindE h fun a' h1 h => bindE h fun b' h2 h => by cases h; exact snd_cmp (ih.e E h1) (ih.es E h2)
  | List es p => exact bindE h fun a' h1 h => by cases h; exact snd_list E.Y (ih.es E h1)
  | Tuple es k p => exact bindE h fun a' h1 h => by cases h; exact snd_tup E.Y (ih.es E h1)
  | Subscript o i p =>
    refine bindE h fun o' h1 h => ?_
    cases hs : eSlc i with
    | some w =>
      rw [hs] at h
      exact bindE h fun l h2 h => bindE h fun u h3 h => bindE h fun st h4 h => by cases h; rw [eSlc_eq hs]; exact snd_slc E.Y (ih.e E h1) (ih.o E h2) (ih.o E h3) (ih.o E h4)
    | none =>
      rw [hs] at h
      exact bindE h fun i' h2 h => by cases h; exact snd_idx (ih.e E h1) (ih.e E h2)
  | Call f as kw cp =>
    refine bindE h fun _ h0 h => ?_
    rw [l0_eq h0]
    cases hn : eName f with
    | some y =>
      rw [hn] at h
      rw [eName_eq hn]
      exact bindE h fun g hg h => bindE h fun as' h2 h => snd_call E hg (ih.es E h2) h
    | none =>
      rw [hn] at h
      exact bindE h fun a ha h => ifE h fun hl h => bindE h fun o' h1 h => bindE h fun m hm h => bindE h fun as' h2 h => by
        cases h
        rw [eAttr_eq ha, methOf_name hm]
        exact snd_meth E hl h1 (ih.e E h1) (ih.es E h2)
  | ListComp elt gens cs p =>
    refine .mk' nofun nofun (fun _ => rfl) fun he K => ?_
    rw [eval_ListComp]
    exact comp_any (use := none) ih E h he K fun φ' s' x Cc st R' rv hc => post_none E.Y st R' rv hc K.R.stat.size
  | _ => exact noneE h
end
theorem tr_ok (C : Oracle) (d : Nat) : ∀ n, TrOK C d n
  | 0 => ⟨fun {_} _ {_ _ _ _ _} h => noneE h, fun {_} _ {_ _ _ _ _} h => noneE h, fun {_} _ {_ _ _ _ _} h => noneE h, fun {_} _ {_ _ _ _ _} h => noneE h⟩
  | n + 1 => ⟨fun {_} E {_ _ _ _ _} h => tr_e (tr_ok C d n) E h, fun {_} E {_ _ _ _ _} h => tr_es (tr_ok C d n) E h, fun {_} E {_ _ _ _ _} h => tr_o (tr_ok C d n) E h, fun {_} E {_ _ _ _ _} h => tr_gs (tr_ok C d n) E h⟩
end Mine
end
section -- NU
set_option maxRecDepth 100000
set_option autoImplicit false
namespace Mine
open PySem

section
variable {B : Base} {C : Oracle} {d : Nat} {A : Around} {Ex : Value → Shared → Prop} {σ σ' σ1 : AH} {φ φ' φ'' : Phi} {s s' s'' : Shared} {sc : Scope} {ren : Ren} {nx : Nat} {env : Env} {loc loc' loc'' : Loc}

/-- what a statement leaves -/
inductive FlOK (B : Base) (sc : Scope) (ren : Ren) (nx : Nat) (env : Env) (φ' : Phi) (s' : Shared) : Fl → Loc → Flow → Prop
  | next {loc : Loc} : EnvOK B sc ren nx env loc φ' s'.heap → FlOK B sc ren nx env φ' s' .next loc .next
  | ret {v : V} {x : Value} {loc : Loc} : VR B.Z φ' s'.heap v x → FlOK B sc ren nx env φ' s' (.ret v) loc (.ret x)
structure ResSt (B : Base) (sc : Scope) (ren : Ren) (nx : Nat) (env : Env) (φ : Phi) (s : Shared) (r : Fl × Loc × AH) (f : Flow) (s' : Shared) (φ' : Phi) : Prop where
  st : StW B (ownW sc env) φ s φ' s'
  R : Rep B r.2.2 φ' s'.heap
  fl : FlOK B sc ren nx env φ' s' r.1 r.2.1 f
noncomputable def ResS (B : Base) (sc : Scope) (ren : Ren) (nx : Nat) (env : Env) (φ : Phi) (s : Shared) (r : Fl × Loc × AH) : Flow → Shared → Prop := fun f s' => ∃ φ', ResSt B sc ren nx env φ s r f s' φ'

noncomputable def SndS (B : Base) (C : Oracle) (d : Nat) (sc : Scope) (ren : Ren) (nx : Nat) (st : Stmt) (st' : S) : Prop :=
  ∀ {loc : Loc} {σ : AH} {r : Fl × Loc × AH} {A : Around} {Ex : Value → Shared → Prop} {φ : Phi} {s : Shared} {env : Env}, ex C st' loc σ = some r → At B d sc ren nx A env loc σ φ s → wpAny (model B.prog B.w) A (exec st env) (ResS B sc ren nx env φ s r) Ex s
noncomputable def SndSs (B : Base) (C : Oracle) (d : Nat) (sc : Scope) (ren : Ren) (nx : Nat) (st : List Stmt) (st' : List S) : Prop :=
  ∀ {loc : Loc} {σ : AH} {r : Fl × Loc × AH} {A : Around} {Ex : Value → Shared → Prop} {φ : Phi} {s : Shared} {env : Env}, exs C st' loc σ = some r → At B d sc ren nx A env loc σ φ s → wpAny (model B.prog B.w) A (execs st env) (ResS B sc ren nx env φ s r) Ex s

theorem ResS.after {r : Fl × Loc × AH} {f : Flow} (st : StW B (ownW sc env) φ s φ' s') (h : ResS B sc ren nx env φ' s' r f s'') : ResS B sc ren nx env φ s r f s'' := h.elim fun φ'' h => ⟨φ'', st.seq h.st fun b hb => .inl hb, h.R, h.fl⟩
theorem wp_afterS {t : Sem Flow} {r : Fl × Loc × AH} (st : StW B (ownW sc env) φ s φ' s') (h : wpAny (model B.prog B.w) A t (ResS B sc ren nx env φ' s' r) Ex s') : wpAny (model B.prog B.w) A t (ResS B sc ren nx env φ s r) Ex s' :=
  wpAny_mono h (fun _ _ q => q.after st) fun _ _ q => q
theorem ResS.bind {t : Sem Flow} {r : Fl × Loc × AH} {Q : Flow → Shared → Prop} (rm : Room A d) (h : wpAny (model B.prog B.w) A t (ResS B sc ren nx env φ s r) Ex s)
    (kn : r.1 = .next → ∀ φ' s', StW B (ownW sc env) φ s φ' s' → At B d sc ren nx A env r.2.1 r.2.2 φ' s' → Q .next s')
    (kr : ∀ v, r.1 = .ret v → ∀ φ' s' x, StW B (ownW sc env) φ s φ' s' → Rep B r.2.2 φ' s'.heap → VR B.Z φ' s'.heap v x → Q (.ret x) s') : wpAny (model B.prog B.w) A t Q Ex s := by
  obtain ⟨fl, l, σ2⟩ := r
  refine wpAny_mono h (fun f s' h => ?_) fun _ _ q => q
  obtain ⟨φ', st, R, fl⟩ := h
  cases fl with
  | next V => exact kn rfl φ' s' st ⟨rm, V, R⟩
  | ret v => exact kr _ rfl φ' s' _ st R v
theorem StW.ofSt (st : St B φ s φ' s') (V : EnvOK B sc ren nx env loc φ s.heap) : StW B (ownW sc env) φ s φ' s' := StW.of st V.safe
theorem res_nextW {r : Fl × Loc × AH} (e : some (.next, loc', σ') = some r) (st : StW B (ownW sc env) φ s φ' s') (K : At B d sc ren nx A env loc' σ' φ' s') : ResS B sc ren nx env φ s r .next s' := by cases e; exact ⟨φ', st, K.R, .next K.V⟩
/-- a statement that ends where it stands -/
theorem res_next {r : Fl × Loc × AH} (e : some (.next, loc, σ') = some r) (K : At B d sc ren nx A env loc σ φ s) (st : St B φ s φ' s') (R' : Rep B σ' φ' s'.heap) : ResS B sc ren nx env φ s r .next s' := res_nextW e (StW.ofSt st K.V) (K.step st R')
theorem res_ret {v : V} {x : Value} {r : Fl × Loc × AH} (e : some (.ret v, loc', σ') = some r) (st : StW B (ownW sc env) φ s φ' s') (R' : Rep B σ' φ' s'.heap) (rx : VR B.Z φ' s'.heap v x) : ResS B sc ren nx env φ s r (.ret x) s' := by cases e; exact ⟨φ', st, R', .ret rx⟩

/-- what goes on behind a statement's run -/
theorem fl_cases {α : Type} {r : Fl × Loc × AH} {f : V → Option α} {g : Option α} {w : α} {P : Prop} (h : (match r.1 with | .ret v => f v | .next => g) = some w) (kn : r.1 = .next → g = some w → P) (kr : ∀ v, r.1 = .ret v → f v = some w → P) : P := by
  cases hr : r.1 with
  | next => rw [hr] at h; exact kn hr h
  | ret v => rw [hr] at h; exact kr v hr h

theorem stmts_cons {st : Stmt} {rest : List Stmt} {st' : S} {rest' : List S} (q : SndS B C d sc ren nx st st') (qs : SndSs B C d sc ren nx rest rest') : SndSs B C d sc ren nx (st :: rest) (st' :: rest') := fun h K =>
  bindE h fun p h1 h => wpAny_execs_cons (ResS.bind K.rm (q h1 K)
    (fun e φ1 s1 st1 K1 => by rw [e] at h; exact wp_afterS st1 (qs h K1))
    fun v e φ1 s1 x st1 R1 rx => by rw [e] at h; exact res_ret h st1 R1 rx)
theorem stmts_nil : SndSs B C d sc ren nx [] [] := fun h K => wpAny_execs_nil (res_next h K (St.refl ..) K.R)

theorem aug_ok {op : Operator} {a b v : Mine.V} {x y : Value} (e : augV op a b = some v) (R : Rep B σ φ s.heap) (ra : VR B.Z φ s.heap a x) (rb : VR B.Z φ s.heap b y) : wpAny (model B.prog B.w) A (inplaceOp op x y) (Res B φ s σ v) Ex s := by
  cases op with
  | Add => cases a with
    | int i => exact bindE e fun _ h2 e => vInt (P := fun x => wpAny _ _ (inplaceOp _ x y) _ Ex s) (a := .int i) rfl ra fun t => vInt (P := fun y => wpAny _ _ (inplaceOp _ _ y) _ Ex s) h2 rb fun u => leafV e (PyProof.Rows.iadd_int (res_here R (vr_int _ _) _))
    | str z => exact bindE e fun w h2 e => ifE e fun h e => vStr (P := fun x => wpAny _ _ (inplaceOp _ x y) _ Ex s) (a := .str z) rfl ra fun t => vStr (P := fun y => wpAny _ _ (inplaceOp _ _ y) _ Ex s) h2 rb fun u => leafV e (PyProof.Rows.iadd_str (fun t' tk => res_here R (vr_str' _ _ (add_txt ..) _) _) (add_len h))
    | _ => exact noneE e
  | Sub => exact int2_ok (P := fun x y => wpAny _ _ (inplaceOp _ x y) _ Ex s) e ra rb fun i j t u e => leafV e (PyProof.Rows.isub_int (res_here R (vr_int _ _) _))
  | Mult => exact int2_ok (P := fun x y => wpAny _ _ (inplaceOp _ x y) _ Ex s) e ra rb fun i j t u e => ifE e fun h e => leafV e (PyProof.Rows.imul_int (res_here R (vr_int ..) _) (IntMulOk.of_le (bits_big h.1) (bits_big h.2) (by decide)))
  | FloorDiv => exact int2_ok (P := fun x y => wpAny _ _ (inplaceOp _ x y) _ Ex s) e ra rb fun i j t u e => nifE e fun h e => leafV e (PyProof.Rows.ifloordiv_int (fun q => h (.inl q)) (res_here R (vr_int ..) _) (.inl (PyProof.noPylong_of_log2 (log_big (Nat.lt_of_not_le fun q => h (.inr q))))))
  | _ => exact noneE e

theorem setIdx_ok (Y : Sys B) {o i v : Mine.V} {x y z : Value} (e : setIdxV o i v σ = some σ') (R : Rep B σ φ s.heap) (ro : VR B.Z φ s.heap o x) (ri : VR B.Z φ s.heap i y) (rv : VR B.Z φ s.heap v z) {Q : Unit → Shared → Prop}
    (k : ∀ φ' s', St B φ s φ' s' → Rep B σ' φ' s'.heap → Q () s') : wpAny (model B.prog B.w) A (setItem x y z) Q Ex s := by
  refine bindE e fun a ha e => bindE e fun n hn e => bindE e fun vs hv e => bindE e fun j hj e => vObj (P := fun x => wpAny _ _ (setItem x y z) Q Ex s) ha ro fun p hp => vInt (P := fun y => wpAny _ _ (setItem _ y z) Q Ex s) hn ri fun t => list_at R hp hv fun items c _ g r1 hz => ?_
  cases e
  have hl := VRs_length r1
  have fin : Q () { s with heap := s.heap.update p.1 (Obj.mapSeq (·.setIfInBounds j z)) } := by
    obtain ⟨c', hc'⟩ := mapSeq_lst (·.setIfInBounds j z) items.toArray c
    refine bindE (show (σ[a]?).bind asL = some vs from hv) fun o ho hv => ?_
    cases o with
    | list us =>
      cases hv
      obtain ⟨φ', h2, h3, _⟩ := list_put Y R (h' := s.heap.update p.1 (Obj.mapSeq (·.setIfInBounds j z))) ho hp (Heap.SameBut.update ..) (ys := items.set j z) (c := c') (v := .none) (x := .none) (by rw [Heap.get?_update_self _ g (by rw [hc']; rfl), hc']; simp) (VRs_set rv j r1) (by simpa using hz) vr_none
      exact k φ' _ h2 h3
    | _ => exact noneE hv
  have hz' : vs.length ≤ 1000000 := hz
  exact place_cases hj (fun h0 h1 e => PySem.W.ki_setAt g h0 (by omega) (by simp; omega) (e ▸ fin)) fun h0 h1 e => PySem.W.ki_setBack g h0 (by simp; omega) (by omega) (by rw [show (n + (items.toArray.size : Int)).toNat = j from by rw [e, hl]; simp]; exact fin)
theorem delIdx_ok (Y : Sys B) {o i : Mine.V} {x y : Value} (e : delIdxV o i σ = some σ') (R : Rep B σ φ s.heap) (ro : VR B.Z φ s.heap o x) (ri : VR B.Z φ s.heap i y) {Q : Unit → Shared → Prop}
    (k : ∀ φ' s', St B φ s φ' s' → Rep B σ' φ' s'.heap → Q () s') : wpAny (model B.prog B.w) A (delItem x y) Q Ex s := by
  refine bindE e fun a ha e => bindE e fun n hn e => bindE e fun vs hv e => bindE e fun j hj e => vObj (P := fun x => wpAny _ _ (delItem x y) Q Ex s) ha ro fun p hp => vInt (P := fun y => wpAny _ _ (delItem _ y) Q Ex s) hn ri fun t => list_at R hp hv fun items c _ g r1 hz => ?_
  cases e
  have hl := VRs_length r1
  have hj' := hj
  rw [place_eq, hl] at hj'
  refine bindE (show (σ[a]?).bind asL = some vs from hv) fun o ho hv => ?_
  cases o with
  | list us =>
    cases hv
    refine wpAny_delItem_plain (items := items.toArray) ⟨c, g⟩ (lim_index hj hz) (by simpa using hj') (fun h' hp' sb => ?_) (lim_line (by rw [hl] at hz; exact hz))
    obtain ⟨c', hg⟩ := hp'
    obtain ⟨φ', h2, h3, _⟩ := list_put Y R ho hp sb (ys := items.eraseIdx j) (c := c') (v := .none) (x := .none) (by rw [hg, erase_arr]) (VRs_erase j r1) (Nat.le_trans (List.length_eraseIdx_le ..) hz) vr_none
    exact k φ' _ h2 h3
  | _ => exact noneE hv

/-- while -/
theorem while_ok {test : Expr} {body : List Stmt} {c' : Mine.E} {body' : List S} (qt : Snd B C d sc ren nx test c') (qb : SndSs B C d sc ren nx body body') : ∀ (fuel : Nat) {loc : Loc} {σ : AH} {r : Fl × Loc × AH} {φ : Phi} {s : Shared} {Rr : Result → Shared → Prop},
    whileM (fun l s => (ev C c' l s).bind fun p => (truth p.1 p.2).bind fun t => some (t, p.2)) (fun l s => exs C body' l s) fuel loc σ = some r → At B d sc ren nx A env loc σ φ s →
    (∀ f s', ResS B sc ren nx env φ s r f s' → Rr (.ok f) s') → codeAny (model B.prog B.w) A (.whileLoop test body [] env) Rr s := by
  intro fuel
  induction fuel with
  | zero => intro loc σ r φ s Rr h; exact noneE h
  | succ fuel ih =>
    intro loc σ r φ s Rr h K k
    refine bindE h fun b hb h => bindE hb fun p he hb => bindE hb fun t ht hb => ?_
    cases hb
    refine codeAny_of_tree ?_
    show wpAny _ A ((whileTurn test body [] env).onRaise (fun x => do noteFrame x env; theTreesLotGoes x)) _ _ s
    refine wpAny_noted ?_
    show wpAny _ _ (isTrue test env (eval test env) >>= fun b => _) _ _ s
    refine wpAny_bind (qt.test he ht K fun φ1 s1 st1 K1 => ?_)
    cases t with
    | false => exact wpAny_bind (wpAny_execs_nil (wpAny_pure (k .next s1 (res_next h K st1 K1.R))))
    | true =>
      refine bindE (show (exs C body' loc p.2).bind (fun r => match r.1 with | .ret v => some (.ret v, r.2.1, r.2.2) | .next => whileM _ _ fuel r.2.1 r.2.2) = some r from h) fun w hb h => ?_
      refine wpAny_bind (ResS.bind K1.rm (qb hb K1) (fun e φ2 s2 st2 K2 => ?_) fun v e φ2 s2 x st2 R2 rx => ?_)
      · rw [e] at h
        exact wpAny_pure ⟨rfl, ih h K2 fun f s' hr => k f s' (hr.after ((StW.ofSt st1 K.V).seq st2 fun b hb => .inl hb))⟩
      · rw [e] at h
        exact wpAny_pure (k _ s2 (res_ret h ((StW.ofSt st1 K.V).seq st2 fun b hb => .inl hb) R2 rx))

/-- for -/
noncomputable def forF (C : Oracle) (t' : Tgt) (body' : List S) : V → Loc → AH → Option ((Loc ⊕ (V × Loc)) × AH) := fun v l s => (assignT t' v l s).bind fun l1 => (exs C body' l1 s).bind fun r => match r.1 with
  | .next => some (.inl r.2.1, r.2.2)
  | .ret x => some (.inr (x, r.2.1), r.2.2)
theorem for_ok (Y : Sys B) (rm : Room A d) {t : Expr} {t' : Tgt} (ht : trTgt sc ren t = some t') {body : List Stmt} {body' : List S} (qb : SndSs B C d sc ren nx body body') : ∀ (fuel : Nat) {it : It} {a : Addr} {Wi : List Addr} {loc : Loc} {r : (Loc ⊕ (Mine.V × Loc)) × AH} {σ : AH} {φ : Phi} {s : Shared} {Rr : Result → Shared → Prop},
    loopM (forF C t' body') fuel it loc σ = some r → (∀ i j k, it ≠ .zip i j k) → ItR B φ s.heap it a Wi → itSafe B φ s.heap Wi → Off Wi env env.locals → At B d sc ren nx A env loc σ φ s →
    (∀ l φ' s', r.1 = .inl l → StW B (Wi ++ ownW sc env) φ s φ' s' → At B d sc ren nx A env l r.2 φ' s' → Rr (.ok .next) s') →
    (∀ v l φ' s' x, r.1 = .inr (v, l) → StW B (Wi ++ ownW sc env) φ s φ' s' → Rep B r.2 φ' s'.heap → VR B.Z φ' s'.heap v x → Rr (.ok (.ret x)) s') → codeAny (model B.prog B.w) A (.forLoop t (.ref a) body [] env) Rr s := by
  intro fuel
  induction fuel with
  | zero => intro it a Wi loc r σ φ s Rr h; exact noneE h
  | succ fuel ih =>
    intro it a Wi loc r σ φ s Rr h hz I S hoff K kn kr
    have inW : ∀ b ∈ Wi, b ∈ Wi ++ ownW sc env := fun b hb => List.mem_append.mpr (.inl hb)
    have inO : ∀ b ∈ ownW sc env, b ∈ Wi ++ ownW sc env := fun b hb => List.mem_append.mpr (.inr hb)
    have Sall : Safe B.Z (Wi ++ ownW sc env) s.heap := S.1.append K.V.safe
    refine bindE h fun o ho h => codeAny_of_tree ?_
    show wpAny _ A ((forTurn t (.ref a) body [] env).onRaise (fun x => do noteFrame x env; theTreesLotGoes x)) _ _ s
    refine wpAny_noted ?_
    unfold forTurn
    refine wpAny_bind (wpAny_standAt (wpAny_bind (wpAny_onRaise (wpAny_mono (next_ok (Ex := fun _ _ => False) (t := t) Y rm.handled (fun i j k e => absurd e (hz i j k)) ho I S K.R ⟨fun e s1 st R1 => ?_, fun q xv s1 e hgo => ?_⟩) (fun _ _ q => q) fun _ _ q => q.elim))))
    · subst e
      cases h
      refine wpAny_pure ⟨rfl, codeAny_of_tree ?_⟩
      show wpAny _ _ ((execs [] env).onRaise (fun x => do noteFrame x env; theTreesLotGoes x) >>= fun f => (pure (Fin.done f) : Sem PySem.Fin)) _ _ s1
      exact wpAny_bind (wpAny_onRaise (wpAny_execs_nil (wpAny_pure (kn loc φ s1 rfl (st.widen (fun b hb => .inl (inW b hb)) Sall) ⟨rm, K.V.stepW st K.R hoff.locals hoff.cells, R1⟩))))
    · subst e
      refine wpAny_bind (wpAny_mono hgo (fun _ s2 hd => ?_) fun _ _ q => q.elim)
      have W2 : StW B (Wi ++ ownW sc env) φ s φ s2 := hd.st.widen (fun b hb => .inl (inW b hb)) Sall
      have K2 : At B d sc ren nx A env loc σ φ s2 := ⟨rm, K.V.stepW hd.st K.R hoff.locals hoff.cells, hd.R⟩
      refine bindE (show (forF C t' body' q.1 loc σ).bind _ = some r from h) fun w hF h => bindE hF fun l1 hl1 hF => bindE hF fun p hb hF => wpAny_bind (tgt_ok Y ht hl1 K2 hd.r fun s3 st3 K3 => ?_)
      obtain ⟨I3, S3⟩ := it_keep K2.R hd.I hd.S st3 hoff.own
      have W3 := W2.seq st3 fun b hb => .inl (inO b hb)
      refine wpAny_bind (ResS.bind rm (qb hb K3) (fun e φ4 s4 st4 K4 => ?_) fun v e φ4 s4 x st4 R4 rx => ?_)
      · rw [e] at hF
        cases hF
        obtain ⟨I4, S4⟩ := it_keep K3.R I3 S3 st4 hoff.own
        have W4 := W3.seq st4 fun b hb => .inl (inO b hb)
        refine wpAny_pure ⟨rfl, ih h (fun i j k e => ?_) I4 S4 hoff K4 (fun l φ' s' e x K' => kn l φ' s' e (W4.seq x fun b hb => .inl hb) K') fun v l φ' s' y e x R' ry => kr v l φ' s' y e (W4.seq x fun b hb => .inl hb) R' ry⟩
        obtain ⟨i, j, k, e⟩ := nextOf_zip (v := q.1) (i := i) (j := j) (k := k) (by rw [ho, ← e])
        exact hz i j k e
      · rw [e] at hF
        cases hF
        cases h
        exact wpAny_pure (kr v _ φ4 s4 x rfl (W3.seq st4 fun b hb => .inl (inO b hb)) R4 rx)
end
end Mine
end
section -- NV
set_option maxRecDepth 100000
set_option autoImplicit false
namespace Mine
open PySem

theorem setAll_len : ∀ (is : List Nat) (vs : List V) (loc : Loc), (setAll is vs loc).length = loc.length
  | [], _, _ => rfl
  | _ :: _, [], _ => rfl
  | i :: is, v :: vs, loc => by simp only [setAll]; rw [setAll_len is vs]; simp
theorem setAll_mem : ∀ {is : List Nat} {vs : List V} {loc : Loc} {j : Nat} {v : V}, (setAll is vs loc)[j]? = some (some v) → (∃ k : Nat, is[k]? = some j ∧ vs[k]? = some v ∧ j < loc.length) ∨ (loc[j]? = some (some v) ∧ (is.length = vs.length → j ∉ is))
  | [], _, _, _, _, h => .inr ⟨h, fun _ h => nomatch h⟩
  | _ :: _, [], _, _, _, h => .inr ⟨h, fun h => by simp at h⟩
  | i :: is, u :: vs, loc, j, v, h => by
    simp only [setAll] at h
    rcases setAll_mem h with ⟨k, h1, h2, h3⟩ | ⟨h1, h2⟩
    · exact .inl ⟨k + 1, by simpa using h1, by simpa using h2, by simpa using h3⟩
    · by_cases hij : i = j
      · subst hij
        have hl : i < loc.length := by
          have := (List.getElem?_eq_some_iff.mp h1).1
          simpa using this
        rw [List.getElem?_set_self hl] at h1
        cases h1
        exact .inl ⟨0, rfl, rfl, hl⟩
      · rw [List.getElem?_set_ne hij] at h1
        refine .inr ⟨h1, fun hl hm => ?_⟩
        rcases List.mem_cons.mp hm with e | hm
        · exact hij e.symm
        · exact h2 (by simpa using hl) hm
theorem setAll_intro : ∀ {is : List Nat} {vs : List V} {loc : Loc} {j k : Nat} {v : V}, is.Nodup → is[k]? = some j → vs[k]? = some v → j < loc.length → (setAll is vs loc)[j]? = some (some v)
  | [], _, _, _, _, _, _, h, _, _ => by simp at h
  | _ :: _, [], _, _, _, _, _, _, h, _ => by simp at h
  | i :: is, u :: vs, loc, j, 0, v, hn, h1, h2, hl => by
    simp at h1 h2
    subst h1 h2
    simp only [setAll]
    exact setAll_get (List.nodup_cons.mp hn).1 (by rw [List.getElem?_set_self hl])
  | i :: is, u :: vs, loc, j, k + 1, v, hn, h1, h2, hl => by
    simp only [setAll]
    exact setAll_intro (List.nodup_cons.mp hn).2 (by simpa using h1) (by simpa using h2) (by simpa using hl)
theorem setAll_rev {is : List Nat} {vs : List V} {loc : Loc} (hn : is.Nodup) (hl : is.length = vs.length) {j : Nat} {v : V} (h : (setAll is vs loc)[j]? = some (some v)) : (setAll is.reverse vs.reverse loc)[j]? = some (some v) := by
  rcases setAll_mem h with ⟨k, h1, h2, h3⟩ | ⟨h1, h2⟩
  · have hk : k < is.length := (List.getElem?_eq_some_iff.mp h1).1
    refine setAll_intro (k := is.length - 1 - k) (List.pairwise_reverse.mpr (List.Pairwise.imp (fun h => Ne.symm h) hn)) ?_ ?_ h3
    · rw [List.getElem?_reverse (by omega)]
      rw [show is.length - 1 - (is.length - 1 - k) = k by omega]; exact h1
    · rw [List.getElem?_reverse (by omega), ← hl]
      rw [show is.length - 1 - (is.length - 1 - k) = k by omega]; exact h2
  · exact setAll_get (fun hm => h2 hl (List.mem_reverse.mp hm)) h1

section
variable {B : Base} {C : Oracle} {d : Nat} {A : Around} {Ex : Value → Shared → Prop} {σ σ' σ1 : AH} {φ φ' φ'' : Phi} {s s' s'' : Shared} {sc : Scope} {ren : Ren} {nx : Nat} {env : Env} {loc loc' loc'' : Loc}

theorem binds_ok (Y : Sys B) : ∀ {names : List Str} {is : List Nat} {vs : List V} {xs : List Value} {loc : Loc} {s : Shared} {Q : Unit → Shared → Prop}, names.map (nameSlot sc ren) = is.map some → vs.length = is.length → VRs B.Z φ s.heap vs xs → At B d sc ren nx A env loc σ φ s →
    (∀ s', StW B (ownW sc env) φ s φ s' → At B d sc ren nx A env (setAll is vs loc) σ φ s' → Q () s') → wpAny (model B.prog B.w) A (assignInOrder (names.map fun n => bindName env n) xs) Q Ex s
  | [], is, vs, xs, loc, s, Q, h, hl, r, K, k => by
    cases is with
    | cons _ _ => exact nomatch h
    | nil => exact wpAny_pure (k s (StW.refl _ _ _ K.V.safe) (by cases vs <;> exact K))
  | x :: names, is, vs, xs, loc, s, Q, h, hl, r, K, k => by
    cases is with
    | nil => exact nomatch h
    | cons i is =>
      rw [List.map_cons, List.map_cons, List.cons.injEq] at h
      cases vs with
      | nil => exact nomatch hl
      | cons v vs =>
        refine vCons (P := fun xs => wpAny (model B.prog B.w) A (assignInOrder ((x :: names).map fun n => bindName env n) xs) Q Ex s) r fun xv xs r1 r2 => ?_
        show wpAny _ _ (do holding xs (bindName env x xv); assignInOrder (names.map fun n => bindName env n) xs) _ _ _
        exact wpAny_bind (wpAny_holding (wpAny_bindName (store_ok Y K h.1 r1 fun s1 st1 K1 => binds_ok Y h.2 (Nat.succ.inj hl) (st1.vrs K.R r2) K1 fun s2 st2 K2 => k s2 (st1.trans st2) K2)))

/-- what swapsWith says of a translated value that is no comprehension -/
theorem swaps_none {GT : Str → Option GV} {n : Nat} {e : Expr} {t : Option Expr} {e' : Mine.E} {line : Nat} {u : Unit} (h : tr GT n sc ren nx e = some e') (hc : eComp e = some u) : swapsWith e t line env = pure false := by
  cases n with
  | zero => exact noneE h
  | succ n =>
    cases e with
    | ListComp _ _ _ _ => exact noneE hc
    | SetComp _ _ _ _ => exact noneE h
    | DictComp _ _ _ _ _ => exact noneE h
    | _ => rfl
theorem eComp_eq {e : Expr} (h : eComp e = none) : ∃ elt gens cs p, e = .ListComp elt gens cs p := by
  cases e with
  | ListComp elt gens cs p => exact ⟨elt, gens, cs, p, rfl⟩
  | _ => exact nomatch h

theorem fm_cons {f : Expr → Option Str} {e : Expr} {es : List Expr} {names : List Str} (h : (e :: es).filterMap f = names) : (∃ b, f e = some b ∧ b :: es.filterMap f = names) ∨ es.filterMap f = names := by
  cases hf : f e with
  | some b => rw [List.filterMap_cons_some hf] at h; exact .inl ⟨b, rfl, h⟩
  | none => rw [List.filterMap_cons_none hf] at h; exact .inr h
theorem names_filter (hk : env.scope.kind = .function) (line : Nat) : ∀ {ts : List Expr} {is : List Nat}, nameSlots sc ren ts = some is → ∀ {names : List Str}, (ts.filterMap fun
      | .Name id pos => if env.kindOf id == some .local && pos.line == line then some id else none
      | _ => none) = names → names.length = ts.length → names.map (nameSlot sc ren) = is.map some
  | [], is, h, names, hf, _ => by cases h; subst hf; rfl
  | e :: es, is, h, names, hf, hl => bindE h fun x h1 h => bindE h fun i h2 h => bindE h fun is' h3 h => by
    cases h
    rw [eName_eq h1] at hf
    rcases fm_cons hf with ⟨b, hb, hf⟩ | hf
    · refine ifE (c := (env.kindOf x.1 == some .local && x.2.line == line) = true) hb fun _ hb => ?_
      cases hb
      subst hf
      rw [List.map_cons, List.map_cons, h2, names_filter hk line h3 rfl (Nat.succ.inj hl)]
    · subst hf
      exact absurd (Nat.le_trans (Nat.le_of_eq hl.symm) (List.length_filterMap_le _ es)) (Nat.not_succ_le_self _)

theorem iteI {α : Type} {c : Prop} [Decidable c] {P : α → Prop} {a b : α} (h1 : c → P a) (h2 : ¬ c → P b) : P (if c then a else b) := by
  by_cases h : c
  · rw [if_pos h]; exact h1 h
  · rw [if_neg h]; exact h2 h
theorem sw_none {e : Expr} {ts : List Expr} {k : Nat} {p : Pos} (h : eTup e = none) : swappedStores [.Tuple ts k p] e env = pure none := by
  cases e with
  | Tuple _ _ _ => exact nomatch h
  | _ => rfl
/-- the stores of a tuple of names from a tuple -/
theorem swapped_eq {t e : Expr} {t' : Tgt} (ht : trTgt sc ren t = some t') (hok : storesOK t e = true) (hk : env.scope.kind = .function) :
    swappedStores [t] e env = pure none ∨ ∃ names is, swappedStores [t] e env = pure (some names) ∧ t' = .vars is ∧ is.Nodup ∧ names.map (nameSlot sc ren) = is.map some := by
  unfold trTgt at ht
  cases hn : eName t with
  | some x => rw [eName_eq hn]; exact .inl rfl
  | none =>
    rw [hn] at ht
    refine bindE ht fun w hw ht => bindE ht fun is his ht => ifE ht fun hnd ht => ?_
    cases ht
    rw [eTup_eq hw] at hok ⊢
    cases he : eTup e with
    | none => exact .inl (sw_none he)
    | some v =>
      rw [eTup_eq he] at hok ⊢
      unfold swappedStores
      refine iteI (P := fun t : Sem (Option (List Str)) => t = pure none ∨ ∃ names is', t = pure (some names) ∧ Tgt.vars is = .vars is' ∧ is'.Nodup ∧ names.map (nameSlot sc ren) = is'.map some) (fun _ => .inl rfl) fun _ => ?_
      refine iteI (P := fun t : Sem (Option (List Str)) => t = pure none ∨ ∃ names is', t = pure (some names) ∧ Tgt.vars is = .vars is' ∧ is'.Nodup ∧ names.map (nameSlot sc ren) = is'.map some) (fun _ => .inl rfl) fun _ => ?_
      refine iteI (P := fun t : Sem (Option (List Str)) => t = pure none ∨ ∃ names is', t = pure (some names) ∧ Tgt.vars is = .vars is' ∧ is'.Nodup ∧ names.map (nameSlot sc ren) = is'.map some) (fun _ => .inl rfl) fun h3 => ?_
      refine iteI (P := fun t : Sem (Option (List Str)) => t = pure none ∨ ∃ names is', t = pure (some names) ∧ Tgt.vars is = .vars is' ∧ is'.Nodup ∧ names.map (nameSlot sc ren) = is'.map some) (fun _ => .inl rfl) fun h4 => ?_
      refine iteI (P := fun t : Sem (Option (List Str)) => t = pure none ∨ ∃ names is', t = pure (some names) ∧ Tgt.vars is = .vars is' ∧ is'.Nodup ∧ names.map (nameSlot sc ren) = is'.map some) (fun h5 => ?_) fun _ => ?_
      · have hok : (v.1.all (foldedForSure 8) || !(v.1.all (constantsAlone 8))) = true := hok
        rw [h5, Bool.not_true, Bool.or_false] at hok
        exact absurd hok h4
      · refine .inr ⟨_, is, rfl, rfl, hnd, names_filter hk _ his rfl ?_⟩
        rw [Bool.or_eq_true, not_or, bne_iff_ne, Decidable.not_not] at h3
        exact h3.1
end
end Mine
end
section -- NW
set_option maxRecDepth 100000
set_option autoImplicit false
namespace Mine
open PySem

section
variable {B : Base} {C : Oracle} {d : Nat} {A : Around} {Ex : Value → Shared → Prop} {σ σ' σ1 : AH} {φ φ' φ'' : Phi} {s s' s'' : Shared} {sc : Scope} {ren : Ren} {nx : Nat} {env : Env} {loc loc' loc'' : Loc}

theorem swaps_no {GT : Str → Option GV} {n : Nat} {e t : Expr} {e' : Mine.E} {line : Nat} (h : tr GT n sc ren nx e = some e') (hn : eName t = none) : swapsWith e (some t) line env = pure false := by
  cases hc : eComp e with
  | some u => exact swaps_none h hc
  | none =>
    obtain ⟨elt, gens, cs, p, rfl⟩ := eComp_eq hc
    cases t with
    | Name _ _ => exact nomatch hn
    | _ => rfl
theorem swaps_any {GT : Str → Option GV} {n : Nat} {e t : Expr} {e' : Mine.E} {line : Nat} (h : tr GT n sc ren nx e = some e') : ∃ b, swapsWith e (some t) line env = pure b ∧ (b = true → ∃ elt gens cs pos x p, e = .ListComp elt gens cs pos ∧ t = .Name x p) := by
  cases hn : eName t with
  | none => exact ⟨false, swaps_no h hn, nofun⟩
  | some x =>
    cases hc : eComp e with
    | some u => exact ⟨false, swaps_none h hc, nofun⟩
    | none =>
      obtain ⟨elt, gens, cs, p, rfl⟩ := eComp_eq hc
      rw [eName_eq hn]
      exact ⟨_, rfl, fun _ => ⟨_, _, _, _, _, _, rfl, rfl⟩⟩
theorem tgt_each {t : Expr} {t' : Tgt} (ht : trTgt sc ren t = some t') : (assignEach [t] env).map (·.2) = [assign t env] := by
  unfold trTgt at ht
  cases hn : eName t with
  | some x => rw [eName_eq hn]; rfl
  | none =>
    rw [hn] at ht
    exact bindE ht fun w hw _ => by rw [eTup_eq hw]; rfl

/-- a value stored, where the machine makes it first -/
theorem assign_run {e t : Expr} {pos : Pos} (hb : swapsWith e (some t) pos.line env = pure false) {Q : Flow → Shared → Prop}
    (h : wpAny (model B.prog B.w) A (eval e env >>= fun v => swappedStores [t] e env >>= fun w => assignStores env v w ((assignEach [t] env).map (·.2))) Q Ex s) : wpAny (model B.prog B.w) A (exec (.Assign [t] e pos) env) Q Ex s := by
  show wpAny _ _ (standAt pos >>= fun _ => swapsWith e (some t) pos.line env >>= fun b => if b = true then _ else (eval e env >>= fun v => swappedStores [t] e env >>= fun w => assignStores env v w ((assignEach [t] env).map (·.2)))) _ _ _
  refine wpAny_bind (wpAny_standAt ?_)
  rw [hb]
  refine wpAny_bind (wpAny_pure ?_)
  rw [if_neg Bool.false_ne_true]
  exact h

theorem assign_comp (E0 : Env0 B C d) {n : Nat} {elt : Expr} {gens : List Comprehension} {cs : Scope} {cp p pos : Pos} {x : Str} {t' : Tgt} {e' : Mine.E} (ht : trTgt sc ren (.Name x p) = some t') (he : tr B.GT n sc ren nx (.ListComp elt gens cs cp) = some e')
    (hb : swapsWith (.ListComp elt gens cs cp) (some (.Name x p)) pos.line env = pure true) {r : Fl × Loc × AH} (h : ex C (.assign t' e') loc σ = some r) (K : At B d sc ren nx A env loc σ φ s) : wpAny (model B.prog B.w) A (exec (.Assign [.Name x p] (.ListComp elt gens cs cp) pos) env) (ResS B sc ren nx env φ s r) Ex s := by
  refine bindE h fun q h1 h => bindE h fun l hl h => ?_
  rw [exec_Assign_Name_used _ _ _ _ hb]
  refine wpAny_bind (wpAny_standAt (wpAny_bind ?_))
  cases n with
  | zero => exact noneE he
  | succ n =>
    show wpAny _ _ (comprehension (.ListComp elt gens cs cp) cs env (firstIterPos gens cp) (newList []) (firstAsync gens) (firstIter gens env) (some (assign (.Name x p) env)) >>= fun _ => pure ()) _ _ _
    refine wpAny_bind (comp_any (use := some (assign (.Name x p) env)) (Ex := Ex) (Q := fun _ s' => wpAny (model B.prog B.w) A (pure () : Sem Unit) (fun _ s'' => wpAny (model B.prog B.w) A (pure .next : Sem Flow) (ResS B sc ren nx env φ s r) Ex s'') Ex s') (tr_ok C d n) E0 he h1 K fun φ1 s1 xv Cc st1 R1 rv hC => ?_)
    show wpAny _ _ (assign (.Name x p) env xv) _ _ _
    refine tgt_ok E0.Y ht hl (K.step st1 R1) rv fun s2 st2 K2 => ?_
    obtain ⟨mm, hn⟩ := hC.ns
    have own : ∀ {a : Addr}, a < s.heap.objs.size → a ≠ Cc := fun h e => Nat.lt_irrefl _ (Nat.lt_of_lt_of_le (e ▸ h) hC.ge)
    have hn2 : s2.heap.Ns Cc mm := st2.keep.ns hn fun hm => (List.mem_append.mp hm).elim (fun hm => own (K.V.lt _ hm) rfl) hC.off
    refine ⟨mm, hn2, fun h' sb => ?_⟩
    have kp : Kp B.tabs [Cc] s2.heap h' := .sameBut sb (List.mem_singleton.mpr rfl)
    have S : Safe B.Z [Cc] s2.heap := fun a ha => by
      rw [List.mem_singleton.mp ha]
      obtain ⟨o, es, ep, eo, hd, _⟩ := hn2
      refine ⟨Nat.le_trans K.R.stat.size hC.ge, fun o' e' => ?_⟩
      cases eo.symm.trans e'
      exact ⟨(fun _ items n q => by rw [q] at hd; cases hd), (fun vs q => by rw [q] at hd; cases hd)⟩
    have stw : StW B [Cc] φ1 s2 φ1 { s2 with heap := h' } := ⟨pre_refl .., kp.mono (fun b hb => .inl (List.mem_append.mpr (.inl hb))), S, rfl, id⟩
    exact wpAny_pure (wpAny_pure (res_nextW h (((StW.ofSt st1 K.V).seq st2 fun b hb => .inl hb).seq stw fun b hb => .inr (by rw [List.mem_singleton.mp hb]; exact hC.ge))
      ⟨K.rm, K2.V.stepW stw K2.R (fun hm => own (K.V.lt _ (List.mem_cons_self ..)) (List.mem_singleton.mp hm)) fun y c ec hm => own (K.V.cellsLt ec) (List.mem_singleton.mp hm), K2.R.off E0.Y.ok kp S (fun b hb => by rw [List.mem_singleton.mp hb]; exact hC.off)⟩))

theorem assign_stmt (E0 : Env0 B C d) {n : Nat} {t e : Expr} {t' : Tgt} {e' : Mine.E} {pos : Pos} (ht : trTgt sc ren t = some t') (he : tr B.GT n sc ren nx e = some e') (hok : storesOK t e = true) : SndS B C d sc ren nx (.Assign [t] e pos) (.assign t' e') := by
  intro loc σ r A Ex φ s env h K
  obtain ⟨b, hb, hc⟩ := swaps_any (t := t) (line := pos.line) (env := env) he
  cases b with
  | true =>
    obtain ⟨elt, gens, cs, cp, x, p, rfl, rfl⟩ := hc rfl
    exact assign_comp E0 ht he hb h K
  | false =>
    refine bindE h fun q h1 h => bindE h fun l hl h => assign_run hb (wpAny_bind (((tr_ok C d n).e E0 he).run h1 K fun φ1 s1 x st1 K1 r1 => ?_))
    have W1 := StW.ofSt st1 K.V
    rcases swapped_eq (env := env) ht hok K.V.fk with hsw | ⟨names, is, hsw, rfl, hnd, hmap⟩
    · rw [hsw, tgt_each ht]
      refine wpAny_bind (wpAny_pure ?_)
      show wpAny _ _ (assign t env x >>= fun _ => (pure Flow.next : Sem Flow)) _ _ _
      exact wpAny_bind (tgt_ok E0.Y ht hl K1 r1 fun s2 st2 K2 => wpAny_pure (res_nextW h (W1.seq st2 fun b hb => .inl hb) K2))
    · rw [hsw]
      refine wpAny_bind (wpAny_pure (bindE hl fun us hu hl => ?_))
      cases hl
      have hlen : names.length = is.length := by simpa using congrArg List.length hmap
      show wpAny _ _ (rule "assign.swapped-stores" >>= fun _ => unpackItems x names.length none >>= fun items => assignInOrder (names.reverse.map fun n => bindName env n) items.reverse >>= fun _ => (pure Flow.next : Sem Flow)) _ _ _
      rw [hlen]
      refine wpAny_bind (wpAny_rule (wpAny_bind (wpAny_mono (unpack_ok (Ex := Ex) K.rm.handled hu K1.R r1) (fun xs s2 u => ?_) fun _ _ q => q)))
      refine wpAny_bind (binds_ok E0.Y (is := is.reverse) (vs := us.reverse) (by rw [List.map_reverse, List.map_reverse, hmap]) (by rw [List.length_reverse, List.length_reverse, u.len]) (VRs_reverse u.rs) (K1.step u.st (K1.R.grow E0.Y.ok u.kp)) fun s3 st3 K3 => wpAny_pure (res_nextW h ((StW.ofSt (st1.trans u.st) K.V).seq st3 fun b hb => .inl hb) ⟨K.rm, ?_, K3.R⟩))
      exact K3.V.weaken fun i v hi => setAll_rev hnd u.len.symm hi

theorem load_own {x : Str} {i : Nat} {v : Mine.V} (K : At B d sc ren nx A env loc σ φ s) (hx : nameSlot sc ren x = some i) (hl : loc[i]? = some (some v)) : wpAny (model B.prog B.w) A (loadName env x) (Res B φ s σ v) Ex s :=
  bindE hx fun kd hk hx => ifE hx fun hkd hr => by
    obtain ⟨rv, q, r⟩ := K.V.vals x i v hr hl
    have hk' : env.kindOf x = some kd := K.V.kindE hk (by rcases hkd with rfl | rfl <;> decide)
    rcases q with ⟨hk1, m, hn, hm⟩ | ⟨hk1 | hk1, c, hcell, hv⟩
    · exact wpAny_loadName_local K.V.fk hk1 hn hm (res_here' K.R r)
    · exact wpAny_loadName_cell K.V.fk hk1 hcell hv (res_here' K.R r)
    · cases hk'.symm.trans hk1
      exact absurd hkd (by decide)

theorem augVar_stmt (E0 : Env0 B C d) {n : Nat} {x : Str} {p : Pos} {i : Nat} {op : Operator} {e : Expr} {e' : Mine.E} {pos : Pos} (hx : nameSlot sc ren x = some i) (he : tr B.GT n sc ren nx e = some e') : SndS B C d sc ren nx (.AugAssign (.Name x p) op e pos) (.augVar i op e') := by
  intro loc σ r A Ex φ s env h K
  refine bindE h fun o ho h => bindE h fun old hold h => bindE h fun q h1 h => bindE h fun w hr hfin => ?_
  subst hold
  show wpAny _ _ (standAt p >>= fun _ => loadName env x >>= fun old => holding [old] (eval e env) >>= fun v => standAt pos >>= fun _ => operate [old, v] (inplaceOp op old v) >>= fun new => standAt p >>= fun _ => bindName env x new >>= fun _ => (pure Flow.next : Sem Flow)) _ _ _
  refine wpAny_bind (wpAny_standAt (wpAny_bind (Res.bind (load_own K hx ho) fun φ1 s1 xo st1 R1 r1 => wpAny_bind (wpAny_holding (((tr_ok C d n).e E0 he).run h1 (K.step st1 R1) fun φ2 s2 xv st2 K2 r2 => wpAny_bind (wpAny_standAt (wpAny_bind (wp_operate ?_))))))))
  exact Res.bind (aug_ok hr K2.R (st2.vr R1 r1) r2) fun φ3 s3 xr st3 R3 r3 => wpAny_bind (wpAny_standAt (wpAny_bind (wpAny_bindName
    (store_ok E0.Y (K2.step st3 R3) hx r3 fun s4 st4 K4 => wpAny_pure (res_nextW hfin ((StW.ofSt ((st1.trans st2).trans st3) K.V).seq st4 fun b hb => .inl hb) K4)))))
end
end Mine
end
section -- NX
set_option maxRecDepth 100000
set_option autoImplicit false
namespace Mine
open PySem

section
variable {B : Base} {C : Oracle} {d : Nat} {A : Around} {Ex : Value → Shared → Prop} {σ σ' σ1 : AH} {φ φ' φ'' : Phi} {s s' s'' : Shared} {sc : Scope} {ren : Ren} {nx : Nat} {env : Env} {loc loc' loc'' : Loc}

theorem wp_rel {xs ys : List Value} {Q : Unit → Shared → Prop} {M : Model} (h : Q () s) : wpAny M A (release xs ys) Q Ex s := fun Γ p hΓ => by rw [Sem.wp_release]; exact h

theorem assign_sub (Y : Sys B) {o i : Expr} {o' i' : Mine.E} {p : Pos} (qo : Snd B C d sc ren nx o o') (qi : Snd B C d sc ren nx i i') {v : Mine.V} {p1 p2 : V × AH} {xv : Value} (h1 : ev C o' loc σ = some p1) (h2 : ev C i' loc p1.2 = some p2) (h3 : setIdxV p1.1 p2.1 v p2.2 = some σ')
    (K : At B d sc ren nx A env loc σ φ s) (r : VR B.Z φ s.heap v xv) {Q : Unit → Shared → Prop} (k : ∀ φ' s', St B φ s φ' s' → Rep B σ' φ' s'.heap → Q () s') : wpAny (model B.prog B.w) A (assign (.Subscript o i p) env xv) Q Ex s := by
  show wpAny _ _ (holding [xv] (eval o env) >>= fun ov => holding [xv, ov] (eval i env) >>= fun iv => standAt p >>= fun _ => holding [xv, ov, iv] (setItem ov iv xv) >>= fun _ => release (match (generalizing := false) i with | .Slice _ _ none _ => [iv, xv, ov] | _ => [xv, ov, iv]) []) _ _ _
  refine wpAny_bind (wpAny_holding (qo.run h1 K fun φ1 s1 xo st1 K1 r1 => wpAny_bind (wpAny_holding (qi.run h2 K1 fun φ2 s2 xi st2 K2 r2 => wpAny_bind (wpAny_standAt (wpAny_bind (wpAny_holding ?_)))))))
  exact setIdx_ok Y h3 K2.R (st2.vr K1.R r1) r2 (st2.vr K1.R (st1.vr K.R r)) fun φ3 s3 st3 R3 => wp_rel (k φ3 s3 ((st1.trans st2).trans st3) R3)

theorem setIdx_stmt (E0 : Env0 B C d) {n : Nat} {o i e : Expr} {o' i' e' : Mine.E} {p pos : Pos} (ho : tr B.GT n sc ren nx o = some o') (hi : tr B.GT n sc ren nx i = some i') (he : tr B.GT n sc ren nx e = some e') : SndS B C d sc ren nx (.Assign [.Subscript o i p] e pos) (.setIdx o' i' e') := by
  intro loc σ r A Ex φ s env h K
  refine bindE h fun q h1 h => bindE h fun x h2 h => bindE h fun k h3 h => bindE h fun w h4 h => assign_run (swaps_no he rfl) (wpAny_bind (((tr_ok C d n).e E0 he).run h1 K fun φ1 s1 xv st1 K1 r1 => ?_))
  rw [show swappedStores [.Subscript o i p] e env = pure none from rfl]
  refine wpAny_bind (wpAny_pure ?_)
  show wpAny _ _ (assign (.Subscript o i p) env xv >>= fun _ => (pure Flow.next : Sem Flow)) _ _ _
  exact wpAny_bind (assign_sub E0.Y ((tr_ok C d n).e E0 ho) ((tr_ok C d n).e E0 hi) h2 h3 h4 K1 r1 fun φ2 s2 st2 R2 => wpAny_pure (res_next h K (st1.trans st2) R2))

theorem swap_stmt (E0 : Env0 B C d) {n : Nat} {o1 i1 o2 i2 e1 e2 : Expr} {o1' i1' o2' i2' e1' e2' e' : Mine.E} {p1 p2 tp vp pos : Pos} {k k2} (ho1 : tr B.GT n sc ren nx o1 = some o1') (hi1 : tr B.GT n sc ren nx i1 = some i1') (ho2 : tr B.GT n sc ren nx o2 = some o2') (hi2 : tr B.GT n sc ren nx i2 = some i2') (he1 : tr B.GT n sc ren nx e1 = some e1') (he2 : tr B.GT n sc ren nx e2 = some e2')
    (he : tr B.GT n sc ren nx (.Tuple [e1, e2] k2 vp) = some e') : SndS B C d sc ren nx (.Assign [.Tuple [.Subscript o1 i1 p1, .Subscript o2 i2 p2] k tp] (.Tuple [e1, e2] k2 vp) pos) (.swap o1' i1' o2' i2' e1' e2') := by
  have T : ∀ {x : Expr} {x' : Mine.E}, tr B.GT n sc ren nx x = some x' → Snd B C d sc ren nx x x' := fun h => (tr_ok C d n).e E0 h
  intro loc σ r A Ex φ s env h K
  refine bindE h fun q1 h1 h => bindE h fun q2 h2 h => bindE h fun x1 g1 h => bindE h fun k1 g2 h => bindE h fun σ3 h3 h => bindE h fun x2 g3 h => bindE h fun kk2 g4 h => bindE h fun σ5 h5 h => ?_
  have hv : evs C [e1', e2'] loc σ = some ([q1.1, q2.1], q2.2) := by
    show (ev C e1' loc σ).bind _ = _
    rw [h1]
    show ((ev C e2' loc q1.2).bind _).bind _ = _
    rw [h2]
    rfl
  have hsw : swappedStores [.Tuple [.Subscript o1 i1 p1, .Subscript o2 i2 p2] k tp] (.Tuple [e1, e2] k2 vp) env = pure none := by
    unfold swappedStores
    refine iteI (P := fun t : Sem (Option (List Str)) => t = pure none) (fun _ => rfl) fun _ => iteI (P := fun t : Sem (Option (List Str)) => t = pure none) (fun _ => rfl) fun _ => iteI (P := fun t : Sem (Option (List Str)) => t = pure none) (fun _ => rfl) fun hbad => absurd rfl hbad
  refine assign_run (swaps_no he rfl) ?_
  rw [hsw]
  show wpAny _ _ ((standAt vp >>= fun _ => spliced (backTo vp (starEach [e1, e2] env)) >>= fun xs => newTuple xs) >>= fun v => _) _ _ _
  refine wpAny_bind (wpAny_bind (wpAny_standAt (wpAny_bind (ResL.bind (args_ok vp (.cons (T he1) (.cons (T he2) .nil)) hv K) fun φ1 s1 xs st1 R1 r1 => ?_))))
  refine Res.bind (tuple_ok E0.Y R1 r1 (by show 2 ≤ LIM; decide)) fun φ2 s2 tv st2 R2 r2 => wpAny_bind (wpAny_pure ?_)
  show wpAny _ _ ((standAt tp >>= fun _ => unpack tv (assignEach [.Subscript o1 i1 p1, .Subscript o2 i2 p2] env)) >>= fun _ => (pure Flow.next : Sem Flow)) _ _ _
  refine wpAny_bind (wpAny_bind (wpAny_standAt ?_))
  show wpAny _ _ (holding [tv] (unpackItems tv 2 none) >>= fun xs => assignInOrder [assign (.Subscript o1 i1 p1) env, assign (.Subscript o2 i2 p2) env] xs) _ _ _
  refine wpAny_bind (wpAny_holding (wpAny_mono (unpack_ok (Ex := Ex) K.rm.handled (v := .tup [q1.1, q2.1]) (n := 2) (us := [q1.1, q2.1]) rfl R2 r2) (fun xs s3 u => ?_) fun _ _ q => q))
  have K3 := K.step ((st1.trans st2).trans u.st) (R2.grow E0.Y.ok u.kp)
  refine vA2 (P := fun xs => wpAny (model B.prog B.w) A (assignInOrder [assign (.Subscript o1 i1 p1) env, assign (.Subscript o2 i2 p2) env] xs) _ Ex s3) (v := (q1.1, q2.1)) rfl u.rs fun y1 y2 ry1 ry2 => ?_
  show wpAny _ _ (holding [y2] (assign (.Subscript o1 i1 p1) env y1) >>= fun _ => holding [] (assign (.Subscript o2 i2 p2) env y2) >>= fun _ => pure ()) _ _ _
  refine wpAny_bind (wpAny_holding (assign_sub E0.Y (T ho1) (T hi1) g1 g2 h3 K3 ry1 fun φ4 s4 st4 R4 => wpAny_bind (wpAny_holding (assign_sub E0.Y (T ho2) (T hi2) g3 g4 h5 (K3.step st4 R4) (st4.vr K3.R ry2) fun φ5 s5 st5 R5 => ?_))))
  exact wpAny_pure (wpAny_pure (res_next h K ((((st1.trans st2).trans u.st).trans st4).trans st5) R5))

theorem item_ok {o i v : Mine.V} {x y : Value} {a : Nat} (ho : asObj o = some a) (e : idxV o i σ = some v) (R : Rep B σ φ s.heap) (ra : VR B.Z φ s.heap o x) (rb : VR B.Z φ s.heap i y) : wpAny (model B.prog B.w) A (getItem x y) (Res B φ s σ v) Ex s :=
  vObj (P := fun x => wpAny _ _ (getItem x y) (Res B φ s σ v) Ex s) ho ra fun p hp => by
    cases o with
    | obj b =>
      cases (Option.some.inj ho : b = a)
      refine bindE (show (lstAt (.obj a) σ).bind (fun vs => (asInt i).bind fun k => (place k vs.length).bind fun n => vs[n]?) = some v from e) fun vs hv e => bindE e fun k hk e => bindE e fun j hj e => vInt (P := fun y => wpAny _ _ (getItem _ y) (Res B φ s σ v) Ex s) hk rb fun t => list_at R hp hv fun items c _ g r1 hz => ?_
      obtain ⟨z, hx, rx⟩ := VRs_get r1 e
      rw [VRs_length r1] at hj hz
      exact item_list g hz hj hx (res_here' R rx)
    | _ => exact noneE ho

theorem aug_store {i : Expr} {ov iv new : Value} {Q : Flow → Shared → Prop} {GT : Str → Option GV} {n : Nat} {i' : Mine.E} (hi : tr GT n sc ren nx i = some i') (h : wpAny (model B.prog B.w) A (setItem ov iv new) (fun _ s' => Q .next s') Ex s) : wpAny (model B.prog B.w) A (augStore i ov iv new) Q Ex s := by
  have fin : wpAny (model B.prog B.w) A (holding [new, ov, iv] (setItem ov iv new) >>= fun _ => release [new, ov, iv] [] >>= fun _ => (pure Flow.next : Sem Flow)) Q Ex s :=
    wpAny_bind (wpAny_holding (wpAny_mono h (fun _ _ q => wpAny_bind (wp_rel (wpAny_pure q))) fun _ _ q => q))
  cases hs : eSlc i with
  | some w =>
    rw [eSlc_eq hs] at hi
    cases n with
    | zero => exact noneE hi
    | succ n => exact noneE hi
  | none =>
    cases i with
    | Slice _ _ _ _ => exact nomatch hs
    | _ => exact fin

theorem augIdx_stmt (E0 : Env0 B C d) {n : Nat} {o i e : Expr} {o' i' e' : Mine.E} {op : Operator} {p pos : Pos} (ho : tr B.GT n sc ren nx o = some o') (hi : tr B.GT n sc ren nx i = some i') (he : tr B.GT n sc ren nx e = some e') : SndS B C d sc ren nx (.AugAssign (.Subscript o i p) op e pos) (.augIdx o' i' op e') := by
  intro loc σ r A Ex φ s env h K
  refine bindE h fun po h1 h => bindE h fun pi h2 h => bindE h fun old h3 h => bindE h fun pv h4 h => bindE h fun w h5 h => bindE h fun σ6 h6 h => bindE h6 fun a ha _ => ?_
  show wpAny _ _ (standAt pos >>= fun _ => eval o env >>= fun ov => holding [ov] (eval i env) >>= fun iv => holding [ov, iv] (standAt p >>= fun _ => getItem ov iv >>= fun old => holding [old] (eval e env) >>= fun v => standAt pos >>= fun _ => operate [old, v] (inplaceOp op old v)) >>= fun new => standAt p >>= fun _ => augStore i ov iv new) _ _ _
  refine wpAny_bind (wpAny_standAt (wpAny_bind (((tr_ok C d n).e E0 ho).run h1 K fun φ1 s1 xo st1 K1 r1 => wpAny_bind (wpAny_holding (((tr_ok C d n).e E0 hi).run h2 K1 fun φ2 s2 xi st2 K2 r2 => wpAny_bind (wpAny_holding (wpAny_bind (wpAny_standAt (wpAny_bind ?_)))))))))
  refine Res.bind (item_ok ha h3 K2.R (st2.vr K1.R r1) r2) fun φ3 s3 xold st3 R3 r3 => wpAny_bind (wpAny_holding (((tr_ok C d n).e E0 he).run h4 (K2.step st3 R3) fun φ4 s4 xv st4 K4 r4 => wpAny_bind (wpAny_standAt (wp_operate ?_))))
  refine Res.bind (aug_ok h5 K4.R (st4.vr R3 r3) r4) fun φ5 s5 xr st5 R5 r5 => wpAny_bind (wpAny_standAt (aug_store hi ?_))
  have s25 := (st3.trans st4).trans st5
  exact setIdx_ok E0.Y h6 R5 ((st2.trans s25).vr K1.R r1) (s25.vr K2.R r2) r5 fun φ6 s6 st6 R6 => res_next h K (((st1.trans st2).trans s25).trans st6) R6

theorem expr_stmt (E0 : Env0 B C d) {n : Nat} {e : Expr} {e' : Mine.E} {pos : Pos} {u : Unit} (he : tr B.GT n sc ren nx e = some e') (hn : eComp e = some u) : SndS B C d sc ren nx (.Expr e pos) (.expr e') := by
  intro loc σ r A Ex φ s env h K
  refine bindE h fun q h1 h => ?_
  have hint : interactive env = false := by unfold interactive; rw [K.V.fk]; rfl
  show wpAny _ _ (standAt pos >>= fun _ => if interactive env = true then _ else (swapsWith e none pos.line env >>= fun b => if b = true then _ else (eval e env >>= fun v => dropValue e pos v))) _ _ _
  refine wpAny_bind (wpAny_standAt ?_)
  rw [hint, if_neg Bool.false_ne_true, swaps_none he hn]
  refine wpAny_bind (wpAny_pure ?_)
  rw [if_neg Bool.false_ne_true]
  refine wpAny_bind (((tr_ok C d n).e E0 he).run h1 K fun φ1 s1 xv st1 K1 r1 => ?_)
  have fin := res_next h K st1 K1.R
  unfold dropValue
  split
  · exact wpAny_pure fin
  · exact wpAny_bind (wpAny_standAt (wpAny_bind (wpAny_runValue (codeAny_builtin PySem.entry_let_go (show wpAny _ _ (ret .none) _ _ s1 from wpAny_pure (wpAny_pure fin))))))
  · exact wpAny_pure fin

theorem ret_stmt (E0 : Env0 B C d) {n : Nat} {e : Expr} {e' : Mine.E} {pos : Pos} (he : tr B.GT n sc ren nx e = some e') : SndS B C d sc ren nx (.Return (some e) pos) (.ret e') := fun h K =>
  bindE h fun _ h1 h => wpAny_Return_some (((tr_ok C d n).e E0 he).run h1 K fun _ _ _ st1 K1 r1 => res_ret h (StW.ofSt st1 K.V) K1.R r1)

theorem if_stmt (E0 : Env0 B C d) {n : Nat} {c : Expr} {c' : Mine.E} {a b : List Stmt} {a' b' : List S} {pos : Pos} (hc : tr B.GT n sc ren nx c = some c') (qa : SndSs B C d sc ren nx a a') (qb : SndSs B C d sc ren nx b b') : SndS B C d sc ren nx (.If c a b pos) (.ifS c' a' b') := fun h K =>
  bindE h fun _ h1 h => bindE h fun t ht h => wpAny_If (((tr_ok C d n).e E0 hc).test h1 ht K fun _ _ st1 K1 => by
    cases t with
    | true => exact wp_afterS (StW.ofSt st1 K.V) (qa h K1)
    | false => exact wp_afterS (StW.ofSt st1 K.V) (qb h K1))

theorem while_stmt (E0 : Env0 B C d) {n : Nat} {c : Expr} {c' : Mine.E} {a : List Stmt} {a' : List S} {pos : Pos} (hc : tr B.GT n sc ren nx c = some c') (qa : SndSs B C d sc ren nx a a') : SndS B C d sc ren nx (.While c a [] pos) (.whileS c' a') := fun h K =>
  wpAny_While (while_ok ((tr_ok C d n).e E0 hc) qa FUEL h K fun _ _ hr => hr)

theorem for_stmt (E0 : Env0 B C d) {n : Nat} {t it : Expr} {t' : Tgt} {it' : Mine.E} {a : List Stmt} {a' : List S} {pos : Pos} (ht : trTgt sc ren t = some t') (hi : tr B.GT n sc ren nx it = some it') (qa : SndSs B C d sc ren nx a a') : SndS B C d sc ren nx (.For t it a [] pos) (.forS t' it' a') := by
  have qi := (tr_ok C d n).e E0 hi
  intro loc σ r A Ex φ s env h K
  refine bindE h fun p h1 h => bindE h fun i hio h => bindE h fun w hl h => wpAny_For ?_ fun x => folded_no env x qi.set
  refine qi.run h1 K fun φ1 s1 xv st1 K1 r1 => wpAny_mono (iter_ok hio K1.R r1) (fun iv s2 hfr => ?_) fun _ _ q => q
  obtain ⟨a2, rfl, F⟩ := hfr
  have Fs : St B φ1 s1 φ1 s2 := St.of_kp F.kp F.os F.gens
  have own : ∀ {a : Addr}, a < s1.heap.objs.size → a ∉ [a2] := fun h hm => Nat.lt_irrefl _ (Nat.lt_of_lt_of_le (List.mem_singleton.mp hm ▸ h) F.ge)
  have hoff : Off [a2] env env.locals := ⟨own (K1.V.lt _ (List.mem_cons_self ..)), own (K1.V.lt _ (List.mem_cons_self ..)), fun y c e => own (K1.V.cellsLt e)⟩
  have glue : ∀ {φ' s'}, StW B ([a2] ++ ownW sc env) φ1 s2 φ' s' → StW B (ownW sc env) φ s φ' s' := fun {φ' s'} x => (StW.ofSt (st1.trans Fs) K.V).seq x fun b hb => (List.mem_append.mp hb).elim (fun hb => .inr (by rw [List.mem_singleton.mp hb]; exact Nat.le_trans st1.keep.size F.ge)) .inl
  exact for_ok E0.Y K.rm ht qa FUEL hl (fun i j k e => absurd hio (by rw [e]; exact iterOf_zip)) F.I F.S hoff (K1.step Fs (K1.R.grow E0.Y.ok F.kp))
    (fun l φ' s' e x K' => by rw [e] at h; exact res_nextW h (glue x) K') fun v l φ' s' y e x R' ry => by rw [e] at h; exact res_ret h (glue x) R' ry

theorem assert_stmt (E0 : Env0 B C d) {n : Nat} {c : Expr} {c' : Mine.E} {pos : Pos} (hc : tr B.GT n sc ren nx c = some c') : SndS B C d sc ren nx (.Assert c none pos) (.assertS c') := fun h K =>
  bindE h fun _ h1 h => bindE h fun t ht h => by
    cases t with
    | true => exact wpAny_Assert_holds (((tr_ok C d n).e E0 hc).test h1 ht K fun _ _ st1 K1 => ⟨rfl, res_next h K st1 K1.R⟩)
    | false => exact noneE h

theorem del_stmt (E0 : Env0 B C d) {n : Nat} {o i : Expr} {o' i' : Mine.E} {p pos : Pos} (ho : tr B.GT n sc ren nx o = some o') (hi : tr B.GT n sc ren nx i = some i') : SndS B C d sc ren nx (.Delete [.Subscript o i p] pos) (.del o' i') := by
  intro loc σ r A Ex φ s env h K
  refine bindE h fun x h2 h => bindE h fun k h3 h => bindE h fun w h4 h => wpAny_Delete ?_
  show wpAny _ _ ((eval o env >>= fun ov => holding [ov] (eval i env) >>= fun iv => standAt p >>= fun _ => holding [ov, iv] (delItem ov iv) >>= fun _ => release [ov, iv] []) >>= fun _ => pure ()) _ _ _
  refine wpAny_bind (wpAny_bind (((tr_ok C d n).e E0 ho).run h2 K fun φ1 s1 xo st1 K1 r1 => wpAny_bind (wpAny_holding (((tr_ok C d n).e E0 hi).run h3 K1 fun φ2 s2 xi st2 K2 r2 => wpAny_bind (wpAny_standAt (wpAny_bind (wpAny_holding ?_)))))))
  exact delIdx_ok E0.Y h4 K2.R (st2.vr K1.R r1) r2 fun φ3 s3 st3 R3 => wp_rel (wpAny_pure (res_next h K ((st1.trans st2).trans st3) R3))
end

/-! ## every translated statement -/
structure TrSOK (C : Oracle) (d n : Nat) : Prop where
  s : ∀ {B : Base}, Env0 B C d → ∀ {sc : Scope} {ren : Ren} {nx : Nat} {x : Stmt} {x' : S}, trS B.GT n sc ren nx x = some x' → SndS B C d sc ren nx x x'
  ss : ∀ {B : Base}, Env0 B C d → ∀ {sc : Scope} {ren : Ren} {nx : Nat} {x : List Stmt} {x' : List S}, trSs B.GT n sc ren nx x = some x' → SndSs B C d sc ren nx x x'

theorem swapOf_eq {t e : Expr} {w} (h : swapOf t e = some w) : ∃ k tp k2 vp, t = .Tuple [.Subscript w.1.1.1 w.1.1.2.1 w.1.1.2.2, .Subscript w.1.2.1 w.1.2.2.1 w.1.2.2.2] k tp ∧ e = .Tuple [w.2.1, w.2.2] k2 vp :=
  bindE h fun l h1 h => bindE h fun p h2 h => bindE h fun a h3 h => bindE h fun b h4 h => bindE h fun r h5 h => bindE h fun q h6 h => by
    cases h
    exact ⟨l.2.1, l.2.2, r.2.1, r.2.2, by rw [eTup_eq h1, l2_eq h2, eSub_eq h3, eSub_eq h4], by rw [eTup_eq h5, l2_eq h6]⟩

theorem trS_s {C : Oracle} {d n : Nat} (ih : TrSOK C d n) {B : Base} (E0 : Env0 B C d) {sc : Scope} {ren : Ren} {nx : Nat} {x : Stmt} {x' : S} (h : trS B.GT (n + 1) sc ren nx x = some x') : SndS B C d sc ren nx x x' := by
  cases x with
  | Assign ts e pos =>
    refine bindE h fun t h1 h => bindE h fun e' h2 h => ?_
    rw [l1_eq h1]
    cases hs : eSub t with
    | some a =>
      rw [hs] at h
      rw [eSub_eq hs]
      exact bindE h fun o h3 h => bindE h fun i h4 h => by cases h; exact setIdx_stmt E0 h3 h4 h2
    | none =>
      rw [hs] at h
      cases hw : swapOf t e with
      | some w =>
        rw [hw] at h
        obtain ⟨k, tp, k2, vp, rfl, rfl⟩ := swapOf_eq hw
        exact bindE h fun _ g1 h => bindE h fun _ g2 h => bindE h fun _ g3 h => bindE h fun _ g4 h => bindE h fun _ g5 h => bindE h fun _ g6 h => by cases h; exact swap_stmt E0 g1 g2 g3 g4 g5 g6 h2
      | none =>
        rw [hw] at h
        exact ifE h fun hok h => bindE h fun t' ht h => by cases h; exact assign_stmt E0 ht h2 hok
  | AugAssign t op e pos =>
    refine bindE h fun e' h2 h => ?_
    cases hn : eName t with
    | some y =>
      rw [hn] at h
      rw [eName_eq hn]
      exact bindE h fun i hi h => by cases h; exact augVar_stmt E0 hi h2
    | none =>
      rw [hn] at h
      exact bindE h fun a ha h => bindE h fun o h3 h => bindE h fun i h4 h => by cases h; rw [eSub_eq ha]; exact augIdx_stmt E0 h3 h4 h2
  | Expr e pos => exact bindE h fun _ h1 h => bindE h fun e' h2 h => by cases h; exact expr_stmt E0 h2 h1
  | Return o pos => exact bindE h fun _ h1 h => bindE h fun e' h2 hfin => by cases hfin; subst h1; exact ret_stmt E0 h2
  | If c a b pos => exact bindE h fun _ h1 h => bindE h fun _ h2 h => bindE h fun _ h3 h => by cases h; exact if_stmt E0 h1 (ih.ss E0 h2) (ih.ss E0 h3)
  | While c a l pos => exact bindE h fun _ h0 h => bindE h fun _ h1 h => bindE h fun _ h2 h => by cases h; rw [l0_eq h0]; exact while_stmt E0 h1 (ih.ss E0 h2)
  | For t it a l pos => exact bindE h fun _ h0 h => bindE h fun _ h1 h => bindE h fun _ h2 h => bindE h fun _ h3 h => by cases h; rw [l0_eq h0]; exact for_stmt E0 h1 h2 (ih.ss E0 h3)
  | Delete ts pos => exact bindE h fun t h0 h => bindE h fun a ha h => bindE h fun _ h1 h => bindE h fun _ h2 h => by cases h; rw [l1_eq h0, eSub_eq ha]; exact del_stmt E0 h1 h2
  | Assert c m pos =>
    cases m with
    | none => exact bindE h fun _ h1 h => by cases h; exact assert_stmt E0 h1
    | some _ => exact noneE h
  | _ => exact noneE h
theorem trS_ok (C : Oracle) (d : Nat) : ∀ n, TrSOK C d n
  | 0 => ⟨fun {_} _ {_ _ _ _ _} h => noneE h, fun {_} _ {_ _ _ _ _} h => noneE h⟩
  | n + 1 => ⟨fun {_} E0 {_ _ _ _ _} h => trS_s (trS_ok C d n) E0 h, fun {_} E0 {_ _ _ x _} h => by
      cases x with
      | nil => cases h; exact stmts_nil
      | cons e es => exact bindE h fun _ h1 h => bindE h fun _ h2 h => by cases h; exact stmts_cons ((trS_ok C d n).s E0 h1) ((trS_ok C d n).ss E0 h2)⟩
end Mine
end
section -- NZ
set_option maxRecDepth 100000
set_option autoImplicit false
namespace Mine
open PySem

theorem bindL_off {kindOf : Str → Option NameKind} {x : Str} : ∀ {binds : List (Str × Value)} {m : Str → Option Value}, x ∉ binds.map (·.1) → bindL kindOf binds m x = m x
  | [], _, _ => rfl
  | (n, v) :: r, m, h => by
    simp only [List.map_cons, List.mem_cons, not_or] at h
    unfold bindL
    rw [bindL_off h.2]
    split
    · simp [h.1]
    · rfl
theorem bindC_off {kindOf : Str → Option NameKind} {x : Str} : ∀ {binds : List (Str × Value)} {m : Str → Option Value}, x ∉ binds.map (·.1) → bindC kindOf binds m x = m x
  | [], _, _ => rfl
  | (n, v) :: r, m, h => by
    simp only [List.map_cons, List.mem_cons, not_or] at h
    unfold bindC
    rw [bindC_off h.2]
    split
    · rfl
    · simp [h.1]
theorem bindL_at {kindOf : Str → Option NameKind} {x : Str} {v : Value} (hk : kindOf x = some .local) : ∀ {binds : List (Str × Value)} {m : Str → Option Value}, (binds.map (·.1)).Nodup → (x, v) ∈ binds → bindL kindOf binds m x = some v
  | (n, u) :: r, m, hn, h => by
    rw [List.map_cons, List.nodup_cons] at hn
    unfold bindL
    rcases List.mem_cons.mp h with e | h
    · cases e
      rw [bindL_off hn.1, if_pos hk]; simp
    · exact bindL_at hk hn.2 h
theorem bindC_at {kindOf : Str → Option NameKind} {x : Str} {v : Value} (hk : kindOf x = some .cell) : ∀ {binds : List (Str × Value)} {m : Str → Option Value}, (binds.map (·.1)).Nodup → (x, v) ∈ binds → bindC kindOf binds m x = some v
  | (n, u) :: r, m, hn, h => by
    rw [List.map_cons, List.nodup_cons] at hn
    unfold bindC
    rcases List.mem_cons.mp h with e | h
    · cases e
      rw [bindC_off hn.1, if_neg (by rw [hk]; decide)]; simp
    · exact bindC_at hk hn.2 h

theorem lookup_cases {α β : Type} [BEq α] [LawfulBEq α] {p : α × β} {l : List (α × β)} {x : α} {i : β} {G : Prop} (h : (p :: l).lookup x = some i) (h1 : x = p.1 → p.2 = i → G) (h2 : l.lookup x = some i → G) : G := by
  by_cases e : x = p.1
  · subst e
    rw [List.lookup_cons_self] at h
    exact h1 rfl (Option.some.inj h)
  · obtain ⟨a, b⟩ := p
    rw [List.lookup_cons, beq_eq_false_iff_ne.mpr e] at h
    exact h2 h
theorem own_step {p : Str × NameKind} {r : List (Str × NameKind)} (h0 : p.1 ≠ (".0" : Str)) : ownCount (p :: r) = if p.2 = .local ∨ p.2 = .cell then ownCount r + 1 else ownCount r := by
  obtain ⟨y, k⟩ := p
  cases k with
  | «local» => exact if_neg h0
  | _ => rfl
theorem defRen_pos {p : Str × NameKind} {r : List (Str × NameKind)} {n : Nat} (h : p.2 = .local ∨ p.2 = .cell) : defRen (p :: r) n = (p.1, n) :: defRen r (n + 1) := if_pos h
theorem defRen_neg {p : Str × NameKind} {r : List (Str × NameKind)} {n : Nat} (h : ¬ (p.2 = .local ∨ p.2 = .cell)) : defRen (p :: r) n = defRen r n := if_neg h
theorem defRen_get : ∀ {names : List (Str × NameKind)} {n : Nat} {x : Str} {i : Nat}, (∀ p ∈ names, p.1 ≠ (".0" : Str)) → (defRen names n).lookup x = some i → n ≤ i ∧ i < n + ownCount names ∧ ∃ k, (k = NameKind.local ∨ k = NameKind.cell) ∧ (x, k) ∈ names
  | [], _, _, _, _, h => nomatch h
  | p :: r, n, x, i, h0, h => by
    rw [own_step (h0 p (List.mem_cons_self ..))]
    by_cases hp : p.2 = .local ∨ p.2 = .cell
    · rw [if_pos hp]
      refine lookup_cases (defRen_pos hp ▸ h) (fun e1 e2 => ?_) fun h => ?_
      · subst e1; cases e2; exact ⟨Nat.le_refl _, Nat.lt_add_of_pos_right (Nat.succ_pos _), p.2, hp, List.mem_cons_self ..⟩
      · obtain ⟨a, b, k, c, e⟩ := defRen_get (fun q hq => h0 q (List.mem_cons_of_mem _ hq)) h
        exact ⟨Nat.le_of_succ_le a, by rw [Nat.add_comm _ 1, ← Nat.add_assoc]; exact b, k, c, List.mem_cons_of_mem _ e⟩
    · rw [if_neg hp]
      obtain ⟨a, b, k, c, e⟩ := defRen_get (fun q hq => h0 q (List.mem_cons_of_mem _ hq)) (defRen_neg hp ▸ h)
      exact ⟨a, b, k, c, List.mem_cons_of_mem _ e⟩
theorem defRen_inj : ∀ {names : List (Str × NameKind)} {n : Nat} {x y : Str} {i : Nat}, (∀ p ∈ names, p.1 ≠ (".0" : Str)) → (defRen names n).lookup x = some i → (defRen names n).lookup y = some i → x = y
  | [], _, _, _, _, _, h, _ => nomatch h
  | p :: r, n, x, y, i, h0, h1, h2 => by
    have h0' : ∀ p ∈ r, p.1 ≠ (".0" : Str) := fun q hq => h0 q (List.mem_cons_of_mem _ hq)
    by_cases hp : p.2 = .local ∨ p.2 = .cell
    · rw [defRen_pos hp] at h1 h2
      refine lookup_cases h1 (fun e1 e2 => lookup_cases h2 (fun e3 _ => e1.trans e3.symm) fun h => ?_) fun h => lookup_cases h2 (fun _ e2 => ?_) fun h' => defRen_inj h0' h h'
      · exact absurd ((defRen_get h0' h).1) (e2 ▸ Nat.not_succ_le_self n)
      · exact absurd ((defRen_get h0' h).1) (e2 ▸ Nat.not_succ_le_self n)
    · rw [defRen_neg hp] at h1 h2
      exact defRen_inj h0' h1 h2
theorem defRen_at : ∀ {names : List (Str × NameKind)} {np n i : Nat} {p : Str × NameKind}, (names.map (·.1)).Nodup → ((names.take np).all fun p => p.2 == .local || p.2 == .cell) = true → i < np → names[i]? = some p → (defRen names n).lookup p.1 = some (n + i)
  | [], _, _, _, _, _, _, _, h => nomatch h
  | _ :: _, 0, _, _, _, _, _, h, _ => nomatch h
  | q :: r, np + 1, n, i, p, hn, ha, hi, h => by
    rw [List.take_succ_cons, List.all_cons, Bool.and_eq_true, Bool.or_eq_true, beq_iff_eq, beq_iff_eq] at ha
    rw [defRen_pos ha.1]
    cases i with
    | zero => cases h; exact List.lookup_cons_self
    | succ i =>
      rw [List.map_cons, List.nodup_cons] at hn
      have h' : r[i]? = some p := h
      rw [List.lookup_cons, beq_eq_false_iff_ne.mpr fun (e : p.1 = q.1) => hn.1 (e ▸ List.mem_map.mpr ⟨p, List.mem_of_getElem? h', rfl⟩)]
      have ih := defRen_at (n := n + 1) hn.2 ha.2 (Nat.lt_of_succ_lt_succ hi) h'
      rw [Nat.add_right_comm] at ih
      exact ih
end Mine
end
section -- NZ2
set_option maxRecDepth 100000
set_option autoImplicit false
namespace Mine
open PySem

structure DefAt (B : Base) (f : Addr) (np ns : Nat) (body : List S) : Prop where
  ex : ∃ o fd body0, B.K.lookup f = some o ∧ o.data = .func fd ∧ fd.body = .stmts body0 ∧ fd.closure = [] ∧ fd.scope.isCoroutine = false ∧ fd.scope.isGenerator = false ∧ fd.globals = mainGlobals ∧ fd.builtins = builtinsNs ∧ PySem.W.codeIn B.K fd.code fd.qualname = true ∧
    trDef B.GT fd.params body0 fd.scope = some (.dfn np ns body) ∧ (∀ vals, vals.length = np → bindArgs fd ⟨vals, []⟩ = pure ((fd.params.args.map (·.arg)).zip vals))

/-- a new accumulator -/
noncomputable def AccNew (B : Base) (C : Oracle) : Prop := ∀ f args σ v σ', B.T f = some .acc → C f args σ = some (v, σ') → ∀ A E φ s xs, Room A 0 → Rep B σ φ s.heap → VRs B.Z φ s.heap args xs → wpAny (model B.prog B.w) A (call (.ref f) xs []) (Res B φ s σ' v) E s

theorem Room.deeper {A : Around} {d : Nat} (r : Room A (d + 1)) (env : Env) : Room (A.deeper env) d := by
  obtain ⟨h1, h2, h3, ⟨l, h4⟩⟩ := r
  refine ⟨h1, ?_, ?_, ⟨env :: l, ?_⟩⟩
  · show A.depth + 1 + d + 40 ≤ _; omega
  · show A.units + 3 + 40 * d + 400 ≤ _; omega
  · show A.frames.map (env :: ·) = _; rw [h4]; rfl

theorem zip_fst {α β : Type} : ∀ {l : List α} {r : List β}, l.length = r.length → (l.zip r).map (·.1) = l
  | [], [], _ => rfl
  | a :: l, b :: r, h => by simp only [List.zip_cons_cons, List.map_cons]; rw [zip_fst (by simpa using h)]
  | [], _ :: _, h => by simp at h
  | _ :: _, [], h => by simp at h

/-- the parameters stand first among the names -/
theorem par_at {l : List (Str × NameKind)} {ps : List Str} {xs : List Value} (h : (l.take ps.length).map (·.1) = ps) (hk : ((l.take ps.length).all fun p => p.2 == .local || p.2 == .cell) = true) (hx : ps.length = xs.length) {i : Nat} (hi : i < ps.length) :
    ∃ p x, l[i]? = some p ∧ xs[i]? = some x ∧ (p.1, x) ∈ ps.zip xs ∧ (p.2 = .local ∨ p.2 = .cell) ∧ ps[i]? = some p.1 := by
  have h2 : xs[i]? = some (xs[i]'(hx ▸ hi)) := List.getElem?_eq_getElem (hx ▸ hi)
  have h3 := List.getElem?_eq_getElem hi
  have h4 : ((l.take ps.length).map (·.1))[i]? = some (ps[i]'hi) := h.symm ▸ h3
  rw [List.getElem?_map] at h4
  cases h5 : (l.take ps.length)[i]? with
  | none => rw [h5] at h4; exact nomatch h4
  | some p =>
    have h6 : l[i]? = some p := by rw [← h5, List.getElem?_take_of_lt hi]
    have h7 : ps[i]? = some p.1 := by
      have := congrArg (·[i]?) h
      rw [← this, List.getElem?_map, h5]; rfl
    refine ⟨p, _, h6, h2, List.mem_of_getElem? (i := i) (List.getElem?_zip_eq_some.mpr ⟨h7, h2⟩), ?_, h7⟩
    have := List.all_eq_true.mp hk p (List.mem_of_getElem? h5)
    rw [Bool.or_eq_true, beq_iff_eq, beq_iff_eq] at this
    exact this
theorem slot_at {args : List V} {ns i : Nat} {v : V} (h : (args.map some ++ List.replicate ns none)[i]? = some (some v)) : i < args.length ∧ args[i]? = some v := by
  by_cases hip : i < args.length
  · rw [List.getElem?_append_left (by rw [List.length_map]; exact hip), List.getElem?_map] at h
    refine ⟨hip, ?_⟩
    cases ha : args[i]? with
    | none => rw [ha] at h; exact nomatch h
    | some u => rw [ha] at h; cases h; rfl
  · rw [List.getElem?_append_right (by rw [List.length_map]; exact Nat.le_of_not_lt hip), List.getElem?_replicate] at h
    exact ifE h fun _ h => nomatch h

theorem def_ok {B : Base} {d : Nat} (E0 : Env0 B (callN B.T d) d) {f : Addr} {np ns : Nat} {body : List S} (D : DefAt B f np ns body) {args : List V} {σ : AH} {r0 : Fl × Loc × AH} (hn : args.length = np)
    (h : exs (callN B.T d) body (args.map some ++ List.replicate ns none) σ = some r0) {A : Around} {Ex : Value → Shared → Prop} {φ : Phi} {s : Shared} {xs : List Value} (rm : Room A (d + 1)) (R : Rep B σ φ s.heap) (r : VRs B.Z φ s.heap args xs) {Q : Value → Shared → Prop}
    (kn : r0.1 = .next → ∀ s', Res B φ s r0.2.2 .none .none s' → Q .none s') (kr : ∀ v, r0.1 = .ret v → ∀ x s', Res B φ s r0.2.2 v x s' → Q x s') : wpAny (model B.prog B.w) A (call (.ref f) xs []) Q Ex s := by
  obtain ⟨o, fd, body0, hK, hdata, hbody, hclo, hco, hgen, hgl, hbl, hcode, htr, hbind⟩ := D.ex
  refine ifE htr fun hc htr => bindE htr fun b' hb' e => ?_
  obtain ⟨hk, nd, hpar, hkinds, hdot⟩ := hc
  have hnp : fd.params.args.length = np := by cases e; rfl
  have hbd : b' = body := by cases e; rfl
  subst hbd
  have h0 : ∀ p ∈ fd.scope.names, p.1 ≠ (".0" : Str) := fun p hp => bne_iff_ne.mp (List.all_eq_true.mp hdot p hp)
  have hln : (fd.params.args.map (·.arg)).length = np := by rw [List.length_map, hnp]
  have hlen := VRs_length r
  have hxl : (fd.params.args.map (·.arg)).length = xs.length := by rw [hln, ← hn, hlen]
  rw [hnp, ← hln] at hpar hkinds
  have hbn : ((fd.params.args.map (·.arg)).zip xs).map (·.1) = fd.params.args.map (·.arg) := zip_fst hxl
  have hpnd : (((fd.params.args.map (·.arg)).zip xs).map (·.1)).Nodup := by
    rw [hbn, ← hpar, List.map_take]
    exact List.Pairwise.sublist (List.take_sublist ..) nd
  have pat : ∀ i : Nat, i < np → _ := fun i hi => par_at hpar hkinds hxl (hln ▸ hi)
  have cell_at : ∀ {p : Str × NameKind}, p ∈ fd.scope.names → p.2 = .cell → ∃ c, (cellsFrom (s.heap.objs.size + 1) fd.scope.names []).lookup p.1 = some c := fun {p} hm e => cellsFrom_has (n := s.heap.objs.size + 1) (x := p.1) (e ▸ hm)
  have kind_at : ∀ {p : Str × NameKind}, p ∈ fd.scope.names → fd.scope.names.lookup p.1 = some p.2 := fun {p} hm => lookup_nodup nd hm
  have hkind : ∀ x ∈ (fd.params.args.map (·.arg)).zip xs, fd.scope.names.lookup x.1 = some .local ∨ (fd.scope.names.lookup x.1 = some .cell ∧ ((cellsFrom (s.heap.objs.size + 1) fd.scope.names []).lookup x.1).isSome = true) := by
    intro x hx
    obtain ⟨i, hi⟩ := List.getElem?_of_mem hx
    rw [List.getElem?_zip_eq_some] at hi
    obtain ⟨p, y, h1, h2, h3, h4, h5⟩ := pat i (hln ▸ (List.getElem?_eq_some_iff.mp hi.1).1)
    have hp : x.1 = p.1 := Option.some.inj (hi.1.symm.trans h5)
    have hm := List.mem_of_getElem? h1
    rw [hp, kind_at hm]
    rcases h4 with h4 | h4
    · exact .inl (congrArg some h4)
    · obtain ⟨c, hc⟩ := cell_at hm h4
      exact .inr ⟨congrArg some h4, by rw [hc]; rfl⟩
  refine wpAny_call (codeAny_call_cells (o := o) (fd := fd) (body := body0) (binds := (fd.params.args.map (·.arg)).zip xs) (by have := rm.depth; omega) (R.stat.K _ _ hK) hdata R.stat.nolimit (PySem.W.codeRec_of R.stat.K hcode) hbody (hbind xs (by rw [← hxl, hln])) hclo hkind (fun s₁ x => ?_) hco hgen hk)
  have hNs := x.toInCall.ns
  obtain ⟨h₁, tk, rfl, hkeep⟩ := x.done
  have kp : Kp B.tabs [] s.heap h₁ := .keeps hkeep (Nat.le_of_lt hNs.lt)
  have R1 : Rep B σ φ h₁ := R.grow E0.Y.ok kp
  have slot_lt : ∀ {i : Nat} {v : V}, (args.map some ++ List.replicate ns none)[i]? = some (some v) → i < ownCount fd.scope.names := fun {i v} e => by
    obtain ⟨p, _, h1, _⟩ := pat i (hn ▸ (slot_at e).1)
    have := (defRen_get (n := 0) h0 (defRen_at (n := 0) nd hkinds (i := i) (by rw [hln, ← hn]; exact (slot_at e).1) h1)).2.1
    rwa [Nat.zero_add, Nat.zero_add] at this
  have V1 : EnvOK B fd.scope (defRen fd.scope.names 0) (ownCount fd.scope.names) (callEnvC fd s.heap.objs.size f) (args.map some ++ List.replicate ns none) φ h₁ := by
    refine ⟨hk, fun y k e => .inl e, hgl, hbl, fun hm => absurd (R.lt hm) (Nat.lt_irrefl _), R.stat.size, ⟨_, hNs⟩, fun y c e => ?_, fun y z c e1 e2 => name_of_addr x.apart (mem_of_lookup e1) (mem_of_lookup e2), fun y i e hkk => ?_, fun y z i e1 e2 => defRen_inj h0 e1 e2, fun y i e => by have := (defRen_get h0 e).2.1; rwa [Nat.zero_add] at this, fun i v hi e => absurd (slot_lt e) (Nat.not_lt.mpr hi), fun y i v e1 e2 => ?_⟩
    · have h1 := x.above y c (mem_of_lookup e)
      exact ⟨⟨_, x.cell y c e⟩, fun hm => absurd (Nat.lt_trans h1 (R.lt hm)) (Nat.lt_irrefl _), Nat.le_trans R.stat.size (Nat.le_of_lt h1)⟩
    · obtain ⟨k, hk', hm⟩ := (defRen_get h0 e).2.2
      have e3 := kind_at hm
      rcases hk' with rfl | rfl
      · exact hkk.elim (fun q => nomatch e3.symm.trans q) fun q => nomatch e3.symm.trans q
      · exact cell_at hm rfl
    · obtain ⟨hip, ha⟩ := slot_at e2
      obtain ⟨p, xv, h1, h2, h3, h4, _⟩ := pat i (hn ▸ hip)
      have h5 := defRen_at (n := 0) nd hkinds (i := i) (by rw [hln, ← hn]; exact hip) h1
      rw [Nat.zero_add] at h5
      cases defRen_inj h0 e1 h5
      obtain ⟨xv', hx', rv⟩ := VRs_get r ha
      cases h2.symm.trans hx'
      have hm := List.mem_of_getElem? h1
      have hkk : (callEnvC fd s.heap.objs.size f).kindOf p.1 = some p.2 := kind_at hm
      refine ⟨xv, ?_, VR_mono (Vk.of kp (Safe.nil B.Z _) (pre_refl ..)) _ rv⟩
      rcases h4 with h4 | h4
      · rw [h4] at hkk
        exact .inl ⟨hkk, _, hNs, bindL_at hkk hpnd h3⟩
      · obtain ⟨c, hc⟩ := cell_at hm h4
        rw [h4] at hkk
        have := x.cell p.1 c hc
        rw [bindC_at hkk hpnd h3] at this
        exact .inr ⟨.inl hkk, c, hc, this⟩
  have st0 : St B φ s φ { s with heap := h₁, toks := tk } := St.of_kp kp rfl rfl
  have close : ∀ {φ' s'}, StW B (ownW fd.scope (callEnvC fd s.heap.objs.size f)) φ { s with heap := h₁, toks := tk } φ' s' → St B φ s φ' s' := fun {φ' s'} stw => st0.close stw fun b hb => by
    rcases List.mem_cons.mp hb with rfl | hb
    · exact Nat.le_refl _
    · obtain ⟨y, _, hc⟩ := List.mem_filterMap.mp hb
      exact ifE hc fun _ hc => Nat.le_of_lt (x.above _ _ (mem_of_lookup hc))
  exact ResS.bind (rm.deeper _) (((trS_ok (callN B.T d) d 200).ss E0 hb') h ⟨rm.deeper _, V1, R1⟩) (fun e φ' s' stw K' => kn e s' ⟨φ', close stw, K'.R, vr_none⟩) fun v e φ' s' x stw R' rx => kr v e x s' ⟨φ', close stw, R', rx⟩

theorem calls_ok {B : Base} (Y : Sys B) (AO : ∀ H, Nonempty (AccOps (B.hide H))) (sup : B.GT "super" = none) (D : ∀ f np ns body, B.T f = some (.dfn np ns body) → DefAt B f np ns body) (AN : ∀ d H, AccNew (B.hide H) (callN B.T d)) : ∀ d H, OrOK (B.hide H) (callN B.T d) d
  | 0, H => fun _ _ _ _ _ h => noneE h
  | d + 1, H => fun f args σ v σ' h A Ex φ s xs rm R r => bindE h fun F hT h' => by
    have E0 : Env0 (B.hide H) (callN B.T d) d := ⟨Y.hide H, fun H' => calls_ok Y AO sup D AN d H', fun H' => AO H', sup⟩
    cases F with
    | dfn np ns body =>
      refine ifE h' fun hn h' => bindE h' fun r0 hx h' => ?_
      refine def_ok (B := B.hide H) E0 ⟨(D f np ns body hT).ex⟩ hn hx rm R r (fun e s' q => ?_) fun v e x s' q => ?_
      · rw [e] at h'; cases h'; exact q
      · rw [e] at h'; cases h'; exact q
    | acc => exact AN (d + 1) H f args σ v σ' hT h A Ex φ s xs (rm.mono (Nat.zero_le _)) R r
end Mine
end
section -- NQ1
set_option maxRecDepth 100000
set_option maxHeartbeats 4000000
set_option autoImplicit false
namespace Mine
open PySem PySem.W PySem.Calls PyProof.Rows Builtin Builtin.ObjectAttr

/-! ## instances of an own class over list -/
theorem ln_kind : builtinKind "list.__new__" = some .builtinFn := by decide +kernel
theorem ln_split : splitId "list.__new__" = some ("list", "__new__") := by decide +kernel
theorem ln_quiet : "list.__new__".startsWith "lifetime." = false := by decide +kernel

noncomputable def makesL (K : Frag) (C : Addr) : Bool := match K.lookup C with
  | some ⟨_, _, .cls cd, sl⟩ => !cd.abstract && !cd.hasDel && (sl.toList[4]?).join == some (.builtin "list.__new__") && !cd.mro.isEmpty && cd.mro.contains (.ref C) && cd.mro.contains (.type "list") &&
      specialIn K (.ref C) "__call__" == some (some (.builtin "type.__call__")) && instIn K (.ref C) (.type "type") == some true
  | _ => false
structure MakesL (M : Model) (h : Heap) (C : Addr) : Prop where
  obj : ∃ oc od cd sl, h.get? C = some ⟨oc, od, .cls cd, sl⟩ ∧ cd.abstract = false ∧ cd.hasDel = false ∧ cd.mro.isEmpty = false
  made : Looks M h (Bind.madeBy (.ref C)) (some "list.__new__")
  base : Looks M h (Bind.staticBase (.ref C)) (.ref C)
  self : Looks M h (isSubtype (.ref C) (.ref C)) true
  top : Looks M h (isSubtype (.ref C) (.type "list")) true
  call : Looks M h (specialOf (.ref C) "__call__") (some (.builtin "type.__call__"))
  typ : Looks M h (isInstance (.ref C) (.type "type")) true
theorem makesL_of {K : Frag} {M : Model} {h : Heap} (X : K.In h) {C : Addr} (e : makesL K C = true) : MakesL M h C := by
  unfold makesL at e
  split at e
  · rename_i oc od cd sl ho
    simp only [Bool.and_eq_true, Bool.not_eq_true', beq_iff_eq] at e
    obtain ⟨⟨⟨⟨⟨⟨⟨e1, e2⟩, e3⟩, e4⟩, e5⟩, e6⟩, e7⟩, e8⟩ := e
    have hc : clsIn K C = some cd := by unfold clsIn; rw [ho]
    have hm : Looks M h (mroOf (.ref C)) cd.mro := (looks_clsIn X hc).andThen .now
    obtain ⟨c, l, hl⟩ : ∃ c l, cd.mro = c :: l := by cases q : cd.mro with | nil => rw [q] at e4; cases e4 | cons c l => exact ⟨c, l, rfl⟩
    have made : Looks M h (Bind.madeBy (.ref C)) (some "list.__new__") := by
      intro A Q E s k q
      unfold Bind.madeBy
      refine wpAny_bind (hm A _ E s k ?_)
      rw [hl, List.forIn_cons]
      refine wpAny_bind (wpAny_bind (wpAny_bind (wpAny_bind (wpAny_loadPart (k _ _ (X _ _ ho)) (wpAny_pure ?_)))))
      dsimp only
      rw [← Array.getElem?_toList, e3]
      exact wpAny_pure (wpAny_pure (wpAny_pure q))
    refine ⟨⟨oc, od, cd, sl, X _ _ ho, e1, e2, e4⟩, made, ?_, looks_mroIn X ?_, looks_mroIn X ?_, looks_specialIn X e7, looks_instIn X e8⟩
    · intro A Q E s k q
      unfold Bind.staticBase
      refine wpAny_bind (hm A _ E s k ?_)
      rw [hl, List.forIn_cons]
      exact wpAny_bind (wpAny_bind (wpAny_bind (made A _ E s k (wpAny_pure (wpAny_pure (wpAny_pure q))))))
    · unfold mroIn; rw [hc, Option.bind_some, if_neg (by rw [e4]; decide), e5]
    · unfold mroIn; rw [hc, Option.bind_some, if_neg (by rw [e4]; decide), e6]
  · cases e

noncomputable abbrev accO (C dx : Addr) (items : Array Value) (n : Nat) : Obj := { cls := .ref C, dict := some dx, data := .seq items n }

section
variable {prog : Program} {w : World} {A : Around} {K : Frag} {C : Addr} {R : Result → Shared → Prop} {h : Heap} {g : Array GenState} {d : PySem.Drawn} {t : Nat} {os : OsState}

theorem ln_some : (Manifest.signature? "list.__new__").isSome = true := by decide +kernel
theorem ln_row : Manifest.signature? "list.__new__" = some ((Manifest.signature? "list.__new__").get ln_some) := (Option.some_get _).symm
theorem ln_args (C : Addr) (rest : List Value) : Bind.checkArgs "list.__new__" ((Manifest.signature? "list.__new__").get ln_some) ⟨.ref C :: rest, []⟩ = pure () := by kernel_rfl

theorem new_L {rest : List Value} (Y : MakesL (model prog w) h C)
    (hq : R (.ok (.ret (.ref (h.objs.size + 1)))) ⟨(h.push emptyDict).push (accO C h.objs.size #[] 0), g, d, t, os⟩) :
    codeAny (model prog w) A (.call (.builtin "list.__new__") ⟨.ref C :: rest, []⟩) R ⟨h, g, d, t, os⟩ := by
  obtain ⟨⟨oc, od, cd, sl, hC, e1, e2, e4⟩, made, base, self, top, call, typ⟩ := Y
  refine codeAny_call_builtin_code (Code.quiet_builtin _ ln_quiet) ?_
  unfold checkBuiltinCall
  rw [ln_kind, ln_split, ln_row]
  have args := ln_args C rest
  simp only []
  have isC : ∀ {A' : Around} {E' : Value → Shared → Prop} {Q' : Bool → Shared → Prop}, Q' true ⟨h, g, d, t, os⟩ → wpAny (model prog w) A' (isType (.ref C)) Q' E' ⟨h, g, d, t, os⟩ := fun q => ks_wpAny_isType_cls hC rfl q
  repeat (first | simp only [bne_self_eq_false, Bool.false_eq_true, if_false, Bool.not_true] | (with_reducible refine isC ?_) | lk)
  refine codeAny_builtin_stack F.entry_list_new rfl fun p st => ?_
  have hown := owner_list_new
  simp only [hown]
  have hC' : ((h.push emptyDict).push (accO C h.objs.size #[] 0)).get? C = some { cls := oc, dict := od, data := Data.cls cd, slots := sl } := Heap.get?_push_of_some _ (Heap.get?_push_of_some _ hC)
  repeat (first | simp only [bne_self_eq_false, Bool.false_eq_true, if_false, Bool.not_true] | (with_reducible refine isC ?_) | lk)
  rw [e2, if_neg (by decide)]
  refine wpAny_pure (wpAny_pure ?_)
  show R (.ok (.ret (.ref (h.push emptyDict).objs.size))) _
  rw [Heap.size_push]
  exact hq

theorem make_L {rest : List Value} {fI : Addr} (X : K.In h) (hm : makesL K C = true) (hi : W.findIn K (.ref C) "__init__" = some (some (.ref fI))) (hf : typeIn K (.ref fI) = some (.type "function"))
    (hq : codeAny (model prog w) (A.under (.builtin "type.__call__" ⟨.ref C :: rest, []⟩)) (.call (.ref fI) ⟨.ref (h.objs.size + 1) :: rest, []⟩) (InitBack (h.objs.size + 1) R) ⟨(h.push emptyDict).push (accO C h.objs.size #[] 0), g, d, t, os⟩) :
    codeAny (model prog w) A (.call (.ref C) ⟨rest, []⟩) R ⟨h, g, d, t, os⟩ := by
  have Y := makesL_of (M := model prog w) X hm
  have Y' := Y
  obtain ⟨⟨oc, od, cd, sl, hC, e1, e2, e4⟩, made, base, self, top, call, typ⟩ := Y
  have hi := looks_findIn (M := model prog w) X hi
  have hb := fun self => bind_fn (M := model prog w) X self hf
  refine codeAny_of_tree ?_
  show wpAny _ _ (callAny (.ref C) _) _ _ _
  refine nd_load hC ?_
  show wpAny _ _ (callAny.viaDunder (.ref C) _) _ _ _
  unfold callAny.viaDunder
  refine wpAny_bind (call.at ?_)
  dsimp only
  rw [tc_bind]
  refine wpAny_bind (wpAny_pure (wpAny_bind (wpAny_pure ?_)))
  refine wpAny_pure (a := Fin.again (.call (.builtin "type.__call__") ⟨.ref C :: rest, []⟩)) (And.intro rfl ?_)
  refine codeAny_call_builtin_at (Code.quiet_builtin _ (by decide +kernel)) entry_typeCall (check_slot tc_kind tc_split typ (tc_args _ _ _) ?_)
  unfold Builtin.«type.__call__»
  have hm : Looks (model prog w) h (mroOf (.ref C)) cd.mro := ((Looks.ld (part := none) hC).andThen .now).andThen .now
  repeat (first | simp only [e4, Bool.false_eq_true, if_false] | with_reducible refine wpAny_call ?_ | lk)
  refine new_L Y' ?_
  have k : ∀ b o, h.get? b = some o → ((h.push emptyDict).push (accO C h.objs.size #[] 0)).get? b = some o := fun b o e => Heap.get?_push_of_some _ (Heap.get?_push_of_some _ e)
  have hx : ((h.push emptyDict).push (accO C h.objs.size #[] 0)).get? (h.objs.size + 1) = some (accO C h.objs.size #[] 0) := by heap_get
  have t1 : Looks (model prog w) ((h.push emptyDict).push (accO C h.objs.size #[] 0)) (typeOf (.ref (h.objs.size + 1))) (.ref C) := (Looks.ld hx).andThen .now
  have s1 := self.keeps k
  have i1 := hi.keeps k
  have b1 := (hb (.ref (h.objs.size + 1))).keeps k
  unfold isInstance callSpecial? specialOf
  repeat (first | with_reducible refine wpAny_call ?_ | lk)
  refine codeAny_mono hq fun r s' z => ?_
  rcases r with e | (v | _ | _ | _) <;> first | exact z | exact z.elim | skip
  obtain ⟨rfl, z⟩ := z
  exact wpAny_pure (wpAny_pure z)
end
end Mine
end
section -- NQ2
set_option maxRecDepth 100000
set_option maxHeartbeats 4000000
set_option autoImplicit false
namespace Mine
open PySem PySem.W PySem.Calls PyProof.Rows Builtin Builtin.ObjectAttr

/-! ## super().m() where m is list's own -/
theorem md_slot : Slot "method_descriptor" "__get__" "method_descriptor.__get__" :=
  .of (owner := "method_descriptor") (n := "__get__") (by rw [typeLookup_type, builtinLookup_eq_fast]; kernel_rfl) (by decide +kernel) (by decide +kernel) (by decide +kernel)
    (by first | exact .inl (by decide +kernel) | exact .inr (by decide +kernel)) (by rw [isSubtype_type]; kernel_rfl)
theorem md_entry : entryFor table "method_descriptor.__get__" = some Builtin.«method_descriptor.__get__» := entryFor_of_tree (by kernel_rfl)
theorem md_args (a b c : Value) : argsOk "method_descriptor.__get__" ⟨[a, b, c], []⟩ := by unfold argsOk; kernel_rfl
theorem wd_slot : Slot "wrapper_descriptor" "__get__" "wrapper_descriptor.__get__" :=
  .of (owner := "wrapper_descriptor") (n := "__get__") (by rw [typeLookup_type, builtinLookup_eq_fast]; kernel_rfl) (by decide +kernel) (by decide +kernel) (by decide +kernel)
    (by first | exact .inl (by decide +kernel) | exact .inr (by decide +kernel)) (by rw [isSubtype_type]; kernel_rfl)
theorem wd_entry : entryFor table "wrapper_descriptor.__get__" = some Builtin.«wrapper_descriptor.__get__» := entryFor_of_tree (by kernel_rfl)
theorem wd_args (a b c : Value) : argsOk "wrapper_descriptor.__get__" ⟨[a, b, c], []⟩ := by unfold argsOk; kernel_rfl
theorem ty_list_len : typeOf (.builtin "list.__len__") = pure (.type "wrapper_descriptor") := by show builtinType _ = _; rw [builtinType_eq_fast]; kernel_rfl
theorem ty_list_init : typeOf (.builtin "list.__init__") = pure (.type "wrapper_descriptor") := by show builtinType _ = _; rw [builtinType_eq_fast]; kernel_rfl
theorem ty_list_pop : typeOf (.builtin "list.pop") = pure (.type "method_descriptor") := by show builtinType _ = _; rw [builtinType_eq_fast]; kernel_rfl

noncomputable abbrev boundO (bt id : String) (x : Addr) : Obj := { cls := .type bt, data := .fields #[.builtin id, .ref x] }

section
variable {prog : Program} {w : World} {A : Around} {E : Value → Shared → Prop} {h : Heap} {g : Array GenState} {d : PySem.Drawn} {t : Nat} {os : OsState} {x C : Addr}

theorem run_pop {P : Fin → Shared → Prop} (hi : Looks (model prog w) h (isInstance (.ref x) (.type "list")) true) (hq : P (.done (.ret (.ref h.objs.size))) ⟨h.push (boundO "builtin_function_or_method" "list.pop" x), g, d, t, os⟩) :
    wpAny (model prog w) A (Builtin.«method_descriptor.__get__» ⟨[.builtin "list.pop", .ref x, .ref C], []⟩) P E ⟨h, g, d, t, os⟩ := by
  unfold Builtin.«method_descriptor.__get__»
  refine wpAny_bind (wpAny_of_eq (a := (.builtin "list.pop", some (.ref x), some (.ref C))) (by first | rfl | kernel_rfl) ?_)
  dsimp only
  rw [if_neg (show ¬ (Manifest.toldItsClass.contains "list.pop" = true) by decide +kernel)]
  refine wpAny_bind ?_
  refine wpAny_bind (wpAny_of_eq (a := (("pop" : Str), Value.type "list")) (by first | rfl | kernel_rfl) ?_)
  refine wpAny_bind (hi.here ?_)
  refine wpAny_of_eq rfl ?_
  exact wpAny_bind (wpAny_newObj_type (wpAny_pure hq))
theorem run_len {P : Fin → Shared → Prop} (hi : Looks (model prog w) h (isInstance (.ref x) (.type "list")) true) (hq : P (.done (.ret (.ref h.objs.size))) ⟨h.push (boundO "method-wrapper" "list.__len__" x), g, d, t, os⟩) :
    wpAny (model prog w) A (Builtin.«wrapper_descriptor.__get__» ⟨[.builtin "list.__len__", .ref x, .ref C], []⟩) P E ⟨h, g, d, t, os⟩ := by
  unfold Builtin.«wrapper_descriptor.__get__»
  refine wpAny_bind (wpAny_of_eq (a := (.builtin "list.__len__", some (.ref x), some (.ref C))) (by first | rfl | kernel_rfl) ?_)
  dsimp only
  refine wpAny_bind ?_
  refine wpAny_bind (wpAny_of_eq (a := (("__len__" : Str), Value.type "list")) (by first | rfl | kernel_rfl) ?_)
  refine wpAny_bind (hi.here ?_)
  refine wpAny_of_eq rfl ?_
  exact wpAny_bind (wpAny_newObj_type (wpAny_pure hq))
theorem run_init {P : Fin → Shared → Prop} (hi : Looks (model prog w) h (isInstance (.ref x) (.type "list")) true) (hq : P (.done (.ret (.ref h.objs.size))) ⟨h.push (boundO "method-wrapper" "list.__init__" x), g, d, t, os⟩) :
    wpAny (model prog w) A (Builtin.«wrapper_descriptor.__get__» ⟨[.builtin "list.__init__", .ref x, .ref C], []⟩) P E ⟨h, g, d, t, os⟩ := by
  unfold Builtin.«wrapper_descriptor.__get__»
  refine wpAny_bind (wpAny_of_eq (a := (.builtin "list.__init__", some (.ref x), some (.ref C))) (by first | rfl | kernel_rfl) ?_)
  dsimp only
  refine wpAny_bind ?_
  refine wpAny_bind (wpAny_of_eq (a := (("__init__" : Str), Value.type "list")) (by first | rfl | kernel_rfl) ?_)
  refine wpAny_bind (hi.here ?_)
  refine wpAny_of_eq rfl ?_
  exact wpAny_bind (wpAny_newObj_type (wpAny_pure hq))

/-- super().name: list's own thing, bound -/
theorem super_gaB {so D : Addr} {id dt gid bt : String} {Bi : Builtin} {l₀ l : List Value} {K : Frag} {name : PySem.Str} {tk : Tok} {Q : Fin → Shared → Prop}
    (hso : h.get? so = some { cls := .type "super", dict := none, data := .fields #[.ref D, .ref x, .ref C], slots := #[] }) (hno : Looks (model prog w) h (opaqueClassAbove (.ref C)) none)
    (hC : Looks (model prog w) h (mroOf (.ref C)) l₀) (hl : (l₀.dropWhile (· != .ref D)).drop 1 = l) (X : K.In h)
    (hf : alongIn K name l = some (some (.builtin id))) (hty : typeOf (.builtin id) = pure (.type dt)) (hs : Slot dt "__get__" gid) (he : entryFor table gid = some Bi) (ha : argsOk gid ⟨[.builtin id, .ref x, .ref C], []⟩)
    (run : ∀ {A : Around} {E : Value → Shared → Prop} {P : Fin → Shared → Prop}, P (.done (.ret (.ref h.objs.size))) ⟨h.push (boundO bt id x), g, d, t, os⟩ → wpAny (model prog w) A (Bi ⟨[.builtin id, .ref x, .ref C], []⟩) P E ⟨h, g, d, t, os⟩)
    (hxC : x ≠ C) (hn : (name == ("__class__" : PySem.Str)) = false)
    (hq : Q (.done (.ret (.ref h.objs.size))) ⟨h.push (boundO bt id x), g, d, t, os⟩) :
    wpAny (model prog w) A (Builtin.«super.__getattribute__» ⟨[.ref so, .str name tk], []⟩) Q E ⟨h, g, d, t, os⟩ := by
  have hlk := hs.lookup
  have hne : (Value.ref x == Value.ref C) = false := by simp [hxC]
  have hTf : (⟨h, g, d, t, os⟩ : Shared).TypeIs (.builtin id) dt := hty
  have hdt : ({ cls := .type "super", dict := none, data := .fields #[.ref D, .ref x, .ref C], slots := #[] } : Obj).data = .fields #[.ref D, .ref x, .ref C] := rfl
  have f0 : (#[.ref D, .ref x, .ref C] : Array Value)[0]? = some (.ref D) := rfl
  have f1 : (#[.ref D, .ref x, .ref C] : Array Value)[1]? = some (.ref x) := rfl
  have f2 : (#[.ref D, .ref x, .ref C] : Array Value)[2]? = some (.ref C) := rfl
  unfold Builtin.«super.__getattribute__»
  repeat (first
    | (with_reducible refine wpAny_field hso hdt f0 ?_) | (with_reducible refine wpAny_field hso hdt f1 ?_) | (with_reducible refine wpAny_field hso hdt f2 ?_)
    | (with_reducible refine ks_wpAny_notOpaque hno ?_)
    | (with_reducible refine Looks.at hC ?_; rw [hl])
    | (refine ks_forIn_along X (fun _ _ => rfl) rfl ?_ hf)
    | (with_reducible refine wpAny_typeOf hTf ?_)
    | (with_reducible refine wpAny_call_entry hs hTf he (run ?_) ha)
    | (with_reducible refine ⟨_, rfl, ?_⟩)
    | (simp only [hn, hne, Bool.or_false, Bool.false_eq_true, if_false])
    | wp_step
    | dsimp only)
  all_goals exact hq

theorem getMethod_superB {so D : Addr} {id dt gid bt : String} {Bi : Builtin} {l₀ l : List Value} {K : Frag} {name : PySem.Str} {pl : Sem Bool} {Q : Value × List Value → Shared → Prop}
    (hso : h.get? so = some { cls := .type "super", dict := none, data := .fields #[.ref D, .ref x, .ref C], slots := #[] }) (hno : Looks (model prog w) h (opaqueClassAbove (.ref C)) none)
    (hC : Looks (model prog w) h (mroOf (.ref C)) l₀) (hl : (l₀.dropWhile (· != .ref D)).drop 1 = l) (X : K.In h)
    (hf : alongIn K name l = some (some (.builtin id))) (hty : typeOf (.builtin id) = pure (.type dt)) (hs : Slot dt "__get__" gid) (he : entryFor table gid = some Bi) (ha : argsOk gid ⟨[.builtin id, .ref x, .ref C], []⟩)
    (run : ∀ {A : Around} {E : Value → Shared → Prop} {P : Fin → Shared → Prop}, P (.done (.ret (.ref h.objs.size))) ⟨h.push (boundO bt id x), g, d, t + 1, os⟩ → wpAny (model prog w) A (Bi ⟨[.builtin id, .ref x, .ref C], []⟩) P E ⟨h, g, d, t + 1, os⟩)
    (hxC : x ≠ C) (hn : (name == ("__class__" : PySem.Str)) = false)
    (hq : Q (.ref h.objs.size, []) ⟨h.push (boundO bt id x), g, d, t + 1, os⟩) :
    wpAny (model prog w) A (getMethod (.ref so) name pl) Q E ⟨h, g, d, t, os⟩ := by
  have hlk := F.ks_slot_super_ga.lookup
  have hcan := F.ks_canon_super_ga
  have hT : ∀ t', (⟨h, g, d, t', os⟩ : Shared).TypeIs (.ref so) "super" := fun _ => ⟨_, hso, rfl⟩
  unfold getMethod
  refine wpAny_bind (wpAny_specialOf (hT _) hlk ?_)
  show wpAny _ _ (if (Manifest.canonical "super.__getattribute__" != "object.__getattribute__") = true then _ else _) _ _ _
  rw [if_pos hcan]
  unfold getAttr getAttrBy
  refine wpAny_bind (wpAny_bind (wpAny_mkText (wpAny_holding (wpAny_bind (wpAny_typeOf (hT _) (wpAny_bind (wpAny_of_eq hlk ?_)))))))
  show wpAny _ _ (getAttrByItsOwn (.ref so) (.str name t) (.type "super") (.builtin "super.__getattribute__") true false) _ _ _
  unfold getAttrByItsOwn hookBefore callGetattribute boundAndCalled
  refine wpAny_bind (wpAny_of_eq (show (if onTheHeap (.type "super") then typeLookup (.type "super") "__getattr__" else pure none) = pure none from rfl) ?_)
  refine wpAny_bind (wpAny_attempt (wpAny_holding ?_))
  show wpAny _ _ (bindSpecial (.builtin "super.__getattribute__") (.ref so) >>= _) _ _ _
  refine wpAny_bind (wpAny_of_eq (F.ks_slot_super_ga.bind _) ?_)
  refine wpAny_mono (Q := fun v s' => v = .ref h.objs.size ∧ s' = ⟨h.push (boundO bt id x), g, d, t + 1, os⟩) (E := fun _ _ => False)
    (wpAny_call_entry F.ks_slot_super_ga (hT _) F.ks_entry_super_ga (super_gaB hso hno hC hl X hf hty hs he ha run hxC hn ⟨_, rfl, rfl, rfl⟩) (F.ks_gaArgs_super _ _)) (fun v s' hv => ?_) fun _ _ z => z.elim
  obtain ⟨rfl, rfl⟩ := hv
  exact wpAny_pure (wpAny_pure hq)

/-- a bound thing of C is called -/
theorem callWith_boundB {M : Model} {pos : Pos} {u : Addr} {env : Env} {bt id : String} {s : Shared} {Q : Value → Shared → Prop} (hbt : bt = "builtin_function_or_method" ∨ bt = "method-wrapper")
    (ho : s.heap.get? u = some (boundO bt id x)) (hq : wpAny M A (call (.ref u) []) Q E s) : wpAny M A (callWith pos (.ref u) [] (backTo pos (starEach [] env)) []) Q E s := by
  unfold callWith
  refine wpAny_bind (wpAny_holding ?_)
  refine evalArgs_nil3 ?_
  refine wpAny_bind (wpAny_standAt ?_)
  refine wpAny_bind (m := keeperOf (.ref u)) ?_
  unfold keeperOf
  refine wpAny_bind (wpAny_load ho ?_)
  have h1 : (Value.type bt != Value.type "method") = true := by rcases hbt with rfl | rfl <;> decide
  have h2 : (Value.type bt == Value.type "builtin_function_or_method" || Value.type bt == Value.type "method-wrapper") = true := by rcases hbt with rfl | rfl <;> decide
  simp only [h1, h2, if_true]
  refine wpAny_pure ?_
  exact wpAny_bind (wpAny_mono hq (fun r s₂ hr => wpAny_bind (wpAny_holding (wpAny_point (wpAny_pure hr)))) fun _ _ x => x)

theorem call_boundB {u : Addr} {bt id : String} {s : Shared} {Q : Value → Shared → Prop} {Bi : Builtin} (hbt : bt = "builtin_function_or_method" ∨ bt = "method-wrapper") (hpl : id.startsWith "lifetime." = false)
    (ho : s.heap.get? u = some (boundO bt id x)) (hck : ∀ {A : Around} {E : Value → Shared → Prop} {Q : Unit → Shared → Prop}, Q () s → wpAny (model prog w) A (checkBoundCall id ⟨[.ref x], []⟩) Q E s) (he : entryFor table id = some Bi)
    (hq : wpAny (model prog w) (A.under (.builtin id ⟨[.ref x], []⟩)) (Bi ⟨[.ref x], []⟩) (fun fin s' => ∃ v, fin = .done (.ret v) ∧ Q v s') E s) : wpAny (model prog w) A (call (.ref u) []) Q E s := by
  refine wpAny_call (codeAny_of_tree ?_)
  show wpAny _ _ (callAny (.ref u) _) _ _ _
  unfold callAny
  refine wpAny_bind (wpAny_load ho ?_)
  have h1 : (Value.type bt == Value.type "method" || Value.type bt == Value.type "builtin_function_or_method" || Value.type bt == Value.type "method-wrapper") = true := by rcases hbt with rfl | rfl <;> decide
  have h2 : (Value.type bt != Value.type "method") = true := by rcases hbt with rfl | rfl <;> decide
  simp only [h1, h2, if_true]
  refine wpAny_bind (hck ?_)
  refine wpAny_pure ⟨Code.quiet_builtin _ hpl, codeAny_builtin he ?_⟩
  refine wpAny_mono hq (fun fin s' hv => ?_) fun _ _ z => z
  obtain ⟨v, rfl, hv⟩ := hv
  exact hv
end
end Mine
end
section -- NQ3
set_option maxRecDepth 100000
set_option maxHeartbeats 4000000
set_option autoImplicit false
namespace Mine
open PySem PySem.W PySem.Calls PyProof.Rows Builtin Builtin.ObjectAttr

noncomputable abbrev fscope (names : List (Str × NameKind)) : Scope := { kind := .function, names := names, isGenerator := false, isCoroutine := false, more := [] }

/-- a method of the class stands in the heap -/
structure FnAt (B : Base) (f : Addr) (clo : List (Str × Addr)) (names : List (Str × NameKind)) (body : List Stmt) (bnd : List Value → Option (List (Str × Value))) : Prop where
  ex : ∃ od sl fd ar, B.K.lookup f = some ⟨.type "function", od, .func fd, sl⟩ ∧ fd.body = .stmts body ∧ fd.closure = clo ∧ fd.scope = fscope names ∧ fd.globals = mainGlobals ∧ fd.builtins = builtinsNs ∧
    codeIn B.K fd.code fd.qualname = true ∧ ((fd.params.posonlyargs ++ fd.params.args).head? = some ar ∧ ar.arg = ("self" : Str)) ∧
    (∀ vs bs, bnd vs = some bs → ∀ s : Shared, B.K.In s.heap → BindsTo s fd ⟨vs, []⟩ bs) ∧
    ∃ cda oc vs file tf, fd.code = .ref cda ∧ B.K.lookup cda = some oc ∧ oc.data = .fields vs ∧ vs[2]? = some (.str file tf) ∧ ((B.prog.main.file : Str) == file) = true

noncomputable def bnd1 : List Value → Option (List (Str × Value)) := fun vs => match vs with
  | [x] => some [("self", x)]
  | _ => none
noncomputable def bndPush : List Value → Option (List (Str × Value)) := fun vs => match vs with
  | [x, y, z] => some [("self", x), ("fws", y), ("string", z)]
  | _ => none
/-- the default's value is what the heap holds: 0 -/
noncomputable def bndInit (t : Tok) : List Value → Option (List (Str × Value)) := fun vs => match vs with
  | [x] => some [("self", x), ("initial_size", .int 0 t)]
  | [x, y] => some [("self", x), ("initial_size", y)]
  | _ => none

noncomputable def nmSuper : List (Str × NameKind) := [("self", .local), ("__class__", .free), ("super", .globalImplicit)]
noncomputable def nmInit : List (Str × NameKind) := [("self", .local), ("initial_size", .local), ("__class__", .free), ("super", .globalImplicit)]
noncomputable def nmPush : List (Str × NameKind) := [("self", .local), ("fws", .local), ("string", .local)]

noncomputable abbrev superCall (p q : Pos) : PySem.Expr := .Call (.Name "super" p) [] [] q
noncomputable def bodyCnt (p0 p1 p2 p3 p4 : Pos) : List Stmt := [.Return (some (.Call (.Attribute (superCall p0 p1) "__len__" p2) [] [] p3)) p4]
noncomputable def bodyInit (p0 p1 p2 p3 p4 p5 p6 p7 p8 : Pos) : List Stmt :=
  [.Assign [.Attribute (.Name "self" p0) "_initial_size" p1] (.Name "initial_size" p2) p3, .Expr (.Call (.Attribute (superCall p4 p5) "__init__" p6) [] [] p7) p8]
noncomputable def bodyPush (p0 p1 p2 p3 p4 p5 p6 : Pos) : List Stmt := [.Expr (.Call (.Attribute (.Name "self" p0) "append" p1) [.Tuple [.Name "fws" p2, .Name "string" p3] 0 p4] [] p5) p6]
noncomputable def bodyPop (p0 p1 p2 p3 p4 p5 p6 p7 p8 p9 q0 q1 q2 q3 q4 : Pos) : List Stmt :=
  [.If (.Compare (.Call (.Attribute (.Name "self" p0) "part_count" p1) [] [] p2) [.Eq] [.Constant (.int 0) 0 p3] p4) [.Return (some (.Tuple [.Constant (.str "") 0 p5, .Constant (.str "") 0 p6] 0 p7)) p8] [] p9,
   .Return (some (.Call (.Attribute (superCall q0 q1) "pop" q2) [] [] q3)) q4]

set_option genInjectivity false in
set_option genSizeOf false in
/-- what of the class holds -/
structure AccAt (B : Base) where
  cc : Addr
  fInit : Addr
  fPush : Addr
  fPop : Addr
  fCnt : Addr
  cd : ClassData
  t0 : Tok
  ps : Nat → Pos
  cls : clsIn B.K B.C = some cd
  mro : cd.mro = [.ref B.C, .type "list", .type "object"]
  hasDict : cd.hasDict = true
  qual : cd.qualname = ("_Accumulator" : Str)
  clsT : typeIn B.K (.ref B.C) = some (.type "type")
  makes : makesL B.K B.C = true
  ga : W.findIn B.K (.ref B.C) "__getattribute__" = some (some (.builtin "list.__getattribute__"))
  gh : W.findIn B.K (.ref B.C) "__getattr__" = some none
  sa : W.findIn B.K (.ref B.C) "__setattr__" = some (some (.builtin "object.__setattr__"))
  tk : takerIn B.K B.C "_initial_size" = some none
  mInit : W.findIn B.K (.ref B.C) "__init__" = some (some (.ref fInit))
  mPush : W.findIn B.K (.ref B.C) "push" = some (some (.ref fPush))
  mPop : W.findIn B.K (.ref B.C) "pop" = some (some (.ref fPop))
  mCnt : W.findIn B.K (.ref B.C) "part_count" = some (some (.ref fCnt))
  mApp : W.findIn B.K (.ref B.C) "append" = some (some (.builtin "list.append"))
  cell : ∃ d sl cl, B.K.lookup cc = some ⟨cl, d, .cell (some (.ref B.C)), sl⟩
  third : nsIn B.K cStatics "thirdparty.any" = some none
  mgS : B.mg "super" = none
  mbS : B.mb "super" = some (.type "super")
  top : (B.prog.main.scope.names.lookup ("super" : Str)).isSome = false
  dInit : FnAt B fInit [("__class__", cc)] nmInit (bodyInit (ps 0) (ps 1) (ps 2) (ps 3) (ps 4) (ps 5) (ps 6) (ps 7) (ps 8)) (bndInit t0)
  dPush : FnAt B fPush [] nmPush (bodyPush (ps 10) (ps 11) (ps 12) (ps 13) (ps 14) (ps 15) (ps 16)) bndPush
  dPop : FnAt B fPop [("__class__", cc)] nmSuper (bodyPop (ps 20) (ps 21) (ps 22) (ps 23) (ps 24) (ps 25) (ps 26) (ps 27) (ps 28) (ps 29) (ps 30) (ps 31) (ps 32) (ps 33) (ps 34)) bnd1
  dCnt : FnAt B fCnt [("__class__", cc)] nmSuper (bodyCnt (ps 40) (ps 41) (ps 42) (ps 43) (ps 44)) bnd1

section
variable {B : Base} {A : Around} {E : Value → Shared → Prop} {h : Heap} {g : Array GenState} {d : PySem.Drawn} {t : Nat} {os : OsState} {x dx : Addr}

theorem acc_inst {items : Array Value} {n : Nat} {sl : Array (Option Value)} {od : Obj} (hx : h.get? x = some ⟨.ref B.C, some dx, .seq items n, sl⟩) (hd : h.get? dx = some od) : InstAt h x ⟨.ref B.C, some dx, .seq items n, sl⟩ B.C (some od) := ⟨hx, rfl, rfl, hd⟩

theorem acc_isList (AT : AccAt B) (X : B.K.In h) {items : Array Value} {n : Nat} {sl : Array (Option Value)} (hx : h.get? x = some ⟨.ref B.C, some dx, .seq items n, sl⟩) : Looks (model B.prog B.w) h (isInstance (.ref x) (.type "list")) true := by
  have ht : Looks (model B.prog B.w) h (typeOf (.ref x)) (.ref B.C) := (Looks.ld hx).andThen .now
  refine ht.andThen (looks_mroIn X ?_)
  unfold mroIn; rw [AT.cls, Option.bind_some, AT.mro]; rfl
theorem acc_mro (AT : AccAt B) (X : B.K.In h) : Looks (model B.prog B.w) h (mroOf (.ref B.C)) [.ref B.C, .type "list", .type "object"] := by
  rw [← AT.mro]
  exact fun A Q E s k q => wpAny_bind ((looks_clsIn X AT.cls) A _ E s k (wpAny_pure q))
theorem acc_cls (AT : AccAt B) (X : B.K.In h) : ∃ oD, h.get? B.C = some oD ∧ oD.data = .cls AT.cd := by
  have hD := AT.cls
  unfold clsIn at hD
  split at hD
  · rename_i c d cd' sl ho
    cases hD
    exact ⟨_, X _ _ ho, rfl⟩
  · cases hD
theorem acc_ne (AT : AccAt B) (X : B.K.In h) {items : Array Value} {n : Nat} {sl : Array (Option Value)} (hx : h.get? x = some ⟨.ref B.C, some dx, .seq items n, sl⟩) : x ≠ B.C := by
  rintro rfl
  obtain ⟨oD, h1, h2⟩ := acc_cls AT X
  rw [hx] at h1; cases h1; cases h2

/-- what of the heap the methods need -/
structure Low (B : Base) (h : Heap) : Prop where
  K : B.K.In h
  g : h.Ns mainGlobals B.mg
  b : h.Ns builtinsNs B.mb
  nolimit : h.NoLimit
theorem Low.keeps {h' : Heap} (L : Low B h) (k : ∀ b o, h.get? b = some o → h'.get? b = some o) : Low B h' := ⟨L.K.keeps k, L.g.keeps k, L.b.keeps k, L.nolimit.keeps k⟩
theorem Stat.low (S : Stat B h) : Low B h := ⟨S.K, S.g, S.b, S.nolimit⟩

/-- the frame of a method that says super() -/
structure InM (B : Base) (AT : AccAt B) (f : Addr) (env : Env) (x : Addr) (h : Heap) : Prop where
  fk : env.scope.kind = .function
  ks : env.kindOf "super" = some .globalImplicit
  kc : env.kindOf "__class__" = some .free
  kself : env.kindOf "self" = some .local
  cells : env.cells.lookup ("__class__" : Str) = some AT.cc
  glob : env.globals = mainGlobals
  blt : env.builtins = builtinsNs
  func : env.func = some f
  ns : ∃ m, h.Ns env.locals m ∧ m "self" = some (.ref x)
theorem InM.keep {AT : AccAt B} {f : Addr} {env : Env} {h' : Heap} (I : InM B AT f env x h) (k : ∀ b o, h.get? b = some o → h'.get? b = some o) : InM B AT f env x h' := by
  obtain ⟨m, n, e⟩ := I.ns
  exact ⟨I.fk, I.ks, I.kc, I.kself, I.cells, I.glob, I.blt, I.func, m, n.keeps k, e⟩

theorem super_here (AT : AccAt B) {f : Addr} {env : Env} {clo names body bnd} {body0 : List Stmt} {p0 p1 : Pos} {attr : Str} {whole : Sem Value} {Q : Value → Shared → Prop} (D : FnAt B f clo names body bnd) (I : InM B AT f env x h)
    (hcd : ∃ fd od sl, B.K.lookup f = some ⟨.type "function", od, .func fd, sl⟩ ∧ env.code = fd.code)
    (S : Low B h) {items : Array Value} {n : Nat} {sl : Array (Option Value)} (hx : h.get? x = some ⟨.ref B.C, some dx, .seq items n, sl⟩) (hat : (attr == ("__class__" : Str)) = false)
    (hq : ∀ h', h'.get? h.objs.size = some { cls := .type "super", dict := none, data := .fields #[.ref B.C, .ref x, .ref B.C], slots := #[] } → (∀ y o, h.get? y = some o → h'.get? y = some o) → Q (.ref h.objs.size) ⟨h', g, d, t, os⟩) :
    PySem.wpAt (model B.prog B.w) A (.func body0 env) (attributeBase (superCall p0 p1) attr env whole) Q E ⟨h, g, d, t, os⟩ := by
  have X : B.K.In h := S.K
  obtain ⟨od, slf, fd, ar, hf, _, _, _, _, _, _, ⟨har, harg⟩, _, cda, oc, vs, file, tf, hcode, hcda, hoc, hvs, hfile⟩ := D.ex
  obtain ⟨fd', od', sl', hf', hec⟩ := hcd
  rw [hf] at hf'; cases hf'
  obtain ⟨oD, hD1, hD2⟩ := acc_cls AT X
  obtain ⟨dc, slc, cl, hcell⟩ := AT.cell
  obtain ⟨m, hm, hself⟩ := I.ns
  refine ks_wpAt_super_base (s := ⟨h, g, d, t, os⟩) (env := env) I.ks I.kc hat I.func (X _ _ hf) rfl har (hec.trans hcode) (X _ _ hcda) hoc hvs hfile AT.top ?_
  refine ks_loadName_global I.fk I.ks (loadGlobal_builtin (env := env) (by rw [I.glob]; exact S.g) AT.mgS (by rw [I.blt]; exact S.b) AT.mbS ⟨rfl, ?_⟩)
  refine wpAny_loadName_free I.fk I.kc I.cells ⟨_, X _ _ hcell, rfl⟩ ?_
  rw [harg]
  refine wpAny_loadName_local I.fk I.kself hm hself ?_
  refine ks_wpAny_isType_cls hD1 hD2 ⟨rfl, ?_⟩
  refine ks_wpAny_call_super hD1 hD2 hx rfl (fun c e => by cases e) (looks_mroIn X ?_) (fun h' e k => hq h' e k)
  unfold mroIn; rw [AT.cls, Option.bind_some, AT.mro]; simp

noncomputable abbrev accObj (B : Base) (dx : Addr) (items : Array Value) (n : Nat) (sl : Array (Option Value)) : Obj := ⟨.ref B.C, some dx, .seq items n, sl⟩

theorem eval_super {p0 p1 p2 p3 : Pos} {name : Str} {env : Env} (hl : p2.endLine = p3.line) : eval (.Call (.Attribute (superCall p0 p1) name p2) [] [] p3) env = (do
      let ov ← attributeBase (superCall p0 p1) name env (eval (superCall p0 p1) env)
      standAt p2.atName
      let (f, first) ← holding [ov] (getMethod ov name (do return (← importBound (superCall p0 p1) env).getD true))
      callWith p3 f first (backTo p3 (starEach [] env)) []) := by
  have hpos : methodCallPos true (superCall p0 p1) env p2 p3 = pure p3 := by unfold methodCallPos; simp [hl]
  show (attributeBase (superCall p0 p1) name env (eval (superCall p0 p1) env) >>= fun ov => standAt p2.atName >>= fun _ => holding [ov] (getMethod ov name _) >>= fun r => methodCallPos true (superCall p0 p1) env p2 p3 >>= fun callPos => callWith callPos r.1 r.2 (backTo p3 (starEach [] env)) []) = _
  rw [hpos]
  rfl
theorem super_meth (AT : AccAt B) {f : Addr} {env : Env} {clo names body bnd} {body0 : List Stmt} {p0 p1 p2 p3 : Pos} {name : Str} {id dt gid bt : String} {Bi : Builtin} {Q : Value → Shared → Prop} (D : FnAt B f clo names body bnd) (I : InM B AT f env x h)
    (hcd : ∃ fd od sl, B.K.lookup f = some ⟨.type "function", od, .func fd, sl⟩ ∧ env.code = fd.code)
    (S : Low B h) {items : Array Value} {n : Nat} {sl : Array (Option Value)} (hx : h.get? x = some (accObj B dx items n sl)) (hat : (name == ("__class__" : Str)) = false)
    (hl : p2.endLine = p3.line) (hbt : bt = "builtin_function_or_method" ∨ bt = "method-wrapper")
    (hf : alongIn B.K name [.type "list", .type "object"] = some (some (.builtin id))) (hty : typeOf (.builtin id) = pure (.type dt)) (hs : Slot dt "__get__" gid) (he : entryFor table gid = some Bi) (ha : argsOk gid ⟨[.builtin id, .ref x, .ref B.C], []⟩)
    (run : ∀ {h : Heap} {A : Around} {t : Nat} {E : Value → Shared → Prop} {P : Fin → Shared → Prop}, Looks (model B.prog B.w) h (isInstance (.ref x) (.type "list")) true → P (.done (.ret (.ref h.objs.size))) ⟨h.push (boundO bt id x), g, d, t, os⟩ → wpAny (model B.prog B.w) A (Bi ⟨[.builtin id, .ref x, .ref B.C], []⟩) P E ⟨h, g, d, t, os⟩)
    (hpl : id.startsWith "lifetime." = false) {Bx : Builtin} (hen : entryFor table id = some Bx)
    (hck : ∀ {h : Heap} {t : Nat} {A : Around} {E : Value → Shared → Prop} {Q : Unit → Shared → Prop}, Low B h → h.get? x = some (accObj B dx items n sl) → Q () ⟨h, g, d, t, os⟩ → wpAny (model B.prog B.w) A (checkBoundCall id ⟨[.ref x], []⟩) Q E ⟨h, g, d, t, os⟩)
    (hq : ∀ A h' t', (∀ b o, h.get? b = some o → h'.get? b = some o) → wpAny (model B.prog B.w) A (Bx ⟨[.ref x], []⟩) (fun fin s' => ∃ v, fin = .done (.ret v) ∧ Q v s') E ⟨h', g, d, t', os⟩) :
    PySem.wpAt (model B.prog B.w) A (.func body0 env) (eval (.Call (.Attribute (superCall p0 p1) name p2) [] [] p3) env) Q E ⟨h, g, d, t, os⟩ := by
  refine ks_wpAt_MethodCall ?_ (eval_super hl)
  refine super_here AT D I hcd S hx hat fun h1 hso k1 => ?_
  have S1 := S.keeps k1
  have hx1 := k1 _ _ hx
  refine getMethod_superB hso (looks_opaque S1.K AT.third) (acc_mro AT S1.K) (by simp) S1.K hf hty hs he ha (run (acc_isList AT S1.K hx1)) (acc_ne AT S1.K hx1) hat ?_
  have k2 : ∀ b o, h1.get? b = some o → (h1.push (boundO bt id x)).get? b = some o := fun b o e => Heap.get?_push_of_some _ e
  have hu : (h1.push (boundO bt id x)).get? h1.objs.size = some (boundO bt id x) := Heap.get?_push_at rfl rfl
  refine callWith_boundB (x := x) (bt := bt) (id := id) hbt hu ?_
  refine call_boundB (x := x) (bt := bt) (id := id) hbt hpl hu (hck (S1.keeps k2) (k2 _ _ hx1)) hen ?_
  exact hq _ _ _ fun b o e => k2 _ _ (k1 _ _ e)

theorem acc_noMod (AT : AccAt B) (X : B.K.In h) {items : Array Value} {n : Nat} {sl : Array (Option Value)} (hx : h.get? x = some (accObj B dx items n sl)) : Looks (model B.prog B.w) h (isInstance (.ref x) (.type "module")) false := by
  have ht : Looks (model B.prog B.w) h (typeOf (.ref x)) (.ref B.C) := (Looks.ld hx).andThen .now
  refine ht.andThen (looks_mroIn X ?_)
  unfold mroIn; rw [AT.cls, Option.bind_some, AT.mro]; rfl

/-! the checks of the calls -/
theorem ck_len {Q : Unit → Shared → Prop} {s : Shared} (hq : Q () s) : wpAny (model B.prog B.w) A (checkBoundCall "list.__len__" ⟨[.ref x], []⟩) Q E s :=
  wpAny_of_eq (a := ()) (by kernel_rfl) hq
theorem ck_init {Q : Unit → Shared → Prop} {s : Shared} (hq : Q () s) : wpAny (model B.prog B.w) A (checkBoundCall "list.__init__" ⟨[.ref x], []⟩) Q E s :=
  wpAny_of_eq (a := ()) (by kernel_rfl) hq
theorem pop_some : (Manifest.signature? "list.pop").isSome = true := by decide +kernel
theorem pop_row : Manifest.signature? "list.pop" = some ((Manifest.signature? "list.pop").get pop_some) := (Option.some_get _).symm
theorem pop_kind : builtinKind "list.pop" = some .method := by decide +kernel
theorem ck_pop (AT : AccAt B) (S : Low B h) {items : Array Value} {n : Nat} {sl : Array (Option Value)} (hx : h.get? x = some (accObj B dx items n sl)) {Q : Unit → Shared → Prop} (hq : Q () ⟨h, g, d, t, os⟩) :
    wpAny (model B.prog B.w) A (checkBoundCall "list.pop" ⟨[.ref x], []⟩) Q E ⟨h, g, d, t, os⟩ := by
  have X := S.K
  have ht : Looks (model B.prog B.w) h (typeOf (.ref x)) (.ref B.C) := (Looks.ld hx).andThen .now
  have hm : Looks (model B.prog B.w) h (classData B.C) AT.cd := looks_clsIn X AT.cls
  unfold checkBoundCall
  rw [pop_row, pop_kind]
  dsimp only
  rw [if_neg (by decide)]
  refine wpAny_bind ((acc_noMod AT X hx).here ?_)
  rw [if_neg (by decide +kernel)]
  refine wpAny_bind (ks_wpAny_isType_inst hx (fun c e => by cases e) ?_)
  rw [if_neg (by decide)]
  refine wpAny_bind (ht.here ?_)
  refine wpAny_bind (hm.here ?_)
  refine wpAny_bind ((looks_typeIn X AT.clsT).here ?_)
  rw [if_pos (by decide), AT.qual]
  exact wpAny_of_eq (a := ()) (by kernel_rfl) hq

end
end Mine
end
section -- NQ4
set_option maxRecDepth 100000
set_option maxHeartbeats 4000000
set_option autoImplicit false
namespace Mine
open PySem PySem.W PySem.Calls PyProof.Rows Builtin Builtin.ObjectAttr

section
variable {B : Base} {A : Around} {E : Value → Shared → Prop} {h : Heap} {g : Array GenState} {d : PySem.Drawn} {t : Nat} {os : OsState} {x dx : Addr}

theorem frame {f : Addr} {clo names body bnd} {vs : List Value} {bs : List (Str × Value)} {Q : Value → Shared → Prop} {s : Shared} (D : FnAt B f clo names body bnd) (hroom : A.depth < recursionLimit) (L : Low B s.heap) (hb : bnd vs = some bs)
    (hcell : ∀ x ∈ names, x.2 ≠ .cell) (hloc : ∀ y ∈ bs, names.lookup y.1 = some .local)
    (hq : ∀ env h₀, env.scope = fscope names → env.cells = clo → env.globals = mainGlobals → env.builtins = builtinsNs → env.func = some f → (∃ fd od sl, B.K.lookup f = some ⟨.type "function", od, .func fd, sl⟩ ∧ env.code = fd.code) →
      h₀.Ns env.locals (fun x => bs.reverse.lookup x) → (∀ b o, s.heap.get? b = some o → h₀.get? b = some o) → env.locals = s.heap.objs.size →
      PySem.wpAt (model B.prog B.w) (A.deeper env) (.func body env) (execs body env) (fun fl s' => Q (match fl with | .ret v => v | _ => .none) s') (fun _ _ => False) { s with heap := h₀, toks := s.toks + bs.length }) :
    wpAny (model B.prog B.w) A (call (.ref f) vs) Q E s := by
  obtain ⟨od, sl, fd, ar, hf, hbody, hclo, hsc, hgl, hbl, hcode, har, hbind, _⟩ := D.ex
  refine wpAny_call (ks_codeAny_call_defAt (fd := fd) (body := body) (binds := bs) hroom (L.K _ _ hf) rfl L.nolimit (codeRec_of L.K hcode) hbody (hbind vs bs hb s L.K) (by rw [hsc]; exact hcell) (by rw [hsc]; exact hloc) (fun h₀ hns hk => ?_) (by rw [hsc]) (by rw [hsc]) (by rw [hsc]))
  exact ks_wpAt_mono (hq (callEnv fd s.heap.objs.size f) h₀ hsc hclo hgl hbl rfl ⟨fd, od, sl, hf, rfl⟩ hns hk rfl) (fun fl s' z => z) fun _ _ z => z.elim

/-! the built-ins on an object of ours -/
theorem run_list_len {items : Array Value} {n : Nat} {sl : Array (Option Value)} (hx : h.get? x = some (accObj B dx items n sl)) {P : PySem.Fin → Shared → Prop} (hq : P (.done (.ret (.int items.size t))) ⟨h, g, d, t + 1, os⟩) :
    wpAny (model B.prog B.w) A (Builtin.«list.__len__» ⟨[.ref x], []⟩) P E ⟨h, g, d, t, os⟩ := by
  unfold Builtin.«list.__len__» slotArgs
  wp_walk using wpAny_loadPart' hx
  exact hq
theorem run_list_init {n : Nat} {sl : Array (Option Value)} (hx : h.get? x = some (accObj B dx #[] n sl)) {P : PySem.Fin → Shared → Prop} (hq : ∀ h' n', Heap.SameBut x h h' → h'.get? x = some (accObj B dx #[] n' sl) → P (.done (.ret .none)) ⟨h', g, d, t, os⟩) :
    wpAny (model B.prog B.w) A (Builtin.«list.__init__» ⟨[.ref x], []⟩) P E ⟨h, g, d, t, os⟩ := by
  unfold Builtin.«list.__init__»
  wp_walk using wpAny_loadPart' hx
  obtain ⟨n', e⟩ : ∃ n', Obj.mapSeq (fun _ => #[]) (accObj B dx #[] n sl) = accObj B dx #[] n' sl := ⟨_, rfl⟩
  exact hq _ n' (Heap.SameBut.update ..) (by rw [Heap.get?_update_self _ hx (by rw [e]; rfl), e])
theorem run_list_pop {items : Array Value} {n : Nat} {sl : Array (Option Value)} {y : Value} (hx : h.get? x = some (accObj B dx items n sl)) (hy : items[items.size - 1]? = some y) (hs1 : items.size ≤ sizeLine) {P : PySem.Fin → Shared → Prop}
    (hq : ∀ h' n', Heap.SameBut x h h' → h'.get? x = some (accObj B dx (items.eraseIdxIfInBounds (items.size - 1)) n' sl) → P (.done (.ret y)) ⟨h', g, d, t, os⟩) :
    wpAny (model B.prog B.w) A (Builtin.«list.pop» ⟨[.ref x], []⟩) P E ⟨h, g, d, t, os⟩ := by
  have hpos : 0 < items.size := by
    rcases Nat.eq_zero_or_pos items.size with h0 | h0
    · simp [h0] at hy
    · exact h0
  have hne : ¬ items.isEmpty = true := by
    intro he; have : items.size = 0 := by simpa using he
    omega
  have hk : seqIndex? (-1) items.size = some (items.size - 1) := by
    rw [seqIndex_neg (by omega) (by omega)]; congr 1; omega
  unfold Builtin.«list.pop»
  wp_walk using wpAny_loadPart' hx
  simp only [hk, hy, Option.bind_some, Option.map_some]
  have hz' : (items.eraseIdxIfInBounds (items.size - 1)).size ≤ sizeLine + 1 := Nat.le_trans (by rw [Array.eraseIdxIfInBounds]; split <;> simp) (Nat.le_succ_of_le hs1)
  obtain ⟨n', e⟩ : ∃ n', Obj.mapSeq (fun xs => xs.eraseIdxIfInBounds (items.size - 1)) (accObj B dx items n sl) = accObj B dx (items.eraseIdxIfInBounds (items.size - 1)) n' sl := ⟨_, rfl⟩
  wp_walk using (wpAny_updateSeq hx rfl (hz := hs1) (_hz' := hz')), wpAny_loadPart' hx
  exact hq _ n' (Heap.SameBut.update ..) (by rw [Heap.get?_update_self _ hx (by rw [e]; rfl), e])

theorem check_meth {M : Model} {s : Shared} {i owner n : String} {self : Value} {rest : List Value} {Q : Unit → Shared → Prop}
    (hk : builtinKind i = some .method) (hs : splitId i = some (owner, n)) (hi : Looks M s.heap (isInstance self (.type owner)) true) (ha : argsOk i ⟨self :: rest, []⟩) (q : Q () s) :
    wpAny M A (checkBuiltinCall i ⟨self :: rest, []⟩) Q E s := by
  simp only [checkBuiltinCall, hk, hs]
  refine wpAny_bind (hi.here ?_)
  simp only [Bool.not_true, Bool.false_eq_true, if_false]
  cases hsig : Manifest.signature? i with
  | none => exact wpAny_pure q
  | some sig =>
    simp only [argsOk, hsig] at ha
    have h2 : Bind.checkArgs i sig ⟨self :: rest, []⟩ = pure () := ha
    show wpAny M A (Bind.checkArgs i sig ⟨self :: rest, []⟩) Q E s
    rw [h2]; exact wpAny_pure q

theorem acc_append (AT : AccAt B) (L : Low B h) {items : Array Value} {n : Nat} {sl : Array (Option Value)} {y : Value} (hx : h.get? x = some (accObj B dx items n sl)) (hs1 : items.size ≤ sizeLine) {Q : Value → Shared → Prop}
    (hq : ∀ h' n', Heap.SameBut x h h' → h'.get? x = some (accObj B dx (items.push y) n' sl) → Q .none ⟨h', g, d, t, os⟩) :
    wpAny (model B.prog B.w) A (call (.builtin "list.append") [.ref x, y]) Q E ⟨h, g, d, t, os⟩ := by
  obtain ⟨n', e⟩ : ∃ n', Obj.mapSeq (fun xs => xs.push y) (accObj B dx items n sl) = accObj B dx (items.push y) n' sl := ⟨_, rfl⟩
  refine wpAny_call (codeAny_call_builtin (by decide +kernel) entry_list_append (check_meth (owner := "list") (n := "append") (by decide +kernel) (by decide +kernel) (acc_isList AT L.K hx) (args_list_append _ _) ?_))
  show wpAny _ _ (updateSeq x (·.push y) >>= fun _ => ret .none) _ _ _
  refine wpAny_bind ?_
  refine wpAny_updateSeq hx rfl (wpAny_pure (hq _ n' (Heap.SameBut.update ..) ?_))
  rw [Heap.get?_update_self _ hx (by rw [e]; rfl), e]

theorem inM {AT : AccAt B} {f : Addr} {env : Env} {names : List (Str × NameKind)} {bs : List (Str × Value)} (h1 : env.scope = fscope names) (h2 : env.cells = [(("__class__" : Str), AT.cc)]) (h3 : env.globals = mainGlobals) (h4 : env.builtins = builtinsNs) (h5 : env.func = some f)
    (hn : names = nmSuper ∨ names = nmInit) (hns : h.Ns env.locals (fun x => bs.reverse.lookup x)) (hs : bs.reverse.lookup ("self" : Str) = some (.ref x)) : InM B AT f env x h := by
  have hk : ∀ y, env.kindOf y = names.lookup y := fun y => by show env.scope.names.lookup y = _; rw [h1]
  refine ⟨by rw [h1], ?_, ?_, ?_, by rw [h2]; rfl, h3, h4, h5, _, hns, hs⟩ <;> · rw [hk]; rcases hn with rfl | rfl <;> rfl

theorem cnt_ok (AT : AccAt B) {s : Shared} (L : Low B s.heap) (hroom : A.depth < recursionLimit) {items : Array Value} {n : Nat} {sl : Array (Option Value)} (hx : s.heap.get? x = some (accObj B dx items n sl)) (hl : (AT.ps 42).endLine = (AT.ps 43).line) {Q : Value → Shared → Prop}
    (hq : ∀ h' t' t'', (∀ b o, s.heap.get? b = some o → h'.get? b = some o) → Q (.int items.size t') { s with heap := h', toks := t'' }) :
    wpAny (model B.prog B.w) A (call (.ref AT.fCnt) [.ref x]) Q E s := by
  obtain ⟨hh, g, d, t, os⟩ := s
  refine frame AT.dCnt hroom L (bs := [("self", .ref x)]) rfl (by decide) (by intro y hy; rw [List.mem_singleton.mp hy]; rfl) fun env h₀ h1 h2 h3 h4 h5 h6 hns hk _ => ?_
  have L0 := L.keeps hk
  refine ks_wpAt_execs_cons (ks_wpAt_Return_some ?_)
  refine super_meth AT AT.dCnt (inM h1 h2 h3 h4 h5 (.inl rfl) hns rfl) h6 L0 (hk _ _ hx) (by decide) hl (.inr rfl) (id := "list.__len__") (by kernel_rfl) ty_list_len wd_slot wd_entry (wd_args _ _ _) (fun hi hP => run_len hi hP) (by decide +kernel) F.entry_list_len (fun _ _ hQ => ck_len hQ) fun A' h' t' k => ?_
  refine run_list_len (k _ _ (hk _ _ hx)) ⟨_, rfl, ?_⟩
  exact hq _ _ _ fun b o e => k _ _ (hk _ _ e)
end
end Mine
end
section -- NQ5
set_option maxRecDepth 100000
set_option maxHeartbeats 4000000
set_option autoImplicit false
namespace Mine
open PySem PySem.W PySem.Calls PyProof.Rows Builtin Builtin.ObjectAttr

section
variable {B : Base} {A : Around} {E : Value → Shared → Prop} {h : Heap} {g : Array GenState} {d : PySem.Drawn} {t : Nat} {os : OsState} {x dx : Addr}

theorem refuse_list (self : Value) (C : Addr) : refuseLoop self "__setattr__" [.ref C, .type "list", .type "object"] = pure () := by
  rw [refuseLoop_ref]; kernel_rfl

noncomputable abbrev initDict (P : Params) (t1 : Tok) (v : Value) : Obj := { cls := .type "dict", data := .dict #[⟨PyData.keyHash P "_initial_size", .str "_initial_size" t1, v⟩] 1 }

theorem put_empty (P : Params) (t1 : Tok) (v : Value) : Obj.putName "_initial_size" (PyData.keyHash P "_initial_size") (.str "_initial_size" t1) v emptyDict = initDict P t1 v := by rfl

theorem set_size (AT : AccAt B) (L : Low B h) {items : Array Value} {n : Nat} {sl : Array (Option Value)} {v : Value} (hx : h.get? x = some (accObj B dx items n sl)) (hd : h.get? dx = some emptyDict) {Q : Unit → Shared → Prop}
    (hq : ∀ h' t1 t', Heap.SameBut dx h h' → h'.get? dx = some (initDict B.w.params t1 v) → Q () ⟨h', g, d, t', os⟩) :
    wpAny (model B.prog B.w) A (setAttr (.ref x) "_initial_size" v) Q E ⟨h, g, d, t, os⟩ := by
  have X := L.K
  have I := acc_inst (B := B) hx hd
  refine set_plain (s := ⟨h, g, d, t, os⟩) X I AT.sa ?_
  have SF := PySem.F.store_object
  have hm := acc_mro (B := B) AT X
  have sub : Looks (model B.prog B.w) h (isInstance (.ref x) (.type "object")) true := I.type.andThen (looks_mroIn X (by unfold mroIn; rw [AT.cls, Option.bind_some, AT.mro]; rfl))
  refine codeAny_call_builtin SF.slot.plain SF.entry (@check_slot (model B.prog B.w) _ _ _ "object.__setattr__" "object" "__setattr__" (.ref x) [.str "_initial_size" t, v] [] _ SF.kind SF.split sub (SF.args (.ref x) (.str "_initial_size" t) v) ?_)
  obtain ⟨attr, ha, hr⟩ := Option.bind_eq_some_iff.mp AT.tk
  have L3 : Looks (model B.prog B.w) h (storeTaker? attr) none := by
    cases attr with
    | none => exact .now
    | some a =>
      obtain ⟨b, hb, hr⟩ := Option.map_eq_some_iff.mp hr
      refine (looks_takesIn X hb).andThen ?_
      cases b <;> first | exact .now | cases hr
  rw [osa_eq, refuse_eq]
  refine wpAny_bind (wpAny_bind (I.type.here (wpAny_bind (hm.here ?_))))
  rw [refuse_list]
  refine wpAny_pure (wpAny_bind (I.type.here (wpAny_bind ((looks_findIn X ha).here (wpAny_bind (L3.here ?_))))))
  refine wpAny_bind (wpAny_pure (wpAny_bind (wpAny_bind (wpAny_loadPart hx (wpAny_bind ((looks_clsIn X AT.cls).here ?_))))))
  rw [AT.hasDict]
  refine wpAny_pure (a := some dx) (wpAny_bind (wpAny_pure (wpAny_bind ?_)))
  unfold nsSet
  refine wpAny_bind (wpAny_bind (wpAny_askSetting (wpAny_pure (wpAny_bind (wpAny_mkText (wpAny_bind (wpAny_loadPart hd ?_)))))))
  dsimp only
  rw [if_neg (by decide)]
  have hself : (h.update dx (Obj.putName "_initial_size" (PyData.keyHash B.w.params "_initial_size") (.str "_initial_size" (t + 1)) v)).get? dx = some (initDict B.w.params (t + 1) v) := by
    rw [Heap.get?_update_self _ hd (by rw [put_empty]; rfl), put_empty]
  refine wpAny_updatePart hd ?_
  refine wpAny_bind (wpAny_lookBehind hself (pastItsLine_dict (by rw [sizeLine_eq]; simp)) ?_)
  exact wpAny_pure (hq _ _ _ (Heap.SameBut.update ..) hself)

theorem frameC {f : Addr} {clo names body bnd} {vs : List Value} {bs : List (Str × Value)} {Q : Value → Shared → Prop} {s : Shared} (D : FnAt B f clo names body bnd) (hroom : A.depth < recursionLimit) (L : Low B s.heap) (hb : bnd vs = some bs)
    (hcell : ∀ x ∈ names, x.2 ≠ .cell) (hloc : ∀ y ∈ bs, names.lookup y.1 = some .local)
    (hq : ∀ env h₀, env.scope = fscope names → env.cells = clo → env.globals = mainGlobals → env.builtins = builtinsNs → env.func = some f → (∃ fd od sl, B.K.lookup f = some ⟨.type "function", od, .func fd, sl⟩ ∧ env.code = fd.code) →
      h₀.Ns env.locals (fun x => bs.reverse.lookup x) → (∀ b o, s.heap.get? b = some o → h₀.get? b = some o) → env.locals = s.heap.objs.size →
      PySem.wpAt (model B.prog B.w) (A.deeper env) (.func body env) (execs body env) (fun fl s' => Q (match fl with | .ret v => v | _ => .none) s') (fun _ _ => False) { s with heap := h₀, toks := s.toks + bs.length }) :
    codeAny (model B.prog B.w) A (.call (.ref f) ⟨vs, []⟩) (fun r s' => ∃ v, r = .ok (.ret v) ∧ Q v s') s := by
  obtain ⟨od, sl, fd, ar, hf, hbody, hclo, hsc, hgl, hbl, hcode, har, hbind, _⟩ := D.ex
  refine ks_codeAny_call_defAt (fd := fd) (body := body) (binds := bs) hroom (L.K _ _ hf) rfl L.nolimit (codeRec_of L.K hcode) hbody (hbind vs bs hb s L.K) (by rw [hsc]; exact hcell) (by rw [hsc]; exact hloc) (fun h₀ hns hk => ?_) (by rw [hsc]) (by rw [hsc]) (by rw [hsc])
  exact ks_wpAt_mono (hq (callEnv fd s.heap.objs.size f) h₀ hsc hclo hgl hbl rfl ⟨fd, od, sl, hf, rfl⟩ hns hk rfl) (fun fl s' z => ⟨_, rfl, z⟩) fun _ _ z => z.elim

theorem depth_tc {C : Addr} {rest : List Value} : (A.under (.builtin "type.__call__" ⟨.ref C :: rest, []⟩)).depth = A.depth + 1 := rfl

theorem new_ok (AT : AccAt B) {s : Shared} (L : Low B s.heap) (hroom : A.depth + 1 < recursionLimit) {rest : List Value} {sz : Value} (hb : ∀ x, bndInit AT.t0 (.ref x :: rest) = some [(("self" : Str), .ref x), (("initial_size" : Str), sz)]) (hl : (AT.ps 6).endLine = (AT.ps 7).line) {Q : Value → Shared → Prop}
    (hsw : ∀ env, swapsWith (.Name "initial_size" (AT.ps 2)) (some (.Attribute (.Name "self" (AT.ps 0)) "_initial_size" (AT.ps 1))) (AT.ps 3).line env = pure false)
    (hsw2 : ∀ env, swapsWith (.Call (.Attribute (superCall (AT.ps 4) (AT.ps 5)) "__init__" (AT.ps 6)) [] [] (AT.ps 7)) none (AT.ps 8).line env = pure false)
    (hq : ∀ h' t' x dx n t1, (∀ b o, s.heap.get? b = some o → h'.get? b = some o) → s.heap.objs.size ≤ x → s.heap.objs.size ≤ dx → h'.get? x = some (accObj B dx #[] n #[]) → h'.get? dx = some (initDict B.w.params t1 sz) → Q (.ref x) { s with heap := h', toks := t' }) :
    wpAny (model B.prog B.w) A (call (.ref B.C) rest) Q E s := by
  obtain ⟨hh, g, d, t, os⟩ := s
  refine wpAny_call (make_L (fI := AT.fInit) L.K AT.makes AT.mInit (by
    obtain ⟨od, sl, fd, ar, hf, _⟩ := AT.dInit.ex
    show (B.K.lookup AT.fInit).map (·.cls) = _; rw [hf]; rfl) ?_)
  have k0 : ∀ b o, hh.get? b = some o → ((hh.push emptyDict).push (accO B.C hh.objs.size #[] 0)).get? b = some o := fun b o e => Heap.get?_push_of_some _ (Heap.get?_push_of_some _ e)
  have L0 := L.keeps k0
  have hx0 : ((hh.push emptyDict).push (accO B.C hh.objs.size #[] 0)).get? (hh.objs.size + 1) = some (accObj B hh.objs.size #[] 0 #[]) := by heap_get
  have hd0 : ((hh.push emptyDict).push (accO B.C hh.objs.size #[] 0)).get? hh.objs.size = some emptyDict := Heap.get?_push_of_some _ (Heap.get?_push_at rfl rfl)
  refine codeAny_mono (frameC (Q := fun v s' => v = .none ∧ Q (.ref (hh.objs.size + 1)) s') AT.dInit (by rw [depth_tc]; exact hroom) L0 (hb _) (by decide) (by intro y hy; rcases List.mem_cons.mp hy with rfl | hy; rfl; rw [List.mem_singleton.mp hy]; rfl) fun env h₀ h1 h2 h3 h4 h5 h6 hns hk hloc => ?_) fun r s' z => ?_
  · have hsc : env.scope.kind = .function := by rw [h1]
    have hkind : ∀ y, env.kindOf y = nmInit.lookup y := fun y => by show env.scope.names.lookup y = _; rw [h1]
    refine ks_wpAt_execs_cons (ks_wpAt_Assign_Attr (wpAt_of_wpAny ?_) (hsw env))
    refine wpAny_Name (wpAny_loadName_local (v := sz) hsc (by rw [hkind]; rfl) hns rfl ?_) rfl
    refine wpAny_Name (wpAny_loadName_local (v := .ref (hh.objs.size + 1)) hsc (by rw [hkind]; rfl) hns rfl ?_) rfl
    have hx1 := hk _ _ hx0
    have hd1 := hk _ _ hd0
    refine set_size AT (L0.keeps hk) hx1 hd1 fun h1' t1 t' sb hd2 => ?_
    have hne : (hh.objs.size + 1) ≠ hh.objs.size := Nat.succ_ne_self _
    have hx2 : h1'.get? (hh.objs.size + 1) = some (accObj B hh.objs.size #[] 0 #[]) := (sb.2 _ hne).trans hx1
    have kk : ∀ b o, hh.get? b = some o → h1'.get? b = some o := fun b o e => (sb.2 b (Nat.ne_of_lt (Heap.lt_size e))).trans (hk _ _ (k0 _ _ e))
    have hns1 : h1'.Ns env.locals (fun x => List.lookup x (List.reverse [(("self" : Str), .ref (hh.objs.size + 1)), (("initial_size" : Str), sz)])) := by
      obtain ⟨o, es, ep, e, r⟩ := hns
      refine ⟨o, es, ep, (sb.2 _ ?_).trans e, r⟩
      rw [hloc]
      show ((hh.push emptyDict).push (accO B.C hh.objs.size #[] 0)).objs.size ≠ hh.objs.size
      rw [Heap.size_push, Heap.size_push]; omega
    have L1 := L.keeps kk
    refine ks_wpAt_execs_cons (ks_wpAt_Expr_any ?_ (by unfold interactive; rw [h1]; rfl) (hsw2 env))
    refine super_meth AT AT.dInit (inM h1 h2 h3 h4 h5 (.inr rfl) hns1 rfl) h6 L1 hx2 (by decide) hl (.inr rfl) (id := "list.__init__") (by kernel_rfl) ty_list_init wd_slot wd_entry (wd_args _ _ _) (fun hi hP => run_init hi hP) (by decide +kernel) F.entry_list_init (fun _ _ hQ => ck_init hQ) fun A' h' t2 k => ?_
    refine run_list_init (k _ _ hx2) fun h3' n' sb3 hx3 => ⟨_, rfl, ?_⟩
    refine wpAt_of_wpAny (wpAny_execs_nil ⟨rfl, hq _ _ _ hh.objs.size n' t1 (fun b o e => ?_) (Nat.le_succ _) (Nat.le_refl _) hx3 ?_⟩)
    · exact (sb3.2 b (fun z => absurd (Heap.lt_size e) (by rw [z]; exact Nat.not_lt.mpr (Nat.le_succ _)))).trans (k _ _ (kk _ _ e))
    · exact (sb3.2 _ (Ne.symm hne)).trans (k _ _ hd2)
  · obtain ⟨v, rfl, rfl, z⟩ := z
    exact ⟨rfl, z⟩

theorem acc_method (AT : AccAt B) {s : Shared} (L : Low B s.heap) {items : Array Value} {n : Nat} {sl : Array (Option Value)} {od : Obj} {name : Str} {f ft : Value} {pl : Sem Bool} {Q : Value × List Value → Shared → Prop} (hx : s.heap.get? x = some (accObj B dx items n sl)) (hd : s.heap.get? dx = some od)
    (hf : W.findIn B.K (.ref B.C) name = some (some f)) (ht : typeIn B.K f = some ft) (hft : (ft != .type "function" && ft != .type "method_descriptor" && ft != .type "wrapper_descriptor") = false) (hs : shadowIn (some od) name = some false) (hq : Q (f, [.ref x]) s) :
    wpAny (model B.prog B.w) A (getMethod (.ref x) name pl) Q E s := by
  have X := L.K
  have I := acc_inst (B := B) hx hd
  have hcan : (Manifest.canonical "list.__getattribute__" != "object.__getattribute__") = false := by decide +kernel
  unfold getMethod specialOf
  refine wpAny_bind (wpAny_bind (I.type.here ((looks_findIn X AT.ga).here ?_)))
  dsimp only
  rw [hcan, if_neg (by decide)]
  refine wpAny_bind (wpAny_bind (I.type.here ((looks_findIn X AT.gh).here ?_)))
  refine wpAny_bind (wpAny_bind (I.type.here ((looks_findIn X hf).here (wpAny_bind ((looks_typeIn X ht).here ?_)))))
  rw [hft, if_neg (by decide)]
  refine wpAny_bind (wpAny_loadPart hx ?_)
  obtain ⟨r, a, b⟩ := Option.map_eq_some_iff.mp hs
  refine wpAny_bind (wpAny_bind (wpAny_loadPart hd ?_))
  rw [nsLook_of a]
  refine wpAny_pure ?_
  rw [b]
  exact wpAny_bind (wpAny_rule (wpAny_pure hq))
end
end Mine
end
section -- NQ6
set_option maxRecDepth 100000
set_option maxHeartbeats 4000000
set_option autoImplicit false
namespace Mine
open PySem PySem.W PySem.Calls PyProof.Rows Builtin Builtin.ObjectAttr

section
variable {B : Base} {A : Around} {E : Value → Shared → Prop} {h : Heap} {g : Array GenState} {d : PySem.Drawn} {t : Nat} {os : OsState} {x dx : Addr}

theorem eval_self {y : Str} {p0 p1 p3 : Pos} {name : Str} {args : List PySem.Expr} {env : Env} (hl : p1.endLine = p3.line) (hf : methodCallForm (args.length + 0) (backTo p3 (starEach args env)) [] = true) : eval (.Call (.Attribute (.Name y p0) name p1) args [] p3) env = (do
      let ov ← eval (.Name y p0) env
      standAt p1.atName
      let (f, first) ← holding [ov] (getMethod ov name (do return (← importBound (.Name y p0) env).getD true))
      callWith p3 f first (backTo p3 (starEach args env)) []) := by
  have hpos : methodCallPos true (.Name y p0) env p1 p3 = pure p3 := by unfold methodCallPos; simp [hl]
  show (eval (.Name y p0) env >>= fun ov => standAt p1.atName >>= fun _ => methodCall (.Name y p0) name p1 p3 env ov (args.length + 0) (backTo p3 (starEach args env)) []) = _
  unfold methodCall
  rw [hf]
  show (eval (.Name y p0) env >>= fun ov => standAt p1.atName >>= fun _ => (holding [ov] (getMethod ov name _) >>= fun r => methodCallPos true (.Name y p0) env p1 p3 >>= fun callPos => callWith callPos r.1 r.2 (backTo p3 (starEach args env)) [])) = _
  rw [hpos]
  rfl

theorem self_meth {y : Str} {p0 p1 p3 : Pos} {name : Str} {args : List PySem.Expr} {env : Env} {s : Shared} {Q : Value → Shared → Prop} (hl : p1.endLine = p3.line) (hf : methodCallForm (args.length + 0) (backTo p3 (starEach args env)) [] = true)
    (hq : wpAny (model B.prog B.w) A (eval (.Name y p0) env) (fun ov s₁ => wpAny (model B.prog B.w) A (getMethod ov name (do return (← importBound (.Name y p0) env).getD true)) (fun fx s₂ => wpAny (model B.prog B.w) A (callWith p3 fx.1 fx.2 (backTo p3 (starEach args env)) []) Q E s₂) E s₁) E s) :
    wpAny (model B.prog B.w) A (eval (.Call (.Attribute (.Name y p0) name p1) args [] p3) env) Q E s := by
  rw [eval_self hl hf]
  exact wpAny_bind (wpAny_mono hq (fun ov s₁ h₁ => wpAny_bind (wpAny_standAt (wpAny_bind (wpAny_holding (wpAny_mono h₁ (fun fx s₂ h₂ => h₂) fun _ _ z => z))))) fun _ _ z => z)

theorem push_ok (AT : AccAt B) {s : Shared} (L : Low B s.heap) (hroom : A.depth < recursionLimit) {items : Array Value} {n : Nat} {sl : Array (Option Value)} {od : Obj} {a b : Value} (hx : s.heap.get? x = some (accObj B dx items n sl)) (hd : s.heap.get? dx = some od) (hs : shadowIn (some od) "append" = some false) (hs1 : items.size ≤ sizeLine)
    (hl : (AT.ps 11).endLine = (AT.ps 15).line)
    (hsw : ∀ env, swapsWith (.Call (.Attribute (.Name "self" (AT.ps 10)) "append" (AT.ps 11)) [.Tuple [.Name "fws" (AT.ps 12), .Name "string" (AT.ps 13)] 0 (AT.ps 14)] [] (AT.ps 15)) none (AT.ps 16).line env = pure false) {Q : Value → Shared → Prop}
    (hq : ∀ h' t' u n', (∀ y o, y ≠ x → s.heap.get? y = some o → h'.get? y = some o) → s.heap.objs.size ≤ u → h'.get? u = some (tupO #[a, b] 0) → h'.get? x = some (accObj B dx (items.push (.ref u)) n' sl) → Q .none { s with heap := h', toks := t' }) :
    wpAny (model B.prog B.w) A (call (.ref AT.fPush) [.ref x, a, b]) Q E s := by
  obtain ⟨hh, g, d, t, os⟩ := s
  refine frame AT.dPush hroom L (bs := [("self", .ref x), ("fws", a), ("string", b)]) rfl (by decide) (by intro y hy; simp at hy; rcases hy with rfl | rfl | rfl <;> rfl) fun env h₀ h1 h2 h3 h4 h5 h6 hns hk hloc => ?_
  have L0 := L.keeps hk
  have hsc : env.scope.kind = .function := by rw [h1]
  have hkind : ∀ y, env.kindOf y = nmPush.lookup y := fun y => by show env.scope.names.lookup y = _; rw [h1]
  refine ks_wpAt_execs_cons (ks_wpAt_Expr_any (wpAt_of_wpAny ?_) (by unfold interactive; rw [h1]; rfl) (hsw env))
  refine self_meth hl (by rfl) ?_
  refine wpAny_Name (wpAny_loadName_local (v := .ref x) hsc (by rw [hkind]; rfl) hns rfl ?_) rfl
  refine acc_method AT L0 (hk _ _ hx) (hk _ _ hd) AT.mApp (ft := .type "method_descriptor") (by rfl) (by decide) hs ?_
  refine callWith_method1 ?_
  refine spliced_more (wpAny_Tuple ?_)
  refine spliced_more (wpAny_Name (wpAny_loadName_local (v := a) hsc (by rw [hkind]; rfl) hns rfl ?_) rfl)
  refine spliced_more (wpAny_Name (wpAny_loadName_local (v := b) hsc (by rw [hkind]; rfl) hns rfl ?_) rfl)
  refine spliced_none ⟨(by show 2 ≤ sizeLine; rw [sizeLine_eq]; omega), spliced_none ?_⟩
  have k2 : ∀ y o, hh.get? y = some o → (h₀.push { cls := .type "tuple", data := .seq #[a, b] }).get? y = some o := fun y o e => Heap.get?_push_of_some _ (hk _ _ e)
  refine acc_append AT (L.keeps k2) (k2 _ _ hx) hs1 fun h' n' sb hx' => ?_
  refine wpAt_of_wpAny (wpAny_execs_nil ?_)
  have hsz : hh.objs.size ≤ h₀.objs.size := by
    obtain ⟨o, es, ep, e, r⟩ := hns
    have := Heap.lt_size e
    rw [hloc] at this
    exact Nat.le_of_lt this
  have hxn : h₀.objs.size ≠ x := fun z => absurd (Heap.lt_size (hk _ _ hx)) (by rw [z]; exact Nat.lt_irrefl _)
  exact hq h' _ h₀.objs.size n' (fun y o hy e => (sb.2 y hy).trans (k2 _ _ e)) hsz ((sb.2 _ hxn).trans (Heap.get?_push_at rfl rfl)) hx'

theorem pop_ok (AT : AccAt B) {s : Shared} (L : Low B s.heap) (hroom : A.depth + 1 < recursionLimit) (hu : A.units + 30 < cLine) {items : Array Value} {n : Nat} {sl : Array (Option Value)} {od : Obj} (hx : s.heap.get? x = some (accObj B dx items n sl)) (hd : s.heap.get? dx = some od) (hs : shadowIn (some od) "part_count" = some false) (hs1 : items.size ≤ sizeLine)
    (hl0 : (AT.ps 42).endLine = (AT.ps 43).line) (hl : (AT.ps 21).endLine = (AT.ps 22).line) (hl2 : (AT.ps 32).endLine = (AT.ps 33).line) {Q : Value → Shared → Prop}
    (hq0 : items.size = 0 → ∀ h' t' u tA tB, (∀ y o, s.heap.get? y = some o → h'.get? y = some o) → s.heap.objs.size ≤ u → h'.get? u = some (tupO #[.str "" tA, .str "" tB] 0) → Q (.ref u) { s with heap := h', toks := t' })
    (hq1 : ∀ y h' t' n', items[items.size - 1]? = some y → (∀ y o, y ≠ x → s.heap.get? y = some o → h'.get? y = some o) → h'.get? x = some (accObj B dx (items.eraseIdxIfInBounds (items.size - 1)) n' sl) → Q y { s with heap := h', toks := t' }) :
    wpAny (model B.prog B.w) A (call (.ref AT.fPop) [.ref x]) Q E s := by
  obtain ⟨hh, g, d, t, os⟩ := s
  refine frame AT.dPop (Nat.lt_of_succ_lt hroom) L (bs := [("self", .ref x)]) rfl (by decide) (by intro y hy; rw [List.mem_singleton.mp hy]; rfl) fun env h₀ h1 h2 h3 h4 h5 h6 hns hk hloc => ?_
  have L0 := L.keeps hk
  have hsc : env.scope.kind = .function := by rw [h1]
  have hkind : ∀ y, env.kindOf y = nmSuper.lookup y := fun y => by show env.scope.names.lookup y = _; rw [h1]
  refine ks_wpAt_execs_cons (ks_wpAt_If (wpAt_of_wpAny (wpAny_isTrue_Compare1 ?_)))
  refine self_meth hl (by rfl) ?_
  refine wpAny_Name (wpAny_loadName_local (v := .ref x) hsc (by rw [hkind]; rfl) hns rfl ?_) rfl
  refine acc_method AT L0 (hk _ _ hx) (hk _ _ hd) AT.mCnt (ft := .type "function") (by
    obtain ⟨od, sl, fd, ar, hf, _⟩ := AT.dCnt.ex
    show (B.K.lookup AT.fCnt).map (·.cls) = _; rw [hf]; rfl) (by decide) hs ?_
  obtain ⟨od', sl', fd, ar, hf, _⟩ := AT.dCnt.ex
  refine callWith_function (o := ⟨.type "function", od', .func fd, sl'⟩) (fd := fd) (evalArgs_nil3 ⟨⟨L0.K _ _ hf, rfl⟩, ?_⟩)
  refine cnt_ok AT L0 hroom (hk _ _ hx) hl0 fun h2' t2 t3 k2 => ?_
  have k3 : ∀ y o, hh.get? y = some o → h2'.get? y = some o := fun y o e => k2 _ _ (hk _ _ e)
  refine wpAny_Constant_int ?_
  refine P.eq_int ?_
  refine wpAny_truthy_bool ?_
  by_cases hz : items.size = 0
  · have hb : ((items.size : Int) == 0) = true := by simp [hz]
    rw [hb, if_pos rfl]
    refine ks_wpAt_execs_cons (ks_wpAt_Return_some (wpAt_of_wpAny (wpAny_Tuple ?_)))
    refine spliced_more (wpAny_Constant_str ?_)
    refine spliced_more (wpAny_Constant_str ?_)
    refine spliced_none ⟨(by show 2 ≤ sizeLine; rw [sizeLine_eq]; omega), ?_⟩
    have hsz : hh.objs.size ≤ h2'.objs.size := by
      obtain ⟨o, es, ep, e, r⟩ := hns
      have := Heap.lt_size (k2 _ _ e)
      rw [hloc] at this
      exact Nat.le_of_lt this
    exact hq0 hz _ _ h2'.objs.size _ _ (fun y o e => Heap.get?_push_of_some _ (k3 _ _ e)) hsz (Heap.get?_push_at rfl rfl)
  · have hb : ((items.size : Int) == 0) = false := by simp [hz]
    rw [hb, if_neg (by decide)]
    refine wpAt_of_wpAny (wpAny_execs_nil ?_)
    have L2 := L.keeps k3
    have hx2 := k3 _ _ hx
    have hns2 := hns.keeps k2
    obtain ⟨y, hy⟩ : ∃ y, items[items.size - 1]? = some y := ⟨_, Array.getElem?_eq_getElem (by omega)⟩
    refine ks_wpAt_execs_cons (ks_wpAt_Return_some ?_)
    refine super_meth AT AT.dPop (inM h1 h2 h3 h4 h5 (.inl rfl) hns2 rfl) h6 L2 hx2 (by decide) hl2 (.inl rfl) (id := "list.pop") (by kernel_rfl) ty_list_pop md_slot md_entry (md_args _ _ _) (fun hi hP => run_pop hi hP) (by decide +kernel) F.entry_list_pop (fun Lx hxx hQ => ck_pop AT Lx hxx hQ) fun A' h' t' k => ?_
    refine run_list_pop (k _ _ hx2) hy hs1 fun h3' n' sb hx3 => ⟨_, rfl, ?_⟩
    exact hq1 y h3' _ n' hy (fun z o hz e => (sb.2 z hz).trans (k _ _ (k3 _ _ e))) hx3
end
end Mine
end
section -- NQ7
set_option maxRecDepth 100000
set_option maxHeartbeats 4000000
set_option autoImplicit false
namespace Mine
open PySem PySem.W PySem.Calls PyProof.Rows Builtin Builtin.ObjectAttr

noncomputable def nmStr : List (Str × NameKind) := [("self", .local), ("EMPTYSTRING", .globalImplicit)]
noncomputable abbrev genScope : Scope := { kind := .function, names := [(".0", .local), ("fws", .local), ("part", .local), ("EMPTYSTRING", .globalImplicit)], isGenerator := true, isCoroutine := false, more := [] }
noncomputable abbrev strElt (p : Nat → Pos) : PySem.Expr := .Call (.Attribute (.Name "EMPTYSTRING" (p 0)) "join" (p 1)) [.Tuple [.Name "fws" (p 2), .Name "part" (p 3)] 0 (p 4)] [] (p 5)
noncomputable abbrev strGen (p : Nat → Pos) : PySem.Expr := .GeneratorExp (strElt p) [⟨.Tuple [.Name "fws" (p 6), .Name "part" (p 7)] 0 (p 8), .Name "self" (p 9), [], 0⟩] genScope (p 10)
noncomputable def bodyStr (p : Nat → Pos) : List Stmt := [.Return (some (.Call (.Attribute (.Name "EMPTYSTRING" (p 11)) "join" (p 12)) [strGen p] [] (p 13))) (p 14)]

set_option genInjectivity false in
set_option genSizeOf false in
structure StrAt (B : Base) (AT : AccAt B) where
  fStr : Addr
  cda : Addr
  P : Addr
  bm : Addr
  ob : Obj
  te : Tok
  ps : Nat → Pos
  mStr : W.findIn B.K (.ref B.C) "__str__" = some (some (.ref fStr))
  dStr : FnAt B fStr [] nmStr (bodyStr ps) bnd1
  isFn : isFn B.K (.ref fStr) = true
  codeOf : ∀ fd od sl, B.K.lookup fStr = some ⟨.type "function", od, .func fd, sl⟩ → fd.code = .ref cda
  code : ∃ oc vs file tf flags tg inF text tt, B.K.lookup cda = some oc ∧ oc.cls = .type "code" ∧ oc.data = .fields vs ∧ vs[11]? = some (.ref P) ∧ vs.getD 18 .none = .str file tf ∧ vs.getD 7 .none = .int flags tg ∧ vs.getD 9 .none = .bool inF ∧ vs.getD 10 .none = .int text tt
  tab : P ∈ B.tabs
  mgE : B.mg "EMPTYSTRING" = some (.str ⟨#[]⟩ te)
  bmName : B.mg "__builtins__" = some (.ref bm)
  bmNe : bm ≠ builtinsNs
  bmObj : B.K.lookup bm = some ob
  bmCls : ob.cls = .type "module"
  bmDict : ob.dict = some builtinsNs
  bmData : ob.data = .plain
  iter : W.findIn B.K (.ref B.C) "__iter__" = some (some (.builtin "list.__iter__"))
  l1 : (ps 1).endLine = (ps 5).line
  l2 : (ps 12).endLine = (ps 13).line

section
variable {B : Base} {A : Around} {E : Value → Shared → Prop} {h : Heap} {g : Array GenState} {d : PySem.Drawn} {t : Nat} {os : OsState} {x dx : Addr}

/-- the code of the generator expression: made once -/
theorem gen_code (AT : AccAt B) (TT : StrAt B AT) (O : B.Ok) (S : Stat B h) {env : Env} {pos : Pos} {qn : Str} {sc : Scope} {Q : Value → Shared → Prop} (hc : env.code = .ref TT.cda)
    (hq : ∀ code h' tk, Kp B.tabs [] h h' → Q code ⟨h', g, d, tk, os⟩) : wpAny (model B.prog B.w) A (genexprCode env pos qn sc) Q E ⟨h, g, d, t, os⟩ := by
  obtain ⟨oc, vs, file, tf, flags, tg, inF, text, tt, h1, h2, h3, h4, h5, h6, h7, h8⟩ := TT.code
  obtain ⟨ps, hP, ht⟩ := S.tab _ TT.tab
  have hcp : TT.cda ≠ TT.P := fun e => O.off _ _ h1 (e ▸ TT.tab)
  have isC : h.IsCode TT.cda TT.P ps := ⟨oc, vs, file, tf, flags, tg, inF, text, tt, _, S.K _ _ h1, h3, by rw [Array.getD_eq_getD_getElem?, h4]; rfl, h5, h6, h7, h8, hP, rfl, ht, hcp⟩
  have tabA : h.TableAt TT.cda TT.P ps := ⟨⟨oc, vs, S.K _ _ h1, h2, h3, h4⟩, hP⟩
  cases hn : codeAmong pos ps.toList with
  | some c' => exact wpAny_genexprCode_hit hc isC hn (hq c' h t (.refl ..))
  | none =>
    refine wpAny_genexprCodeX hc isC tabA hn fun c' h' tk hx hge hlt hcode _ htab _ => hq _ _ _ ⟨fun b o e _ => ?_, Nat.le_trans hge (Nat.le_of_lt hlt)⟩
    by_cases hb : b = TT.P
    · subst hb
      rw [hP] at e; cases e
      exact .inr ⟨TT.tab, ps, _, rfl, htab.2, fun _ => by
        obtain ⟨_, _, _, _, _, _, _, _, _, op, _, _, _, _, _, _, _, e5, e6, e7, _⟩ := hcode
        exact e7⟩
    · exact .inl (hx b o hb e)

/-! ## the iterator over an object of ours -/
noncomputable abbrev IsAcc (B : Base) (h : Heap) (x : Addr) (items : Array Value) : Prop := ∃ dx n sl, h.get? x = some (accObj B dx items n sl)

theorem accnext_item {it l : Addr} {i : Nat} {items : Array Value} {x : Value} {s : Shared} {Q : Option Value → Shared → Prop} (hit : s.heap.IsListIter it l i) (hl : IsAcc B s.heap l items) (hx : items[i]? = some x)
    (hQ : ∀ h', h'.IsListIter it l (i + 1) → Heap.SameBut it s.heap h' → Q (some x) { s with heap := h' }) : wpAny (model B.prog B.w) A (pyNext (.ref it)) Q E s := by
  obtain ⟨o, ho, hc, hd⟩ := id hit
  obtain ⟨dx, nl, sl, hol⟩ := hl
  unfold pyNext
  refine wpAny_bind (wpAny_attempt (wpAny_callSpecial?_slot (name := Str.ofString "__next__") hit.typeIs slot_listiter_next (wpAny_call_entry slot_listiter_next hit.typeIs entry_listiter_next ?_ (args_listiter_next _))))
  show wpAny _ _ (field (.ref it) 0 >>= _) _ _ s
  refine wpAny_bind (wpAny_field ho hd (x := .ref l) rfl ?_)
  show wpAny _ _ (if (Value.ref l == Value.none) = true then _ else _) _ _ s
  rw [if_neg (show ¬ ((Value.ref l == Value.none) = true) from Bool.false_ne_true)]
  show wpAny _ _ (field (.ref it) 1 >>= _) _ _ s
  refine wpAny_bind (wpAny_field ho hd (x := .int i 0) rfl ?_)
  show wpAny _ _ (seqItems? (.ref l) >>= _) _ _ s
  refine wpAny_bind (wpAny_seqItems hol rfl ?_)
  simp only [Int.toNat_natCast, hx]
  refine wpAny_bind (wpAny_setField ho hd (by simp) (wpAny_pure ⟨x, rfl, wpAny_pure (hQ _ ?_ (Heap.SameBut.update ..))⟩))
  exact ⟨_, Heap.get?_update_self _ ho (Obj.isFreed_of_fields (Obj.data_mapFields hd _)), (Obj.cls_mapFields ..).trans hc, by
    rw [Obj.data_mapFields hd]; simp [rawInt]⟩

theorem accnext_end {it l : Addr} {i : Nat} {items : Array Value} {s : Shared} {Q : Option Value → Shared → Prop} (hh : A.handled = none) (hit : s.heap.IsListIter it l i) (hl : IsAcc B s.heap l items) (hx : items[i]? = none)
    (hQ : ∀ h', Heap.ExtBut it s.heap h' → Q none { s with heap := h' }) : wpAny (model B.prog B.w) A (pyNext (.ref it)) Q E s := by
  obtain ⟨o, ho, hc, hd⟩ := id hit
  obtain ⟨dx, nl, sl, hol⟩ := hl
  unfold pyNext
  refine wpAny_bind (wpAny_attempt (wpAny_callSpecial?_slot (name := Str.ofString "__next__") hit.typeIs slot_listiter_next (wpAny_call_entry slot_listiter_next hit.typeIs entry_listiter_next ?_ (args_listiter_next _))))
  show wpAny _ _ (field (.ref it) 0 >>= _) _ _ s
  refine wpAny_bind (wpAny_field ho hd (x := .ref l) rfl ?_)
  show wpAny _ _ (if (Value.ref l == Value.none) = true then _ else _) _ _ s
  rw [if_neg (show ¬ ((Value.ref l == Value.none) = true) from Bool.false_ne_true)]
  show wpAny _ _ (field (.ref it) 1 >>= _) _ _ s
  refine wpAny_bind (wpAny_field ho hd (x := .int i 0) rfl ?_)
  show wpAny _ _ (seqItems? (.ref l) >>= _) _ _ s
  refine wpAny_bind (wpAny_seqItems hol rfl ?_)
  simp only [Int.toNat_natCast, hx]
  refine wpAny_bind (wpAny_rule (wpAny_bind (wpAny_setField ho hd (by simp) ?_)))
  show wpAny _ _ (newExc (.type "StopIteration") [] >>= _) _ _ _
  refine wpAny_bind ?_
  simp only [newExc, newTuple]
  refine wpAny_bind (wpAny_newObj_type ?_ (by size_fits))
  refine wpAny_bind (m := firstArgMember _ _) (wpAny_of_eq (a := Value.none) (by first | rfl | (simp only [firstArgMember]; rfl)) ?_)
  refine wpAny_newObj_type ?_ (by size_fits)
  simp only [raiseNew]
  refine wpAny_bind (wpAny_handled ?_)
  rw [show A.in1.handled = none from hh]
  refine wpAny_bind (wpAny_pure (wpAny_throw ?_))
  refine wpAny_bind (wpAny_isInstance (T := "StopIteration") (b := true) ⟨_, Heap.get?_push_size _ rfl, rfl⟩ isSubtype_stop ?_)
  exact wpAny_pure (hQ _ (((Heap.SameBut.update ..).extBut.push _).push _))

theorem isAcc_at {h' : Heap} {items : Array Value} (y : IsAcc B h x items) (e : ∀ o, h.get? x = some o → h'.get? x = some o) : IsAcc B h' x items := let ⟨dx, n, sl, q⟩ := y; ⟨dx, n, sl, e _ q⟩

theorem acc_walk (hh : A.handled = none) (I ax : Addr) (hne : ax ≠ I) (items : Array Value) (Ts : Nat → Addr) (vals : Nat → Array Value)
    (hit : ∀ j, j < items.size → items[j]? = some (.ref (Ts j))) (hTI : ∀ j, j < items.size → Ts j ≠ I) :
    WalksU B.prog B.w A I (I :: ax :: (List.range items.size).map Ts) [I] items.size (fun j v => j < items.size ∧ v = vals j)
      (fun j h => h.IsListIter I ax j ∧ IsAcc B h ax items ∧ ∀ k, k < items.size → h.IsTuple (Ts k) (vals k))
      (fun j T h => (j < items.size ∧ T = Ts j) ∧ h.IsListIter I ax (j + 1) ∧ IsAcc B h ax items ∧ ∀ k, k < items.size → h.IsTuple (Ts k) (vals k)) where
  sub := fun b hb => by simp at hb; simp [hb]
  frame := fun _ _ _ st hk => ⟨st.1.at fun o e => hk I (by simp) o e, isAcc_at st.2.1 fun o e => hk ax (by simp) o e,
    fun k hk' => (st.2.2 k hk').at fun o e => hk (Ts k) (List.mem_cons_of_mem _ (List.mem_cons_of_mem _ (List.mem_map.mpr ⟨k, List.mem_range.mpr hk', rfl⟩))) o e⟩
  item := fun i s Q E hi st hQ => by
    refine accnext_item st.1 st.2.1 (x := .ref (Ts i)) (hit i hi) fun h' hit' hs' => ?_
    have tup : ∀ k, k < items.size → h'.IsTuple (Ts k) (vals k) := fun k hk' => (st.2.2 k hk').extBut hs'.extBut (hTI k hk')
    exact hQ (Ts i) (vals i) h' s.toks ⟨hi, rfl⟩ (tup i hi) ⟨⟨hi, rfl⟩, hit', isAcc_at st.2.1 fun o e => hs'.extBut _ _ hne e, tup⟩ fun b o hb e => hs'.extBut b o (fun h => hb (by simp [h])) e
  go := fun _ _ _ _ _ s Q _ hm hQ => wpAny_letOwnedTupleGo_listiter hm.2.1 (hQ s.heap hm.2 fun _ _ _ e => e)
  apart := fun j T _ hm hmem => by
    rcases List.mem_cons.mp hmem with e | e
    · exact hTI j hm.1.1 (hm.1.2 ▸ e)
    · cases e
  done := fun s Q E st hQ => accnext_end hh st.1 st.2.1 (by simp) fun h' he' => hQ h' s.toks fun b o hb e => he' b o (fun h => hb (by simp [h])) e
  self := fun _ _ _ _ st hQ => wpAny_pyIter_listiter st.1 hQ

theorem acc_iter (AT : AccAt B) (TT : StrAt B AT) (L : Low B h) {items : Array Value} {n : Nat} {sl : Array (Option Value)} {Q : Value → Shared → Prop} (hx : h.get? x = some (accObj B dx items n sl))
    (hq : Q (.ref h.objs.size) ⟨h.push { cls := .type "list_iterator", data := .fields #[.ref x, .int 0 0] }, g, d, t, os⟩) : wpAny (model B.prog B.w) A (pyIter (.ref x)) Q E ⟨h, g, d, t, os⟩ := by
  have X := L.K
  have ht : Looks (model B.prog B.w) h (typeOf (.ref x)) (.ref B.C) := (Looks.ld hx).andThen .now
  have hs : Looks (model B.prog B.w) h (specialOf (.ref x) "__iter__") (some (.builtin "list.__iter__")) := ht.andThen (looks_findIn X TT.iter)
  unfold pyIter
  refine wpAny_bind (hs.here ?_)
  dsimp only
  have hb := slot_list_iter.bind (.ref x)
  have hcall : ∀ {A : Around} {E : Value → Shared → Prop} {Q : Value → Shared → Prop}, Q (.ref h.objs.size) ⟨h.push { cls := .type "list_iterator", data := .fields #[.ref x, .int 0 0] }, g, d, t, os⟩ → wpAny (model B.prog B.w) A (call (.builtin "list.__iter__") [.ref x]) Q E ⟨h, g, d, t, os⟩ := fun q => by
    refine wpAny_call (codeAny_call_builtin slot_list_iter.plain entry_list_iter (check_slot (owner := "list") (n := "__iter__") (by decide +kernel) (by decide +kernel) (acc_isList AT X hx) (args_list_iter _) ?_))
    show wpAny _ _ (do ret (← newFields "list_iterator" [.ref x, rawInt 0])) _ _ _
    exact wpAny_bind (wpAny_newObj_type (wpAny_pure q))
  have fin : ∀ {A : Around} {E : Value → Shared → Prop} {Q : Option Value → Shared → Prop} {refuse : Sem Value}, Q (some (.ref h.objs.size)) ⟨h.push { cls := .type "list_iterator", data := .fields #[.ref x, .int 0 0] }, g, d, t, os⟩ →
      wpAny (model B.prog B.w) A (if (Value.builtin "list.__iter__" == Value.none) = true then (refuse >>= fun v => pure (some v)) else (call (.builtin "list.__iter__") [.ref x] >>= fun v => pure (some v))) Q E ⟨h, g, d, t, os⟩ := fun q => by
    rw [if_neg (by decide)]
    exact wpAny_bind (hcall (wpAny_pure q))
  refine wpAny_bind ?_
  simp only [callSpecialIfBoundUnlessNone?, bindSpecialIfBound?]
  refine wpAny_holding (wpAny_bind (wpAny_bind (hs.here ?_)))
  simp only [hb]
  have hnx : (⟨h.push { cls := .type "list_iterator", data := .fields #[.ref x, .int 0 0] }, g, d, t, os⟩ : Shared).TypeIs (.ref h.objs.size) "list_iterator" := ⟨_, Heap.get?_push_size _ rfl, rfl⟩
  have last := wpAny_specialOf (M := model B.prog B.w) (A := A) (E := E) hnx slot_listiter_next.lookup (Q := fun o s' => wpAny (model B.prog B.w) A (match o with
      | none => do rule "iter.non-iterator"; raiseError "TypeError" s!"iter() returned non-iterator of type '{← typeNameOf (.ref h.objs.size)}'"
      | some _ => pure (.ref h.objs.size)) Q E s') (wpAny_pure hq)
  refine wpAny_bind (wpAny_askSetting (wpAny_ite ?_))
  split
  · exact wpAny_bind (wpAny_pure (wpAny_pure (fin (wpAny_bind last))))
  · exact wpAny_tryCatch (wpAny_bind (wpAny_pure (wpAny_pure (fin (wpAny_bind last)))))
end
end Mine
end
section -- NQ8
set_option maxRecDepth 100000
set_option maxHeartbeats 4000000
set_option autoImplicit false
namespace Mine
open PySem PySem.W PySem.Calls PyProof.Rows Builtin Builtin.ObjectAttr

theorem joinL_nil : ∀ l : List Cs, joinL [] l = l.flatten
  | [] => rfl
  | [x] => by simp [joinL]
  | x :: y :: r => by
    have ih := joinL_nil (y :: r)
    simp only [joinL, List.append_nil, ih, List.flatten_cons]

theorem passing_all (n : Nat) : passing (fun _ => true) n 0 = List.range n := by unfold passing; simp

theorem joinOk_nil (l : List Cs) (h : l.flatten.length ≤ LIM) : JoinOk ⟨#[]⟩ (l.map fun c => (⟨c.toArray⟩ : Str)) = true := by
  have hs : ∀ (l : List Cs) (k : Nat), ((l.map fun c => (⟨c.toArray⟩ : Str)).foldl (fun (x : Nat) (y : Str) => x + y.length + (⟨#[]⟩ : Str).length) k) = k + l.flatten.length := by
    intro l
    induction l with
    | nil => intro k; simp
    | cons c l ih =>
      intro k
      rw [List.map_cons, List.foldl_cons, ih]
      simp [Str.length]
      omega
  have h0 : l.flatten.length ≤ 1000000 := h
  have hsl : 1000000 ≤ sizeLine := by rw [sizeLine_eq]; omega
  unfold JoinOk
  rw [List.foldl_toArray', hs, Nat.zero_add]
  · unfold Builtin.Str.tooLong
    simp
    first | omega | (have : l.flatten.length = (l.map List.length).sum := by simp [List.length_flatten]
                     omega)
  · simp

section
variable {B : Base} {A : Around} {E : Value → Shared → Prop} {x dx : Addr}

theorem elt_ok {cenv : Env} {p : Nat → Pos} {te ta tb : Tok} {a b : Cs} {s : Shared} {m : Str → Option Value} {Q : Value → Shared → Prop} (hsc : cenv.scope = genScope) (hg : cenv.globals = mainGlobals) (hG : s.heap.Ns mainGlobals B.mg) (mgE : B.mg "EMPTYSTRING" = some (.str ⟨#[]⟩ te))
    (hn : s.heap.Ns cenv.locals m) (h1 : m "fws" = some (.str ⟨a.toArray⟩ ta)) (h2 : m "part" = some (.str ⟨b.toArray⟩ tb)) (hl : (p 1).endLine = (p 5).line) (hlen : a.length + b.length ≤ LIM)
    (hq : ∀ h' t' k, (∀ y o, s.heap.get? y = some o → h'.get? y = some o) → Q (.str ⟨(a ++ b).toArray⟩ t') { s with heap := h', toks := k }) :
    wpAny (model B.prog B.w) A (eval (strElt p) cenv) Q E s := by
  have hk : cenv.scope.kind = .function := by rw [hsc]
  have hkind : ∀ y, cenv.kindOf y = genScope.names.lookup y := fun y => by show cenv.scope.names.lookup y = _; rw [hsc]
  refine self_meth hl (by rfl) ?_
  refine wpAny_Name (ks_loadName_global hk (by rw [hkind]; rfl) (loadGlobal_global (env := cenv) (by rw [hg]; exact hG) mgE ?_)) rfl
  refine getMethod_builtin (typeIs_str _ _ _) F.plainAttrs_str F.slot_str_join F.type_str_join GM.noRef ?_
  refine callWith_method1 ?_
  refine spliced_more (wpAny_Tuple ?_)
  refine spliced_more (wpAny_Name (wpAny_loadName_local hk (by rw [hkind]; rfl) hn h1 ?_) rfl)
  refine spliced_more (wpAny_Name (wpAny_loadName_local hk (by rw [hkind]; rfl) hn h2 ?_) rfl)
  refine spliced_none ⟨(by show 2 ≤ sizeLine; rw [sizeLine_eq]; omega), spliced_none ?_⟩
  have hT : IsTup (s.heap.push { cls := .type "tuple", data := .seq #[.str ⟨a.toArray⟩ ta, .str ⟨b.toArray⟩ tb] }) s.heap.objs.size #[.str ⟨a.toArray⟩ ta, .str ⟨b.toArray⟩ tb] := ⟨_, Heap.get?_push_at rfl rfl, rfl, _, rfl⟩
  have hl0 : a.length + b.length ≤ 1000000 := hlen
  refine PyProof.Rows.join_tuple (ys := [⟨a.toArray⟩, ⟨b.toArray⟩]) hT (.cons _ _ (.cons _ _ .nil)) (by simp [Str.length]; omega) fun t' k => ?_
  have e : Txt.join ⟨#[]⟩ [⟨a.toArray⟩, ⟨b.toArray⟩] = (⟨(a ++ b).toArray⟩ : Str) := by
    have := join_ok [] [a, b]
    rw [joinL_nil] at this
    simpa using this
  rw [e]
  exact hq _ _ _ fun y o e => Heap.get?_push_of_some _ e

theorem str_ok (AT : AccAt B) (TT : StrAt B AT) (O : B.Ok) {s : Shared} (S : Stat B s.heap) (hroom : A.depth + 2 < recursionLimit) (hh : A.handled = none) {items : Array Value} {n : Nat} {sl : Array (Option Value)} (hx : s.heap.get? x = some (accObj B dx items n sl))
    (a b : Nat → Cs) (Ts : Nat → Addr) (ta tb : Nat → Tok) (hit : ∀ j, j < items.size → items[j]? = some (.ref (Ts j)))
    (htup : ∀ j, j < items.size → ∃ k, s.heap.get? (Ts j) = some (tupO #[.str ⟨(a j).toArray⟩ (ta j), .str ⟨(b j).toArray⟩ (tb j)] k)) (hab : ∀ j, j < items.size → (a j).length + (b j).length ≤ LIM)
    (z : Cs) (hz : z = ((List.range items.size).map fun j => a j ++ b j).flatten) (hlen : z.length ≤ LIM) (hs1 : items.size ≤ LIM) {Q : Value → Shared → Prop}
    (hq : ∀ s' t', Kp B.tabs [] s.heap s'.heap → s'.os = s.os → (AllBare s.gens → AllBare s'.gens) → Q (.str ⟨z.toArray⟩ t') s') :
    wpAny (model B.prog B.w) A (call (.ref TT.fStr) [.ref x]) Q E s := by
  obtain ⟨hh0, g, d, t, os⟩ := s
  refine frame TT.dStr (by omega) S.low (bs := [("self", .ref x)]) rfl (by decide) (by intro y hy; rw [List.mem_singleton.mp hy]; rfl) fun env h₀ h1 h2 h3 h4 h5 h6 hns hk hloc => ?_
  have hsz : hh0.objs.size < h₀.objs.size := by
    obtain ⟨o, es, ep, e, r⟩ := hns
    have := Heap.lt_size e
    rw [hloc] at this
    exact this
  have kp0 : Kp B.tabs [] hh0 h₀ := .keeps hk (Nat.le_of_lt hsz)
  have S0 := S.keep O kp0 (fun _ h => nomatch h)
  have L0 := S0.low
  have hsc : env.scope.kind = .function := by rw [h1]
  have hkind : ∀ y, env.kindOf y = nmStr.lookup y := fun y => by show env.scope.names.lookup y = _; rw [h1]
  obtain ⟨fd, od, sl', hf, hcode⟩ := h6
  have hcode : env.code = .ref TT.cda := hcode.trans (TT.codeOf _ _ _ hf)
  refine ks_wpAt_execs_cons (ks_wpAt_Return_some (wpAt_of_wpAny ?_))
  refine self_meth TT.l2 (by rfl) ?_
  refine wpAny_Name (ks_loadName_global hsc (by rw [hkind]; rfl) (loadGlobal_global (env := env) (by rw [h3]; exact L0.g) TT.mgE ?_)) rfl
  refine getMethod_builtin (typeIs_str _ _ _) F.plainAttrs_str F.slot_str_join F.type_str_join GM.noRef ?_
  refine callWith_method1 ?_
  refine spliced_more (wpAny_GeneratorExp_walksQT (cl := []) hh rfl (closureFor_none (by decide)) (by decide) rfl rfl rfl (by decide) rfl (show (A.deeper env).depth < _ by show A.depth + 1 < _; omega) ?_ (fun _ => rfl))
  refine wpAny_Name (wpAny_loadName_local (v := .ref x) hsc (by rw [hkind]; rfl) hns rfl ?_) rfl
  have hx0 := hk _ _ hx
  refine acc_iter AT TT L0 hx0 ?_
  have k1 : ∀ y o, h₀.get? y = some o → (h₀.push { cls := .type "list_iterator", data := .fields #[.ref x, .int 0 0] }).get? y = some o := fun y o e => Heap.get?_push_of_some _ e
  have kp1 : Kp B.tabs [] h₀ (h₀.push { cls := .type "list_iterator", data := .fields #[.ref x, .int 0 0] }) := .push ..
  have S1 := S0.keep O kp1 (fun _ h => nomatch h)
  have hI1 : (h₀.push { cls := .type "list_iterator", data := .fields #[.ref x, .int 0 0] }).get? h₀.objs.size = some { cls := .type "list_iterator", data := .fields #[.ref x, .int 0 0] } := Heap.get?_push_at rfl rfl
  refine ⟨S1.nolimit, gen_code AT TT O S1 hcode fun code h2' tk kp2 => ?_⟩
  have S2 := S1.keep O kp2 (fun _ h => nomatch h)
  rw [h3]
  refine wpAny_builtinsFor S2.g TT.bmName TT.bmNe (S2.K _ _ TT.bmObj) TT.bmCls TT.bmDict TT.bmData ?_
  have hI2 : h2'.get? h₀.objs.size = some { cls := .type "list_iterator", data := .fields #[.ref x, .int 0 0] } := kp2.get hI1 (by simp) (by intro q; cases q)
  have hx2 : h2'.get? x = some (accObj B dx items n sl) := kp2.get (k1 _ _ hx0) (by simp) (by intro q; cases q)
  have ht2 : ∀ j, j < items.size → h2'.IsTuple (Ts j) #[.str ⟨(a j).toArray⟩ (ta j), .str ⟨(b j).toArray⟩ (tb j)] := fun j hj => by
    obtain ⟨k, e⟩ := htup j hj
    exact ⟨_, kp2.get (k1 _ _ (hk _ _ e)) (by simp) (by intro q; cases q), rfl, k, rfl⟩
  have hltI : h₀.objs.size < h2'.objs.size := Heap.lt_size hI2
  have hxI : x ≠ h₀.objs.size := Nat.ne_of_lt (Heap.lt_size hx0)
  have hTI : ∀ j, j < items.size → Ts j ≠ h₀.objs.size := fun j hj => by
    obtain ⟨k, e⟩ := htup j hj
    exact Nat.ne_of_lt (Heap.lt_size (hk _ _ e))
  have low : ∀ y, y < B.N → y ≠ h₀.objs.size := fun y hy e => by
    have := S0.size
    exact absurd (Nat.lt_of_lt_of_le hy this) (by rw [e]; exact Nat.lt_irrefl _)
  refine ⟨h₀.objs.size, h₀.objs.size :: x :: (List.range items.size).map Ts, [h₀.objs.size], items.size, fun j v => j < items.size ∧ v = #[.str ⟨(a j).toArray⟩ (ta j), .str ⟨(b j).toArray⟩ (tb j)], _, _, fun _ => true,
    fun j y => ∃ u, y = .str ⟨(a j ++ b j).toArray⟩ u, rfl, fun A' hA => acc_walk hA h₀.objs.size x hxI items Ts _ hit hTI, fun i v hv => ⟨_, _, hv.2⟩, ⟨⟨_, hI2, rfl, rfl⟩, ⟨dx, n, sl, hx2⟩, ht2⟩, ?_, S2.nolimit, ?_, ?_, ?_⟩
  · intro y hy
    rcases List.mem_cons.mp hy with rfl | hy
    · exact hltI
    · rcases List.mem_cons.mp hy with rfl | hy
      · exact Heap.lt_size hx2
      · obtain ⟨j, hj, rfl⟩ := List.mem_map.mp hy
        obtain ⟨o, e, _⟩ := ht2 j (List.mem_range.mp hj)
        exact Heap.lt_size e
  · intro hm
    rw [List.mem_singleton] at hm
    exact low _ O.sl hm
  · intro href hhref
    refine ⟨fun A' E' i va vb s₂ m₂ hA hP hn ha hb hkeep => wpAny_pure ⟨rfl, s₂.heap, s₂.toks, rfl, fun _ _ e => e⟩, fun A' E' i va vb s₂ m₂ hA hP _ hn ha hb hkeep => ?_⟩
    have hv := hP.2
    simp only [Array.mk.injEq, List.cons.injEq, and_true] at hv
    obtain ⟨rfl, rfl⟩ := hv
    have hG : s₂.heap.Ns mainGlobals B.mg := (S2.g.keeps hhref).at' fun o e => hkeep _ (List.mem_range.mpr (Nat.lt_of_lt_of_le O.gl S2.size)) (by rw [List.mem_singleton]; exact low _ O.gl) o e
    refine elt_ok (cenv := genEnv genScope [] h2'.objs.size code builtinsNs env) rfl h3 hG TT.mgE hn ha hb TT.l1 (hab i hP.1) fun h' t' k kk => ?_
    exact ⟨⟨_, rfl⟩, h', k, rfl, kk⟩
  · intro a' h5 tk' gs hgb hag hsz5 hk5 W hat
    refine spliced_none ?_
    have W2 := W.in4_2
    refine wpAny_size (SC.joinGen W2 (fun i s' st => st.1.typeIs) hat (fun y hy => ?_) (List.mem_cons_self ..) (fun j v hv => by obtain ⟨i, _, u, e⟩ := hv; exact ⟨_, _, e⟩) (fun s' lt hm hacc => ?_) ?_)
    · show y < h5.objs.size
      rw [hsz5]
      rcases List.mem_cons.mp hy with rfl | hy
      · exact Nat.lt_succ_self _
      · rcases List.mem_cons.mp hy with rfl | hy
        · exact Nat.lt_succ_of_lt hag
        · exact Nat.lt_succ_of_lt (Nat.lt_trans (List.mem_range.mp hy) hag)
    · have hl : lt.map (·.1) = ((List.range items.size).map fun j => a j ++ b j).map fun c => (⟨c.toArray⟩ : Str) := by
        have hsz' : lt.length = items.size := by simpa [strValues, passing_all] using hacc.1
        apply List.ext_getElem?
        intro j
        by_cases hj : j < items.size
        · have hj' : j < lt.length := hsz' ▸ hj
          obtain ⟨i, hi, u, hv⟩ := hacc.2 j (.str lt[j].1 lt[j].2) (by simp [strValues, List.getElem?_eq_getElem hj'])
          rw [passing_all, List.getElem?_range hj] at hi
          cases hi
          injection hv with e1 _
          simp [List.getElem?_eq_getElem hj', hj, e1]
        · rw [List.getElem?_eq_none (by simpa [hsz'] using Nat.le_of_not_lt hj), List.getElem?_eq_none (by simpa using Nat.le_of_not_lt hj)]
      rw [hl]
      refine ⟨joinOk_nil _ (by rw [← hz]; exact hlen), fun t' k hsz6 => ?_⟩
      have e := join_ok [] ((List.range items.size).map fun j => a j ++ b j)
      rw [joinL_nil, ← hz] at e
      rw [show (⟨#[]⟩ : Str) = ⟨([] : Cs).toArray⟩ from rfl, e]
      refine hq { s' with toks := k } t' ?_ hm.os fun hb => (hb.push hgb).moved hm.gens
      have kp3 : Kp B.tabs [] h2' h5 := .keeps hk5 (by rw [hsz5]; exact Nat.le_of_lt (Nat.lt_succ_of_lt hag))
      have kp4 : Kp B.tabs (h2'.objs.size :: [h₀.objs.size]) h5 s'.heap := ⟨fun y o e hy => .inl (hm.heap y o hy e), hsz6⟩
      exact ((((kp0.trans kp1).trans kp2).trans kp3).trans' kp4 fun y hy => .inr (by
        rcases List.mem_cons.mp hy with rfl | hy
        · exact Nat.le_of_lt (Nat.lt_trans hsz hltI)
        · rw [List.mem_singleton.mp hy]; exact Nat.le_of_lt hsz))
    · rw [passing_all, List.length_range]; exact lim_line hs1
end
end Mine
end
section -- NQ9
set_option maxRecDepth 100000
set_option maxHeartbeats 4000000
set_option autoImplicit false
namespace Mine
open PySem PySem.W PySem.Calls PyProof.Rows

structure AccPos {B : Base} (AT : AccAt B) : Prop where
  l6 : (AT.ps 6).endLine = (AT.ps 7).line
  l11 : (AT.ps 11).endLine = (AT.ps 15).line
  l21 : (AT.ps 21).endLine = (AT.ps 22).line
  l32 : (AT.ps 32).endLine = (AT.ps 33).line
  l42 : (AT.ps 42).endLine = (AT.ps 43).line
  sw1 : ∀ env, swapsWith (.Name "initial_size" (AT.ps 2)) (some (.Attribute (.Name "self" (AT.ps 0)) "_initial_size" (AT.ps 1))) (AT.ps 3).line env = pure false
  sw2 : ∀ env, swapsWith (.Call (.Attribute (superCall (AT.ps 4) (AT.ps 5)) "__init__" (AT.ps 6)) [] [] (AT.ps 7)) none (AT.ps 8).line env = pure false
  sw3 : ∀ env, swapsWith (.Call (.Attribute (.Name "self" (AT.ps 10)) "append" (AT.ps 11)) [.Tuple [.Name "fws" (AT.ps 12), .Name "string" (AT.ps 13)] 0 (AT.ps 14)] [] (AT.ps 15)) none (AT.ps 16).line env = pure false

section
variable {B : Base}

theorem accDict_shadow {P : Params} {sz : Int} {es : Array DictEntry} {ep : Nat} (h : accDict P sz es) {name : Str} (hn : (("_initial_size" : Str) == name) = false) : shadowIn (some ({ cls := .type "dict", data := .dict es ep } : Obj)) name = some false := by
  obtain ⟨t1, t2, rfl⟩ := h
  have : (Value.str ("_initial_size" : Str) t1).isStr name = false := hn
  simp only [shadowIn, lookIn, List.find?, this, List.any]
  rfl

noncomputable def accFn (AT : AccAt B) : Mt → Option Addr := fun m => match m with
  | .push => some AT.fPush
  | .pop => some AT.fPop
  | .part_count => some AT.fCnt
  | _ => none

theorem fn_type {f : Addr} {clo names body bnd} (D : FnAt B f clo names body bnd) : typeIn B.K (.ref f) = some (.type "function") := by
  obtain ⟨od, sl, fd, ar, hf, _⟩ := D.ex
  show (B.K.lookup f).map (·.cls) = _; rw [hf]; rfl
theorem fn_keep {f : Addr} {clo names body bnd} (D : FnAt B f clo names body bnd) {h : Heap} (X : ∀ a o, B.K.lookup a = some o → h.get? a = some o) : ∃ k, (k = Keeper.frame ∨ k = Keeper.machine ∨ k = Keeper.boundFrame) ∧ PySem.W.Looks (model B.prog B.w) h (keeperOf (.ref f)) k := by
  obtain ⟨od, sl, fd, ar, hf, _⟩ := D.ex
  obtain ⟨k, hk, L⟩ := looks_keep (K := B.K) (M := model B.prog B.w) (h := h) (f := .ref f) (by unfold keepIn; simp only [hf]) X
  exact ⟨k, by rcases hk with rfl | rfl <;> simp, L⟩

/-- an accumulator of ours, put anew -/
theorem acc_put (O : B.Ok) {σ : AH} {φ : Phi} {s : Shared} (R : Rep B σ φ s.heap) {i : Nat} {n : Int} {vs us : List V} {p : Addr × Addr} {h' : Heap} {t' : Nat} {ys : List Value} {c : Nat} {v : V} {x : Value}
    (hi : σ[i]? = some (.acc n vs)) (hp : φ[i]? = some p) (keep : ∀ y o, y ≠ p.1 → s.heap.get? y = some o → h'.get? y = some o) (hs : s.heap.objs.size ≤ h'.objs.size)
    (hg : ∃ sl, h'.get? p.1 = some (accObj B p.2 ys.toArray c sl)) (r : Vk B.Z φ s.heap B.Z φ h' → VRs B.Z φ h' us ys) (hz : us.length ≤ LIM) (rv : Vk B.Z φ s.heap B.Z φ h' → VR B.Z φ h' v x) :
    Res B φ s (σ.set i (.acc n us)) v x { s with heap := h', toks := t' } := by
  obtain ⟨p', hp', items, m, sl, es, ep, h1, r1, h2, h3⟩ := R.at_ hi
  rw [hp] at hp'; cases hp'
  obtain ⟨sl', hg⟩ := hg
  have m1 : p.1 ∈ addrs φ := mem_addrs.mpr ⟨p, List.mem_of_getElem? hp, .inl rfl⟩
  have m2 : p.2 ∈ addrs φ := mem_addrs.mpr ⟨p, List.mem_of_getElem? hp, .inr rfl⟩
  have hne : p.2 ≠ p.1 := fun e => by rw [e, h1] at h2; cases h2
  have kp : Kp B.tabs [p.1, p.2] s.heap h' := ⟨fun b o e hb => .inl (keep b o (fun z => hb (by rw [z]; exact List.mem_cons_self ..)) e), hs⟩
  have mem : ∀ a ∈ [p.1, p.2], a ∈ addrs φ := fun a ha => by
    rcases List.mem_cons.mp ha with rfl | ha
    · exact m1
    · rw [List.mem_singleton.mp ha]; exact m2
  have vk : Vk B.Z φ s.heap B.Z φ h' := Vk.of kp (fun a ha => R.safe a (mem a ha)) (pre_refl ..)
  have st : St B φ s φ { s with heap := h', toks := t' } := ⟨pre_refl .., kp.mono (fun b hb => .inl (mem b hb)), rfl, id⟩
  exact ⟨φ, st, R.put O hp kp ⟨ys, c, sl', es, ep, hg, ⟨r vk, hz⟩, keep _ _ hne h2, h3⟩, rv vk⟩

theorem res_grow' (O : B.Ok) {σ : AH} {φ : Phi} {s : Shared} (R : Rep B σ φ s.heap) {h' : Heap} {v : V} {x : Value} (keep : ∀ b o, s.heap.get? b = some o → h'.get? b = some o) (hs : s.heap.objs.size ≤ h'.objs.size) (r : VR B.Z φ h' v x) (tk : Nat) :
    Res B φ s σ v x { s with heap := h', toks := tk } :=
  ⟨φ, St.of_kp (.keeps keep hs) rfl rfl, R.grow O (.keeps keep hs), r⟩

theorem set_same {α : Type} (l : List α) (i : Nat) (a : α) (h : l[i]? = some a) : l.set i a = l := by
  apply List.ext_getElem?
  intro j
  by_cases hj : i = j
  · subst hj
    rw [List.getElem?_set_self (List.getElem?_eq_some_iff.mp h).1, h]
  · rw [List.getElem?_set_ne hj]

theorem VRs_inv2 {N : Zone} {φ : Phi} {h : Heap} {u w : V} {xs : List Value} (r : VRs N φ h [u, w] xs) : ∃ x y, xs = [x, y] ∧ VR N φ h u x ∧ VR N φ h w y :=
  vA2 (P := fun xs => ∃ x y, xs = [x, y] ∧ VR N φ h u x ∧ VR N φ h w y) (v := (u, w)) rfl r fun x y a b => ⟨x, y, rfl, a, b⟩
theorem str_is {v : V} {a : Cs} (h : asStr v = some a) : v = .str a := by
  cases v with
  | str _ => cases h; rfl
  | _ => exact noneE h
theorem pair_is : ∀ {l : List V} {p : Cs × Cs}, pairOf l = some p → l = [.str p.1, .str p.2]
  | [], _, h => noneE h
  | v :: l, p, h => by
    cases v with
    | str a => match l, h with
      | [], h => exact noneE h
      | u :: [], h => cases u with
        | str b => cases h; rfl
        | _ => exact noneE h
      | u :: _ :: _, h => cases u with
        | str b => exact noneE h
        | _ => exact noneE h
    | _ => exact noneE h
/-- the pairs of texts that an accumulator holds -/
theorem acc_pairs {N : Zone} {φ : Phi} {h : Heap} : ∀ {vs : List V} {items : List Value} {z : Cs}, strOfAcc vs = some z → VRs N φ h vs items →
    ∃ (a b : Nat → Cs) (Ts : Nat → Addr) (ta tb : Nat → Tok), (∀ j, j < items.length → items[j]? = some (.ref (Ts j))) ∧
      (∀ j, j < items.length → ∃ k, h.get? (Ts j) = some (tupO #[.str ⟨(a j).toArray⟩ (ta j), .str ⟨(b j).toArray⟩ (tb j)] k)) ∧ z = ((List.range items.length).map fun j => a j ++ b j).flatten
  | [], [], z, e, _ => by cases e; exact ⟨fun _ => [], fun _ => [], fun _ => 0, fun _ => 0, fun _ => 0, fun j hj => by simp at hj, fun j hj => by simp at hj, rfl⟩
  | [], _ :: _, _, _, r => by unfold VRs at r; exact r.elim
  | v :: vs, [], _, _, r => by unfold VRs at r; exact r.elim
  | v :: vs, x :: items, z, e, r => bindE e fun l h1 e => bindE e fun p h2 e => bindE e fun z' hz' hfin => by
    unfold VRs at r
    cases hfin
    obtain ⟨a, b, Ts, ta, tb, q1, q2, q3⟩ := acc_pairs hz' r.2
    refine vTup (P := fun x => ∃ (a b : Nat → Cs) (Ts : Nat → Addr) (ta tb : Nat → Tok), (∀ j, j < (x :: items).length → (x :: items)[j]? = some (.ref (Ts j))) ∧
      (∀ j, j < (x :: items).length → ∃ k, h.get? (Ts j) = some (tupO #[.str ⟨(a j).toArray⟩ (ta j), .str ⟨(b j).toArray⟩ (tb j)] k)) ∧ p.1 ++ p.2 ++ z' = ((List.range (x :: items).length).map fun j => a j ++ b j).flatten) h1 r.1 fun T its k _ hT ri => ?_
    rw [pair_is h2] at ri
    obtain ⟨x1, x2, rfl, r1, r2⟩ := VRs_inv2 ri
    unfold VR at r1 r2
    obtain ⟨u1, rfl⟩ := r1
    obtain ⟨u2, rfl⟩ := r2
    refine ⟨fun j => Nat.casesOn j p.1 a, fun j => Nat.casesOn j p.2 b, fun j => Nat.casesOn j T Ts, fun j => Nat.casesOn j u1 ta, fun j => Nat.casesOn j u2 tb, fun j hj => ?_, fun j hj => ?_, ?_⟩
    · cases j with
      | zero => rfl
      | succ j => exact q1 j (Nat.lt_of_succ_lt_succ hj)
    · cases j with
      | zero => exact ⟨k, hT⟩
      | succ j => exact q2 j (Nat.lt_of_succ_lt_succ hj)
    · rw [q3, List.length_cons, List.range_succ_eq_map, List.map_cons, List.flatten_cons, List.map_map]
      rfl

theorem acc_call {φ : Phi} {s : Shared} {σ : AH} {A : Around} {Ex : Value → Shared → Prop} (O : B.Ok) (AT : AccAt B) (AP : AccPos AT) {m : Mt} {f : Addr} (hf : accFn AT m = some f) {r : V × AH} {i : Nat} {n : Int} {vs args : List V} {p : Addr × Addr} {xs : List Value} (rm : Room A 0) (R : Rep B σ φ s.heap) (hi : σ[i]? = some (.acc n vs)) (hp : φ[i]? = some p)
    (e : accM i n vs m args σ = some r) (rr : VRs B.Z φ s.heap args xs) : wpAny (model B.prog B.w) A (PySem.call (.ref f) (.ref p.1 :: xs) []) (Res B φ s r.2 r.1) Ex s := by
  obtain ⟨p', hp', items, c, sl, es, ep, h1, ⟨r1, hz⟩, h2, h3⟩ := R.at_ hi
  cases hp.symm.trans hp'
  have hl := VRs_length r1
  have hz' : items.length ≤ LIM := hl ▸ hz
  have hdep : A.depth + 2 < recursionLimit := by have := rm.depth; omega
  have hid : ∀ u, s.heap.objs.size ≤ u → u ∉ B.Z.hid := fun u hu hm => absurd (R.stat.hid u hm) (Nat.not_lt.mpr hu)
  cases m with
  | pop =>
    cases hf
    cases args with
    | cons _ _ => exact noneE e
    | nil =>
      have e : (match vs.getLast? with | some v => some (v, σ.set i (.acc n vs.dropLast)) | none => some (.tup [.str [], .str []], σ)) = some r := e
      refine vA0 (P := fun xs => wpAny _ _ (PySem.call (.ref AT.fPop) (.ref p.1 :: xs) []) _ Ex s) rr ?_
      refine wpAny_size (pop_ok (x := p.1) (dx := p.2) AT R.stat.low (Nat.lt_of_succ_lt hdep) (by have := rm.units; omega) h1 h2 (accDict_shadow h3 (by decide)) (lim_line (by simpa using hz')) AP.l42 AP.l21 AP.l32 (fun h0 h' t' u tA tB keep hu hg hs => ?_) fun y h' t' n' hy keep hg hs => ?_)
      · have hv : vs = [] := List.length_eq_zero_iff.mp (hl.trans (by simpa using h0))
        subst hv
        cases e
        refine res_grow' O R keep hs ?_ t'
        unfold VR
        exact ⟨u, _, 0, rfl, ⟨hid u hu, hg⟩, VRs_cons (vr_str' _ _ rfl _) (VRs_one (vr_str' _ _ rfl _))⟩
      · have hy2 : items[items.length - 1]? = some y := by simpa using hy
        cases hv : vs.getLast? with
        | none =>
          rw [List.getLast?_eq_none_iff.mp hv] at hl
          rw [List.length_eq_zero_iff.mp hl.symm] at hy2
          exact noneE hy2
        | some u =>
          rw [hv] at e
          cases e
          obtain ⟨y', hy', ry⟩ := VRs_get r1 (by rw [List.getLast?_eq_getElem?] at hv; exact hv)
          rw [hl] at hy'
          cases hy2.symm.trans hy'
          have er : items.toArray.eraseIdxIfInBounds (items.toArray.size - 1) = (items.dropLast).toArray := by
            rw [erase_arr, List.size_toArray, erase_last]
          rw [er] at hg
          refine acc_put O R hi hp keep hs ⟨sl, hg⟩ (fun vk => ?_) (Nat.le_trans (by rw [List.length_dropLast]; exact Nat.sub_le _ _) hz) fun vk => VR_mono vk _ ry
          rw [← erase_last, ← erase_last, hl]
          exact VRs_erase _ (VRs_mono vk _ r1)
  | push =>
    cases hf
    refine bindE e fun q hq e => bindE e fun a ha e => bindE e fun b hb e => ifE e fun hlt e => vA2 (P := fun xs => wpAny _ _ (PySem.call (.ref AT.fPush) (.ref p.1 :: xs) []) _ Ex s) hq rr fun x1 x2 r2 r3 => ?_
    cases e
    rw [str_is ha] at r2
    rw [str_is hb] at r3
    refine wpAny_size (push_ok (x := p.1) (dx := p.2) AT R.stat.low (Nat.lt_of_succ_lt (Nat.lt_of_succ_lt hdep)) h1 h2 (accDict_shadow h3 (by decide)) (lim_line (by simpa using hz')) AP.l11 AP.sw3 fun h' t' u n' keep hu hg hg2 hs => ?_)
    rw [List.push_toArray] at hg2
    refine acc_put O R hi hp keep hs ⟨sl, hg2⟩ (fun vk => VRs_append (VRs_mono vk _ r1) (VRs_one ?_)) (by rw [List.length_append]; exact hlt) fun vk => vr_none
    unfold VR
    exact ⟨u, [x1, x2], 0, rfl, ⟨hid u hu, hg⟩, VRs_mono vk _ (VRs_cons r2 (VRs_one r3))⟩
  | part_count =>
    cases hf
    cases args with
    | cons _ _ => exact noneE e
    | nil =>
      cases e
      refine vA0 (P := fun xs => wpAny _ _ (PySem.call (.ref AT.fCnt) (.ref p.1 :: xs) []) _ Ex s) rr ?_
      refine wpAny_size (cnt_ok (x := p.1) (dx := p.2) AT R.stat.low (Nat.lt_of_succ_lt (Nat.lt_of_succ_lt hdep)) h1 AP.l42 fun h' t' t'' keep hs => res_grow' O R keep hs ?_ t'')
      rw [List.size_toArray, ← hl]
      exact vr_int _ _
  | _ => exact noneE hf

theorem acc_str (O : B.Ok) (AT : AccAt B) (TT : StrAt B AT) : StrAcc B := by
  intro A Ex σ φ s i n vs z xv rm R hi hz hlen hvl rv
  obtain ⟨p, hp, items, c, sl, es, ep, h1, ⟨r1, hz1⟩, h2, h3⟩ := R.at_ hi
  unfold VR at rv
  obtain ⟨p', hp', rfl⟩ := rv
  cases hp.symm.trans hp'
  have hl := VRs_length r1
  obtain ⟨a, b, Ts, ta, tb, q1, q2, q3⟩ := acc_pairs hz r1
  have hab : ∀ j, j < items.length → (a j).length + (b j).length ≤ LIM := fun j hj => by
    refine Nat.le_trans ?_ hlen
    rw [q3, ← List.length_append]
    have : (a j ++ b j) ∈ (List.range items.length).map fun j => a j ++ b j := List.mem_map.mpr ⟨j, List.mem_range.mpr hj, rfl⟩
    exact (List.sublist_flatten_of_mem this).length_le
  refine kso_call (K := B.K) (C := B.C) (od := some _) (by show A.units + 1 + 1 < _; have := rm.units; omega) R.stat.K (acc_inst h1 h2) TT.mStr TT.isFn ?_
  refine str_ok (A := A.in1.in1) AT TT O R.stat (x := p.1) (by show A.depth + 2 < _; have := rm.depth; omega) (show A.handled = none from rm.handled) h1 a b Ts ta tb (fun j hj => by simpa using q1 j (by simpa using hj)) (fun j hj => q2 j (by simpa using hj)) (fun j hj => hab j (by simpa using hj)) z (by simpa using q3) hlen (by simp; omega) fun s' t' kp hos hgens => ?_
  have k' : Kp B.tabs [] s.heap s'.heap := kp
  exact ⟨φ, ⟨pre_refl .., k'.mono (fun _ h => nomatch h), hos, hgens⟩, R.grow O k', vr_str _ _⟩

theorem accops (O : B.Ok) (AT : AccAt B) (AP : AccPos AT) (TT : StrAt B AT) : Nonempty (AccOps B) := by
  refine ⟨⟨accFn AT, fun {m f} hf A Ex s pl Q σ φ i n vs p hh R hi hp k => ?_, fun {m f} hf h X => ?_, fun {m} i n vs args σ r h => ?_, fun {m f} hf A Ex s σ r φ i n vs args p xs rm R hi hp e rr => acc_call O AT AP hf rm R hi hp e rr, acc_str O AT TT⟩⟩
  · obtain ⟨p', hp', items, c, sl, es, ep, h1, r1, h2, h3⟩ := R.at_ hi
    cases hp.symm.trans hp'
    cases m with
    | pop => cases hf; exact acc_method AT R.stat.low h1 h2 AT.mPop (fn_type AT.dPop) (by decide) (accDict_shadow h3 (by decide)) k
    | push => cases hf; exact acc_method AT R.stat.low h1 h2 AT.mPush (fn_type AT.dPush) (by decide) (accDict_shadow h3 (by decide)) k
    | part_count => cases hf; exact acc_method AT R.stat.low h1 h2 AT.mCnt (fn_type AT.dCnt) (by decide) (accDict_shadow h3 (by decide)) k
    | _ => exact noneE hf
  · cases m with
    | pop => cases hf; exact fn_keep AT.dPop X
    | push => cases hf; exact fn_keep AT.dPush X
    | part_count => cases hf; exact fn_keep AT.dCnt X
    | _ => exact noneE hf
  · cases m with
    | pop => exact ⟨_, rfl⟩
    | push => exact ⟨_, rfl⟩
    | part_count => exact ⟨_, rfl⟩
    | _ => exact noneE h
end
end Mine
end
section -- NQ10
set_option maxRecDepth 100000
set_option maxHeartbeats 4000000
set_option autoImplicit false
namespace Mine
open PySem PySem.W PySem.Calls PyProof.Rows

theorem accnew_put {B : Base} (O : B.Ok) {σ : AH} {φ : Phi} {s : Shared} (R : Rep B σ φ s.heap) {n : Int} {h' : Heap} {t' : Nat} {x dx : Addr} {c : Nat} {t1 t2 : Tok} (keep : ∀ b o, s.heap.get? b = some o → h'.get? b = some o) (hs : s.heap.objs.size ≤ h'.objs.size)
    (h1 : s.heap.objs.size ≤ x) (h2 : s.heap.objs.size ≤ dx) (hx : h'.get? x = some (accObj B dx #[] c #[])) (hd : h'.get? dx = some (initDict B.w.params t1 (.int n t2))) :
    Res B φ s (σ ++ [.acc n []]) (.obj σ.length) (.ref x) { s with heap := h', toks := t' } := by
  have k : Kp B.tabs [] s.heap h' := .keeps keep hs
  have R' := R.grow O k
  have fr : ∀ u, s.heap.objs.size ≤ u → u ∉ addrs φ := fun u hu hm => absurd (R.lt hm) (Nat.not_lt.mpr hu)
  have up : ∀ u, s.heap.objs.size ≤ u → B.N ≤ u := fun u hu => Nat.le_trans R.stat.size hu
  refine ⟨φ ++ [(x, dx)], ⟨⟨_, rfl, fun a ha => ?_⟩, k.mono (fun _ h => nomatch h), rfl, id⟩, R'.add (fr _ h1) (fr _ h2) (up _ h1) (up _ h2) ⟨[], c, #[], _, _, hx, ⟨VRs_nil, by simp⟩, hd, t1, t2, rfl⟩, ?_⟩
  · rcases mem_addrs.mp ha with ⟨q, hq, rfl | rfl⟩ <;> simp at hq <;> subst hq
    · exact h1
    · exact h2
  · unfold VR
    exact ⟨(x, dx), by rw [← R.len]; simp, rfl⟩

theorem accnew {B : Base} (O : B.Ok) (AT : AccAt B) (AP : AccPos AT) (hT : ∀ f, B.T f = some .acc → f = B.C) (d : Nat) : AccNew B (callN B.T d) := by
  intro f args σ v σ' hf hc A E φ s xs rm R r
  cases d with
  | zero => exact noneE hc
  | succ d =>
    have hfC := hT f hf
    subst hfC
    refine bindE hc fun F hF hc => ?_
    cases hf.symm.trans hF
    have hroom : A.depth + 1 < recursionLimit := by have := rm.depth; omega
    cases args with
    | nil =>
      cases hc
      exact vA0 (P := fun xs => wpAny _ _ (call (.ref B.C) xs []) _ E s) r (wpAny_size (new_ok (rest := []) (sz := .int 0 AT.t0) AT R.stat.low hroom (fun _ => rfl) AP.l6 AP.sw1 AP.sw2 fun h' t' x dx n t1 keep h1 h2 hx hd hs => accnew_put O R keep hs h1 h2 hx hd))
    | cons a rest =>
      refine bindE (show (a1 (a :: rest)).bind (fun v => (asInt v).bind fun n => some (.obj σ.length, σ ++ [.acc n []])) = some (v, σ') from hc) fun u h1 hc => bindE hc fun n h2 hc => vA1 (P := fun xs => wpAny _ _ (call (.ref B.C) xs []) _ E s) h1 r fun y ry => vInt (P := fun y => wpAny _ _ (call (.ref B.C) [y] []) _ E s) h2 ry fun t => ?_
      cases hc
      exact wpAny_size (new_ok (rest := [.int n t]) (sz := .int n t) AT R.stat.low hroom (fun _ => rfl) AP.l6 AP.sw1 AP.sw2 fun h' t' x dx n t1 keep h1 h2 hx hd hs => accnew_put O R keep hs h1 h2 hx hd)

/-- the same facts, other tuples hidden -/
noncomputable def AccAt.hide {B : Base} (AT : AccAt B) (H : List Addr) : AccAt (B.hide H) where
  cc := AT.cc
  fInit := AT.fInit
  fPush := AT.fPush
  fPop := AT.fPop
  fCnt := AT.fCnt
  cd := AT.cd
  t0 := AT.t0
  ps := AT.ps
  cls := AT.cls
  mro := AT.mro
  hasDict := AT.hasDict
  qual := AT.qual
  clsT := AT.clsT
  makes := AT.makes
  ga := AT.ga
  gh := AT.gh
  sa := AT.sa
  tk := AT.tk
  mInit := AT.mInit
  mPush := AT.mPush
  mPop := AT.mPop
  mCnt := AT.mCnt
  mApp := AT.mApp
  cell := AT.cell
  third := AT.third
  mgS := AT.mgS
  mbS := AT.mbS
  top := AT.top
  dInit := ⟨AT.dInit.ex⟩
  dPush := ⟨AT.dPush.ex⟩
  dPop := ⟨AT.dPop.ex⟩
  dCnt := ⟨AT.dCnt.ex⟩
theorem AccPos.hide {B : Base} {AT : AccAt B} (AP : AccPos AT) (H : List Addr) : AccPos (AT.hide H) := ⟨AP.l6, AP.l11, AP.l21, AP.l32, AP.l42, AP.sw1, AP.sw2, AP.sw3⟩
noncomputable def StrAt.hide {B : Base} {AT : AccAt B} (TT : StrAt B AT) (H : List Addr) : StrAt (B.hide H) (AT.hide H) where
  fStr := TT.fStr
  cda := TT.cda
  P := TT.P
  bm := TT.bm
  ob := TT.ob
  te := TT.te
  ps := TT.ps
  mStr := TT.mStr
  dStr := ⟨TT.dStr.ex⟩
  isFn := TT.isFn
  codeOf := TT.codeOf
  code := TT.code
  tab := TT.tab
  mgE := TT.mgE
  bmName := TT.bmName
  bmNe := TT.bmNe
  bmObj := TT.bmObj
  bmCls := TT.bmCls
  bmDict := TT.bmDict
  bmData := TT.bmData
  iter := TT.iter
  l1 := TT.l1
  l2 := TT.l2

/-- all calls of the program's defs, once its heap is known -/
theorem all_calls {B : Base} (Y : Sys B) (AT : AccAt B) (AP : AccPos AT) (TT : StrAt B AT) (hT : ∀ f, B.T f = some .acc → f = B.C) (sup : B.GT "super" = none) (D : ∀ f np ns body, B.T f = some (.dfn np ns body) → DefAt B f np ns body) (d : Nat) : OrOK B (callN B.T d) d :=
  calls_ok Y (fun H => accops (Y.hide H).ok (AT.hide H) (AP.hide H) (TT.hide H)) sup D (fun d H => accnew (Y.hide H).ok (AT.hide H) (AP.hide H) hT d) d B.hid
end Mine
end
section -- NBod
set_option maxRecDepth 100000
namespace Mine
open PySem
noncomputable def b28 : List S := [
  (.ret (.cmp (.var 0) [.Lt] [(.lit (.int (256)))]))]
noncomputable def b35 : List S := [
  (.ret (.cmp (.var 0) [.GtE] [(.lit (.int (256)))]))]
noncomputable def b42 : List S := [
  (.ret (.cmp (.var 0) [.Eq] [(.lit (.int (0)))]))]
noncomputable def b49 : List S := [
  (.ifS (.cmp (.lit (.str [46, 46, 46])) [.NotIn] [(.var 0)]) [(.ret (.cmp (.var 0) [.Eq] [(.var 1)]))] []),
  (.assign (.var 2) (.mcall (.var 0) .split [(.lit (.str [46, 46, 46]))])),
  (.assertS (.cmp (.bcall .len [(.var 2)]) [.GtE] [(.lit (.int (2)))])),
  (.assign (.vars [3, 4]) (.tup [(.lit (.int (0))), (.bcall .len [(.var 1)])])),
  (.assign (.var 5) (.idx (.var 2) (.lit (.int (0))))),
  (.ifS (.var 5) [(.ifS (.mcall (.var 1) .startswith [(.var 5)]) [(.assign (.var 3) (.bcall .len [(.var 5)])), (.del (.var 2) (.lit (.int (0))))] [(.ret (.lit (.bool false)))])] []),
  (.assign (.var 5) (.idx (.var 2) (.neg (.lit (.int (1)))))),
  (.ifS (.var 5) [(.ifS (.mcall (.var 1) .endswith [(.var 5)]) [(.augVar 4 .Sub (.bcall .len [(.var 5)])), (.del (.var 2) (.neg (.lit (.int (1)))))] [(.ret (.lit (.bool false)))])] []),
  (.ifS (.cmp (.var 3) [.Gt] [(.var 4)]) [(.ret (.lit (.bool false)))] []),
  (.forS (.var 5) (.var 2) [(.assign (.var 3) (.mcall (.var 1) .find [(.var 5), (.var 3), (.var 4)])), (.ifS (.cmp (.var 3) [.Lt] [(.lit (.int (0)))]) [(.ret (.lit (.bool false)))] []), (.augVar 3 .Add (.bcall .len [(.var 5)]))]),
  (.ret (.lit (.bool true)))]
noncomputable def b140 : List S := [
  (.assign (.var 1) (.list [(.lit (.int (2))), (.lit (.int (1))), (.lit (.int (2))), (.lit (.int (1))), (.lit (.int (0))), (.lit (.int (11264)))])),
  (.forS (.var 2) (.bcall .range [(.bcall .len [(.var 0)])]) [(.augIdx (.var 1) (.bin .Mod (.var 2) (.lit (.int (6)))) .Add (.bin .Mod (.idx (.var 0) (.var 2)) (.bin .Pow (.lit (.int (10))) (.lit (.int (6))))))]),
  (.ret (.var 1))]
noncomputable def b147 : List S := [
  (.assign (.vars [1, 2]) (.tup [(.list []), (.lit (.int (96)))])),
  (.forS (.var 3) (.bcall .range [(.lit (.int (5)))]) [(.augVar 2 .Add (.bin .Add (.lit (.int (1))) (.bin .Mod (.bin .FloorDiv (.idx (.var 0) (.var 3)) (.bin .Sub (.lit (.int (5))) (.var 3))) (.lit (.int (5000)))))), (.expr (.mcall (.var 1) .append [(.bcall .chr [(.var 2)])]))]),
  (.assign (.vars [4, 5]) (.tup [(.slc (.var 1) (.lit .none) (.lit .none) (.lit .none)), (.lit (.str []))])),
  (.forS (.var 3) (.bcall .range [(.lit (.int (5)))]) [(.augVar 5 .Add (.mcall (.var 4) .pop [(.bin .Mod (.idx (.var 0) (.var 3)) (.bin .Sub (.lit (.int (5))) (.var 3)))]))]),
  (.ret (.tup [(.var 1), (.var 5)]))]
noncomputable def b154 : List S := [
  (.assign (.vars [2, 3]) (.tup [(.bcall .list [(.var 0)]), (.bin .Mod (.var 1) (.lit (.int (5))))])),
  (.assign (.var 4) (.bin .Mod (.bin .Add (.bin .Add (.var 3) (.lit (.int (1)))) (.bin .Mod (.bin .FloorDiv (.var 1) (.lit (.int (5)))) (.lit (.int (4))))) (.lit (.int (5))))),
  (.swap (.var 2) (.var 3) (.var 2) (.var 4) (.idx (.var 2) (.var 4)) (.idx (.var 2) (.var 3))),
  (.ret (.mcall (.lit (.str [])) .join [(.var 2)]))]
noncomputable def b159 : List S := [
  (.assign (.var 3) (.list [])),
  (.forS (.var 4) (.bcall .range [(.lit (.int (4)))]) [(.assign (.vars [5, 6]) (.slc (.slc (.var 1) (.var 4) (.bin .Add (.var 4) (.lit (.int (2)))) (.lit .none)) (.lit .none) (.lit .none) (.var 2))), (.ifS (.comp (.var 7) [(.mk (.var 7) (.slc (.var 1) (.bin .Add (.var 4) (.lit (.int (2)))) (.lit .none) (.lit .none)) [(.fcall 49 [(.bin .Add (.bin .Add (.bin .Add (.bin .Add (.bin .Add (.bin .Add (.lit (.str [46, 46, 46])) (.var 5)) (.lit (.str [46, 46, 46]))) (.var 7)) (.lit (.str [46, 46, 46]))) (.var 6)) (.lit (.str [46, 46, 46]))), (.var 0)])])]) [(.expr (.mcall (.var 3) .append [(.mcall (.lit (.str [])) .join [(.comp (.ite (.cmp (.var 7) [.Eq] [(.var 5)]) (.var 6) (.ite (.cmp (.var 7) [.Eq] [(.var 6)]) (.var 5) (.var 7))) [(.mk (.var 7) (.var 0) [])])])]))] [])]),
  (.ret (.var 3))]
noncomputable def b166 : List S := [
  (.assign (.vars [1, 2, 3]) (.tup [(.fcall 129 []), (.list []), (.lit (.str []))])),
  (.forS (.var 4) (.var 0) [(.assign (.vars [5, 6]) (.mcall (.var 1) .pop [])), (.whileS (.andE [(.cmp (.var 6) [.NotEq] [(.lit (.str []))]), (.fcall 28 [(.bin .Sub (.bin .Add (.lit (.int (256))) (.bcall .ord [(.var 6)])) (.bcall .ord [(.var 4)]))])]) [(.expr (.mcall (.var 2) .append [(.bin .Sub (.lit (.int (255))) (.mcall (.var 1) .part_count []))])), (.augVar 3 .Add (.var 6)), (.assign (.vars [5, 6]) (.mcall (.var 1) .pop []))]), (.ifS (.cmp (.var 6) [.NotEq] [(.lit (.str []))]) [(.expr (.mcall (.var 1) .push [(.var 5), (.var 6)]))] []), (.expr (.mcall (.var 2) .append [(.bin .Add (.lit (.int (256))) (.mcall (.var 1) .part_count []))])), (.expr (.mcall (.var 1) .push [(.lit (.str [32])), (.var 4)]))]),
  (.assign (.var 7) (.bcall .str [(.var 1)])),
  (.whileS (.cmp (.mcall (.var 1) .part_count []) [.Gt] [(.lit (.int (0)))]) [(.augVar 3 .Add (.idx (.mcall (.var 1) .pop []) (.lit (.int (1))))), (.expr (.mcall (.var 2) .append [(.bin .Sub (.lit (.int (255))) (.mcall (.var 1) .part_count []))]))]),
  (.ret (.tup [(.bin .Add (.var 2) (.list [(.lit (.int (0)))])), (.var 3), (.var 7)]))]
noncomputable def b173 : List S := [
  (.assign (.vars [1, 2]) (.tup [(.list [(.lit (.int (0)))]), (.lit (.int (1)))])),
  (.forS (.var 3) (.var 0) [(.ifS (.fcall 42 [(.var 3)]) [(.ret (.var 2))] []), (.ifS (.fcall 35 [(.var 3)]) [(.ifS (.cmp (.var 3) [.NotEq] [(.bin .Add (.lit (.int (255))) (.bcall .len [(.var 1)]))]) [(.ret (.lit (.int (0))))] []), (.expr (.mcall (.var 1) .append [(.lit (.int (0)))]))] [(.ifS (.fcall 28 [(.var 3)]) [(.assign (.var 4) (.mcall (.var 1) .pop [])), (.ifS (.cmp (.var 3) [.NotEq] [(.bin .Sub (.lit (.int (256))) (.bcall .len [(.var 1)]))]) [(.ret (.lit (.int (0))))] []), (.augIdx (.var 1) (.neg (.lit (.int (1)))) .Add (.bin .Add (.lit (.int (1))) (.var 4))), (.augVar 2 .Mult (.bin .FloorDiv (.bin .Sub (.bin .Pow (.lit (.int (1000))) (.idx (.var 1) (.neg (.lit (.int (1)))))) (.lit (.int (1)))) (.lit (.int (999)))))] [])])]),
  (.ret (.lit (.int (0))))]
noncomputable def b178 : List S := [
  (.assign (.var 1) (.fcall 140 [(.var 0)])),
  (.assign (.vars [2, 3]) (.fcall 147 [(.var 1)])),
  (.assign (.vars [4, 5, 6]) (.fcall 166 [(.var 3)])),
  (.ifS (.cmp (.var 6) [.NotEq] [(.mcall (.lit (.str [])) .join [(.comp (.bin .Add (.lit (.str [32])) (.idx (.var 3) (.var 18))) [(.mk (.var 18) (.bcall .range [(.lit (.int (5)))]) [(.cmp (.idx (.var 3) (.var 18)) [.Eq] [(.bcall .max [(.slc (.var 3) (.var 18) (.lit .none) (.lit .none))])])])])])]) [(.ret (.lit (.bool false)))] []),
  (.forS (.var 8) (.var 4) [(.ifS (.orE [(.cmp (.fcall 42 [(.var 8)]) [.IsNot] [(.cmp (.var 8) [.Eq] [(.lit (.int (0)))])]), (.cmp (.fcall 28 [(.var 8)]) [.IsNot] [(.cmp (.var 8) [.Lt] [(.lit (.int (256)))])]), (.cmp (.fcall 35 [(.var 8)]) [.IsNot] [(.cmp (.var 8) [.Gt] [(.lit (.int (255)))])])]) [(.ret (.lit (.bool false)))] [])]),
  (.assign (.vars [9, 10, 11]) (.tup [(.var 3), (.lit (.int (0))), (.fcall 159 [(.var 3), (.var 2), (.neg (.lit (.int (1))))])])),
  (.whileS (.andE [(.var 11), (.cmp (.var 10) [.Lt] [(.lit (.int (20)))])]) [(.assign (.var 9) (.idx (.var 11) (.bin .Mod (.bin .FloorDiv (.idx (.var 1) (.lit (.int (5)))) (.bin .Pow (.lit (.int (4))) (.var 10))) (.bcall .len [(.var 11)])))), (.augVar 10 .Add (.lit (.int (1)))), (.assign (.var 11) (.fcall 159 [(.var 9), (.var 2), (.neg (.lit (.int (1))))]))]),
  (.ifS (.cmp (.var 10) [.NotEq] [(.bcall .len [(.comp (.lit (.int (1))) [(.mk (.var 18) (.bcall .range [(.lit (.int (5)))]) []), (.mk (.var 19) (.bcall .range [(.var 18)]) [(.cmp (.idx (.var 3) (.var 18)) [.Lt, .Lt] [(.idx (.var 3) (.var 19)), (.bcall .max [(.slc (.var 3) (.var 19) (.var 18) (.lit .none))])])])])])]) [(.ret (.lit (.bool false)))] []),
  (.assign (.vars [12, 13, 7]) (.tup [(.list [(.var 9)]), (.list [(.lit (.int (0)))]), (.lit (.int (0)))])),
  (.whileS (.cmp (.var 7) [.Lt] [(.bcall .len [(.var 12)])]) [(.assign (.var 15) (.comp (.var 18) [(.mk (.var 18) (.fcall 159 [(.idx (.var 12) (.var 7)), (.var 2), (.lit (.int (1)))]) [(.cmp (.var 18) [.NotIn] [(.var 12)])])])), (.expr (.mcall (.var 12) .extend [(.var 15)])), (.expr (.mcall (.var 13) .extend [(.bin .Mult (.list [(.bin .Add (.idx (.var 13) (.var 7)) (.lit (.int (1))))]) (.bcall .len [(.var 15)]))])), (.augVar 7 .Add (.lit (.int (1))))]),
  (.ifS (.cmp (.comp (.var 19) [(.zip (.vars [18, 19]) (.var 12) (.var 13) [(.cmp (.var 18) [.Eq] [(.var 3)])])]) [.NotEq] [(.list [(.var 10)])]) [(.ret (.lit (.bool false)))] []),
  (.forS (.var 14) (.var 12) [(.assign (.vars [16, 5, 6]) (.fcall 166 [(.var 14)])), (.ifS (.orE [(.cmp (.var 16) [.NotEq] [(.var 4)]), (.cmp (.cmp (.var 5) [.Eq] [(.mcall (.lit (.str [])) .join [(.var 2)])]) [.IsNot] [(.cmp (.var 14) [.Eq] [(.var 9)])])]) [(.ret (.lit (.bool false)))] [])]),
  (.ifS (.cmp (.bin .Mult (.bcall .sum [(.comp (.bin .Pow (.lit (.int (1000))) (.var 18)) [(.mk (.var 18) (.var 13) [])])]) (.fcall 173 [(.var 4)])) [.NotEq] [(.bin .Mult (.bin .Mult (.bin .Mult (.lit (.int (1001))) (.lit (.int (1001001)))) (.lit (.int (1001001001)))) (.lit (.int (1001001001001))))]) [(.ret (.lit (.bool false)))] []),
  (.assign (.var 17) (.fcall 154 [(.var 3), (.bin .FloorDiv (.idx (.var 1) (.lit (.int (5)))) (.lit (.int (1024))))])),
  (.ret (.cmp (.cmp (.idx (.fcall 166 [(.var 17)]) (.lit (.int (0)))) [.Eq] [(.var 4)]) [.Is] [(.cmp (.var 17) [.In] [(.var 12)])]))]
noncomputable def T03 : Addr → Option Fn := fun a => match a with
  | 28 => some (.dfn 1 8 b28)
  | 35 => some (.dfn 1 8 b35)
  | 42 => some (.dfn 1 8 b42)
  | 49 => some (.dfn 2 12 b49)
  | 140 => some (.dfn 1 10 b140)
  | 147 => some (.dfn 1 13 b147)
  | 154 => some (.dfn 2 11 b154)
  | 159 => some (.dfn 3 12 b159)
  | 166 => some (.dfn 1 15 b166)
  | 173 => some (.dfn 1 12 b173)
  | 178 => some (.dfn 1 25 b178)
  | 129 => some .acc
  | _ => none
noncomputable def biNames : List (Str × GV) := [("len", .bi .len), ("chr", .bi .chr), ("ord", .bi .ord), ("sum", .bi .sum), ("max", .bi .max), ("min", .bi .min), ("sorted", .bi .sorted),
  ("range", .bi .range), ("list", .bi .list), ("str", .bi .str), ("zip", .bi .zip), ("set", .bi .set)]
noncomputable def gt3L : List (Str × GV) := [("ISTERMINAL", .fn 28), ("ISNONTERMINAL", .fn 35), ("ISEOF", .fn 42), ("_ellipsis_match", .fn 49), ("_Accumulator", .fn 129), ("_law_sums", .fn 140), ("_law_drawn", .fn 147),
  ("_law_exchanged", .fn 154), ("_law_moves", .fn 159), ("_law_run", .fn 166), ("_law_hooks", .fn 173), ("law", .fn 178), ("NT_OFFSET", .cst (.int 256)), ("ENDMARKER", .cst (.int 0)),
  ("ELLIPSIS_MARKER", .cst (.str [46,46,46])), ("EMPTYSTRING", .cst (.str []))]
noncomputable def GT3 : Str → Option GV := fun x => (gt3L ++ biNames).lookup x
end Mine
end
section -- NAsm
set_option maxRecDepth 100000
set_option maxHeartbeats 4000000
set_option autoImplicit false
namespace Mine
open PySem PySem.W PySem.Calls PyProof.Rows

noncomputable def base03 (prog : Program) (w : World) (K : Frag) (mg mb : Str → Option Value) : Base := { prog, w, N := 180, hid := [], K := K.filter (fun p => p.1 != 98), tabs := [98], C := 129, T := T03, GT := GT3, mg, mb }

theorem lookup_mem {K : Frag} {a : Addr} {o : Obj} (h : K.lookup a = some o) : a ∈ K.map (·.1) := by
  induction K with
  | nil => cases h
  | cons p r ih =>
    obtain ⟨b, x⟩ := p
    simp only [List.lookup] at h
    split at h
    · rename_i q; rw [beq_iff_eq.mp q]; simp
    · exact List.mem_cons_of_mem _ (ih h)
theorem lookup_filter {K : Frag} {a : Addr} {o : Obj} {q : Addr × Obj → Bool} (h : (K.filter q).lookup a = some o) (hq : ∀ b x y, q (b, x) = q (b, y)) : K.lookup a = some o := by
  induction K with
  | nil => cases h
  | cons p r ih =>
    obtain ⟨b, x⟩ := p
    rw [List.filter_cons] at h
    simp only [List.lookup]
    by_cases hb : (a == b) = true
    · rw [hb]
      have : a = b := beq_iff_eq.mp hb
      subst this
      split at h
      · simp only [List.lookup, beq_self_eq_true] at h; exact h
      · rename_i hn
        exfalso
        have hm := lookup_mem h
        obtain ⟨p, hp, e⟩ := List.mem_map.mp hm
        obtain ⟨c, y⟩ := p
        simp only at e
        subst e
        have := (List.mem_filter.mp hp).2
        rw [hq c y x] at this
        exact hn this
    · rw [Bool.not_eq_true] at hb
      rw [hb]
      refine ih ?_
      split at h
      · simpa only [List.lookup, hb] using h
      · exact h
theorem in_filter {K : Frag} {h : Heap} (X : K.In h) (a : Addr) : Frag.In (K.filter (fun p => p.1 != a)) h := fun b o e => X b o (lookup_filter (q := fun p => p.1 != a) e (fun _ _ _ => rfl))

/-- what of the program's heap is read -/
structure KF (K : Frag) : Prop where
  keys : (K.map (·.1)).all (fun a => decide (a < 180) && a != 98) = true
  fns : gt3L.all (fun p => match p.2 with | .fn a => (nsIn K mainGlobals p.1 == some (some (.ref a))) && keepIn K (.ref a) | _ => true) = true
  nt : ∃ t, nsIn K mainGlobals "NT_OFFSET" = some (some (.int 256 t))
  em : ∃ t, nsIn K mainGlobals "ENDMARKER" = some (some (.int 0 t))
  el : ∃ t, nsIn K mainGlobals "ELLIPSIS_MARKER" = some (some (.str ⟨#[46, 46, 46]⟩ t))
  es : ∃ t, nsIn K mainGlobals "EMPTYSTRING" = some (some (.str ⟨#[]⟩ t))
  bis : biNames.all (fun p => nsIn K mainGlobals p.1 == some none) = true

theorem lookup_list {α : Type} {l : List (Str × α)} {x : Str} {g : α} (h : l.lookup x = some g) : (x, g) ∈ l := by
  induction l with
  | nil => cases h
  | cons p r ih =>
    obtain ⟨y, z⟩ := p
    simp only [List.lookup] at h
    split at h
    · rename_i q; cases h; rw [beq_iff_eq.mp q]; exact List.mem_cons_self ..
    · exact List.mem_cons_of_mem _ (ih h)

theorem bi_boot : ∀ p ∈ biNames, ∀ b, p.2 = .bi b → p.1 ≠ ("__name__" : Str) ∧ (p.1 == ("__debug__" : Str)) = false ∧ bootBuiltins p.1 = some (biVal b) := by
  intro p hp b e
  simp only [biNames, List.mem_cons, List.not_mem_nil, or_false] at hp
  rcases hp with rfl | rfl | rfl | rfl | rfl | rfl | rfl | rfl | rfl | rfl | rfl | rfl <;> cases e <;> exact ⟨by decide, by decide, by kernel_rfl⟩
theorem bi_only : ∀ p ∈ biNames, ∃ b, p.2 = .bi b := by
  intro p hp
  simp only [biNames, List.mem_cons, List.not_mem_nil, or_false] at hp
  rcases hp with rfl | rfl | rfl | rfl | rfl | rfl | rfl | rfl | rfl | rfl | rfl | rfl <;> exact ⟨_, rfl⟩
theorem gt_debug : gt3L.all (fun p => !(p.1 == ("__debug__" : Str))) = true := by decide +kernel
theorem gt_nobi : ∀ p ∈ gt3L, ∀ b, p.2 ≠ .bi b := by
  intro p hp b
  simp only [gt3L, List.mem_cons, List.not_mem_nil, or_false] at hp
  rcases hp with rfl | rfl | rfl | rfl | rfl | rfl | rfl | rfl | rfl | rfl | rfl | rfl | rfl | rfl | rfl | rfl <;> intro h <;> cases h

theorem sys03 {prog : Program} {w : World} {K : Frag} {mg mb : Str → Option Value} {h : Heap} (F : KF (K.filter (fun p => p.1 != 98))) (X : K.In h) (G : h.Ns mainGlobals mg) (hmb : ∀ x : Str, x ≠ "__name__" → mb x = bootBuiltins x) : Sys (base03 prog w K mg mb) := by
  have X' := in_filter X 98
  have hk : ∀ a o, (K.filter (fun p => p.1 != 98)).lookup a = some o → a < 180 ∧ a ≠ 98 := fun a o e => by
    have := List.all_eq_true.mp F.keys a (lookup_mem e)
    simpa using this
  have fn0 : ∀ x a, GT3 x = some (.fn a) → (x, GV.fn a) ∈ gt3L := fun x a e => by
    rcases List.mem_append.mp (lookup_list e) with q | q
    · exact q
    · obtain ⟨b, hb⟩ := bi_only _ q; cases hb
  have cst0 : ∀ x v, GT3 x = some (.cst v) → (x, GV.cst v) ∈ gt3L := fun x a e => by
    rcases List.mem_append.mp (lookup_list e) with q | q
    · exact q
    · obtain ⟨b, hb⟩ := bi_only _ q; cases hb
  have bi0 : ∀ x b, GT3 x = some (.bi b) → (x, GV.bi b) ∈ biNames := fun x b e => by
    rcases List.mem_append.mp (lookup_list e) with q | q
    · exact absurd rfl (gt_nobi _ q b)
    · exact q
  have dbg : ∀ x g, (x, g) ∈ gt3L → (x == ("__debug__" : Str)) = false := fun x g hm => by
    have := List.all_eq_true.mp gt_debug _ hm
    simpa using this
  refine ⟨⟨fun a o e => (hk a o e).1, (by decide : mainGlobals < 180), (by decide : builtinsNs < 180), (by decide : cStatics < 180), fun a o e hm => (hk a o e).2 (List.mem_singleton.mp hm), fun t ht => by rw [List.mem_singleton.mp ht]; exact (by decide : 98 < 180)⟩, ?_, ?_, ?_, ?_⟩
  · intro x v e
    have hm := cst0 x v e
    refine ⟨dbg _ _ hm, ?_⟩
    obtain ⟨t1, e1⟩ := F.nt
    obtain ⟨t2, e2⟩ := F.em
    obtain ⟨t3, e3⟩ := F.el
    obtain ⟨t4, e4⟩ := F.es
    simp only [gt3L, List.mem_cons, List.not_mem_nil, or_false, Prod.mk.injEq, reduceCtorEq, and_false, false_or, GV.cst.injEq] at hm
    rcases hm with ⟨rfl, rfl⟩ | ⟨rfl, rfl⟩ | ⟨rfl, rfl⟩ | ⟨rfl, rfl⟩
    · exact ⟨_, mg_of X' G e1, fun N φ h => vr_int _ _⟩
    · exact ⟨_, mg_of X' G e2, fun N φ h => vr_int _ _⟩
    · exact ⟨_, mg_of X' G e3, fun N φ h => vr_str _ _⟩
    · exact ⟨_, mg_of X' G e4, fun N φ h => vr_str _ _⟩
  · intro x a e
    have hm := fn0 x a e
    refine ⟨dbg _ _ hm, ?_⟩
    have := List.all_eq_true.mp F.fns _ hm
    simp only [Bool.and_eq_true, beq_iff_eq] at this
    exact mg_of X' G this.1
  · intro x b e
    have hm := bi0 x b e
    obtain ⟨h1, h2, h3⟩ := bi_boot _ hm b rfl
    have := List.all_eq_true.mp F.bis _ hm
    simp only [beq_iff_eq] at this
    exact ⟨h2, mg_none_of X' G this, (hmb x h1).trans h3⟩
  · intro x a e h' X2
    have hm := fn0 x a e
    have := List.all_eq_true.mp F.fns _ hm
    simp only [Bool.and_eq_true, beq_iff_eq] at this
    obtain ⟨k, hk, L⟩ := looks_keep (M := model prog w) (h := h') this.2 X2
    exact ⟨k, by rcases hk with rfl | rfl <;> simp, L⟩

theorem gt_super : GT3 "super" = none := by decide +kernel
theorem t03_acc : ∀ f, T03 f = some .acc → f = 129 := by
  intro f h
  unfold T03 at h
  split at h <;> first | rfl | cases h
theorem t03_dfn {P : Addr → Nat → Nat → List S → Prop} (h28 : P 28 1 8 b28) (h35 : P 35 1 8 b35) (h42 : P 42 1 8 b42) (h49 : P 49 2 12 b49) (h140 : P 140 1 10 b140) (h147 : P 147 1 13 b147) (h154 : P 154 2 11 b154) (h159 : P 159 3 12 b159) (h166 : P 166 1 15 b166) (h173 : P 173 1 12 b173) (h178 : P 178 1 25 b178) :
    ∀ f np ns body, T03 f = some (.dfn np ns body) → P f np ns body := by
  intro f np ns body h
  unfold T03 at h
  split at h <;> first | (cases h; assumption) | cases h
end Mine
end
section -- NMain
set_option maxRecDepth 100000
set_option maxHeartbeats 4000000
set_option autoImplicit false
namespace Mine
open PySem PySem.W PySem.Calls PyProof.Rows

theorem vrs_ints {N : Zone} {φ : Phi} {h : Heap} {vs : List Value} {ns : List Int} (i : IntsAre vs ns) : VRs N φ h (ns.map V.int) vs := by
  induction i with
  | nil => exact VRs_nil
  | cons m t _ ih => exact VRs_cons (vr_int _ _) ih

theorem rep_start {prog : Program} {w : World} {K : Frag} {mg mb : Str → Option Value} {h : Heap} (X : K.In h) (G : h.Ns mainGlobals mg) (Bn : h.Ns builtinsNs mb) (nl : h.NoLimit) (ht : h.get? 98 = some (tabO #[])) (hs : 180 ≤ h.objs.size) : Rep (base03 prog w K mg mb) [] [] h := by
  refine ⟨⟨in_filter X 98, G, Bn, nl, fun t hm => ?_, hs, fun _ h => nomatch h⟩, rfl, fun a ha => by simp [addrs] at ha, fun i j p q _ h _ => by simp at h, fun i o p h _ => by simp at h⟩
  rw [List.mem_singleton.mp hm]
  exact ⟨#[], ht, trivial⟩

theorem oldK_of {h h' : Heap} (k : Kp [98] [] h h') (ht : ∃ c, h.TableAt c 98 #[]) : OldK h h' := by
  obtain ⟨c, ht⟩ := ht
  refine ⟨fun b o e => ?_, fun b o e => ?_⟩
  · rcases k.keep b o e (by simp) with q | ⟨hb, vs, more, rfl, q, _⟩
    · exact .inl q
    · rw [List.mem_singleton] at hb
      subst hb
      exact .inr (.inl ⟨ht.isCodeTable, rfl, vs, more, rfl, q⟩)
  · rcases k.keep b o e (by simp) with q | ⟨hb, vs, more, rfl, q, _⟩
    · exact ⟨_, q⟩
    · exact ⟨_, q⟩

theorem law03_main {prog : Program} {w : World} {K : Frag} {mg mb : Str → Option Value} {s₁ : Shared} (F : KF (K.filter (fun p => p.1 != 98))) (X : K.In s₁.heap) (G : s₁.heap.Ns mainGlobals mg) (Bn : s₁.heap.Ns builtinsNs mb) (nl : s₁.heap.NoLimit) (hmb : ∀ x : Str, x ≠ "__name__" → mb x = bootBuiltins x)
    (AT : AccAt (base03 prog w K mg mb)) (AP : AccPos AT) (TT : StrAt (base03 prog w K mg mb) AT)
    (D : ∀ f np ns body, T03 f = some (.dfn np ns body) → DefAt (base03 prog w K mg mb) f np ns body)
    (ht : ∃ c, s₁.heap.TableAt c 98 #[]) (hs : s₁.heap.objs.size = 180) (hg : s₁.gens = #[]) {items : List Value} {script : List Int} (hl : s₁.heap.get? 179 = some { cls := .type "list", data := .seq items.toArray }) (hi : IntsAre items script)
    (pure : ∃ σ, callN T03 10 178 [.flist (script.map V.int)] [] = some (.bool true, σ)) {E : Value → Shared → Prop} :
    wpAny (model prog w) callerA (call (.ref 178) [.ref 179]) (fun v s' => v = .bool true ∧ OldK s₁.heap s'.heap ∧ s'.os = s₁.os ∧ AllBare s'.gens) E s₁ := by
  have Y := sys03 (prog := prog) (w := w) F X G hmb
  have ht98 : s₁.heap.get? 98 = some (tabO #[]) := ht.choose_spec.2
  obtain ⟨σ, hσ⟩ := pure
  have R := rep_start (prog := prog) (w := w) X G Bn nl ht98 (by omega)
  have all := all_calls Y AT AP TT t03_acc gt_super D 10
  refine wpAny_mono (all 178 _ _ _ _ hσ callerA E [] s₁ [.ref 179] ⟨rfl, by decide +kernel, by decide +kernel, ⟨[], rfl⟩⟩ R (VRs_one ?_)) (fun v s' hr => ?_) fun _ _ z => z
  · unfold VR
    exact ⟨179, items, 0, rfl, (by decide : 179 < 180), hl, vrs_ints hi⟩
  · obtain ⟨φ', st, R', rv⟩ := hr
    unfold VR at rv
    have k : Kp [98] [] s₁.heap s'.heap := st.keep
    exact ⟨rv, oldK_of k ht, st.os, st.gens (hg ▸ AllBare.empty)⟩
end Mine
end
section -- NPa
set_option maxRecDepth 100000
set_option autoImplicit false
namespace Mine.Pu
open PySem

theorem bindI {α β : Type} {o : Option α} {f : α → Option β} {a : α} {r : Option β} (h : o = some a) (k : f a = r) : o.bind f = r := by rw [h]; exact k

/-- s' keeps what s holds -/
noncomputable def Ext (s s' : AH) : Prop := s.length ≤ s'.length ∧ ∀ i, i < s.length → s'[i]? = s[i]?
theorem Ext.refl (s : AH) : Ext s s := ⟨Nat.le_refl _, fun _ _ => rfl⟩
theorem Ext.trans {a b c : AH} (x : Ext a b) (y : Ext b c) : Ext a c := ⟨Nat.le_trans x.1 y.1, fun i h => (y.2 i (Nat.lt_of_lt_of_le h x.1)).trans (x.2 i h)⟩
theorem Ext.app (a b : AH) : Ext a (a ++ b) := ⟨by rw [List.length_append]; exact Nat.le_add_right .., fun i h => List.getElem?_append_left h⟩
theorem Ext.get {a b : AH} (x : Ext a b) {i : Nat} {o : O} (h : a[i]? = some o) : b[i]? = some o := (x.2 i (List.getElem?_eq_some_iff.mp h).1).trans h
theorem Ext.set {a b : AH} (x : Ext a b) {k : Nat} (h : a.length ≤ k) (o : O) : Ext a (b.set k o) := ⟨by rw [List.length_set]; exact x.1, fun i hi => by rw [List.getElem?_set_ne (Nat.ne_of_gt (Nat.lt_of_lt_of_le hi h))]; exact x.2 i hi⟩

/-! ## the values -/
section
variable {s s1 : AH} {i k : Nat} {vs : List V} {v : V}
theorem lst_at (h : s[i]? = some (.list vs)) : lstAt (.obj i) s = some vs := bindI rfl (bindI h rfl)
theorem top_at (s : AH) (o : O) : (s ++ [o])[s.length]? = some o := List.getElem?_concat_length
theorem new_at (s : AH) (vs : List V) : lstAt (.obj s.length) (s ++ [.list vs]) = some vs := lst_at (top_at ..)
theorem newL_ok' (h : vs.length ≤ LIM) : newL vs s = some (.obj s.length, s ++ [.list vs]) := if_pos h
theorem place_nat {n : Nat} (h : k < n) : place (k : Int) n = some k := (if_pos (Int.natCast_nonneg k)).trans (if_pos (Int.ofNat_lt.mpr h))
theorem place_last {n : Nat} (h : 0 < n) : place (-1) n = some (n - 1) := (if_neg (by omega)).trans ((if_pos (by omega)).trans (congrArg some (by omega)))
theorem idx_lst (h : lstAt (.obj i) s = some vs) (hv : vs[k]? = some v) : idxV (.obj i) (.int (k : Int)) s = some v := bindI (show seqAt (.obj i) s = some vs from h) (bindI rfl (bindI (place_nat (List.getElem?_eq_some_iff.mp hv).1) hv))
theorem idx_last {n : Nat} (h : lstAt (.obj i) s = some vs) (hn : vs.length = n + 1) (hv : vs[n]? = some v) : idxV (.obj i) (.int (-1)) s = some v := bindI (show seqAt (.obj i) s = some vs from h) (bindI rfl (bindI (place_last (by rw [hn]; exact Nat.succ_pos n)) (by show vs[vs.length - 1]? = some v; rw [hn]; exact hv)))
theorem idx_str {w : Cs} {c : Nat} (hl : w.length ≤ LIM) (hv : w[k]? = some c) : idxV (.str w) (.int (k : Int)) s = some (.str [c]) := bindI rfl ((if_pos hl).trans (bindI (place_nat (List.getElem?_eq_some_iff.mp hv).1) (bindI hv rfl)))
theorem set_lst (h : lstAt (.obj i) s = some vs) (hk : k < vs.length) : setIdxV (.obj i) (.int (k : Int)) v s = some (s.set i (.list (vs.set k v))) := bindI rfl (bindI rfl (bindI h (bindI (place_nat hk) rfl)))
theorem set_last {n : Nat} (h : lstAt (.obj i) s = some vs) (hn : vs.length = n + 1) : setIdxV (.obj i) (.int (-1)) v s = some (s.set i (.list (vs.set n v))) := bindI rfl (bindI rfl (bindI h (bindI (place_last (by rw [hn]; exact Nat.succ_pos n)) (by rw [hn]; rfl))))
theorem len_lst (h : lstAt (.obj i) s = some vs) : callB .len [.obj i] s = some (.int vs.length, s) := bindI (show seqAt (.obj i) s = some vs from h) rfl
theorem kind_at (h : s[i]? = some (.list vs)) : kindV (.obj i) s = 2 := by show (match s[i]? with | some o => kindO o | none => 0) = 2; rw [h]; rfl
theorem app_lst (h : s[i]? = some (.list vs)) (hl : vs.length < LIM) : callM (.obj i) .append [v] s = some (.none, s.set i (.list (vs ++ [v]))) := bindI h (if_pos hl)
theorem join_ok {l : List Cs} (sep : Cs) (h : lstAt (.obj i) s = some vs) (hs : strsOf vs = some l) (hl : (joinL sep l).length ≤ LIM) (hp : sep.length ≤ LIM) : callM (.str sep) .join [.obj i] s = some (.str (joinL sep l), s) := bindI h (bindI hs (if_pos ⟨hl, hp⟩))
theorem truth_lst (h : lstAt (.obj i) s = some vs) : truth (.obj i) s = some (!vs.isEmpty) := bindI h rfl
end

/-! ## the terms -/
section
variable {C : Oracle} {a e o i : E} {es args : List E} {loc : Loc} {s s1 s2 s3 : AH} {v x y k : V} {vs : List V} {b : Bool} {r : Option (V × AH)}
theorem ev_var {n : Nat} (h : loc[n]? = some (some v)) : ev C (.var n) loc s = some (v, s) := bindI h rfl
theorem ev_lit : ev C (.lit v) loc s = some (v, s) := rfl
theorem ev_bin {op : Operator} (h1 : ev C a loc s = some (x, s1)) (h2 : ev C e loc s1 = some (y, s2)) (h3 : binV op x y s2 = r) : ev C (.bin op a e) loc s = r := bindI h1 (bindI h2 h3)
theorem ev_cmp1 {op : CmpOp} (h1 : ev C a loc s = some (x, s1)) (h2 : ev C e loc s1 = some (y, s2)) (h3 : compareV op x y s2 = some b) : ev C (.cmp a [op] [e]) loc s = some (.bool b, s2) := bindI h1 (bindI (bindI h2 (bindI h3 rfl)) rfl)
theorem ev_idx (h1 : ev C o loc s = some (x, s1)) (h2 : ev C i loc s1 = some (k, s2)) (h3 : idxV x k s2 = some v) : ev C (.idx o i) loc s = some (v, s2) := bindI h1 (bindI h2 (bindI h3 rfl))
theorem ev_bcall {f : Bi} (h : evs C args loc s = some (vs, s2)) (h2 : callB f vs s2 = r) : ev C (.bcall f args) loc s = r := bindI h h2
theorem ev_fcall {f : Addr} (h : evs C args loc s = some (vs, s2)) (h2 : C f vs s2 = r) : ev C (.fcall f args) loc s = r := bindI h h2
theorem ev_mcall {m : Mt} (h1 : ev C o loc s = some (x, s1)) (h2 : evs C args loc s1 = some (vs, s2)) (hk : kindV x s1 = kindV x s2) (h3 : callM x m vs s2 = r) : ev C (.mcall o m args) loc s = r := bindI h1 (bindI h2 ((if_pos hk).trans h3))
theorem evs_one (h : ev C e loc s = some (v, s1)) : evs C [e] loc s = some ([v], s1) := bindI h rfl
theorem evs_cons (h : ev C e loc s = some (v, s1)) (h2 : evs C es loc s1 = some (vs, s2)) : evs C (e :: es) loc s = some (v :: vs, s2) := bindI h (bindI h2 rfl)
theorem ev_tup (h : evs C es loc s = some (vs, s1)) (hl : vs.length ≤ LIM) : ev C (.tup es) loc s = some (.tup vs, s1) := bindI h (if_pos hl)
theorem ev_list (h : evs C es loc s = some (vs, s1)) (hl : vs.length ≤ LIM) : ev C (.list es) loc s = some (.obj s1.length, s1 ++ [.list vs]) := bindI h (newL_ok' hl)
theorem ev_neg {n : Int} (h : ev C e loc s = some (.int n, s1)) : ev C (.neg e) loc s = some (.int (-n), s1) := bindI h rfl
theorem ev_slc {l u st : E} {vl vu vst : V} {s4 : AH} (h1 : ev C o loc s = some (x, s1)) (h2 : ev C l loc s1 = some (vl, s2)) (h3 : ev C u loc s2 = some (vu, s3)) (h4 : ev C st loc s3 = some (vst, s4)) (h5 : slcV x vl vu vst s4 = r) : ev C (.slc o l u st) loc s = r := bindI h1 (bindI h2 (bindI h3 (bindI h4 h5)))
theorem ev_iteT {c : E} (h : ev C c loc s = some (x, s1)) (ht : truth x s1 = some true) (h2 : ev C a loc s1 = r) : ev C (.ite c a e) loc s = r := bindI h (bindI ht h2)
theorem ev_iteF {c : E} (h : ev C c loc s = some (x, s1)) (ht : truth x s1 = some false) (h2 : ev C e loc s1 = r) : ev C (.ite c a e) loc s = r := bindI h (bindI ht h2)
theorem log_stop {w : Bool} (h : ev C e loc s = some (x, s1)) (ht : truth x s1 = some (!w)) : evLog C w (e :: a :: es) loc s = some (x, s1) := bindI h (bindI ht (by cases w <;> rfl))
theorem log_go {w : Bool} {r : Option (V × AH)} (h : ev C e loc s = some (x, s1)) (ht : truth x s1 = some w) (h2 : evLog C w (a :: es) loc s1 = r) : evLog C w (e :: a :: es) loc s = r := bindI h (bindI ht (by cases w <;> exact h2))
theorem log_last {w : Bool} (h : ev C e loc s = some (x, s1)) : evLog C w [e] loc s = some (x, s1) := bindI h rfl
theorem ifs_go {r : Option (Bool × AH)} (h : ev C e loc s = some (x, s1)) (ht : truth x s1 = some true) (h2 : evIfs C es loc s1 = r) : evIfs C (e :: es) loc s = r := bindI h (bindI ht h2)
theorem ifs_stop (h : ev C e loc s = some (x, s1)) (ht : truth x s1 = some false) : evIfs C (e :: es) loc s = some (false, s1) := bindI h (bindI ht rfl)
end

/-! ## the statements -/
section
variable {C : Oracle} {c a e o i : E} {st : S} {ss A B : List S} {loc l l1 : Loc} {s s1 s2 s3 : AH} {v x y k : V} {vs : List V} {b : Bool} {r : Option (Fl × Loc × AH)}
theorem exs_cons (h : ex C st l s = some (.next, l1, s1)) (k : exs C ss l1 s1 = r) : exs C (st :: ss) l s = r := bindI h k
theorem exs_ret (h : ex C st l s = some (.ret v, l1, s1)) : exs C (st :: ss) l s = some (.ret v, l1, s1) := bindI h rfl
theorem exs_one (h : ex C st l s = some (.next, l1, s1)) : exs C [st] l s = some (.next, l1, s1) := bindI h rfl
theorem ex_set {n : Nat} (h : ev C e loc s = some (v, s1)) : ex C (.assign (.var n) e) loc s = some (.next, loc.set n (some v), s1) := bindI h rfl
theorem ex_sets {is : List Nat} (h : ev C e loc s = some (.tup vs, s1)) (hl : vs.length = is.length) : ex C (.assign (.vars is) e) loc s = some (.next, setAll is vs loc, s1) := bindI h (bindI (bindI (if_pos hl) rfl) rfl)
theorem ex_expr (h : ev C e loc s = some (v, s1)) : ex C (.expr e) loc s = some (.next, loc, s1) := bindI h rfl
theorem ex_ret (h : ev C e loc s = some (v, s1)) : ex C (.ret e) loc s = some (.ret v, loc, s1) := bindI h rfl
theorem ex_aug {n : Nat} {op : Operator} (hn : loc[n]? = some (some x)) (h : ev C e loc s = some (y, s1)) (h2 : augV op x y = some v) : ex C (.augVar n op e) loc s = some (.next, loc.set n (some v), s1) := bindI hn (bindI (show some x = some x from rfl) (bindI h (bindI h2 rfl)))
theorem ex_ifT (h : ev C c loc s = some (x, s1)) (ht : truth x s1 = some true) (k : exs C A loc s1 = r) : ex C (.ifS c A B) loc s = r := bindI h (bindI ht k)
theorem ex_ifF (h : ev C c loc s = some (x, s1)) (ht : truth x s1 = some false) (k : exs C B loc s1 = r) : ex C (.ifS c A B) loc s = r := bindI h (bindI ht k)
/-- a test that does not strike -/
theorem ex_no (h : ev C c loc s = some (.bool false, s1)) : ex C (.ifS c A []) loc s = some (.next, loc, s1) := ex_ifF h rfl rfl

noncomputable def forB (C : Oracle) (t : Tgt) (body : List S) : V → Loc → AH → Option ((Loc ⊕ (V × Loc)) × AH) := fun v l s => (assignT t v l s).bind fun l1 => (exs C body l1 s).bind fun r => match r.1 with
  | .next => some (.inl r.2.1, r.2.2)
  | .ret x => some (.inr (x, r.2.1), r.2.2)
theorem ex_for {t : Tgt} {it : E} {j : It} (h : ev C it loc s = some (x, s1)) (hi : iterOf x s1 = some j) (hl : loopM (forB C t A) FUEL j loc s1 = some (.inl l, s2)) : ex C (.forS t it A) loc s = some (.next, l, s2) := bindI h (bindI hi (bindI hl rfl))
theorem ex_forR {t : Tgt} {it : E} {j : It} (h : ev C it loc s = some (x, s1)) (hi : iterOf x s1 = some j) (hl : loopM (forB C t A) FUEL j loc s1 = some (.inr (v, l), s2)) : ex C (.forS t it A) loc s = some (.ret v, l, s2) := bindI h (bindI hi (bindI hl rfl))
theorem for_next {n : Nat} (h : exs C A (loc.set n (some v)) s = some (.next, l, s1)) : forB C (.var n) A v loc s = some (.inl l, s1) := bindI rfl (bindI h rfl)
theorem for_ret {n : Nat} (h : exs C A (loc.set n (some v)) s = some (.ret x, l, s1)) : forB C (.var n) A v loc s = some (.inr (x, l), s1) := bindI rfl (bindI h rfl)
noncomputable def wC (C : Oracle) (c : E) : Loc → AH → Option (Bool × AH) := fun l s => (ev C c l s).bind fun p => (truth p.1 p.2).bind fun t => some (t, p.2)
theorem wC_ok (h : ev C c loc s = some (x, s1)) (ht : truth x s1 = some b) : wC C c loc s = some (b, s1) := bindI h (bindI ht rfl)
theorem ex_while (h : whileM (wC C c) (fun l s => exs C A l s) FUEL loc s = r) : ex C (.whileS c A) loc s = r := h
theorem while_end {f : Loc → AH → Option (Bool × AH)} {g : Loc → AH → Option (Fl × Loc × AH)} {n : Nat} (h : f loc s = some (false, s1)) : whileM f g (n + 1) loc s = some (.next, loc, s1) := bindI h rfl
theorem while_go {f : Loc → AH → Option (Bool × AH)} {g : Loc → AH → Option (Fl × Loc × AH)} {n : Nat} (h : f loc s = some (true, s1)) (h2 : g loc s1 = some (.next, l, s2)) (k : whileM f g n l s2 = r) : whileM f g (n + 1) loc s = r := bindI h (bindI h2 k)
theorem call_ret {d : Nat} {f : Addr} {np ns : Nat} {args : List V} (hT : T03 f = some (.dfn np ns A)) (hn : args.length = np) (h : exs (callN T03 d) A (args.map some ++ List.replicate ns none) s = some (.ret v, l, s1)) : callN T03 (d + 1) f args s = some (v, s1) := bindI hT ((if_pos hn).trans (bindI h rfl))
end

/-! ## the loops -/
section
variable {α β : Type} {f : V → α → AH → Option ((α ⊕ β) × AH)} {a a1 : α} {s s1 : AH} {v : V} {vs : List V} {n k i : Nat} {b : β} {r : Option ((α ⊕ β) × AH)}
theorem lv_nil : loopM f (n + 1) (.vals []) a s = some (.inl a, s) := rfl
theorem lv_go (h : f v a s = some (.inl a1, s1)) (k : loopM f n (.vals vs) a1 s1 = r) : loopM f (n + 1) (.vals (v :: vs)) a s = r := bindI rfl (bindI (show f v a s = _ from h) k)
theorem lv_ret (h : f v a s = some (.inr b, s1)) : loopM f (n + 1) (.vals (v :: vs)) a s = some (.inr b, s1) := bindI rfl (bindI (show f v a s = _ from h) rfl)
theorem next_lst (hl : lstAt (.obj i) s = some vs) (hv : vs[k]? = some v) : nextOf (.lst i k) s = some (some (v, .lst i (k + 1))) := bindI hl (by rw [hv])
theorem ll_nil (hl : lstAt (.obj i) s = some vs) (hk : vs[k]? = none) : loopM f (n + 1) (.lst i k) a s = some (.inl a, s) := bindI (bindI hl (by rw [hk])) rfl
theorem ll_go (hl : lstAt (.obj i) s = some vs) (hv : vs[k]? = some v) (h : f v a s = some (.inl a1, s1)) (q : loopM f n (.lst i (k + 1)) a1 s1 = r) : loopM f (n + 1) (.lst i k) a s = r := bindI (next_lst hl hv) (bindI h q)
theorem ll_ret (hl : lstAt (.obj i) s = some vs) (hv : vs[k]? = some v) (h : f v a s = some (.inr b, s1)) : loopM f (n + 1) (.lst i k) a s = some (.inr b, s1) := bindI (next_lst hl hv) (bindI h rfl)
/-- a loop over values that keeps a property -/
theorem loop_vals (P : List V → α → AH → Prop) (st : ∀ v vs a s, P (v :: vs) a s → ∃ a' s', f v a s = some (.inl a', s') ∧ P vs a' s') (vs : List V) : ∀ (n : Nat) (a : α) (s : AH), vs.length < n → P vs a s → ∃ a' s', loopM f n (.vals vs) a s = some (.inl a', s') ∧ P [] a' s' := by
  induction vs with
  | nil =>
    intro n a s h p
    cases n with
    | zero => exact absurd h (Nat.lt_irrefl _)
    | succ n => exact ⟨a, s, rfl, p⟩
  | cons v vs ih =>
    intro n a s h p
    cases n with
    | zero => exact absurd h (Nat.not_lt_zero _)
    | succ n =>
      obtain ⟨a', s', e, p'⟩ := st v vs a s p
      obtain ⟨a2, s2, e2, p2⟩ := ih n a' s' (Nat.lt_of_succ_lt_succ h) p'
      exact ⟨a2, s2, lv_go e e2, p2⟩
theorem loop_lst (P : Nat → α → AH → Prop) (hl : ∀ k a s, P k a s → lstAt (.obj i) s = some vs) (st : ∀ k v a s, vs[k]? = some v → P k a s → ∃ a' s', f v a s = some (.inl a', s') ∧ P (k + 1) a' s') (m : Nat) :
    ∀ (n k : Nat) (a : α) (s : AH), k + m = vs.length → m < n → P k a s → ∃ a' s', loopM f n (.lst i k) a s = some (.inl a', s') ∧ P vs.length a' s' := by
  induction m with
  | zero =>
    intro n k a s hk h p
    cases n with
    | zero => exact absurd h (Nat.lt_irrefl _)
    | succ n =>
      have hk : k = vs.length := hk
      subst hk
      exact ⟨a, s, ll_nil (hl _ _ _ p) (List.getElem?_eq_none (Nat.le_refl _)), p⟩
  | succ m ih =>
    intro n k a s hk h p
    cases n with
    | zero => exact absurd h (Nat.not_lt_zero _)
    | succ n =>
      have hv : vs[k]? = some vs[k] := List.getElem?_eq_getElem (hk ▸ Nat.lt_add_of_pos_right (Nat.succ_pos m))
      obtain ⟨a', s', e, p'⟩ := st k _ a s hv p
      obtain ⟨a2, s2, e2, p2⟩ := ih n (k + 1) a' s' (by rw [← hk, Nat.add_right_comm]; rfl) (Nat.lt_of_succ_lt_succ h) p'
      exact ⟨a2, s2, ll_go (hl _ _ _ p) hv e e2, p2⟩
end
/-! ## comprehensions -/
noncomputable def genB (C : Oracle) (elt : Loc → AH → Option (V × AH)) (t : Tgt) (ifs : List E) (gs : List G) (loc : Loc) : V → List V → AH → Option ((List V ⊕ Empty) × AH) := fun v acc s => (assignT t v loc s).bind fun l => (evIfs C ifs l s).bind fun b => cond b.1 ((evGens C elt gs l l acc b.2).bind fun r => some (.inl r.1, r.2)) (some (.inl acc, b.2))
section
variable {C : Oracle} {elt : Loc → AH → Option (V × AH)} {e it x y : E} {t : Tgt} {ifs : List E} {gs : List G} {oloc loc : Loc} {acc acc' : List V} {s s1 s2 : AH} {v u : V} {j : It}
theorem gens_mk (hu : unsetT t loc = true) (h : ev C it oloc s = some (v, s1)) (hi : iterOf v s1 = some j) (hl : loopM (genB C elt t ifs gs loc) FUEL j acc s1 = some (.inl acc', s2)) : evGens C elt (.mk t it ifs :: gs) oloc loc acc s = some (acc', s2) := (if_pos hu).trans (bindI h (bindI hi (bindI hl rfl)))
theorem gens_zip (hu : unsetT t loc = true) (h : ev C x oloc s = some (v, s1)) (h2 : ev C y oloc s1 = some (u, s1)) (hi : zipOf t v u s1 = some j) (hl : loopM (genB C elt t ifs gs loc) FUEL j acc s1 = some (.inl acc', s2)) : evGens C elt (.zip t x y ifs :: gs) oloc loc acc s = some (acc', s2) := (if_pos hu).trans (bindI h (bindI h2 (bindI hi (bindI hl rfl))))
theorem ev_comp (h : evGens C (fun l s => ev C e l s) gs loc loc [] s = some (acc, s1)) (hl : acc.length ≤ LIM) : ev C (.comp e gs) loc s = some (.obj s1.length, s1 ++ [.list acc]) := bindI h (newL_ok' hl)
/-- one turn -/
theorem gen_no {n : Nat} (h : evIfs C ifs (loc.set n (some v)) s = some (false, s1)) : genB C elt (.var n) ifs gs loc v acc s = some (.inl acc, s1) := bindI rfl (bindI h rfl)
theorem gen_yes {n : Nat} (h : evIfs C ifs (loc.set n (some v)) s = some (true, s1)) (h2 : evGens C elt gs (loc.set n (some v)) (loc.set n (some v)) acc s1 = some (acc', s2)) : genB C elt (.var n) ifs gs loc v acc s = some (.inl acc', s2) := bindI rfl (bindI h (bindI h2 rfl))
theorem gens_end (h : elt loc s = some (v, s1)) (ha : acc.length < LIM) : evGens C elt [] oloc loc acc s = some (acc ++ [v], s1) := bindI h (if_pos ha)
end
theorem filterMap_len {α β : Type} (g : α → Option β) (l : List α) : (l.filterMap g).length ≤ l.length := List.length_filterMap_le ..
theorem fuel_lim : FUEL ≤ LIM := by decide
theorem opt_len {α : Type} (o : Option α) : o.toList.length ≤ 1 := by cases o; exact Nat.zero_le _; exact Nat.le_refl _
/-- a comprehension of one generator: what it keeps is given by g -/
theorem comp_run {f : V → List V → AH → Option ((List V ⊕ Empty) × AH)} {vs : List V} {s : AH} {j : It} (g : V → Option V) (hl : vs.length < FUEL) (hj : j = .vals vs ∨ ∃ i, j = .lst i 0 ∧ ∀ s', Ext s s' → lstAt (.obj i) s' = some vs)
    (st : ∀ v acc s', v ∈ vs → Ext s s' → acc.length < LIM → ∃ s2, f v acc s' = some (.inl (acc ++ (g v).toList), s2) ∧ Ext s' s2) : ∃ s', loopM f FUEL j [] s = some (.inl (vs.filterMap g), s') ∧ Ext s s' := by
  have main : ∀ (us vs' : List V), vs = vs' ++ us → ∀ (n : Nat) (s' : AH), us.length < n → Ext s s' → ∃ s2, (loopM f n (.vals us) (vs'.filterMap g) s' = some (.inl (vs.filterMap g), s2) ∧ Ext s s2) ∧ ∀ i, (∀ s', Ext s s' → lstAt (.obj i) s' = some vs) → loopM f n (.lst i vs'.length) (vs'.filterMap g) s' = some (.inl (vs.filterMap g), s2) := by
    intro us
    induction us with
    | nil =>
      intro vs' e n s' hn hx
      cases n with
      | zero => exact absurd hn (Nat.lt_irrefl _)
      | succ n =>
        rw [List.append_nil] at e
        subst e
        exact ⟨s', ⟨rfl, hx⟩, fun i hi => ll_nil (hi s' hx) (List.getElem?_eq_none (Nat.le_refl _))⟩
    | cons u us ih =>
      intro vs' e n s' hn hx
      cases n with
      | zero => exact absurd hn (Nat.not_lt_zero _)
      | succ n =>
        have hm : u ∈ vs := by rw [e]; exact List.mem_append_right _ (List.mem_cons_self ..)
        have hlen : (vs'.filterMap g).length < LIM := Nat.lt_of_lt_of_le (Nat.lt_of_le_of_lt (Nat.le_trans (filterMap_len g vs') (by rw [e, List.length_append]; exact Nat.le_add_right ..)) hl) fuel_lim
        obtain ⟨s2, e2, x2⟩ := st u (vs'.filterMap g) s' hm hx hlen
        obtain ⟨s3, ⟨e3, x3⟩, e4⟩ := ih (vs' ++ [u]) (by rw [e, List.append_assoc]; rfl) n s2 (Nat.lt_of_succ_lt_succ hn) (hx.trans x2)
        have hf : (vs' ++ [u]).filterMap g = vs'.filterMap g ++ (g u).toList := by
          rw [List.filterMap_append]
          cases hg : g u with
          | none => rw [List.filterMap_cons_none hg]; rfl
          | some b => rw [List.filterMap_cons_some hg]; rfl
        rw [hf] at e3 e4
        refine ⟨s3, ⟨lv_go e2 e3, x3⟩, fun i hi => ll_go (hi s' hx) (by rw [e]; exact (by rw [List.getElem?_append_right (Nat.le_refl _), Nat.sub_self]; rfl)) e2 ?_⟩
        have := e4 i hi
        rwa [List.length_append] at this
  obtain ⟨s', ⟨e, x⟩, e2⟩ := main vs [] rfl FUEL s hl (.refl s)
  refine ⟨s', ?_, x⟩
  rcases hj with rfl | ⟨i, rfl, hi⟩
  · exact e
  · exact e2 i hi
end Mine.Pu
end
section -- NPb
set_option maxRecDepth 100000
set_option autoImplicit false
namespace Mine.Pu
open PySem

theorem lim_of {n : Nat} (h : Nat.ble n LIM = true) : n ≤ LIM := Nat.le_of_ble_eq_true h
theorem c28 (d : Nat) (s : AH) (x : Int) : callN T03 (d + 1) 28 [.int x] s = some (.bool (decide (x < 256)), s) := rfl
theorem c35 (d : Nat) (s : AH) (x : Int) : callN T03 (d + 1) 35 [.int x] s = some (.bool (decide (x ≥ 256)), s) := rfl
theorem c42 (d : Nat) (s : AH) (x : Int) : callN T03 (d + 1) 42 [.int x] s = some (.bool (decide (x = 0)), s) := rfl

/-! ## _ellipsis_match: pieces scattered in order -/
noncomputable def findAll (w : Cs) (fin : Int) : Int → List Cs → Bool
  | _, [] => true
  | start, p :: ps => let r := findIn p w (w.length + 1) start.toNat fin.toNat
    if r < 0 then false else findAll w fin (r + p.length) ps

theorem findIn_nonneg (p w : Cs) (n : Nat) : ∀ k fin : Nat, ¬ findIn p w n k fin < 0 → 0 ≤ findIn p w n k fin := fun _ _ h => Int.not_lt.mp h

noncomputable abbrev loc49 (p w : Cs) (v2 v3 v4 v5 : Option V) : Loc := some (.str p) :: some (.str w) :: v2 :: v3 :: v4 :: v5 :: List.replicate 8 none
noncomputable abbrev body49 : List S := [(.assign (.var 3) (.mcall (.var 1) .find [(.var 5), (.var 3), (.var 4)])), (.ifS (.cmp (.var 3) [.Lt] [(.lit (.int (0)))]) [(.ret (.lit (.bool false)))] []), (.augVar 3 .Add (.bcall .len [(.var 5)]))]

theorem loop49 (C : Oracle) (q w : Cs) (i : Nat) (ps : List Cs) (s : AH) (hi : lstAt (.obj i) s = some (ps.map V.str)) (v2 : Option V) (hps : ∀ p ∈ ps, p.length ≤ LIM) (us : List Cs) :
    ∀ (n : Nat) (vs : List Cs) (start : Int) (v5 : Option V), ps = vs ++ us → us.length < n → 0 ≤ start →
      ∃ l, loopM (forB C (.var 5) body49) n (.lst i vs.length) (loc49 q w v2 (some (.int start)) (some (.int w.length)) v5) s = some (if findAll w w.length start us = true then .inl l else .inr (.bool false, l), s) := by
  induction us with
  | nil =>
    intro n vs start v5 e hn h0
    cases n with
    | zero => exact absurd hn (Nat.lt_irrefl _)
    | succ n =>
      rw [List.append_nil] at e
      exact ⟨_, ll_nil hi (by rw [e]; exact List.getElem?_eq_none (by rw [List.length_map]; exact Nat.le_refl _))⟩
  | cons p us ih =>
    intro n vs start v5 e hn h0
    cases n with
    | zero => exact absurd hn (Nat.not_lt_zero _)
    | succ n =>
      have hv : (ps.map V.str)[vs.length]? = some (.str p) := by rw [e, List.map_append, ← List.length_map (as := vs) (f := V.str), List.getElem?_append_right (Nat.le_refl _), Nat.sub_self]; rfl
      have hp : p.length ≤ LIM := hps p (by rw [e]; exact List.mem_append_right _ (List.mem_cons_self ..))
      have e1 : ex C (.assign (.var 3) (.mcall (.var 1) .find [(.var 5), (.var 3), (.var 4)])) (loc49 q w v2 (some (.int start)) (some (.int w.length)) (some (.str p))) s = some (.next, loc49 q w v2 (some (.int (findIn p w (w.length + 1) start.toNat w.length))) (some (.int w.length)) (some (.str p)), s) :=
        ex_set (v := .int (findIn p w (w.length + 1) start.toNat w.length)) (by show (if _ then some (V.int _, s) else none) = _; exact if_pos ⟨h0, Int.natCast_nonneg _, Int.le_refl _⟩)
      have e2 : ∀ b, decide (findIn p w (w.length + 1) start.toNat w.length < 0) = b → ev C (.cmp (.var 3) [.Lt] [(.lit (.int (0)))]) (loc49 q w v2 (some (.int (findIn p w (w.length + 1) start.toNat w.length))) (some (.int w.length)) (some (.str p))) s = some (.bool b, s) := fun b h => h ▸ rfl
      by_cases hr : findIn p w (w.length + 1) start.toNat w.length < 0
      · rw [show findAll w w.length start (p :: us) = false from if_pos hr]
        exact ⟨_, ll_ret hi hv (for_ret (exs_cons e1 (exs_ret (ex_ifT (e2 _ (decide_eq_true hr)) rfl rfl))))⟩
      · rw [show findAll w w.length start (p :: us) = findAll w w.length (findIn p w (w.length + 1) start.toNat w.length + p.length) us from if_neg hr]
        obtain ⟨l, h⟩ := ih n (vs ++ [p]) (findIn p w (w.length + 1) start.toNat w.length + p.length) (some (.str p)) (by rw [e, List.append_assoc]; rfl) (Nat.lt_of_succ_lt_succ hn) (Int.add_nonneg (Int.not_lt.mp hr) (Int.natCast_nonneg _))
        rw [List.length_append] at h
        exact ⟨l, ll_go hi hv (for_next (exs_cons e1 (exs_cons (ex_no (e2 _ (decide_eq_false hr))) (exs_one (ex_aug (y := .int p.length) rfl (show (if p.length ≤ LIM then some (V.int p.length, s) else none) = _ from if_pos hp) rfl))))) h⟩

/-- three dots about each of the signs a, o, b -/
noncomputable abbrev want3 (a o b : Nat) : Cs := [46, 46, 46, a, 46, 46, 46, o, 46, 46, 46, b, 46, 46, 46]
theorem split3 (a o b : Nat) (ha : a ≠ 46) (ho : o ≠ 46) (hb : b ≠ 46) : splitOn [46, 46, 46] 16 (want3 a o b) [] = [[], [a], [o], [b], []] := by
  have ne : ∀ {x : Nat}, x ≠ 46 → (46 == x) = false := fun h => beq_eq_false_iff_ne.mpr (Ne.symm h)
  simp only [splitOn, List.isPrefixOf, ne ha, ne ho, ne hb, beq_self_eq_true, Bool.true_and, Bool.and_true, if_true, Bool.false_eq_true, if_false, List.drop, List.length, List.reverse_nil, List.reverse_cons, List.nil_append]
noncomputable abbrev fits (w : Cs) (x o y : Nat) : Bool := findAll w w.length 0 [[], [x], [o], [y], []]
theorem c49 (d : Nat) (s : AH) (a o b : Nat) (w : Cs) (ha : a ≠ 46) (ho : o ≠ 46) (hb : b ≠ 46) (hw : w.length ≤ LIM) : ∃ s', callN T03 (d + 1) 49 [.str (want3 a o b), .str w] s = some (.bool (fits w a o b), s') ∧ Ext s s' := by
  refine ⟨s ++ [O.list [.str [], .str [a], .str [o], .str [b], .str []]], ?_, .app ..⟩
  have hl := new_at s [.str [], .str [a], .str [o], .str [b], .str []]
  have hc : strM (want3 a o b) .split [.str [46, 46, 46]] s = some (.obj s.length, s ++ [O.list [.str [], .str [a], .str [o], .str [b], .str []]]) := by
    show (if 15 ≤ LIM then newL ((splitOn [46, 46, 46] 16 (want3 a o b) []).map .str) s else none) = _
    rw [if_pos (lim_of rfl), split3 a o b ha ho hb]
    exact newL_ok' (lim_of rfl)
  generalize hs2 : s ++ [O.list [.str [], .str [a], .str [o], .str [b], .str []]] = s2 at hl hc
  obtain ⟨l, h⟩ := loop49 (callN T03 d) (want3 a o b) w s.length [[], [a], [o], [b], []] s2 hl (some (.obj s.length)) (by
    intro p hp; rcases hp with _ | ⟨_, _ | ⟨_, _ | ⟨_, _ | ⟨_, _ | ⟨_, hp⟩⟩⟩⟩⟩ <;> first | exact nomatch hp | exact lim_of rfl) _ FUEL [] 0 (some (.str [])) rfl (by decide : 5 < FUEL) (Int.le_refl _)
  have hlen : ∀ l : Loc, l[1]? = some (some (.str w)) → ev (callN T03 d) (.bcall .len [(.var 1)]) l s2 = some (.int w.length, s2) := fun l h => ev_bcall (evs_one (ev_var h)) (if_pos hw)
  have h0 : ev (callN T03 d) (.idx (.var 2) (.lit (.int 0))) (loc49 (want3 a o b) w (some (.obj s.length)) (some (.int 0)) (some (.int w.length)) none) s2 = some (.str [], s2) := ev_idx rfl rfl (idx_lst (k := 0) hl rfl)
  have h4 : ev (callN T03 d) (.idx (.var 2) (.neg (.lit (.int 1)))) (loc49 (want3 a o b) w (some (.obj s.length)) (some (.int 0)) (some (.int w.length)) (some (.str []))) s2 = some (.str [], s2) := ev_idx rfl rfl (idx_last (n := 4) hl rfl rfl)
  have ht : truth (.str []) s2 = some false := (if_pos (lim_of rfl) : (if 0 ≤ LIM then some false else none) = some false)
  have hgt : decide ((0 : Int) > (w.length : Int)) = false := decide_eq_false (Int.not_lt.mpr (Int.natCast_nonneg _))
  have hasS : hasSub [46, 46, 46] (want3 a o b) = true := rfl
  have run : ∃ l, exs (callN T03 d) b49 (loc49 (want3 a o b) w none none none none ++ List.replicate 0 none) s = some (.ret (.bool (fits w a o b)), l, s2) := by
    have tail : ∃ l', exs (callN T03 d) [.forS (.var 5) (.var 2) body49, .ret (.lit (.bool true))] (loc49 (want3 a o b) w (some (.obj s.length)) (some (.int 0)) (some (.int w.length)) (some (.str []))) s2 = some (.ret (.bool (fits w a o b)), l', s2) := by
      cases hf : findAll w w.length 0 [[], [a], [o], [b], []] with
      | true => rw [hf] at h; rw [show fits w a o b = true from hf]; exact ⟨_, exs_cons (ex_for rfl (bindI hl rfl) h) (exs_ret rfl)⟩
      | false => rw [hf] at h; rw [show fits w a o b = false from hf]; exact ⟨_, exs_ret (ex_forR rfl (bindI hl rfl) h)⟩
    obtain ⟨l', tail⟩ := tail
    exact ⟨l', exs_cons (ex_no (s1 := s) (ev_cmp1 rfl rfl rfl)) (exs_cons (ex_set (v := .obj s.length) (ev_mcall rfl rfl rfl hc)) (exs_cons (bindI (ev_cmp1 (b := true) (ev_bcall (evs_one rfl) (len_lst hl)) rfl rfl) rfl) (exs_cons (ex_sets (is := [3, 4]) (ev_tup (evs_cons rfl (evs_one (hlen _ rfl))) (lim_of rfl)) rfl)
      (exs_cons (ex_set h0) (exs_cons (ex_ifF rfl ht rfl) (exs_cons (ex_set h4) (exs_cons (ex_ifF rfl ht rfl) (exs_cons (ex_no (s1 := s2) (by show some (V.bool (decide ((0 : Int) > (w.length : Int))), s2) = _; rw [hgt])) tail))))))))⟩
  obtain ⟨l', run⟩ := run
  exact call_ret rfl rfl run

/-! ## the tests of _law_moves -/
noncomputable def sw (x y s : Nat) : Nat := if s = x then y else if s = y then x else s
noncomputable abbrev chV (c : Nat) : V := .str [c]
noncomputable abbrev elt159 : E := .ite (.cmp (.var 7) [.Eq] [(.var 5)]) (.var 6) (.ite (.cmp (.var 7) [.Eq] [(.var 6)]) (.var 5) (.var 7))
noncomputable abbrev tst159 : E := .fcall 49 [(.bin .Add (.bin .Add (.bin .Add (.bin .Add (.bin .Add (.bin .Add (.lit (.str [46, 46, 46])) (.var 5)) (.lit (.str [46, 46, 46]))) (.var 7)) (.lit (.str [46, 46, 46]))) (.var 6)) (.lit (.str [46, 46, 46]))), (.var 0)]
theorem add_str {a b : Cs} {s : AH} (h : a.length + b.length ≤ LIM) : binV .Add (.str a) (.str b) s = some (.str (a ++ b), s) := bindI rfl (if_pos h)
theorem tst_step (d : Nat) (w : Cs) (x y o : Nat) (v1 v2 v3 v4 : Option V) (rest : Loc) (s : AH) (hx : x ≠ 46) (hy : y ≠ 46) (ho : o ≠ 46) (hw : w.length ≤ LIM) :
    ∃ s', evIfs (callN T03 (d + 1)) [tst159] (some (.str w) :: v1 :: v2 :: v3 :: v4 :: some (chV x) :: some (chV y) :: some (chV o) :: rest) s = some (fits w x o y, s') ∧ Ext s s' := by
  obtain ⟨s', e, hx'⟩ := c49 d s x o y w hx ho hy hw
  refine ⟨s', ?_, hx'⟩
  have h : ev (callN T03 (d + 1)) tst159 (some (.str w) :: v1 :: v2 :: v3 :: v4 :: some (chV x) :: some (chV y) :: some (chV o) :: rest) s = some (.bool (fits w x o y), s') :=
    ev_fcall (evs_cons (ev_bin (ev_bin (ev_bin (ev_bin (ev_bin (ev_bin rfl rfl (add_str (lim_of rfl))) rfl (add_str (lim_of rfl))) rfl (add_str (lim_of rfl))) rfl (add_str (lim_of rfl))) rfl (add_str (lim_of rfl))) rfl (add_str (lim_of rfl))) (evs_one rfl)) e
  cases hf : fits w x o y with
  | true => rw [hf] at h; exact ifs_go h rfl rfl
  | false => rw [hf] at h; exact ifs_stop h rfl
theorem eq_ch (a b : Nat) (s : AH) : compareV .Eq (chV a) (chV b) s = some (decide (a = b)) := by
  show some (decide ([a] = [b])) = _
  rw [Option.some.injEq, decide_eq_decide]
  exact ⟨fun h => (List.cons.inj h).1, fun h => h ▸ rfl⟩
theorem elt_step (C : Oracle) (x y c : Nat) (v0 v1 v2 v3 v4 : Option V) (rest : Loc) (s : AH) : ev C elt159 (v0 :: v1 :: v2 :: v3 :: v4 :: some (chV x) :: some (chV y) :: some (chV c) :: rest) s = some (chV (sw x y c), s) := by
  unfold sw
  by_cases h1 : c = x
  · rw [if_pos h1]; exact ev_iteT (ev_cmp1 rfl rfl ((eq_ch c x s).trans (congrArg some (decide_eq_true h1)))) rfl rfl
  · rw [if_neg h1]
    refine ev_iteF (ev_cmp1 rfl rfl ((eq_ch c x s).trans (congrArg some (decide_eq_false h1)))) rfl ?_
    by_cases h2 : c = y
    · rw [if_pos h2]; exact ev_iteT (ev_cmp1 rfl rfl ((eq_ch c y s).trans (congrArg some (decide_eq_true h2)))) rfl rfl
    · rw [if_neg h2]; exact ev_iteF (ev_cmp1 rfl rfl ((eq_ch c y s).trans (congrArg some (decide_eq_false h2)))) rfl rfl
end Mine.Pu
end
section -- NPc
set_option maxRecDepth 100000
set_option autoImplicit false
namespace Mine.Pu
open PySem

theorem iter_rng {a b : Int} {s : AH} (ha : a.natAbs ≤ LIM) (hb : b.natAbs ≤ LIM) : iterOf (.rng a b 1) s = some (.vals (rngL a b 1)) := if_pos ⟨ha, hb, .inl rfl⟩
/-! ## _law_moves -/
noncomputable def xOf (l : List Nat) (way : Int) (k : Nat) : Nat := if way = 1 then l.getD k 0 else l.getD (k + 1) 0
noncomputable def yOf (l : List Nat) (way : Int) (k : Nat) : Nat := if way = 1 then l.getD (k + 1) 0 else l.getD k 0
noncomputable def move1 (l : List Nat) (way : Int) (w : Cs) (k : Nat) : Option Cs := if ((l.drop (k + 2)).any fun o => fits w (xOf l way k) o (yOf l way k)) = true then some (w.map (sw (xOf l way k) (yOf l way k))) else none
noncomputable def movesL (l : List Nat) (way : Int) (w : Cs) : List Cs := (List.range 4).filterMap (move1 l way w)

noncomputable def gT (w : Cs) (x y : Nat) (v : V) : Option V := (asStr v).bind fun s => (oneC s).bind fun o => if fits w x o y = true then some v else none
noncomputable def gM (x y : Nat) (v : V) : Option V := (asStr v).bind fun s => (oneC s).bind fun o => some (chV (sw x y o))
theorem gT_any (w : Cs) (x y : Nat) (l : List Nat) : (!((l.map chV).filterMap (gT w x y)).isEmpty) = l.any fun o => fits w x o y := by
  induction l with
  | nil => rfl
  | cons o l ih =>
    rw [List.any_cons, List.map_cons]
    cases h : fits w x o y with
    | true => rw [List.filterMap_cons_some (show gT w x y (chV o) = some (chV o) from if_pos h)]; rfl
    | false => rw [List.filterMap_cons_none (show gT w x y (chV o) = none from if_neg (h ▸ Bool.false_ne_true)), ih, Bool.false_or]
theorem gM_map (x y : Nat) (w : Cs) : (w.map chV).filterMap (gM x y) = (w.map (sw x y)).map chV := by
  induction w with
  | nil => rfl
  | cons c w ih => rw [List.map_cons, List.filterMap_cons_some (show gM x y (chV c) = some (chV (sw x y c)) from rfl), ih]; rfl
theorem strs_str (l : List Cs) : strsOf (l.map V.str) = some l := by
  induction l with
  | nil => rfl
  | cons c w ih => exact bindI rfl (bindI ih rfl)
theorem ch_str (w : Cs) : w.map chV = (w.map fun c => [c]).map V.str := by rw [List.map_map]; rfl
theorem strs_ch (w : Cs) : strsOf (w.map chV) = some (w.map fun c => [c]) := (ch_str w) ▸ strs_str _
theorem joinL_flat (l : List Cs) : joinL [] l = l.flatten := by
  induction l with
  | nil => rfl
  | cons x l ih =>
    cases l with
    | nil => exact (List.append_nil x).symm
    | cons y r => show x ++ [] ++ joinL [] (y :: r) = x ++ (y :: r).flatten; rw [ih, List.append_nil]
theorem joinL_ch (w : Cs) : joinL [] (w.map fun c => [c]) = w := by
  rw [joinL_flat]
  induction w with
  | nil => rfl
  | cons c w ih => rw [List.map_cons, List.flatten_cons, ih]; rfl
theorem join_chs {i : Nat} {w : Cs} {s : AH} (h : lstAt (.obj i) s = some (w.map chV)) (hl : w.length ≤ LIM) : callM (.str []) .join [.obj i] s = some (.str w, s) := by
  have := join_ok [] h (strs_ch w) (by rw [joinL_ch]; exact hl) (lim_of rfl)
  rwa [joinL_ch] at this

/-- the base of a run: what it was called with, and a list of its own -/
structure Own (s0 : AH) (F : Nat) (fs : List V) (s : AH) : Prop where
  ext : Ext s0 s
  hi : s0.length ≤ F
  at_ : s[F]? = some (.list fs)
theorem Own.step {s0 s s' : AH} {F : Nat} {fs : List V} (o : Own s0 F fs s) (x : Ext s s') : Own s0 F fs s' := ⟨o.ext.trans x, o.hi, x.get o.at_⟩
theorem Own.set {s0 s : AH} {F : Nat} {fs : List V} (o : Own s0 F fs s) (gs : List V) : Own s0 F gs (s.set F (.list gs)) := ⟨o.ext.set o.hi _, o.hi, List.getElem?_set_self (List.getElem?_eq_some_iff.mp o.at_).1⟩
theorem Own.lst {s0 s : AH} {F : Nat} {fs : List V} (o : Own s0 F fs s) : lstAt (.obj F) s = some fs := lst_at o.at_

noncomputable abbrev loc159 (w : Cs) (L F : Nat) (way : Int) (v4 v5 v6 : Option V) : Loc := some (.str w) :: some (.obj L) :: some (.int way) :: some (.obj F) :: v4 :: v5 :: v6 :: none :: List.replicate 7 none
noncomputable abbrev stA : S := .assign (.vars [5, 6]) (.slc (.slc (.var 1) (.var 4) (.bin .Add (.var 4) (.lit (.int (2)))) (.lit .none)) (.lit .none) (.lit .none) (.var 2))
noncomputable abbrev slc159 : E := .slc (.var 1) (.bin .Add (.var 4) (.lit (.int (2)))) (.lit .none) (.lit .none)
noncomputable abbrev cmp159 : E := .comp (.var 7) [(.mk (.var 7) slc159 [tst159])]
noncomputable abbrev comp159 : E := .comp elt159 [(.mk (.var 7) (.var 0) [])]
noncomputable abbrev app159 : S := .expr (.mcall (.var 3) .append [(.mcall (.lit (.str [])) .join [comp159])])
noncomputable abbrev body159 : List S := [stA, .ifS cmp159 [app159] []]
noncomputable abbrev five (l0 l1 l2 l3 l4 : Nat) : List Nat := [l0, l1, l2, l3, l4]
theorem four {k : Nat} {P : Nat → Prop} (hk : k < 4) (h0 : P 0) (h1 : P 1) (h2 : P 2) (h3 : P 3) : P k := by
  match k, hk with
  | 0, _ => exact h0
  | 1, _ => exact h1
  | 2, _ => exact h2
  | 3, _ => exact h3

section
variable {C : Oracle} {w : Cs} {L F : Nat} {way : Int} {k : Nat} {l0 l1 l2 l3 l4 : Nat} {s s0 : AH}
theorem ex_setsL {e : E} {i : Nat} {is : List Nat} {vs : List V} {loc : Loc} {s s1 : AH} (h : ev C e loc s = some (.obj i, s1)) (hl : lstAt (.obj i) s1 = some vs) (hn : vs.length = is.length) : ex C (.assign (.vars is) e) loc s = some (.next, setAll is vs loc, s1) := bindI h (bindI (bindI (bindI hl (if_pos hn)) rfl) rfl)
theorem slcA (hL : lstAt (.obj L) s = some ((five l0 l1 l2 l3 l4).map chV)) (hk : k < 4) : slcV (.obj L) (.int (k : Int)) (.int ((k : Int) + 2)) .none s = some (.obj s.length, s ++ [.list [chV ((five l0 l1 l2 l3 l4).getD k 0), chV ((five l0 l1 l2 l3 l4).getD (k + 1) 0)]]) :=
  four (P := fun k => slcV (.obj L) (.int (k : Int)) (.int ((k : Int) + 2)) .none s = some (.obj s.length, s ++ [.list [chV ((five l0 l1 l2 l3 l4).getD k 0), chV ((five l0 l1 l2 l3 l4).getD (k + 1) 0)]])) hk
    (bindI (show seqAt (.obj L) s = _ from hL) (bindI rfl (newL_ok' (lim_of rfl)))) (bindI (show seqAt (.obj L) s = _ from hL) (bindI rfl (newL_ok' (lim_of rfl)))) (bindI (show seqAt (.obj L) s = _ from hL) (bindI rfl (newL_ok' (lim_of rfl)))) (bindI (show seqAt (.obj L) s = _ from hL) (bindI rfl (newL_ok' (lim_of rfl))))
theorem slcB (hL : lstAt (.obj L) s = some ((five l0 l1 l2 l3 l4).map chV)) (hk : k < 4) : slcV (.obj L) (.int ((k : Int) + 2)) .none .none s = some (.obj s.length, s ++ [.list (((five l0 l1 l2 l3 l4).drop (k + 2)).map chV)]) :=
  four (P := fun k => slcV (.obj L) (.int ((k : Int) + 2)) .none .none s = some (.obj s.length, s ++ [.list (((five l0 l1 l2 l3 l4).drop (k + 2)).map chV)])) hk
    (bindI (show seqAt (.obj L) s = _ from hL) (bindI rfl (newL_ok' (lim_of rfl)))) (bindI (show seqAt (.obj L) s = _ from hL) (bindI rfl (newL_ok' (lim_of rfl)))) (bindI (show seqAt (.obj L) s = _ from hL) (bindI rfl (newL_ok' (lim_of rfl)))) (bindI (show seqAt (.obj L) s = _ from hL) (bindI rfl (newL_ok' (lim_of rfl))))
theorem slcW {a b : V} {i : Nat} (hL : lstAt (.obj i) s = some [a, b]) (hw : way = 1 ∨ way = -1) : slcV (.obj i) .none .none (.int way) s = some (.obj s.length, s ++ [.list (if way = 1 then [a, b] else [b, a])]) := by
  rcases hw with rfl | rfl <;> exact bindI (show seqAt (.obj i) s = _ from hL) (bindI rfl (newL_ok' (lim_of rfl)))

theorem stA_ok (v5 v6 : Option V) (hL : s[L]? = some (.list ((five l0 l1 l2 l3 l4).map chV))) (hk : k < 4) (hw : way = 1 ∨ way = -1) :
    ∃ s', ex C stA (loc159 w L F way (some (.int k)) v5 v6) s = some (.next, loc159 w L F way (some (.int k)) (some (chV (xOf (five l0 l1 l2 l3 l4) way k))) (some (chV (yOf (five l0 l1 l2 l3 l4) way k))), s') ∧ Ext s s' := by
  have e1 := slcA (lst_at hL) hk
  have e2 := slcW (way := way) (new_at s [chV ((five l0 l1 l2 l3 l4).getD k 0), chV ((five l0 l1 l2 l3 l4).getD (k + 1) 0)]) hw
  have e3 : ex C stA (loc159 w L F way (some (.int k)) v5 v6) s = some (.next, setAll [5, 6] _ _, _) := ex_setsL (ev_slc (ev_slc rfl rfl (ev_bin rfl rfl rfl) rfl e1) rfl rfl rfl e2) (new_at _ _) (by rcases hw with rfl | rfl <;> rfl)
  rcases hw with rfl | rfl <;> exact ⟨_, e3, (Ext.app _ _).trans (.app _ _)⟩

theorem cmp159_ok (d : Nat) {x y : Nat} (hL : s[L]? = some (.list ((five l0 l1 l2 l3 l4).map chV))) (hk : k < 4) (hw : w.length ≤ LIM) (hx : x ≠ 46) (hy : y ≠ 46) (h46 : ∀ c ∈ five l0 l1 l2 l3 l4, c ≠ 46) :
    ∃ v s', ev (callN T03 (d + 1)) cmp159 (loc159 w L F way (some (.int k)) (some (chV x)) (some (chV y))) s = some (v, s') ∧ truth v s' = some (((five l0 l1 l2 l3 l4).drop (k + 2)).any fun o => fits w x o y) ∧ Ext s s' := by
  have e1 := slcB (lst_at hL) hk
  have h5 : (((five l0 l1 l2 l3 l4).drop (k + 2)).map chV).length ≤ 5 := by rw [List.length_map, List.length_drop]; exact Nat.sub_le _ _
  obtain ⟨s', e, hx'⟩ := comp_run (f := genB (callN T03 (d + 1)) (fun l s => ev (callN T03 (d + 1)) (.var 7) l s) (.var 7) [tst159] [] (loc159 w L F way (some (.int k)) (some (chV x)) (some (chV y)))) (vs := ((five l0 l1 l2 l3 l4).drop (k + 2)).map chV) (s := s ++ [.list (((five l0 l1 l2 l3 l4).drop (k + 2)).map chV)]) (j := .lst s.length 0) (gT w x y) (Nat.lt_of_le_of_lt h5 (by decide)) (.inr ⟨_, rfl, fun s' hx => lst_at (hx.get (top_at ..))⟩) (fun v acc s1 hv hx1 hacc => by
    obtain ⟨o, ho, rfl⟩ := List.mem_map.mp hv
    obtain ⟨s2, e2, x2⟩ := tst_step d w x y o (some (.obj L)) (some (.int way)) (some (.obj F)) (some (.int k)) (List.replicate 7 none) s1 hx hy (h46 o (List.mem_of_mem_drop ho)) hw
    refine ⟨s2, ?_, x2⟩
    cases hf : fits w x o y with
    | false => rw [hf] at e2; rw [show gT w x y (chV o) = none from if_neg (hf ▸ Bool.false_ne_true), Option.toList_none, List.append_nil]; exact gen_no e2
    | true => rw [hf] at e2; rw [show gT w x y (chV o) = some (chV o) from if_pos hf]; exact gen_yes e2 (gens_end rfl hacc))
  exact ⟨_, _, ev_comp (gens_mk rfl (ev_slc rfl (ev_bin rfl rfl rfl) rfl rfl e1) (bindI (new_at _ _) rfl) e) (Nat.le_trans (Nat.le_trans (filterMap_len _ _) h5) (lim_of rfl)), (truth_lst (new_at _ _)).trans (congrArg some (gT_any ..)), (Ext.app _ _).trans (hx'.trans (.app _ _))⟩

theorem app_ok {x y : Nat} {fs : List V} (o : Own s0 F fs s) (hw : w.length < FUEL) (hfs : fs.length < LIM) :
    ∃ s', ex C app159 (loc159 w L F way (some (.int k)) (some (chV x)) (some (chV y))) s = some (.next, loc159 w L F way (some (.int k)) (some (chV x)) (some (chV y)), s') ∧ Own s0 F (fs ++ [.str (w.map (sw x y))]) s' := by
  obtain ⟨s1, e, hx⟩ := comp_run (f := genB C (fun l s => ev C elt159 l s) (.var 7) [] [] (loc159 w L F way (some (.int k)) (some (chV x)) (some (chV y)))) (vs := w.map chV) (s := s) (gM x y) (by rw [List.length_map]; exact hw) (.inl rfl) (fun v acc s1 hv hx1 hacc => by
    obtain ⟨c, hc, rfl⟩ := List.mem_map.mp hv
    exact ⟨s1, gen_yes rfl (gens_end (elt_step C x y c _ _ _ _ _ _ s1) hacc), .refl _⟩)
  rw [gM_map] at e
  have hz : (w.map (sw x y)).length ≤ LIM := by rw [List.length_map]; exact Nat.le_trans (Nat.le_of_lt hw) fuel_lim
  have ec : ev C comp159 (loc159 w L F way (some (.int k)) (some (chV x)) (some (chV y))) s = some (.obj s1.length, s1 ++ [.list ((w.map (sw x y)).map chV)]) := ev_comp (gens_mk rfl rfl rfl e) (by rw [List.length_map]; exact hz)
  have o2 := (o.step hx).step (Ext.app s1 [.list ((w.map (sw x y)).map chV)])
  exact ⟨_, ex_expr (ev_mcall (x := .obj F) rfl (evs_one (ev_mcall rfl (evs_one ec) rfl (join_chs (new_at _ _) hz))) ((kind_at o.at_).trans (kind_at o2.at_).symm) (app_lst o2.at_ hfs)), o2.set _⟩

theorem step159 (d : Nat) {fs : List V} (v4 v5 v6 : Option V) (o : Own s0 F fs s) (hL : s0[L]? = some (.list ((five l0 l1 l2 l3 l4).map chV))) (hk : k < 4) (hwy : way = 1 ∨ way = -1) (hw : w.length < FUEL) (hfs : fs.length < LIM) (h46 : ∀ c ∈ five l0 l1 l2 l3 l4, c ≠ 46) :
    ∃ v5' v6' s', forB (callN T03 (d + 1)) (.var 4) body159 (.int k) (loc159 w L F way v4 v5 v6) s = some (.inl (loc159 w L F way (some (.int k)) v5' v6'), s') ∧ Own s0 F (fs ++ ((move1 (five l0 l1 l2 l3 l4) way w k).map V.str).toList) s' := by
  have mem : ∀ j, j < 5 → (five l0 l1 l2 l3 l4).getD j 0 ≠ 46 := fun j hj => h46 _ (by rw [List.getD_eq_getElem?_getD, List.getElem?_eq_getElem hj]; exact List.getElem_mem hj)
  have hx : xOf (five l0 l1 l2 l3 l4) way k ≠ 46 := by unfold xOf; split <;> exact mem _ (by omega)
  have hy : yOf (five l0 l1 l2 l3 l4) way k ≠ 46 := by unfold yOf; split <;> exact mem _ (by omega)
  obtain ⟨s1, e1, x1⟩ := stA_ok (C := callN T03 (d + 1)) (w := w) (F := F) v5 v6 (o.ext.get hL) hk hwy
  have o1 := o.step x1
  obtain ⟨v, s2, e2, t2, x2⟩ := cmp159_ok (w := w) (F := F) (way := way) d (o1.ext.get hL) hk (Nat.le_trans (Nat.le_of_lt hw) fuel_lim) hx hy h46
  have o2 := o1.step x2
  obtain ⟨s3, e3, o3⟩ := app_ok (C := callN T03 (d + 1)) (w := w) (L := L) (way := way) (k := k) (x := xOf (five l0 l1 l2 l3 l4) way k) (y := yOf (five l0 l1 l2 l3 l4) way k) o2 hw hfs
  unfold move1
  cases hc : (((five l0 l1 l2 l3 l4).drop (k + 2)).any fun o => fits w (xOf (five l0 l1 l2 l3 l4) way k) o (yOf (five l0 l1 l2 l3 l4) way k)) with
  | true =>
    rw [hc] at t2
    exact ⟨_, _, s3, for_next (exs_cons e1 (exs_one (ex_ifT e2 t2 (exs_one e3)))), o3⟩
  | false =>
    rw [hc] at t2
    exact ⟨_, _, s2, for_next (exs_cons e1 (exs_one (ex_ifF e2 t2 rfl))), (List.append_nil fs).symm ▸ o2⟩

theorem c159 (d : Nat) (hL : s[L]? = some (.list ((five l0 l1 l2 l3 l4).map chV))) (hwy : way = 1 ∨ way = -1) (hw : w.length < FUEL) (h46 : ∀ c ∈ five l0 l1 l2 l3 l4, c ≠ 46) :
    ∃ F s', callN T03 (d + 2) 159 [.str w, .obj L, .int way] s = some (.obj F, s') ∧ Own s F ((movesL (five l0 l1 l2 l3 l4) way w).map V.str) s' := by
  have main : ∀ (m j : Nat) (n : Nat) (v4 v5 v6 : Option V) (s1 : AH) (fs : List V), j + m = 4 → m < n → fs.length ≤ j → Own s s.length fs s1 → ∃ l s', loopM (forB (callN T03 (d + 1)) (.var 4) body159) n (.vals (((List.range 4).drop j).map fun (i : Nat) => V.int (i : Int))) (loc159 w L s.length way v4 v5 v6) s1 = some (.inl l, s') ∧ l[3]? = some (some (.obj s.length)) ∧
      Own s s.length (fs ++ (((List.range 4).drop j).filterMap (move1 (five l0 l1 l2 l3 l4) way w)).map V.str) s' := by
    intro m
    induction m with
    | zero =>
      intro j n v4 v5 v6 s1 fs e hn hf o
      have e : j = 4 := e
      subst e
      cases n with
      | zero => exact absurd hn (Nat.lt_irrefl _)
      | succ n => exact ⟨_, s1, rfl, rfl, (List.append_nil fs).symm ▸ o⟩
    | succ m ih =>
      intro j n v4 v5 v6 s1 fs e hn hf o
      have hj : j < 4 := by omega
      cases n with
      | zero => exact absurd hn (Nat.not_lt_zero _)
      | succ n =>
        obtain ⟨a, b, s2, e2, o2⟩ := step159 (w := w) (k := j) d v4 v5 v6 o hL hj hwy hw (Nat.lt_of_le_of_lt hf (Nat.lt_of_lt_of_le hj (lim_of rfl))) h46
        obtain ⟨l, s3, e3, h3, o3⟩ := ih (j + 1) n (some (.int j)) a b s2 _ (by omega) (Nat.lt_of_succ_lt_succ hn) (by
          have := opt_len ((move1 (five l0 l1 l2 l3 l4) way w j).map V.str)
          rw [List.length_append]; omega) o2
        have hd : (List.range 4).drop j = j :: (List.range 4).drop (j + 1) := four (P := fun j => (List.range 4).drop j = j :: (List.range 4).drop (j + 1)) hj rfl rfl rfl rfl
        rw [hd]
        refine ⟨l, s3, lv_go e2 e3, h3, ?_⟩
        rw [List.append_assoc] at o3
        cases hm : move1 (five l0 l1 l2 l3 l4) way w j with
        | none => rw [List.filterMap_cons_none hm]; rw [hm] at o3; exact o3
        | some u => rw [List.filterMap_cons_some hm]; rw [hm] at o3; exact o3
  obtain ⟨l, s', e, h3, o⟩ := main 4 0 FUEL none none none (s ++ [.list []]) [] rfl (by decide) (Nat.le_refl _) ⟨.app _ _, Nat.le_refl _, top_at ..⟩
  refine ⟨s.length, s', call_ret rfl rfl (exs_cons (ex_set (ev_list (es := []) rfl (lim_of rfl))) (exs_cons (ex_for (ev_bcall (evs_one rfl) rfl) (iter_rng (a := 0) (b := 4) (lim_of rfl) (lim_of rfl)) (by exact e)) (exs_ret (ex_ret (ev_var h3))))), o⟩
end
end Mine.Pu
end
section -- NPd
set_option maxRecDepth 100000
set_option autoImplicit false
namespace Mine.Pu
open PySem

/-! ## _law_run -/
noncomputable def popL (x : Nat) : List Nat → List Int → Cs → List Nat × List Int × Cs
  | [], row, out => ([], row, out)
  | t :: st, row, out => if t < x then popL x st (row ++ [255 - (st.length : Int)]) (out ++ [t]) else (t :: st, row, out)
noncomputable def runStep (z : List Nat × List Int × Cs) (x : Nat) : List Nat × List Int × Cs := (x :: (popL x z.1 z.2.1 z.2.2).1, (popL x z.1 z.2.1 z.2.2).2.1 ++ [256 + ((popL x z.1 z.2.1 z.2.2).1.length : Int)], (popL x z.1 z.2.1 z.2.2).2.2)
noncomputable def runL (w : Cs) : List Nat × List Int × Cs := w.foldl runStep ([], [], [])
noncomputable def endL : List Nat → List Int → Cs → List Int × Cs
  | [], row, out => (row, out)
  | t :: st, row, out => endL st (row ++ [255 - (st.length : Int)]) (out ++ [t])
noncomputable def rowOf (w : Cs) : List Int := (endL (runL w).1 (runL w).2.1 (runL w).2.2).1 ++ [0]
noncomputable def outOf (w : Cs) : Cs := (endL (runL w).1 (runL w).2.1 (runL w).2.2).2
noncomputable def heldOf (w : Cs) : Cs := ((runL w).1.reverse.map fun c => [32, c]).flatten

/-- what the lists may hold together -/
structure Fit (N : Nat) (st : List Nat) (row : List Int) (out : Cs) : Prop where
  r : row.length + st.length ≤ N
  o : out.length + st.length ≤ N
theorem shift {α β : Type} {l : List α} {a : α} {st : List β} {t : β} {N : Nat} (h : l.length + (t :: st).length ≤ N) : (l ++ [a]).length + st.length ≤ N := by
  rw [List.length_append]
  exact Nat.le_trans (Nat.le_of_eq (Nat.succ_add_eq_add_succ ..)) h
theorem Fit.turn {N t : Nat} {st : List Nat} {row : List Int} {out : Cs} (f : Fit N (t :: st) row out) (i : Int) : Fit N st (row ++ [i]) (out ++ [t]) := ⟨shift f.r, shift f.o⟩
theorem Fit.lt {N t : Nat} {st : List Nat} {row : List Int} {out : Cs} (f : Fit N (t :: st) row out) (h : N ≤ 900) : row.length < LIM ∧ out.length + 1 ≤ LIM :=
  have hN : N ≤ LIM := Nat.le_trans h (lim_of rfl)
  ⟨Nat.lt_of_lt_of_le (Nat.lt_of_lt_of_le (Nat.lt_add_of_pos_right (Nat.succ_pos _)) f.r) hN, Nat.le_trans (Nat.lt_of_lt_of_le (Nat.lt_add_of_pos_right (Nat.succ_pos _)) f.o) hN⟩
theorem popL_fit (x : Nat) {N : Nat} (st : List Nat) : ∀ (row : List Int) (out : Cs), Fit N st row out → Fit N (popL x st row out).1 (popL x st row out).2.1 (popL x st row out).2.2 := by
  induction st with
  | nil => exact fun _ _ f => f
  | cons t st ih =>
    intro row out f
    by_cases h : t < x
    · rw [show popL x (t :: st) row out = popL x st (row ++ [255 - (st.length : Int)]) (out ++ [t]) from if_pos h]; exact ih _ _ (f.turn _)
    · rw [show popL x (t :: st) row out = (t :: st, row, out) from if_neg h]; exact f
theorem runStep_fit {N : Nat} {z : List Nat × List Int × Cs} (f : Fit N z.1 z.2.1 z.2.2) (x : Nat) : Fit (N + 2) (runStep z x).1 (runStep z x).2.1 (runStep z x).2.2 := by
  have q := popL_fit x z.1 z.2.1 z.2.2 f
  refine ⟨?_, Nat.succ_le_succ (Nat.le_succ_of_le q.o)⟩
  show ((popL x z.1 z.2.1 z.2.2).2.1 ++ [_]).length + ((popL x z.1 z.2.1 z.2.2).1.length + 1) ≤ N + 2
  rw [List.length_append, List.length_singleton, Nat.add_add_add_comm]
  exact Nat.add_le_add_right q.r 2
theorem endL_len (st : List Nat) : ∀ (row : List Int) (out : Cs), (endL st row out).1.length = row.length + st.length ∧ (endL st row out).2.length = out.length + st.length := by
  induction st with
  | nil => exact fun _ _ => ⟨rfl, rfl⟩
  | cons t st ih =>
    intro row out
    have := ih (row ++ [255 - (st.length : Int)]) (out ++ [t])
    rw [List.length_append, List.length_append, List.length_singleton, List.length_singleton, Nat.succ_add_eq_add_succ, Nat.succ_add_eq_add_succ] at this
    exact this

noncomputable abbrev tupV (c : Nat) : V := .tup [.str [32], .str [c]]
noncomputable abbrev pileV (st : List Nat) : List V := st.reverse.map tupV
theorem pile_cons (t : Nat) (st : List Nat) : pileV (t :: st) = pileV st ++ [tupV t] := by rw [pileV, List.reverse_cons, List.map_append]; rfl
structure Pile (s0 : AH) (P R : Nat) (st : List Nat) (row : List Int) (s : AH) : Prop where
  ext : Ext s0 s
  hp : s0.length ≤ P
  hr : s0.length ≤ R
  ne : P ≠ R
  p : s[P]? = some (.acc 0 (pileV st))
  r : s[R]? = some (.list (row.map V.int))

noncomputable def leadS : List Nat → Cs
  | [] => []
  | _ :: _ => [32]
noncomputable def topS : List Nat → Cs
  | [] => []
  | t :: _ => [t]
noncomputable abbrev loc166 (w : Cs) (P R : Nat) (out : Cs) (v4 v5 v6 v7 : Option V) : Loc := some (.str w) :: some (.obj P) :: some (.obj R) :: some (.str out) :: v4 :: v5 :: v6 :: v7 :: List.replicate 8 none
noncomputable abbrev stRow (n : Int) (op : Operator) : S := .expr (.mcall (.var 2) .append [(.bin op (.lit (.int n)) (.mcall (.var 1) .part_count []))])
noncomputable abbrev stPop : S := .assign (.vars [5, 6]) (.mcall (.var 1) .pop [])
noncomputable abbrev cnd166 : E := .andE [(.cmp (.var 6) [.NotEq] [(.lit (.str []))]), (.fcall 28 [(.bin .Sub (.bin .Add (.lit (.int (256))) (.bcall .ord [(.var 6)])) (.bcall .ord [(.var 4)]))])]
noncomputable abbrev wb166 : List S := [stRow 255 .Sub, .augVar 3 .Add (.var 6), stPop]
noncomputable abbrev stPush (a b : E) : S := .expr (.mcall (.var 1) .push [a, b])
noncomputable abbrev body166 : List S := [stPop, .whileS cnd166 wb166, .ifS (.cmp (.var 6) [.NotEq] [(.lit (.str []))]) [stPush (.var 5) (.var 6)] [], stRow 256 .Add, stPush (.lit (.str [32])) (.var 4)]
noncomputable abbrev end166 : List S := [(.augVar 3 .Add (.idx (.mcall (.var 1) .pop []) (.lit (.int (1))))), stRow 255 .Sub]
noncomputable abbrev cndE : E := .cmp (.mcall (.var 1) .part_count []) [.Gt] [(.lit (.int (0)))]

section
variable {C : Oracle} {d : Nat} {w : Cs} {P R : Nat} {out : Cs} {v4 v5 v6 v7 : Option V} {s0 s : AH} {st : List Nat} {row : List Int}
theorem Pile.setP (o : Pile s0 P R st row s) (st' : List Nat) : Pile s0 P R st' row (s.set P (.acc 0 (pileV st'))) :=
  ⟨o.ext.set o.hp _, o.hp, o.hr, o.ne, List.getElem?_set_self (List.getElem?_eq_some_iff.mp o.p).1, by rw [List.getElem?_set_ne o.ne]; exact o.r⟩
theorem Pile.setR (o : Pile s0 P R st row s) (row' : List Int) : Pile s0 P R st row' (s.set R (.list (row'.map V.int))) :=
  ⟨o.ext.set o.hr _, o.hp, o.hr, o.ne, by rw [List.getElem?_set_ne (Ne.symm o.ne)]; exact o.p, List.getElem?_set_self (List.getElem?_eq_some_iff.mp o.r).1⟩
theorem pop_pile (o : Pile s0 P R st row s) : ∃ s', callM (.obj P) .pop [] s = some (.tup [.str (leadS st), .str (topS st)], s') ∧ Pile s0 P R st.tail row s' := by
  cases st with
  | nil => exact ⟨s, bindI o.p rfl, o⟩
  | cons t st =>
    refine ⟨_, bindI o.p ?_, o.setP st⟩
    show (match (pileV (t :: st)).getLast? with | some v => some (v, s.set P (.acc 0 (pileV (t :: st)).dropLast)) | none => some (.tup [.str [], .str []], s)) = _
    rw [pile_cons, List.getLast?_concat, List.dropLast_concat]
    rfl
theorem push_pile (o : Pile s0 P R st row s) (c : Nat) (h : st.length < LIM) : ∃ s', callM (.obj P) .push [.str [32], .str [c]] s = some (.none, s') ∧ Pile s0 P R (c :: st) row s' := by
  refine ⟨_, bindI o.p (bindI rfl (bindI rfl (bindI rfl (if_pos (by rw [List.length_map, List.length_reverse]; exact h))))), ?_⟩
  have := o.setP (c :: st)
  rw [pile_cons] at this
  exact this
theorem cnt_pile (o : Pile s0 P R st row s) : ev C (.mcall (.var 1) .part_count []) (loc166 w P R out v4 v5 v6 v7) s = some (.int st.length, s) :=
  ev_mcall (x := .obj P) (vs := []) rfl rfl rfl (bindI o.p (by show some (V.int (pileV st).length, s) = _; rw [List.length_map, List.length_reverse]))
theorem stPop_ok (o : Pile s0 P R st row s) : ∃ s', ex C stPop (loc166 w P R out v4 v5 v6 v7) s = some (.next, loc166 w P R out v4 (some (.str (leadS st))) (some (.str (topS st))) v7, s') ∧ Pile s0 P R st.tail row s' := by
  obtain ⟨s', e, o'⟩ := pop_pile o
  exact ⟨s', ex_sets (is := [5, 6]) (ev_mcall (x := .obj P) (vs := []) rfl rfl rfl e) rfl, o'⟩
theorem stRow_ok (n : Int) (op : Operator) (r : Int) (o : Pile s0 P R st row s) (hb : binV op (.int n) (.int st.length) s = some (.int r, s)) (h : row.length < LIM) :
    ∃ s', ex C (stRow n op) (loc166 w P R out v4 v5 v6 v7) s = some (.next, loc166 w P R out v4 v5 v6 v7, s') ∧ Pile s0 P R st (row ++ [r]) s' := by
  refine ⟨_, ex_expr (ev_mcall (x := .obj R) rfl (evs_one (ev_bin rfl (cnt_pile o) hb)) rfl (app_lst o.r (by rw [List.length_map]; exact h))), ?_⟩
  have := o.setR (row ++ [r])
  rw [List.map_append] at this
  exact this
theorem stPush_ok {a b : E} (o : Pile s0 P R st row s) (c : Nat) (h : st.length < LIM) (ha : ev C a (loc166 w P R out v4 v5 v6 v7) s = some (.str [32], s)) (hb : ev C b (loc166 w P R out v4 v5 v6 v7) s = some (.str [c], s)) :
    ∃ s', ex C (stPush a b) (loc166 w P R out v4 v5 v6 v7) s = some (.next, loc166 w P R out v4 v5 v6 v7, s') ∧ Pile s0 P R (c :: st) row s' := by
  obtain ⟨s', e, o'⟩ := push_pile o c h
  exact ⟨s', ex_expr (ev_mcall (x := .obj P) rfl (evs_cons ha (evs_one hb)) rfl e), o'⟩
theorem stOut_ok {e : E} {t : Nat} {s1 : AH} (h : ev C e (loc166 w P R out v4 v5 v6 v7) s = some (.str [t], s1)) (hl : out.length + 1 ≤ LIM) : ex C (.augVar 3 .Add e) (loc166 w P R out v4 v5 v6 v7) s = some (.next, loc166 w P R (out ++ [t]) v4 v5 v6 v7, s1) :=
  ex_aug (x := .str out) (y := .str [t]) rfl h (if_pos hl)
theorem ne_top (t : Nat) (st : List Nat) : ev C (.cmp (.var 6) [.NotEq] [(.lit (.str []))]) (loc166 w P R out v4 v5 (some (.str (topS (t :: st)))) v7) s = some (.bool true, s) := rfl

theorem cnd_ok (x t : Nat) : wC (callN T03 (d + 1)) cnd166 (loc166 w P R out (some (chV x)) v5 (some (.str (topS (t :: st)))) v7) s = some (decide (t < x), s) := by
  refine wC_ok (x := .bool (decide (t < x))) (log_go (ne_top t st) rfl (log_last (ev_fcall (vs := [.int (256 + (t : Int) - x)]) rfl ((c28 ..).trans ?_)))) rfl
  rw [show decide (256 + (t : Int) - x < 256) = decide (t < x) from by rw [decide_eq_decide]; omega]

theorem loopW (x : Nat) {N : Nat} (hN : N ≤ 900) (st : List Nat) : ∀ (row : List Int) (out : Cs) (s : AH) (n : Nat), st.length < n → Fit N st row out → Pile s0 P R st.tail row s →
    ∃ s', whileM (wC (callN T03 (d + 1)) cnd166) (fun l s => exs (callN T03 (d + 1)) wb166 l s) n (loc166 w P R out (some (chV x)) (some (.str (leadS st))) (some (.str (topS st))) v7) s =
      some (.next, loc166 w P R (popL x st row out).2.2 (some (chV x)) (some (.str (leadS (popL x st row out).1))) (some (.str (topS (popL x st row out).1))) v7, s') ∧ Pile s0 P R (popL x st row out).1.tail (popL x st row out).2.1 s' := by
  induction st with
  | nil =>
    intro row out s n hn f o
    cases n with
    | zero => exact absurd hn (Nat.lt_irrefl _)
    | succ n => exact ⟨s, while_end (wC_ok (b := false) (x := .bool false) (log_stop rfl rfl) rfl), o⟩
  | cons t st ih =>
    intro row out s n hn f o
    cases n with
    | zero => exact absurd hn (Nat.not_lt_zero _)
    | succ n =>
      have c := cnd_ok (d := d) (w := w) (P := P) (R := R) (out := out) (v5 := some (.str (leadS (t :: st)))) (v7 := v7) (s := s) (st := st) x t
      by_cases h : t < x
      · rw [show popL x (t :: st) row out = popL x st (row ++ [255 - (st.length : Int)]) (out ++ [t]) from if_pos h]
        rw [decide_eq_true h] at c
        obtain ⟨s1, e1, o1⟩ := stRow_ok (C := callN T03 (d + 1)) (w := w) (out := out) (v4 := some (chV x)) (v5 := some (.str (leadS (t :: st)))) (v6 := some (.str (topS (t :: st)))) (v7 := v7) 255 .Sub (255 - (st.length : Int)) (show Pile s0 P R st row s from o) rfl (f.lt hN).1
        obtain ⟨s3, e3, o3⟩ := stPop_ok (C := callN T03 (d + 1)) (w := w) (out := out ++ [t]) (v4 := some (chV x)) (v5 := some (.str (leadS (t :: st)))) (v6 := some (.str (topS (t :: st)))) (v7 := v7) o1
        obtain ⟨s4, e4, o4⟩ := ih _ _ s3 n (Nat.lt_of_succ_lt_succ hn) (f.turn _) o3
        exact ⟨s4, while_go c (exs_cons e1 (exs_cons (stOut_ok rfl (f.lt hN).2) (exs_one e3))) e4, o4⟩
      · rw [show popL x (t :: st) row out = (t :: st, row, out) from if_neg h]
        rw [decide_eq_false h] at c
        exact ⟨s, while_end c, o⟩

theorem step166 (x : Nat) {N : Nat} (hN : N ≤ 900) (f : Fit N st row out) (o : Pile s0 P R st row s) :
    ∃ v5' v6' s', forB (callN T03 (d + 1)) (.var 4) body166 (chV x) (loc166 w P R out v4 v5 v6 v7) s = some (.inl (loc166 w P R (runStep (st, row, out) x).2.2 (some (chV x)) v5' v6' v7), s') ∧ Pile s0 P R (runStep (st, row, out) x).1 (runStep (st, row, out) x).2.1 s' := by
  obtain ⟨s1, e1, o1⟩ := stPop_ok (C := callN T03 (d + 1)) (w := w) (out := out) (v4 := some (chV x)) (v5 := v5) (v6 := v6) (v7 := v7) o
  obtain ⟨s2, e2, o2⟩ := loopW (d := d) (w := w) (v7 := v7) x hN st row out s1 FUEL (Nat.lt_of_le_of_lt (Nat.le_trans (Nat.le_trans (Nat.le_add_left ..) f.r) hN) (by decide)) f o1
  have q := popL_fit x st row out f
  have hN' : N < LIM := Nat.lt_of_le_of_lt hN (by decide)
  unfold runStep
  show ∃ v5' v6' s', forB _ _ _ _ _ s = some (.inl (loc166 w P R (popL x st row out).2.2 (some (chV x)) v5' v6' v7), s') ∧ Pile s0 P R (x :: (popL x st row out).1) ((popL x st row out).2.1 ++ [256 + ((popL x st row out).1.length : Int)]) s'
  generalize popL x st row out = z at e2 o2 q
  have e3 : ∃ s3, ex (callN T03 (d + 1)) (.ifS (.cmp (.var 6) [.NotEq] [(.lit (.str []))]) [stPush (.var 5) (.var 6)] []) (loc166 w P R z.2.2 (some (chV x)) (some (.str (leadS z.1))) (some (.str (topS z.1))) v7) s2 = some (.next, loc166 w P R z.2.2 (some (chV x)) (some (.str (leadS z.1))) (some (.str (topS z.1))) v7, s3) ∧ Pile s0 P R z.1 z.2.1 s3 := by
    obtain ⟨st', row', out'⟩ := z
    cases st' with
    | nil => exact ⟨s2, ex_no rfl, o2⟩
    | cons t st1 =>
      obtain ⟨s3, e, o3⟩ := stPush_ok (C := callN T03 (d + 1)) (a := .var 5) (b := .var 6) (w := w) (out := out') (v4 := some (chV x)) (v5 := some (.str (leadS (t :: st1)))) (v6 := some (.str (topS (t :: st1)))) (v7 := v7) o2 t (Nat.lt_of_le_of_lt (Nat.le_trans (Nat.le_succ _) (Nat.le_trans (Nat.le_add_left ..) q.r)) hN') rfl rfl
      exact ⟨s3, ex_ifT (ne_top t st1) rfl (exs_one e), o3⟩
  obtain ⟨s3, e3, o3⟩ := e3
  obtain ⟨s4, e4, o4⟩ := stRow_ok (C := callN T03 (d + 1)) (w := w) (out := z.2.2) (v4 := some (chV x)) (v5 := some (.str (leadS z.1))) (v6 := some (.str (topS z.1))) (v7 := v7) 256 .Add (256 + (z.1.length : Int)) o3 rfl (Nat.lt_of_le_of_lt (Nat.le_trans (Nat.le_add_right ..) q.r) hN')
  obtain ⟨s5, e5, o5⟩ := stPush_ok (C := callN T03 (d + 1)) (a := .lit (.str [32])) (b := .var 4) (w := w) (out := z.2.2) (v4 := some (chV x)) (v5 := some (.str (leadS z.1))) (v6 := some (.str (topS z.1))) (v7 := v7) o4 x (Nat.lt_of_le_of_lt (Nat.le_trans (Nat.le_add_left ..) q.r) hN') rfl rfl
  exact ⟨_, _, s5, for_next (exs_cons e1 (exs_cons (ex_while e2) (exs_cons e3 (exs_cons e4 (exs_one e5))))), o5⟩

theorem loopE {N : Nat} (hN : N ≤ 900) (st : List Nat) : ∀ (row : List Int) (out : Cs) (s : AH) (n : Nat), st.length < n → Fit N st row out → Pile s0 P R st row s →
    ∃ s', whileM (wC C cndE) (fun l s => exs C end166 l s) n (loc166 w P R out v4 v5 v6 v7) s = some (.next, loc166 w P R (endL st row out).2 v4 v5 v6 v7, s') ∧ Pile s0 P R [] (endL st row out).1 s' := by
  induction st with
  | nil =>
    intro row out s n hn f o
    cases n with
    | zero => exact absurd hn (Nat.lt_irrefl _)
    | succ n => exact ⟨s, while_end (wC_ok (ev_cmp1 (cnt_pile o) rfl rfl) rfl), o⟩
  | cons t st ih =>
    intro row out s n hn f o
    cases n with
    | zero => exact absurd hn (Nat.not_lt_zero _)
    | succ n =>
      obtain ⟨s1, e1, o1⟩ := pop_pile o
      have e2 : ex C (.augVar 3 .Add (.idx (.mcall (.var 1) .pop []) (.lit (.int (1))))) (loc166 w P R out v4 v5 v6 v7) s = some (.next, loc166 w P R (out ++ [t]) v4 v5 v6 v7, s1) :=
        stOut_ok (ev_idx (ev_mcall (x := .obj P) (vs := []) rfl rfl rfl e1) rfl (show (if 2 ≤ LIM then some (V.str [t]) else none) = _ from if_pos (lim_of rfl))) (f.lt hN).2
      obtain ⟨s3, e3, o3⟩ := stRow_ok (C := C) (w := w) (out := out ++ [t]) (v4 := v4) (v5 := v5) (v6 := v6) (v7 := v7) 255 .Sub (255 - (st.length : Int)) (show Pile s0 P R st row s1 from o1) rfl (f.lt hN).1
      obtain ⟨s4, e4, o4⟩ := ih _ _ s3 n (Nat.lt_of_succ_lt_succ hn) (f.turn _) o3
      exact ⟨s4, while_go (wC_ok (b := true) (ev_cmp1 (b := true) (cnt_pile o) rfl (congrArg some (decide_eq_true (Int.natCast_pos.mpr (Nat.succ_pos _))))) rfl) (exs_cons e2 (exs_one e3)) e4, o4⟩
theorem strOf_pile (st : List Nat) : strOfAcc (st.map tupV) = some ((st.map fun c => [32, c]).flatten) := by
  induction st with
  | nil => rfl
  | cons c st ih => exact bindI rfl (bindI rfl (bindI ih rfl))

theorem loop166 {N : Nat} (hN : N ≤ 900) (w2 : Cs) : ∀ (z : List Nat × List Int × Cs) (s : AH) (n : Nat) (v4 v5 v6 : Option V) (M : Nat), w2.length < n → M + 2 * w2.length ≤ N → Fit M z.1 z.2.1 z.2.2 → Pile s0 P R z.1 z.2.1 s →
    ∃ v4' v5' v6' s', loopM (forB (callN T03 (d + 1)) (.var 4) body166) n (.vals (w2.map chV)) (loc166 w P R z.2.2 v4 v5 v6 v7) s = some (.inl (loc166 w P R (w2.foldl runStep z).2.2 v4' v5' v6' v7), s') ∧ Pile s0 P R (w2.foldl runStep z).1 (w2.foldl runStep z).2.1 s' ∧ Fit N (w2.foldl runStep z).1 (w2.foldl runStep z).2.1 (w2.foldl runStep z).2.2 := by
  induction w2 with
  | nil =>
    intro z s n v4 v5 v6 M hn hM f o
    cases n with
    | zero => exact absurd hn (Nat.lt_irrefl _)
    | succ n => exact ⟨v4, v5, v6, s, rfl, o, Nat.le_trans f.r hM, Nat.le_trans f.o hM⟩
  | cons x w2 ih =>
    intro z s n v4 v5 v6 M hn hM f o
    cases n with
    | zero => exact absurd hn (Nat.not_lt_zero _)
    | succ n =>
      obtain ⟨a, b, s1, e1, o1⟩ := step166 (d := d) (w := w) (v4 := v4) (v5 := v5) (v6 := v6) (v7 := v7) x (Nat.le_trans (Nat.le_trans (Nat.le_add_right ..) hM) hN) f o
      obtain ⟨a', b', c', s2, e2, o2, f2⟩ := ih (runStep z x) s1 n (some (chV x)) a b (M + 2) (Nat.lt_of_succ_lt_succ hn) (Nat.le_trans (Nat.le_of_eq (by rw [List.length_cons, Nat.mul_succ, Nat.add_comm (2 * _), Nat.add_assoc])) hM) (runStep_fit f x) o1
      exact ⟨a', b', c', s2, lv_go e1 e2, o2, f2⟩

theorem flat2_len (l : List Nat) : ((l.map fun c => [32, c]).flatten : Cs).length = 2 * l.length := by
  induction l with
  | nil => rfl
  | cons c l ih => rw [List.map_cons, List.flatten_cons, List.length_append, ih]; show 2 + 2 * l.length = 2 * (l.length + 1); rw [Nat.mul_succ, Nat.add_comm]
theorem c166 (d : Nat) (w : Cs) (s : AH) (hw : w.length ≤ 300) : ∃ R s', callN T03 (d + 2) 166 [.str w] s = some (.tup [.obj R, .str (outOf w), .str (heldOf w)], s') ∧ Own s R ((rowOf w).map V.int) s' := by
  obtain ⟨a, b, c, s1, e1, o1, f⟩ := loop166 (N := 600) (d := d) (w := w) (v7 := none) (by decide) w ([], [], []) ((s ++ [.acc 0 []]) ++ [.list []]) FUEL none none none 0 (Nat.lt_of_le_of_lt hw (by decide)) (by rw [Nat.zero_add]; exact Nat.mul_le_mul_left 2 hw) ⟨Nat.le_refl _, Nat.le_refl _⟩
    (P := s.length) (R := (s ++ [O.acc 0 []]).length) ⟨(Ext.app _ _).trans (.app _ _), Nat.le_refl _, by rw [List.length_append]; exact Nat.le_succ _, by rw [List.length_append]; exact Nat.ne_of_lt (Nat.lt_succ_self _), (Ext.app _ _).get (top_at ..), top_at ..⟩
  have h600 : 600 ≤ LIM := lim_of rfl
  have hst : (runL w).1.length ≤ 600 := Nat.le_trans (Nat.le_add_left ..) f.r
  have hheld : (heldOf w).length ≤ LIM := by
    unfold heldOf
    rw [flat2_len, List.length_reverse]
    exact Nat.le_trans (Nat.mul_le_mul_left 2 hst) (lim_of rfl)
  have hel := endL_len (runL w).1 (runL w).2.1 (runL w).2.2
  obtain ⟨s2, e3, o2⟩ := loopE (C := callN T03 (d + 1)) (w := w) (v4 := a) (v5 := b) (v6 := c) (v7 := some (.str (heldOf w))) (by decide) (runL w).1 (runL w).2.1 (runL w).2.2 s1 FUEL (Nat.lt_of_le_of_lt hst (by decide)) f o1
  have hrow : ((endL (runL w).1 (runL w).2.1 (runL w).2.2).1.map V.int ++ [V.int 0]).length ≤ LIM := by rw [List.length_append, List.length_map, hel.1]; exact Nat.le_trans (Nat.add_le_add_right f.r 1) (lim_of rfl)
  have hadd : binV .Add (.obj (s ++ [O.acc 0 []]).length) (.obj s2.length) (s2 ++ [O.list [.int 0]]) = some (.obj (s2 ++ [O.list [.int 0]]).length, (s2 ++ [O.list [.int 0]]) ++ [O.list ((rowOf w).map V.int)]) := by
    unfold rowOf
    rw [List.map_append]
    exact bindI (lst_at ((Ext.app s2 _).get o2.r)) (bindI (new_at ..) (newL_ok' hrow))
  refine ⟨_, _, call_ret (np := 1) (ns := 15) (A := b166) rfl rfl (exs_cons (ex_sets (is := [1, 2, 3]) (ev_tup (evs_cons (v := .obj s.length) rfl (evs_cons (ev_list (es := []) rfl (lim_of rfl)) (evs_one rfl))) (lim_of rfl)) rfl) (exs_cons (ex_for rfl rfl e1) (exs_cons (ex_set (ev_bcall (evs_one rfl) (bindI (bindI rfl (bindI o1.p rfl)) (bindI (strOf_pile _) (if_pos ⟨hheld, ?_⟩))))) (exs_cons (ex_while e3) (exs_ret (ex_ret (ev_tup (evs_cons (ev_bin rfl (ev_list (evs_one rfl) (lim_of rfl)) hadd) (evs_cons rfl (evs_one rfl))) (lim_of rfl)))))))), ⟨o2.ext.trans ((Ext.app _ _).trans (.app _ _)), Nat.le_trans o2.ext.1 (by rw [List.length_append]; exact Nat.le_add_right ..), top_at ..⟩⟩
  rw [List.length_map, List.length_reverse]
  exact Nat.le_trans hst h600
end
end Mine.Pu
end
section -- NPe
set_option maxRecDepth 100000
set_option autoImplicit false
namespace Mine.Pu
open PySem

theorem iteE {α : Type} {c : Prop} [Decidable c] {a b : Option α} {r : α} {G : Prop} (h : (if c then a else b) = some r) (k1 : c → a = some r → G) (k2 : ¬ c → b = some r → G) : G := by
  by_cases hc : c
  · rw [if_pos hc] at h; exact k1 hc h
  · rw [if_neg hc] at h; exact k2 hc h
theorem chv_get {w : Cs} {i : Nat} (h : i < w.length) : (w.map chV)[i]? = some (chV (w.getD i 0)) := by rw [List.getElem?_map, List.getD_eq_getElem?_getD, List.getElem?_eq_getElem h]; rfl
theorem set_at {s : AH} {i : Nat} {vs : List V} (h : i < s.length) : lstAt (.obj i) (s.set i (.list vs)) = some vs := lst_at (List.getElem?_set_self h)
theorem nat_of {z m : Int} (h : 0 < m) {P : Int → Prop} (k : ∀ i : Nat, (i : Int) < m → P (i : Int)) : P (Int.fmod z m) := by
  have h1 := Int.fmod_lt_of_pos z h
  obtain ⟨i, e⟩ := Int.eq_ofNat_of_zero_le (Int.fmod_nonneg_of_pos z h)
  rw [e] at h1 ⊢
  exact k i h1
section
variable {C : Oracle} {o i e o1 i1 o2 i2 e1 e2 : E} {loc : Loc} {s s1 s2 s3 s4 s5 s6 s7 s8 : AH} {x k v y z x1 k1 x2 k2 v1 v2 : V}
theorem ex_augIdx {op : Operator} (h1 : ev C o loc s = some (x, s1)) (h2 : ev C i loc s1 = some (k, s2)) (h3 : idxV x k s2 = some v) (h4 : ev C e loc s2 = some (y, s3)) (h5 : augV op v y = some z) (h6 : setIdxV x k z s3 = some s4) : ex C (.augIdx o i op e) loc s = some (.next, loc, s4) := bindI h1 (bindI h2 (bindI h3 (bindI h4 (bindI h5 (bindI h6 rfl)))))
theorem ex_swap (g1 : ev C e1 loc s = some (v1, s1)) (g2 : ev C e2 loc s1 = some (v2, s2)) (g3 : ev C o1 loc s2 = some (x1, s3)) (g4 : ev C i1 loc s3 = some (k1, s4)) (g5 : setIdxV x1 k1 v1 s4 = some s5) (g6 : ev C o2 loc s5 = some (x2, s6)) (g7 : ev C i2 loc s6 = some (k2, s7)) (g8 : setIdxV x2 k2 v2 s7 = some s8) : ex C (.swap o1 i1 o2 i2 e1 e2) loc s = some (.next, loc, s8) := bindI g1 (bindI g2 (bindI g3 (bindI g4 (bindI g5 (bindI g6 (bindI g7 (bindI g8 rfl)))))))
end

theorem fdiv_ok {a b : Int} {s : AH} (h : ¬ (b = 0 ∨ BIG ≤ b.natAbs)) : binV .FloorDiv (.int a) (.int b) s = some (.int (Int.fdiv a b), s) := if_neg h
theorem mod_ok {a b : Int} {s : AH} (h : b ≠ 0) : binV .Mod (.int a) (.int b) s = some (.int (Int.fmod a b), s) := if_neg h

/-! ## _law_exchanged -/
noncomputable def exchL (w : Cs) (i q : Nat) : Cs := (w.set i (w.getD ((i + 1 + q) % 5) 0)).set ((i + 1 + q) % 5) (w.getD i 0)
noncomputable abbrev loc154 (w : Cs) (n : Int) (v2 v3 v4 : Option V) : Loc := some (.str w) :: some (.int n) :: v2 :: v3 :: v4 :: List.replicate 8 none
theorem c154 (d : Nat) (w : Cs) (hw : w.length = 5) (n : Int) (s : AH) : ∃ i q : Nat, i < 5 ∧ q < 4 ∧ ∃ s', callN T03 (d + 1) 154 [.str w, .int n] s = some (.str (exchL w i q), s') ∧ Ext s s' := by
  have h5 : (w.map chV).length ≤ LIM := by rw [List.length_map, hw]; exact lim_of rfl
  have run : ∀ (i j q : Nat), i < 5 → j < 5 → Int.fmod n 5 = (i : Int) → Int.fmod ((i : Int) + 1 + Int.fmod (Int.fdiv n 5) 4) 5 = (j : Int) → (i + 1 + q) % 5 = j → ∃ s', callN T03 (d + 1) 154 [.str w, .int n] s = some (.str (exchL w i q), s') ∧ Ext s s' := by
    intro i j q hi hj e1 e2 e3
    have L1 := new_at s (w.map chV)
    have hs : s.length < (s ++ [O.list (w.map chV)]).length := by rw [List.length_append]; exact Nat.lt_succ_self _
    have x1 := Ext.app s [O.list (w.map chV)]
    have eL : ev (callN T03 d) (.bcall .list [.var 0]) (loc154 w n none none none) s = some (.obj s.length, s ++ [O.list (w.map chV)]) := ev_bcall (evs_one (ev_var rfl)) (newL_ok' h5)
    generalize s ++ [O.list (w.map chV)] = s1 at L1 hs x1 eL
    have L2 := set_at (vs := (w.map chV).set i (chV (w.getD j 0))) hs
    have x2 := x1.set (Nat.le_refl _) (.list ((w.map chV).set i (chV (w.getD j 0))))
    have hs2 : s.length < (s1.set s.length (.list ((w.map chV).set i (chV (w.getD j 0))))).length := by rw [List.length_set]; exact hs
    generalize hq : s1.set s.length (.list ((w.map chV).set i (chV (w.getD j 0)))) = s2 at L2 x2 hs2
    have hx : ((w.map chV).set i (chV (w.getD j 0))).set j (chV (w.getD i 0)) = (exchL w i q).map chV := by unfold exchL; rw [e3, List.map_set, List.map_set]
    have L3 := set_at (vs := (exchL w i q).map chV) hs2
    have hl : (exchL w i q).length ≤ LIM := by unfold exchL; rw [List.length_set, List.length_set, hw]; exact lim_of rfl
    have S2 := set_lst (v := chV (w.getD i 0)) (k := j) L2 (by rw [List.length_set, List.length_map, hw]; exact hj)
    rw [hx] at S2
    have S1 := set_lst (v := chV (w.getD j 0)) (k := i) L1 (by rw [List.length_map, hw]; exact hi)
    rw [hq] at S1
    have m5 : binV .Mod (.int n) (.int 5) s1 = some (.int (i : Int), s1) := e1 ▸ mod_ok (by decide)
    exact ⟨_, call_ret (np := 2) (ns := 11) (A := b154) rfl rfl (exs_cons (l1 := loc154 w n (some (.obj s.length)) (some (.int (i : Int))) none) (ex_sets (is := [2, 3]) (ev_tup (evs_cons eL (evs_one (ev_bin rfl rfl m5))) (lim_of rfl)) rfl)
      (exs_cons (ex_set (ev_bin (ev_bin (ev_bin rfl rfl rfl) (ev_bin (ev_bin rfl rfl (fdiv_ok (by decide))) rfl (mod_ok (by decide))) rfl) rfl (e2 ▸ mod_ok (by decide))))
      (exs_cons (ex_swap (ev_idx rfl rfl (idx_lst L1 (chv_get (by rw [hw]; exact hj)))) (ev_idx rfl rfl (idx_lst L1 (chv_get (by rw [hw]; exact hi)))) rfl rfl S1 rfl rfl S2) (exs_ret (ex_ret (ev_mcall rfl (evs_one rfl) rfl (join_chs L3 hl))))))), x2.set (Nat.le_refl _) _⟩
  refine nat_of (z := n) (m := 5) (by decide) (P := fun z => Int.fmod n 5 = z → _) (fun i hi e1 => ?_) rfl
  refine nat_of (z := Int.fdiv n 5) (m := 4) (by decide) (P := fun z => Int.fmod (Int.fdiv n 5) 4 = z → _) (fun q hq e2 => ?_) rfl
  have hi' : i < 5 := Int.ofNat_lt.mp hi
  exact ⟨i, q, hi', Int.ofNat_lt.mp hq, run i ((i + 1 + q) % 5) q hi' (Nat.mod_lt _ (by decide)) e1 (by rw [e2, Int.fmod_eq_emod_of_nonneg _ (by decide)]; rfl) rfl⟩

/-! ## _law_hooks -/
noncomputable def two2 : List Int → Option (Int × Int × List Int)
  | i :: c :: cs => some (i, c, cs)
  | _ => none
noncomputable def hooksL : List Int → List Int → Int → Option Int
  | [], _, _ => some 0
  | x :: row, cs, p => if x = 0 then some p else if 256 ≤ x then (if x = 255 + (cs.length : Int) then hooksL row (0 :: cs) p else some 0) else (two2 cs).bind fun q => if x = 256 - ((q.2.2.length + 1 : Nat) : Int) then
        (if 0 ≤ q.2.1 + (1 + q.1) ∧ q.2.1 + (1 + q.1) ≤ 64 ∧ p.natAbs < BIG ∧ (Int.fdiv (1000 ^ (q.2.1 + (1 + q.1)).toNat - 1) 999).natAbs < BIG then hooksL row (List.cons (q.2.1 + (1 + q.1)) q.2.2) (p * Int.fdiv (1000 ^ (q.2.1 + (1 + q.1)).toNat - 1) 999) else none) else some 0
noncomputable abbrev stackV (cs : List Int) : List V := cs.reverse.map V.int
theorem stack_len (cs : List Int) : (stackV cs).length = cs.length := by rw [List.length_map, List.length_reverse]
theorem stack_cons (c : Int) (cs : List Int) : stackV (c :: cs) = stackV cs ++ [.int c] := by rw [stackV, List.reverse_cons, List.map_append]; rfl
theorem stack_top (c : Int) (cs : List Int) : (stackV (c :: cs))[cs.length]? = some (.int c) := by rw [stack_cons, ← stack_len cs]; exact List.getElem?_concat_length
theorem stack_set (c z : Int) (cs : List Int) : (stackV (c :: cs)).set cs.length (.int z) = stackV (z :: cs) := by rw [stack_cons, stack_cons, ← stack_len cs, List.set_append_right _ _ (Nat.le_refl _), Nat.sub_self]; rfl

noncomputable abbrev last173 : E := .idx (.var 1) (.neg (.lit (.int (1))))
noncomputable abbrev body173 : List S := [(.ifS (.fcall 42 [(.var 3)]) [(.ret (.var 2))] []), (.ifS (.fcall 35 [(.var 3)]) [(.ifS (.cmp (.var 3) [.NotEq] [(.bin .Add (.lit (.int (255))) (.bcall .len [(.var 1)]))]) [(.ret (.lit (.int (0))))] []), (.expr (.mcall (.var 1) .append [(.lit (.int (0)))]))] [(.ifS (.fcall 28 [(.var 3)]) [(.assign (.var 4) (.mcall (.var 1) .pop [])), (.ifS (.cmp (.var 3) [.NotEq] [(.bin .Sub (.lit (.int (256))) (.bcall .len [(.var 1)]))]) [(.ret (.lit (.int (0))))] []), (.augIdx (.var 1) (.neg (.lit (.int (1)))) .Add (.bin .Add (.lit (.int (1))) (.var 4))), (.augVar 2 .Mult (.bin .FloorDiv (.bin .Sub (.bin .Pow (.lit (.int (1000))) last173) (.lit (.int (1)))) (.lit (.int (999)))))] [])])]
noncomputable abbrev loc173 (v0 : V) (F : Nat) (p : Int) (v3 v4 : Option V) : Loc := some v0 :: some (.obj F) :: some (.int p) :: v3 :: v4 :: List.replicate 8 none

section
variable {d : Nat} {v0 : V} {F : Nat} {p x : Int} {v3 v4 : Option V} {s0 s : AH} {cs : List Int}
theorem len173 {C : Oracle} (o : Own s0 F (stackV cs) s) : ev C (.bcall .len [(.var 1)]) (loc173 v0 F p (some (.int x)) v4) s = some (.int (cs.length : Int), s) := ev_bcall (evs_one rfl) ((len_lst o.lst).trans (by rw [stack_len]))
theorem step173 (hc : cs.length < 900) (o : Own s0 F (stackV cs) s) (r : Int) (row : List Int) (h : hooksL (x :: row) cs p = some r) :
    (∃ l s', forB (callN T03 (d + 1)) (.var 3) body173 (.int x) (loc173 v0 F p v3 v4) s = some (.inr (.int r, l), s') ∧ Ext s0 s') ∨
    ∃ cs' p' v4' s', hooksL row cs' p' = some r ∧ cs'.length ≤ cs.length + 1 ∧ forB (callN T03 (d + 1)) (.var 3) body173 (.int x) (loc173 v0 F p v3 v4) s = some (.inl (loc173 v0 F p' (some (.int x)) v4'), s') ∧ Own s0 F (stackV cs') s' := by
  have f42 : ev (callN T03 (d + 1)) (.fcall 42 [(.var 3)]) (loc173 v0 F p (some (.int x)) v4) s = some (.bool (decide (x = 0)), s) := ev_fcall (evs_one rfl) (c42 ..)
  have f35 : ev (callN T03 (d + 1)) (.fcall 35 [(.var 3)]) (loc173 v0 F p (some (.int x)) v4) s = some (.bool (decide (x ≥ 256)), s) := ev_fcall (evs_one rfl) (c35 ..)
  have f28 : ev (callN T03 (d + 1)) (.fcall 28 [(.var 3)]) (loc173 v0 F p (some (.int x)) v4) s = some (.bool (decide (x < 256)), s) := ev_fcall (evs_one rfl) (c28 ..)
  refine iteE (show (if x = 0 then some p else _) = some r from h) (fun hx h => ?_) fun hx h => iteE h (fun hx1 h => ?_) fun hx1 h => bindE h fun q hq h => ?_
  · cases h
    exact .inl ⟨_, s, for_ret (exs_ret (ex_ifT f42 (congrArg some (decide_eq_true hx)) (exs_ret rfl))), o.ext⟩
  · have e1 : ex (callN T03 (d + 1)) (.ifS (.fcall 42 [(.var 3)]) [(.ret (.var 2))] []) (loc173 v0 F p (some (.int x)) v4) s = _ := ex_ifF f42 (congrArg some (decide_eq_false hx)) rfl
    have ec : ev (callN T03 (d + 1)) (.cmp (.var 3) [.NotEq] [(.bin .Add (.lit (.int (255))) (.bcall .len [(.var 1)]))]) (loc173 v0 F p (some (.int x)) v4) s = some (.bool (!decide (x = 255 + (cs.length : Int))), s) := ev_cmp1 rfl (ev_bin rfl (len173 o) rfl) rfl
    refine iteE h (fun hxl h => ?_) fun hxl h => ?_
    · rw [decide_eq_true hxl] at ec
      have o' := o.set (stackV (0 :: cs))
      rw [stack_cons] at o'
      exact .inr ⟨0 :: cs, p, v4, _, h, Nat.le_refl _, for_next (exs_cons e1 (exs_one (ex_ifT f35 (congrArg some (decide_eq_true hx1)) (exs_cons (ex_no ec) (exs_one (ex_expr (ev_mcall (x := .obj F) rfl (evs_one rfl) rfl (app_lst o.at_ (by rw [stack_len]; exact Nat.lt_trans hc (by decide)))))))))), (stack_cons 0 cs).symm ▸ o'⟩
    · cases h
      rw [decide_eq_false hxl] at ec
      exact .inl ⟨_, s, for_ret (exs_cons e1 (exs_ret (ex_ifT f35 (congrArg some (decide_eq_true hx1)) (exs_ret (ex_ifT ec rfl (exs_ret rfl)))))), o.ext⟩
  · have e1 : ex (callN T03 (d + 1)) (.ifS (.fcall 42 [(.var 3)]) [(.ret (.var 2))] []) (loc173 v0 F p (some (.int x)) v4) s = _ := ex_ifF f42 (congrArg some (decide_eq_false hx)) rfl
    obtain ⟨i, c, cs'⟩ := q
    have hcs : cs = i :: c :: cs' := by
      match cs, hq with
      | _ :: _ :: _, hq => cases hq; rfl
    subst hcs
    have o1 := o.set (stackV (c :: cs'))
    have e2 : callM (.obj F) .pop [] s = some (.int i, s.set F (.list (stackV (c :: cs')))) := bindI o.at_ (by
      show ((stackV (i :: c :: cs')).getLast?).bind (fun v => some (v, s.set F (.list (stackV (i :: c :: cs')).dropLast))) = _
      rw [stack_cons i, List.getLast?_concat, List.dropLast_concat]; rfl)
    generalize s.set F (.list (stackV (c :: cs'))) = s1 at o1 e2
    have ec : ev (callN T03 (d + 1)) (.cmp (.var 3) [.NotEq] [(.bin .Sub (.lit (.int (256))) (.bcall .len [(.var 1)]))]) (loc173 v0 F p (some (.int x)) (some (.int i))) s1 = some (.bool (!decide (x = 256 - ((cs'.length + 1 : Nat) : Int))), s1) := ev_cmp1 rfl (ev_bin rfl (len173 o1) rfl) rfl
    have e3 : ex (callN T03 (d + 1)) (.assign (.var 4) (.mcall (.var 1) .pop [])) (loc173 v0 F p (some (.int x)) v4) s = some (.next, loc173 v0 F p (some (.int x)) (some (.int i)), s1) := ex_set (ev_mcall (x := .obj F) (vs := []) rfl rfl rfl e2)
    refine iteE h (fun hxl h => ifE h fun hg h => ?_) fun hxl h => ?_
    · rw [decide_eq_true hxl] at ec
      have hn : ∀ z : Int, (stackV (z :: cs')).length = cs'.length + 1 := fun z => stack_len _
      have o2 := o1.set (stackV ((c + (1 + i)) :: cs'))
      have S := set_last (v := .int (c + (1 + i))) o1.lst (hn c)
      rw [stack_set] at S
      exact .inr ⟨_, _, some (.int i), _, h, Nat.le_trans (Nat.le_succ _) (Nat.le_succ _), for_next (exs_cons e1 (exs_one (ex_ifF f35 (congrArg some (decide_eq_false hx1)) (exs_one (ex_ifT f28 (congrArg some (decide_eq_true (Int.not_le.mp hx1))) (exs_cons e3 (exs_cons (ex_no ec) (exs_cons (ex_augIdx rfl rfl (idx_last o1.lst (hn c) (stack_top c cs')) rfl rfl S)
        (exs_one (ex_aug (x := .int p) (y := .int (Int.fdiv (1000 ^ (c + (1 + i)).toNat - 1) 999)) rfl (ev_bin (ev_bin (ev_bin rfl (ev_idx rfl rfl (idx_last o2.lst (hn _) (stack_top _ cs'))) (if_pos ⟨hg.1, hg.2.1, by decide⟩)) rfl rfl) rfl (fdiv_ok (by decide))) (if_pos ⟨hg.2.2.1, hg.2.2.2⟩))))))))))), o2⟩
    · cases h
      rw [decide_eq_false hxl] at ec
      exact .inl ⟨_, s1, for_ret (exs_cons e1 (exs_ret (ex_ifF f35 (congrArg some (decide_eq_false hx1)) (exs_ret (ex_ifT f28 (congrArg some (decide_eq_true (Int.not_le.mp hx1))) (exs_cons e3 (exs_ret (ex_ifT ec rfl (exs_ret rfl))))))))), o1.ext⟩

theorem loop173 {R : Nat} (row0 : List Int) (hR : s0[R]? = some (.list (row0.map V.int))) (r : Int) (us : List Int) : ∀ (n : Nat) (ws : List Int) (p : Int) (v3 v4 : Option V) (s : AH) (cs : List Int), row0 = ws ++ us → us.length < n → cs.length + us.length < 900 → Own s0 F (stackV cs) s → hooksL us cs p = some r →
    ∃ s' l, (loopM (forB (callN T03 (d + 1)) (.var 3) body173) n (.lst R ws.length) (loc173 (.obj R) F p v3 v4) s = some (.inr (.int r, l), s') ∨ (loopM (forB (callN T03 (d + 1)) (.var 3) body173) n (.lst R ws.length) (loc173 (.obj R) F p v3 v4) s = some (.inl l, s') ∧ r = 0)) ∧ Ext s0 s' := by
  induction us with
  | nil =>
    intro n ws p v3 v4 s cs e hn hc o h
    cases n with
    | zero => exact absurd hn (Nat.lt_irrefl _)
    | succ n =>
      cases h
      exact ⟨s, _, .inr ⟨ll_nil (lst_at (o.ext.get hR)) (List.getElem?_eq_none (by rw [List.length_map, e, List.append_nil]; exact Nat.le_refl _)), rfl⟩, o.ext⟩
  | cons x us ih =>
    intro n ws p v3 v4 s cs e hn hc o h
    cases n with
    | zero => exact absurd hn (Nat.not_lt_zero _)
    | succ n =>
      have hl := lst_at (o.ext.get hR)
      have hv : (row0.map V.int)[ws.length]? = some (.int x) := by rw [e, List.map_append, ← List.length_map (as := ws) (f := V.int), List.getElem?_append_right (Nat.le_refl _), Nat.sub_self]; rfl
      rcases step173 (d := d) (v0 := .obj R) (v3 := v3) (v4 := v4) (Nat.lt_of_le_of_lt (Nat.le_add_right ..) hc) o r _ h with ⟨l, s', e2, x2⟩ | ⟨cs', p', v4', s', h', hl', e2, o'⟩
      · exact ⟨s', l, .inl (ll_ret hl hv e2), x2⟩
      · obtain ⟨s2, l, q, x2⟩ := ih n (ws ++ [x]) p' (some (.int x)) v4' s' cs' (by rw [e, List.append_assoc]; rfl) (Nat.lt_of_succ_lt_succ hn) (Nat.lt_of_le_of_lt (Nat.add_le_add_right hl' _) (Nat.lt_of_le_of_lt (Nat.le_of_eq (Nat.succ_add_eq_add_succ ..)) hc)) o' h'
        rw [List.length_append] at q
        exact ⟨s2, l, q.imp (ll_go hl hv e2) fun q => ⟨ll_go hl hv e2 q.1, q.2⟩, x2⟩

theorem c173 (d : Nat) (R : Nat) (row : List Int) (s : AH) (hR : s[R]? = some (.list (row.map V.int))) (hl : row.length < 800) (r : Int) (h : hooksL row [0] 1 = some r) : ∃ s', callN T03 (d + 2) 173 [.obj R] s = some (.int r, s') ∧ Ext s s' := by
  obtain ⟨s', l, q, x⟩ := loop173 (d := d) (s0 := s) (F := s.length) row hR r row FUEL [] 1 none none (s ++ [.list [.int 0]]) [0] rfl (Nat.lt_trans hl (by decide)) (by rw [Nat.add_comm]; exact Nat.lt_of_lt_of_le (Nat.succ_lt_succ hl) (by decide)) ⟨.app _ _, Nat.le_refl _, top_at ..⟩ h
  have hi : iterOf (.obj R) (s ++ [.list [.int 0]]) = some (.lst R 0) := bindI (lst_at ((Ext.app s _).get hR)) rfl
  refine ⟨s', ?_, x⟩
  have st : ex (callN T03 (d + 1)) (.assign (.vars [1, 2]) (.tup [(.list [(.lit (.int (0)))]), (.lit (.int (1)))])) (some (.obj R) :: none :: none :: none :: none :: List.replicate 8 none) s = some (.next, loc173 (.obj R) s.length 1 none none, s ++ [.list [.int 0]]) := ex_sets (is := [1, 2]) (ev_tup (evs_cons (ev_list (evs_one rfl) (lim_of rfl)) (evs_one rfl)) (lim_of rfl)) rfl
  rcases q with q | ⟨q, rfl⟩
  · exact call_ret (np := 1) (ns := 12) (A := b173) rfl rfl (exs_cons st (exs_ret (ex_forR rfl hi q)))
  · exact call_ret (np := 1) (ns := 12) (A := b173) rfl rfl (exs_cons st (exs_cons (ex_for rfl hi q) (exs_ret rfl)))
end
end Mine.Pu
end
section -- NPf
set_option maxRecDepth 100000
set_option autoImplicit false
namespace Mine.Pu
open PySem

theorem idx_fl {vs : List V} {k : Nat} {v : V} {s : AH} (hl : vs.length ≤ LIM) (hv : vs[k]? = some v) : idxV (.flist vs) (.int (k : Int)) s = some v := bindI (if_pos hl) (bindI rfl (bindI (place_nat (List.getElem?_eq_some_iff.mp hv).1) hv))
theorem rng_nat (n : Nat) : rngL 0 (n : Int) 1 = (List.range n).map fun (k : Nat) => V.int (k : Int) := (if_pos rfl).trans (by rw [Int.sub_zero, Int.toNat_natCast]; simp only [Int.zero_add])
theorem ints_get {L : List Int} {k : Nat} (h : k < L.length) : (L.map V.int)[k]? = some (.int L[k]) := by rw [List.getElem?_map, List.getElem?_eq_getElem h]; rfl
theorem popi_lst {s : AH} {i k : Nat} {vs : List V} {v : V} (h : s[i]? = some (.list vs)) (hv : vs[k]? = some v) : callM (.obj i) .pop [.int (k : Int)] s = some (v, s.set i (.list (vs.eraseIdx k))) := bindI h (show (place (k : Int) vs.length).bind (fun n => (vs[n]?).bind fun v => some (v, s.set i (.list (vs.eraseIdx n)))) = _ from bindI (place_nat (List.getElem?_eq_some_iff.mp hv).1) (bindI hv rfl))
theorem chr_int {i : Int} {s : AH} (h : 0 ≤ i ∧ i < 0x110000) : callB .chr [.int i] s = some (.str [i.toNat], s) := if_pos h
theorem chr_ok {c : Nat} {s : AH} (h : c ≤ 50000) : callB .chr [.int (c : Int)] s = some (chV c, s) := chr_int (i := (c : Int)) (by omega)
theorem pow_ok {a b : Int} {s : AH} (h : 0 ≤ b ∧ b ≤ 64 ∧ a.natAbs < 2 ^ 64) : binV .Pow (.int a) (.int b) s = some (.int (a ^ b.toNat), s) := if_pos h
theorem len_fl {vs : List V} {s : AH} (hl : vs.length ≤ LIM) : callB .len [.flist vs] s = some (.int vs.length, s) := bindI (show seqAt (.flist vs) s = some vs from if_pos hl) rfl

/-! ## _law_sums -/
noncomputable abbrev loc140 (sc : List Int) (F : Nat) (v2 : Option V) : Loc := some (.flist (sc.map V.int)) :: some (.obj F) :: v2 :: List.replicate 8 none
noncomputable abbrev body140 : List S := [(.augIdx (.var 1) (.bin .Mod (.var 2) (.lit (.int (6)))) .Add (.bin .Mod (.idx (.var 0) (.var 2)) (.bin .Pow (.lit (.int (10))) (.lit (.int (6))))))]
theorem step140 (C : Oracle) {sc : List Int} {F : Nat} (v2 : Option V) {s0 s : AH} {L : List Int} {k : Nat} (hk : k < sc.length) (hs : sc.length ≤ 63) (hL : L.length = 6) (o : Own s0 F (L.map V.int) s) :
    ∃ (L' : List Int) (s' : AH), L'.length = 6 ∧ forB C (.var 2) body140 (.int k) (loc140 sc F v2) s = some (.inl (loc140 sc F (some (.int k))), s') ∧ Own s0 F (L'.map V.int) s' := by
  have hj : k % 6 < L.length := by rw [hL]; exact Nat.mod_lt _ (by decide)
  have hm : binV .Mod (.int (k : Int)) (.int 6) s = some (.int ((k % 6 : Nat) : Int), s) := (mod_ok (by decide)).trans (by rw [Int.fmod_eq_emod_of_nonneg _ (by decide)]; rfl)
  have hset := set_lst (v := .int (L[k % 6] + Int.fmod sc[k] (10 ^ 6))) (k := k % 6) o.lst (by rw [List.length_map]; exact hj)
  rw [← List.map_set] at hset
  exact ⟨L.set (k % 6) (L[k % 6] + Int.fmod sc[k] (10 ^ 6)), _, by rw [List.length_set, hL], for_next (exs_one (ex_augIdx rfl (ev_bin rfl rfl hm) (idx_lst o.lst (ints_get hj)) (ev_bin (ev_idx rfl rfl (idx_fl (by rw [List.length_map]; exact Nat.le_trans hs (lim_of rfl)) (ints_get hk))) (ev_bin rfl rfl (pow_ok (by decide))) (mod_ok (by decide))) rfl hset)), o.set _⟩
theorem c140 (d : Nat) (sc : List Int) (hs : sc.length ≤ 63) (s : AH) : ∃ (F : Nat) (L : List Int) (s' : AH), L.length = 6 ∧ callN T03 (d + 1) 140 [.flist (sc.map V.int)] s = some (.obj F, s') ∧ Own s F (L.map V.int) s' := by
  have h63 : (sc.map V.int).length ≤ LIM := by rw [List.length_map]; exact Nat.le_trans hs (lim_of rfl)
  obtain ⟨l, s', e, v2, L, -, rfl, hL, o⟩ := loop_vals (f := forB (callN T03 d) (.var 2) body140) (fun rem l s' => ∃ (v2 : Option V) (L : List Int), (∀ v ∈ rem, ∃ k : Nat, V.int (k : Int) = v ∧ k < sc.length) ∧ l = loc140 sc s.length v2 ∧ L.length = 6 ∧ Own s s.length (L.map V.int) s')
    (fun v vs l s1 h => by
      obtain ⟨v2, L, h1, rfl, hL, o⟩ := h
      obtain ⟨k, rfl, hk⟩ := h1 v (List.mem_cons_self ..)
      obtain ⟨L', s2, hL', e, o'⟩ := step140 (callN T03 d) v2 hk hs hL o
      exact ⟨_, s2, e, _, L', fun u hu => h1 u (List.mem_cons_of_mem _ hu), rfl, hL', o'⟩) ((List.range sc.length).map fun (k : Nat) => V.int (k : Int)) FUEL (loc140 sc s.length none) (s ++ [.list (([2, 1, 2, 1, 0, 11264] : List Int).map V.int)])
    (by rw [List.length_map, List.length_range]; exact Nat.lt_of_le_of_lt hs (by decide)) ⟨none, _, fun v hv => (List.mem_map.mp hv).imp fun k h => ⟨h.2, List.mem_range.mp h.1⟩, rfl, rfl, .app _ _, Nat.le_refl _, top_at ..⟩
  rw [← rng_nat, ← List.length_map (as := sc) (f := V.int)] at e
  exact ⟨s.length, L, s', hL, call_ret (np := 1) (ns := 10) (A := b140) rfl rfl (exs_cons (l1 := loc140 sc s.length none) (ex_set (ev_list rfl (lim_of rfl))) (exs_cons (ex_for (ev_bcall (evs_one (ev_bcall (evs_one rfl) (len_fl h63))) rfl) (iter_rng (a := 0) (b := ((sc.map V.int).length : Int)) (lim_of rfl) h63) e) (exs_ret (ex_ret rfl)))), o⟩

/-! ## _law_drawn -/
noncomputable def drawL : List Nat → List Nat → Cs
  | _, [] => []
  | l, i :: is => l.getD i 0 :: drawL (l.eraseIdx i) is
noncomputable abbrev loc147 (S F : Nat) (c : Nat) (v3 v4 v5 : Option V) : Loc := some (.obj S) :: some (.obj F) :: some (.int c) :: v3 :: v4 :: v5 :: List.replicate 8 none
noncomputable abbrev bodyA : List Mine.S := [(.augVar 2 .Add (.bin .Add (.lit (.int (1))) (.bin .Mod (.bin .FloorDiv (.idx (.var 0) (.var 3)) (.bin .Sub (.lit (.int (5))) (.var 3))) (.lit (.int (5000)))))), (.expr (.mcall (.var 1) .append [(.bcall .chr [(.var 2)])]))]
noncomputable abbrev bodyBB : List Mine.S := [(.augVar 5 .Add (.mcall (.var 4) .pop [(.bin .Mod (.idx (.var 0) (.var 3)) (.bin .Sub (.lit (.int (5))) (.var 3)))]))]
theorem stepA {C : Oracle} {S F c : Nat} (k : Nat) {n : Int} {v3 v4 v5 : Option V} {s0 s : AH} {ls : List V} (o : Own s0 F ls s) (hS : idxV (.obj S) (.int (k : Int)) s = some (.int n)) (hk : k < 5) (hc : c ≤ 30000) (hls : ls.length < 100) :
    ∃ c' s', c < c' ∧ c' ≤ c + 5000 ∧ forB C (.var 3) bodyA (.int k) (loc147 S F c v3 v4 v5) s = some (.inl (loc147 S F c' (some (.int k)) v4 v5), s') ∧ Own s0 F (ls ++ [chV c']) s' := by
  refine nat_of (z := Int.fdiv n (5 - k)) (m := 5000) (by decide) (P := fun z => Int.fmod (Int.fdiv n (5 - k)) 5000 = z → _) (fun z hz e => ?_) rfl
  have hz : z < 5000 := Int.ofNat_lt.mp hz
  have hB : ¬ ((5 - (k : Int)) = 0 ∨ BIG ≤ (5 - (k : Int)).natAbs) := by
    have : 5 < BIG := by decide
    omega
  exact ⟨c + (1 + z), _, by omega, by omega, for_next (exs_cons (ex_aug (x := .int c) (y := .int (1 + (z : Int))) (v := .int ((c + (1 + z) : Nat) : Int)) rfl (ev_bin rfl (ev_bin (ev_bin (ev_idx rfl rfl hS) (ev_bin rfl rfl rfl) (fdiv_ok hB)) rfl (e ▸ mod_ok (by decide))) rfl) rfl) (exs_one (ex_expr (ev_mcall (x := .obj F) rfl (evs_one (ev_bcall (evs_one rfl) (chr_ok (by omega)))) rfl (app_lst o.at_ (Nat.lt_trans hls (by decide))))))), o.set _⟩
theorem stepB {C : Oracle} {S F G c : Nat} (k : Nat) {n : Int} {v3 : Option V} {w : Cs} {s0 s : AH} {ls : List Nat} (o : Own s0 G (ls.map chV) s) (hS : idxV (.obj S) (.int (k : Int)) s = some (.int n)) (hk : k < 5) (hls : ls.length = 5 - k) (hw : w.length < 100) :
    ∃ i s', i < 5 - k ∧ forB C (.var 3) bodyBB (.int k) (loc147 S F c v3 (some (.obj G)) (some (.str w))) s = some (.inl (loc147 S F c (some (.int k)) (some (.obj G)) (some (.str (w ++ [ls.getD i 0])))), s') ∧ Own s0 G ((ls.eraseIdx i).map chV) s' := by
  refine nat_of (z := n) (m := 5 - k) (by omega) (P := fun z => Int.fmod n (5 - k) = z → _) (fun i hi e => ?_) rfl
  have hi : i < 5 - k := by omega
  have hp := popi_lst o.at_ (chv_get (hls ▸ hi))
  rw [show (ls.map chV).eraseIdx i = (ls.eraseIdx i).map chV from by rw [List.eraseIdx_eq_take_drop_succ, List.eraseIdx_eq_take_drop_succ, List.map_append, List.map_take, List.map_drop]] at hp
  exact ⟨i, _, hi, for_next (exs_one (ex_aug (x := .str w) (y := chV (ls.getD i 0)) rfl (ev_mcall (x := .obj G) rfl (evs_one (ev_bin (ev_idx rfl rfl hS) (ev_bin rfl rfl rfl) (e ▸ mod_ok (by omega)))) rfl hp) (if_pos (Nat.le_trans (Nat.succ_le_of_lt hw) (lim_of rfl))))), o.set _⟩

theorem c147 (d : Nat) (S : Nat) (n0 n1 n2 n3 n4 n5 : Int) (s : AH) (hS : s[S]? = some (.list ([n0, n1, n2, n3, n4, n5].map V.int))) :
    ∃ l0 l1 l2 l3 l4 i0 i1 i2 i3 i4 F s', (97 ≤ l0 ∧ l0 < l1 ∧ l1 < l2 ∧ l2 < l3 ∧ l3 < l4) ∧ (i0 < 5 ∧ i1 < 4 ∧ i2 < 3 ∧ i3 < 2 ∧ i4 < 1) ∧
      callN T03 (d + 1) 147 [.obj S] s = some (.tup [.obj F, .str (drawL (five l0 l1 l2 l3 l4) [i0, i1, i2, i3, i4])], s') ∧ Own s F ((five l0 l1 l2 l3 l4).map chV) s' := by
  have o0 : Own s s.length [] (s ++ [.list []]) := ⟨.app _ _, Nat.le_refl _, top_at ..⟩
  have ix : ∀ {s'} (x : Ext s s') {k : Nat} {n : Int}, ([n0, n1, n2, n3, n4, n5].map V.int)[k]? = some (V.int n) → idxV (.obj S) (.int (k : Int)) s' = some (.int n) := fun {_} x {_ _} h => idx_lst (lst_at (x.get hS)) h
  obtain ⟨l0, s1, a0, b0, e0, o1⟩ := stepA (C := callN T03 d) (c := 96) (v3 := none) (v4 := none) (v5 := none) 0 o0 (ix o0.ext rfl) (by decide) (by decide) (by decide)
  obtain ⟨l1, s2, a1, b1, e1, o2⟩ := stepA (C := callN T03 d) (c := l0) (v3 := some (.int (0 : Nat))) (v4 := none) (v5 := none) 1 o1 (ix o1.ext rfl) (by decide) (by omega) (by decide : 1 < 100)
  obtain ⟨l2, s3, a2, b2, e2, o3⟩ := stepA (C := callN T03 d) (c := l1) (v3 := some (.int (1 : Nat))) (v4 := none) (v5 := none) 2 o2 (ix o2.ext rfl) (by decide) (by omega) (by decide : 2 < 100)
  obtain ⟨l3, s4, a3, b3, e3, o4⟩ := stepA (C := callN T03 d) (c := l2) (v3 := some (.int (2 : Nat))) (v4 := none) (v5 := none) 3 o3 (ix o3.ext rfl) (by decide) (by omega) (by decide : 3 < 100)
  obtain ⟨l4, s5, a4, b4, e4, o5⟩ := stepA (C := callN T03 d) (c := l3) (v3 := some (.int (3 : Nat))) (v4 := none) (v5 := none) 4 o4 (ix o4.ext rfl) (by decide) (by omega) (by decide : 4 < 100)
  have oF : Own s s.length ((five l0 l1 l2 l3 l4).map chV) s5 := o5
  have oG : Own s5 s5.length ((five l0 l1 l2 l3 l4).map chV) (s5 ++ [.list ((five l0 l1 l2 l3 l4).map chV)]) := ⟨.app _ _, Nat.le_refl _, top_at ..⟩
  obtain ⟨i0, t1, hi0, f0, q1⟩ := stepB (C := callN T03 d) (S := S) (F := s.length) (c := l4) (v3 := some (.int (4 : Nat))) (w := []) 0 oG (ix (oF.ext.trans oG.ext) rfl) (by decide) rfl (by decide)
  have z1 : ((five l0 l1 l2 l3 l4).eraseIdx i0).length = 4 := List.length_eraseIdx_of_lt hi0
  obtain ⟨i1, t2, hi1, f1, q2⟩ := stepB (C := callN T03 d) (S := S) (F := s.length) (c := l4) (v3 := some (.int (0 : Nat))) (w := [_]) 1 q1 (ix (oF.ext.trans q1.ext) rfl) (by decide) z1 (by decide : 1 < 100)
  have z2 : (((five l0 l1 l2 l3 l4).eraseIdx i0).eraseIdx i1).length = 3 := by rw [List.length_eraseIdx_of_lt (z1.symm ▸ hi1), z1]
  obtain ⟨i2, t3, hi2, f2, q3⟩ := stepB (C := callN T03 d) (S := S) (F := s.length) (c := l4) (v3 := some (.int (1 : Nat))) (w := [_, _]) 2 q2 (ix (oF.ext.trans q2.ext) rfl) (by decide) z2 (by decide : 2 < 100)
  have z3 : ((((five l0 l1 l2 l3 l4).eraseIdx i0).eraseIdx i1).eraseIdx i2).length = 2 := by rw [List.length_eraseIdx_of_lt (z2.symm ▸ hi2), z2]
  obtain ⟨i3, t4, hi3, f3, q4⟩ := stepB (C := callN T03 d) (S := S) (F := s.length) (c := l4) (v3 := some (.int (2 : Nat))) (w := [_, _, _]) 3 q3 (ix (oF.ext.trans q3.ext) rfl) (by decide) z3 (by decide : 3 < 100)
  have z4 : (((((five l0 l1 l2 l3 l4).eraseIdx i0).eraseIdx i1).eraseIdx i2).eraseIdx i3).length = 1 := by rw [List.length_eraseIdx_of_lt (z3.symm ▸ hi3), z3]
  obtain ⟨i4, t5, hi4, f4, q5⟩ := stepB (C := callN T03 d) (S := S) (F := s.length) (c := l4) (v3 := some (.int (3 : Nat))) (w := [_, _, _, _]) 4 q4 (ix (oF.ext.trans q4.ext) rfl) (by decide) z4 (by decide : 4 < 100)
  exact ⟨l0, l1, l2, l3, l4, i0, i1, i2, i3, i4, s.length, t5, ⟨a0, a1, a2, a3, a4⟩, ⟨hi0, hi1, hi2, hi3, hi4⟩, call_ret (np := 1) (ns := 13) (A := b147) rfl rfl (exs_cons (ex_sets (is := [1, 2]) (ev_tup (evs_cons (ev_list (es := []) rfl (lim_of rfl)) (evs_one rfl)) (lim_of rfl)) rfl)
    (exs_cons (ex_for (ev_bcall (evs_one rfl) rfl) (iter_rng (a := 0) (b := 5) (lim_of rfl) (lim_of rfl)) (lv_go e0 (lv_go e1 (lv_go e2 (lv_go e3 (lv_go e4 lv_nil))))))
    (exs_cons (ex_sets (is := [4, 5]) (ev_tup (evs_cons (ev_slc rfl rfl rfl rfl (bindI (show seqAt (.obj s.length) s5 = _ from oF.lst) (bindI rfl (newL_ok' (lim_of rfl))))) (evs_one rfl)) (lim_of rfl)) rfl)
    (exs_cons (ex_for (ev_bcall (evs_one rfl) rfl) (iter_rng (a := 0) (b := 5) (lim_of rfl) (lim_of rfl)) (lv_go f0 (lv_go f1 (lv_go f2 (lv_go f3 (lv_go f4 lv_nil)))))) (exs_ret (ex_ret (ev_tup (evs_cons rfl (evs_one rfl)) (lim_of rfl)))))))), oF.step q5.ext⟩
end Mine.Pu
end
section -- NPg
set_option maxRecDepth 100000
set_option autoImplicit false
namespace Mine.Pu
open PySem

noncomputable def heldS (w : Cs) : List Nat := (runL w).1.reverse
noncomputable def heldP (w : Cs) : List Nat := (List.range 5).filterMap fun k => if w.getD k 0 = maxS (w.drop (k + 1)) (w.getD k 0) then some (w.getD k 0) else none
noncomputable def inB (w : Cs) (j i : Nat) : Bool := decide (w.getD j 0 < w.getD i 0 ∧ w.getD i 0 < maxS ((w.take j).drop (i + 1)) (w.getD i 0))
noncomputable def cntIn (w : Cs) (j : Nat) : Nat := ((List.range j).filter (inB w j)).length
noncomputable def cntP (w : Cs) : Nat := cntIn w 0 + cntIn w 1 + cntIn w 2 + cntIn w 3 + cntIn w 4
noncomputable def freshL (l : List Nat) (R : List Cs) (k : Nat) : List Cs := (movesL l 1 (R.getD k [])).filter fun o => !(R.any (· == o))
noncomputable def reachL (l : List Nat) : Nat → List Cs → List Int → Nat → Option (List Cs × List Int)
  | 0, _, _, _ => none
  | n + 1, R, St, k => if k < R.length then reachL l n (R ++ freshL l R k) (St ++ List.replicate (freshL l R k).length (St.getD k 0 + 1)) (k + 1) else some (R, St)
noncomputable def leastP (l : List Nat) : Nat → Cs → Cs
  | 0, v => v
  | n + 1, v => match movesL l (-1) v with
    | [] => v
    | m :: _ => leastP l n m
noncomputable abbrev L0 : List Nat := five 0 1 2 3 4
noncomputable def idxs : List (List Nat) := (List.range 5).flatMap fun a => (List.range 4).flatMap fun b => (List.range 3).flatMap fun c => (List.range 2).map fun d => [a, b, c, d, 0]
noncomputable def perms : List Cs := idxs.map fun is => drawL L0 is
noncomputable def BIGC : Int := 1001 * 1001001 * 1001001001 * 1001001001001
noncomputable def zipP (w : Cs) : List Cs → List Int → List Int
  | o :: R, s :: S => if o == w then s :: zipP w R S else zipP w R S
  | _, _ => []
noncomputable def sumP (S : List Int) : Int := (S.map fun n => (1000 : Int) ^ n.toNat).foldl (· + ·) 0

/-- the way down, of a word over the letters 0 to 4 -/
structure Down (v : Cs) : Prop where
  held : heldS v = heldP v
  few : cntP v < 12
  len : v.length = 5
  row : (rowOf v).length = 11
  fin : movesL L0 (-1) v = [] → cntP v = 0 ∧ leastP L0 12 v = v
  go : ∀ m ∈ movesL L0 (-1) v, m ∈ perms ∧ cntP m + 1 = cntP v ∧ leastP L0 12 m = leastP L0 12 v
noncomputable def chkA (v : Cs) : Bool := decide (heldS v = heldP v) && (decide (cntP v < 12) && (decide (v.length = 5) && (decide ((rowOf v).length = 11) && ((!(movesL L0 (-1) v).isEmpty || decide (cntP v = 0 ∧ leastP L0 12 v = v)) && (movesL L0 (-1) v).all fun m => decide (m ∈ perms) && decide (cntP m + 1 = cntP v ∧ leastP L0 12 m = leastP L0 12 v)))))
theorem allA : perms.all chkA = true := by decide +kernel
theorem and_of {a b : Bool} {G : Prop} (h : (a && b) = true) (k : a = true → b = true → G) : G := by
  rw [Bool.and_eq_true] at h
  exact k h.1 h.2
theorem down_of {v : Cs} (h : v ∈ perms) : Down v :=
  and_of (List.all_eq_true.mp allA v h) fun h1 h => and_of h fun h2 h => and_of h fun h3 h => and_of h fun h3' h => and_of h fun h4 h5 => ⟨of_decide_eq_true h1, of_decide_eq_true h2, of_decide_eq_true h3, of_decide_eq_true h3', fun e => by
    rw [e] at h4
    exact of_decide_eq_true h4, fun m hm => and_of (List.all_eq_true.mp h5 m hm) fun a b => ⟨of_decide_eq_true a, of_decide_eq_true b⟩⟩
/-- the way up -/
structure Up (v : Cs) (R : List Cs) (S : List Int) (g : Int) : Prop where
  len : R.length = S.length
  zip : zipP v R S = [(cntP v : Int)]
  all : ∀ o ∈ R, o.length = 5 ∧ rowOf o = rowOf v ∧ decide (outOf o = L0) = decide (o = leastP L0 12 v)
  rng : ∀ n ∈ S, 0 ≤ n ∧ n ≤ 64
  hook : hooksL (rowOf v) [0] 1 = some g
  prod : sumP S * g = BIGC ∧ (sumP S).natAbs < BIG ∧ g.natAbs < BIG
  exch : ∀ i q : Nat, i < 5 → q < 4 → decide (rowOf (exchL v i q) = rowOf v) = R.any (· == exchL v i q)
noncomputable def chkC (v : Cs) (R : List Cs) (S : List Int) (g : Int) : Bool := decide (R.length = S.length) && (decide (zipP v R S = [(cntP v : Int)]) && ((R.all fun o => decide (o.length = 5 ∧ rowOf o = rowOf v ∧ decide (outOf o = L0) = decide (o = leastP L0 12 v))) && ((S.all fun n => decide (0 ≤ n ∧ n ≤ 64)) && (decide (sumP S * g = BIGC ∧ (sumP S).natAbs < BIG ∧ g.natAbs < BIG) &&
    (List.range 5).all fun i => (List.range 4).all fun q => decide (decide (rowOf (exchL v i q) = rowOf v) = R.any (· == exchL v i q))))))
noncomputable def chkB (v : Cs) : Bool := ((reachL L0 60 [leastP L0 12 v] [0] 0).bind fun p => (hooksL (rowOf v) [0] 1).bind fun g => some (chkC v p.1 p.2 g)) == some true
theorem allB : perms.all chkB = true := by decide +kernel
theorem up_of {v : Cs} (h : v ∈ perms) : ∃ R S g, reachL L0 60 [leastP L0 12 v] [0] 0 = some (R, S) ∧ Up v R S g :=
  bindE (beq_iff_eq.mp (List.all_eq_true.mp allB v h)) fun p hp h => bindE h fun g hg h => ⟨p.1, p.2, g, hp, and_of (Option.some.inj h) fun h1 h => and_of h fun h2 h => and_of h fun h3 h => and_of h fun h4 h => and_of h fun h5 h6 =>
    ⟨of_decide_eq_true h1, of_decide_eq_true h2, fun o ho => of_decide_eq_true (List.all_eq_true.mp h3 o ho), fun n hn => of_decide_eq_true (List.all_eq_true.mp h4 n hn), hg, of_decide_eq_true h5, fun i q hi hq => of_decide_eq_true (List.all_eq_true.mp (List.all_eq_true.mp h6 i (List.mem_range.mpr hi)) q (List.mem_range.mpr hq))⟩⟩

/-! ## the letters as a rising map -/
theorem fm_congr {α β : Type} {f g : α → Option β} {l : List α} (h : ∀ a ∈ l, f a = g a) : l.filterMap f = l.filterMap g := by
  induction l with
  | nil => rfl
  | cons a l ih =>
    rw [List.filterMap_cons, List.filterMap_cons, h a (List.mem_cons_self ..), ih fun b hb => h b (List.mem_cons_of_mem _ hb)]
theorem if_map {α β : Type} {p q : Prop} [Decidable p] [Decidable q] {f : α → β} {a : α} {b : β} (h : p ↔ q) (e : b = f a) : (if p then some b else none) = (if q then some a else none).map f := by
  by_cases hq : q
  · rw [if_pos hq, if_pos (h.mpr hq), e]; rfl
  · rw [if_neg hq, if_neg fun x => hq (h.mp x)]; rfl
noncomputable abbrev mp (φ : Nat → Nat) (w : Cs) : Cs := w.map φ
section
variable {φ : Nat → Nat} (hφ : ∀ a b, a < b → φ a < φ b)
include hφ
theorem phi_lt (a b : Nat) : φ a < φ b ↔ a < b := ⟨fun h => (Nat.lt_trichotomy a b).elim id fun q => q.elim (fun q => absurd h (q ▸ Nat.lt_irrefl _)) fun q => absurd (Nat.lt_trans h (hφ _ _ q)) (Nat.lt_irrefl _), hφ a b⟩
theorem phi_inj (a b : Nat) : φ a = φ b ↔ a = b := ⟨fun h => (Nat.lt_trichotomy a b).elim (fun q => absurd (hφ _ _ q) (h ▸ Nat.lt_irrefl _)) fun q => q.elim id fun q => absurd (hφ _ _ q) (h ▸ Nat.lt_irrefl _), fun h => h ▸ rfl⟩
theorem map_inj (a b : Cs) : mp φ a = mp φ b ↔ a = b := ⟨fun h => (List.map_inj_right (fun x y e => (phi_inj hφ x y).mp e)).mp h, fun h => h ▸ rfl⟩
theorem map_beq (a b : Cs) : (mp φ a == mp φ b) = (a == b) := by rw [Bool.eq_iff_iff, beq_iff_eq, beq_iff_eq]; exact map_inj hφ a b
theorem e_popL (x : Nat) (st : List Nat) : ∀ (row : List Int) (out : Cs), popL (φ x) (mp φ st) row (mp φ out) = (mp φ (popL x st row out).1, (popL x st row out).2.1, mp φ (popL x st row out).2.2) := by
  induction st with
  | nil => exact fun _ _ => rfl
  | cons t st ih =>
    intro row out
    by_cases h : t < x
    · refine (if_pos (hφ _ _ h) : popL (φ x) (φ t :: mp φ st) row (mp φ out) = popL (φ x) (mp φ st) (row ++ [255 - ((mp φ st).length : Int)]) (mp φ out ++ [φ t])).trans ?_
      rw [show popL x (t :: st) row out = popL x st (row ++ [255 - (st.length : Int)]) (out ++ [t]) from if_pos h, ← ih, List.length_map, show mp φ (out ++ [t]) = mp φ out ++ [φ t] from List.map_append]
    · rw [show popL x (t :: st) row out = (t :: st, row, out) from if_neg h]
      exact if_neg fun q => h ((phi_lt hφ _ _).mp q)
noncomputable abbrev mp3 (φ : Nat → Nat) (z : List Nat × List Int × Cs) : List Nat × List Int × Cs := (mp φ z.1, z.2.1, mp φ z.2.2)
theorem e_runStep (z : List Nat × List Int × Cs) (x : Nat) : runStep (mp3 φ z) (φ x) = mp3 φ (runStep z x) := by
  unfold runStep mp3
  rw [e_popL hφ, List.length_map]
  rfl
theorem e_runL (w : Cs) : runL (mp φ w) = mp3 φ (runL w) := by
  have : ∀ (w : Cs) (z : List Nat × List Int × Cs), (mp φ w).foldl runStep (mp3 φ z) = mp3 φ (w.foldl runStep z) := by
    intro w
    induction w with
    | nil => exact fun _ => rfl
    | cons x w ih => intro z; rw [mp, List.map_cons, List.foldl_cons, e_runStep hφ, ih]; rfl
  exact this w ([], [], [])
omit hφ in
theorem e_endL (st : List Nat) : ∀ (row : List Int) (out : Cs), endL (mp φ st) row (mp φ out) = ((endL st row out).1, mp φ (endL st row out).2) := by
  induction st with
  | nil => exact fun _ _ => rfl
  | cons t st ih =>
    intro row out
    have := ih (row ++ [255 - (st.length : Int)]) (out ++ [t])
    rw [mp, mp, List.map_append] at this
    refine Eq.trans ?_ this
    show endL (st.map φ) (row ++ [255 - ((st.map φ).length : Int)]) (out.map φ ++ [φ t]) = _
    rw [List.length_map]; rfl
theorem e_row (w : Cs) : rowOf (mp φ w) = rowOf w := by unfold rowOf; rw [e_runL hφ, e_endL]
theorem e_out (w : Cs) : outOf (mp φ w) = mp φ (outOf w) := by unfold outOf; rw [e_runL hφ, e_endL]
theorem e_heldS (w : Cs) : heldS (mp φ w) = mp φ (heldS w) := by unfold heldS; rw [e_runL hφ]; exact (List.map_reverse ..).symm
theorem e_maxS (r : Cs) : ∀ m : Nat, maxS (mp φ r) (φ m) = φ (maxS r m) := by
  induction r with
  | nil => exact fun _ => rfl
  | cons c r ih =>
    intro m
    show maxS (mp φ r) (if φ m < φ c then φ c else φ m) = φ (maxS r (if m < c then c else m))
    by_cases h : m < c
    · rw [if_pos h, if_pos (hφ _ _ h), ih]
    · rw [if_neg h, if_neg fun q => h ((phi_lt hφ _ _).mp q), ih]
omit hφ in
theorem e_getD {w : Cs} {k : Nat} (h : k < w.length) : (mp φ w).getD k 0 = φ (w.getD k 0) := by rw [List.getD_eq_getElem?_getD, List.getD_eq_getElem?_getD, List.getElem?_map, List.getElem?_eq_getElem h]; rfl
theorem e_heldP (w : Cs) (hw : w.length = 5) : heldP (mp φ w) = mp φ (heldP w) := by
  unfold heldP
  rw [mp, mp, List.map_filterMap]
  refine fm_congr fun k hk => ?_
  rw [e_getD (by rw [hw]; exact List.mem_range.mp hk), ← List.map_drop, e_maxS hφ]
  exact if_map (phi_inj hφ _ _) rfl
theorem e_cntIn {w : Cs} {j : Nat} (hj : j < w.length) : cntIn (mp φ w) j = cntIn w j := by
  unfold cntIn
  rw [List.filter_congr fun i hi => ?_]
  unfold inB
  rw [e_getD hj, e_getD (Nat.lt_trans (List.mem_range.mp hi) hj), mp, ← List.map_take, ← List.map_drop, e_maxS hφ, decide_eq_decide, phi_lt hφ, phi_lt hφ]
theorem e_cntP (w : Cs) (hw : w.length = 5) : cntP (mp φ w) = cntP w := by
  have h : ∀ j, j < 5 → cntIn (mp φ w) j = cntIn w j := fun j hj => e_cntIn hφ (hw ▸ hj)
  unfold cntP
  rw [h 0 (by decide), h 1 (by decide), h 2 (by decide), h 3 (by decide), h 4 (by decide)]
theorem e_pre (p : Cs) : ∀ w : Cs, (mp φ p).isPrefixOf (mp φ w) = p.isPrefixOf w := by
  induction p with
  | nil => intro w; rw [mp, List.map_nil, List.isPrefixOf_nil_left, List.isPrefixOf_nil_left]
  | cons a p ih =>
    intro w
    cases w with
    | nil => rfl
    | cons b w =>
      show (φ a == φ b && (mp φ p).isPrefixOf (mp φ w)) = (a == b && p.isPrefixOf w)
      rw [ih, show (φ a == φ b) = (a == b) from by rw [Bool.eq_iff_iff, beq_iff_eq, beq_iff_eq]; exact phi_inj hφ a b]
theorem e_findIn (p w : Cs) (n : Nat) : ∀ k f : Nat, findIn (mp φ p) (mp φ w) n k f = findIn p w n k f := by
  induction n with
  | zero => exact fun _ _ => rfl
  | succ n ih =>
    intro k f
    show (if k + (mp φ p).length ≤ f then (if (mp φ p).isPrefixOf ((mp φ w).drop k) then (k : Int) else findIn (mp φ p) (mp φ w) n (k + 1) f) else -1) = (if k + p.length ≤ f then (if p.isPrefixOf (w.drop k) then (k : Int) else findIn p w n (k + 1) f) else -1)
    rw [List.length_map, ih, mp, mp, ← List.map_drop, e_pre hφ]
theorem e_findAll (w : Cs) (fin : Int) (ps : List Cs) : ∀ start : Int, findAll (mp φ w) fin start (ps.map (mp φ)) = findAll w fin start ps := by
  induction ps with
  | nil => exact fun _ => rfl
  | cons p ps ih =>
    intro start
    show (if findIn (mp φ p) (mp φ w) ((mp φ w).length + 1) start.toNat fin.toNat < 0 then false else findAll (mp φ w) fin (findIn (mp φ p) (mp φ w) ((mp φ w).length + 1) start.toNat fin.toNat + (mp φ p).length) (ps.map (mp φ))) = _
    rw [e_findIn hφ, ih, List.length_map, List.length_map]
    rfl
theorem e_fits (w : Cs) (x o y : Nat) : fits (mp φ w) (φ x) (φ o) (φ y) = fits w x o y := by
  have := e_findAll hφ w w.length [[], [x], [o], [y], []] 0
  unfold fits
  rw [List.length_map]
  exact this
theorem e_sw (x y s : Nat) : sw (φ x) (φ y) (φ s) = φ (sw x y s) := by
  unfold sw
  rw [apply_ite φ, apply_ite φ]
  simp only [phi_inj hφ]
theorem e_ends (way : Int) {k : Nat} (hk : k < 4) : xOf (mp φ L0) way k = φ (xOf L0 way k) ∧ yOf (mp φ L0) way k = φ (yOf L0 way k) := by
  have h1 : (mp φ L0).getD k 0 = φ (L0.getD k 0) := e_getD (Nat.lt_succ_of_lt hk)
  have h2 : (mp φ L0).getD (k + 1) 0 = φ (L0.getD (k + 1) 0) := e_getD (Nat.succ_lt_succ hk)
  unfold xOf yOf
  rw [h1, h2, apply_ite φ, apply_ite φ]
  exact ⟨rfl, rfl⟩
theorem e_move1 (way : Int) (w : Cs) {k : Nat} (hk : k < 4) : move1 (mp φ L0) way (mp φ w) k = (move1 L0 way w k).map (mp φ) := by
  unfold move1
  rw [(e_ends hφ way hk).1, (e_ends hφ way hk).2]
  refine if_map (Eq.to_iff (congrArg (· = true) ?_)) ?_
  · rw [mp, ← List.map_drop, List.any_map]
    congr 1
    funext o
    exact e_fits hφ ..
  · rw [mp, mp, List.map_map, List.map_map]
    exact List.map_congr_left fun c _ => e_sw hφ ..
theorem e_movesL (way : Int) (w : Cs) : movesL (mp φ L0) way (mp φ w) = (movesL L0 way w).map (mp φ) := by
  unfold movesL
  rw [List.map_filterMap]
  exact fm_congr fun k hk => e_move1 hφ way w (List.mem_range.mp hk)
theorem e_any (R : List Cs) (o : Cs) : ((R.map (mp φ)).any (· == mp φ o)) = R.any (· == o) := by
  rw [List.any_map]
  congr 1
  funext v
  exact map_beq hφ v o
theorem e_fresh {R : List Cs} {k : Nat} (hk : k < R.length) : freshL (mp φ L0) (R.map (mp φ)) k = (freshL L0 R k).map (mp φ) := by
  unfold freshL
  rw [show (R.map (mp φ)).getD k [] = mp φ (R.getD k []) from by rw [List.getD_eq_getElem?_getD, List.getD_eq_getElem?_getD, List.getElem?_map, List.getElem?_eq_getElem hk]; rfl, e_movesL hφ, List.filter_map]
  congr 1
  refine List.filter_congr fun o _ => ?_
  show (!(R.map (mp φ)).any (· == mp φ o)) = _
  rw [e_any hφ]
omit hφ in
theorem e_exch {w : Cs} {i q : Nat} (hw : w.length = 5) (hi : i < 5) : exchL (mp φ w) i q = mp φ (exchL w i q) := by
  unfold exchL
  rw [e_getD (by rw [hw]; exact Nat.mod_lt _ (by decide)), e_getD (hw ▸ hi), mp, mp, List.map_set, List.map_set]
theorem e_zip (w : Cs) (R : List Cs) : ∀ S : List Int, zipP (mp φ w) (R.map (mp φ)) S = zipP w R S := by
  induction R with
  | nil => exact fun _ => rfl
  | cons o R ih =>
    intro S
    cases S with
    | nil => rfl
    | cons s S =>
      show (if (mp φ o == mp φ w) = true then s :: zipP (mp φ w) (R.map (mp φ)) S else zipP (mp φ w) (R.map (mp φ)) S) = (if (o == w) = true then s :: zipP w R S else zipP w R S)
      rw [map_beq hφ, ih]
end
noncomputable def phi (l0 l1 l2 l3 l4 : Nat) : Nat → Nat := fun n => match n with
  | 0 => l0 | 1 => l1 | 2 => l2 | 3 => l3 | n + 4 => l4 + n
theorem phi_mono {l0 l1 l2 l3 l4 : Nat} (h : l0 < l1 ∧ l1 < l2 ∧ l2 < l3 ∧ l3 < l4) (a b : Nat) : a < b → phi l0 l1 l2 l3 l4 a < phi l0 l1 l2 l3 l4 b := by
  have st : ∀ n, phi l0 l1 l2 l3 l4 n < phi l0 l1 l2 l3 l4 (n + 1) := fun n => match n with
    | 0 => h.1 | 1 => h.2.1 | 2 => h.2.2.1 | 3 => h.2.2.2 | n + 4 => Nat.lt_succ_self (l4 + n)
  induction b with
  | zero => exact fun h => absurd h (Nat.not_lt_zero _)
  | succ b ih => exact fun h => (Nat.lt_succ_iff_lt_or_eq.mp h).elim (fun h => Nat.lt_trans (ih h) (st b)) fun h => h ▸ st b
theorem e_draw {φ : Nat → Nat} (is : List Nat) : ∀ ls : List Nat, (∀ (k : Nat), k < is.length → is.getD k 0 + k < ls.length) → drawL (ls.map φ) is = (drawL ls is).map φ := by
  induction is with
  | nil => exact fun _ _ => rfl
  | cons i is ih =>
    intro ls h
    have hi : i < ls.length := h 0 (Nat.succ_pos _)
    show (ls.map φ).getD i 0 :: drawL ((ls.map φ).eraseIdx i) is = φ (ls.getD i 0) :: (drawL (ls.eraseIdx i) is).map φ
    rw [e_getD hi, show (ls.map φ).eraseIdx i = (ls.eraseIdx i).map φ from by rw [List.eraseIdx_eq_take_drop_succ, List.eraseIdx_eq_take_drop_succ, List.map_append, List.map_take, List.map_drop], ih _ fun k hk => ?_]
    have h1 := h (k + 1) (Nat.succ_lt_succ hk)
    rw [List.length_eraseIdx_of_lt hi]
    exact Nat.lt_sub_of_add_lt h1
theorem draw_in {i0 i1 i2 i3 i4 : Nat} (h : i0 < 5 ∧ i1 < 4 ∧ i2 < 3 ∧ i3 < 2 ∧ i4 < 1) : drawL L0 [i0, i1, i2, i3, i4] ∈ perms := by
  obtain ⟨h0, h1, h2, h3, h4⟩ := h
  rw [Nat.lt_one_iff.mp h4]
  exact List.mem_map.mpr ⟨[i0, i1, i2, i3, 0], List.mem_flatMap.mpr ⟨i0, List.mem_range.mpr h0, List.mem_flatMap.mpr ⟨i1, List.mem_range.mpr h1, List.mem_flatMap.mpr ⟨i2, List.mem_range.mpr h2, List.mem_map.mpr ⟨i3, List.mem_range.mpr h3, rfl⟩⟩⟩⟩, rfl⟩
end Mine.Pu
end
section -- NPh
set_option maxRecDepth 100000
set_option autoImplicit false
namespace Mine.Pu
open PySem

section
variable {C : Oracle} {loc : Loc} {w : Cs} {s : AH} {k i : Nat}
theorem get_ne {l : Loc} {i j : Nat} {v : Option V} {x : Option (Option V)} (hj : l[j]? = x) (h : (i == j) = false := by rfl) : (l.set i v)[j]? = x := (List.getElem?_set_ne (beq_eq_false_iff_ne.mp h)).trans hj
theorem get_eq {l : Loc} {i : Nat} {v x : Option V} (h : l[i]? = some x) : (l.set i v)[i]? = some v := List.getElem?_set_self (List.getElem?_eq_some_iff.mp h).1
theorem unset_of (h : loc[i]? = some none) : unsetT (.var i) loc = true := by
  show ((match loc[i]? with | some (some _) => false | _ => true) && true) = true
  rw [h]; rfl
theorem str_get (hk : k < w.length) : w[k]? = some (w.getD k 0) := by rw [List.getD_eq_getElem?_getD, List.getElem?_eq_getElem hk]; rfl
theorem drop_cons (hk : k < w.length) : w.drop k = w.getD k 0 :: w.drop (k + 1) := by rw [List.drop_eq_getElem_cons hk, List.getD_eq_getElem?_getD, List.getElem?_eq_getElem hk]; rfl
theorem clip_nat {n dflt : Nat} (h : k ≤ n) : clip (.int (k : Int)) n dflt = some k := congrArg some ((if_pos (Int.natCast_nonneg k)).trans (Nat.min_eq_left h))
theorem cut_nat (hk : k ≤ w.length) (hi : i ≤ w.length) : cut w (.int (k : Int)) (.int (i : Int)) .none = some ((w.take i).drop k) :=
  (show (clip (.int (k : Int)) w.length 0).bind (fun a => (clip (.int (i : Int)) w.length w.length).bind fun b => some ((w.take b).drop a)) = _ from bindI (clip_nat hk) (bindI (clip_nat hi) rfl))
theorem cut_tail (hk : k ≤ w.length) : cut w (.int (k : Int)) .none .none = some (w.drop k) :=
  (show (clip (.int (k : Int)) w.length 0).bind (fun a => some ((w.take w.length).drop a)) = _ from bindI (clip_nat hk) (by rw [List.take_length]))
theorem slc_ok' (hw : w.length ≤ LIM) (hk : k ≤ w.length) (hi : i ≤ w.length) : slcV (.str w) (.int (k : Int)) (.int (i : Int)) .none s = some (.str ((w.take i).drop k), s) := (if_pos hw).trans (bindI (cut_nat hk hi) rfl)
theorem slc_tail (hw : w.length ≤ LIM) (hk : k ≤ w.length) : slcV (.str w) (.int (k : Int)) .none .none s = some (.str (w.drop k), s) := (if_pos hw).trans (bindI (cut_tail hk) rfl)
theorem ne_str : compareV .NotEq (.str w) (.str w) s = some false := (show some (!decide (w = w)) = some false from congrArg (fun b => some (!b)) (decide_eq_true rfl))
theorem max_ok {l : Cs} (h : k < l.length) : callB .max [.str (l.drop k)] s = some (chV (maxS (l.drop (k + 1)) (l.getD k 0)), s) := by rw [drop_cons h]; rfl
theorem rng5 : rngL 0 5 1 = (List.range 5).map fun (k : Nat) => V.int (k : Int) := rng_nat 5
end

/-! ## held -/
noncomputable abbrev cmp4 : E := .cmp (.idx (.var 3) (.var 18)) [.Eq] [(.bcall .max [(.slc (.var 3) (.var 18) (.lit .none) (.lit .none))])]
noncomputable abbrev elt4 : E := .bin .Add (.lit (.str [32])) (.idx (.var 3) (.var 18))
noncomputable abbrev comp4 : E := .comp elt4 [(.mk (.var 18) (.bcall .range [(.lit (.int (5)))]) [cmp4])]
noncomputable abbrev st4 : S := .ifS (.cmp (.var 6) [.NotEq] [(.mcall (.lit (.str [])) .join [comp4])]) [(.ret (.lit (.bool false)))] []
noncomputable def g4 (w : Cs) (v : V) : Option V := (asInt v).bind fun k => if w.getD k.toNat 0 = maxS (w.drop (k.toNat + 1)) (w.getD k.toNat 0) then some (.str [32, w.getD k.toNat 0]) else none
noncomputable abbrev heldV (l : List Nat) : Cs := (l.map fun c => [32, c]).flatten
theorem g4_all (w : Cs) : ((List.range 5).map fun (k : Nat) => V.int (k : Int)).filterMap (g4 w) = ((heldP w).map fun c => [32, c]).map V.str := by
  unfold heldP
  rw [List.filterMap_map, List.map_filterMap, List.map_filterMap]
  refine fm_congr fun k _ => ?_
  show (if w.getD k 0 = maxS (w.drop (k + 1)) (w.getD k 0) then some (V.str [32, w.getD k 0]) else none) = _
  by_cases h : w.getD k 0 = maxS (w.drop (k + 1)) (w.getD k 0)
  · rw [if_pos h, if_pos h]; rfl
  · rw [if_neg h, if_neg h]; rfl
theorem st4_ok (C : Oracle) {loc : Loc} {w : Cs} {s : AH} (hw5 : w.length = 5) (h3 : loc[3]? = some (some (.str w))) (h6 : loc[6]? = some (some (.str (heldV (heldP w))))) (hu : loc[18]? = some none) :
    ∃ s', ex C st4 loc s = some (.next, loc, s') ∧ Ext s s' := by
  have hwl : w.length ≤ LIM := by rw [hw5]; exact lim_of rfl
  obtain ⟨s1, e, hx⟩ := comp_run (f := genB C (fun l s => ev C elt4 l s) (.var 18) [cmp4] [] loc) (vs := (List.range 5).map fun (k : Nat) => V.int (k : Int)) (s := s) (g4 w) (by decide) (.inl rfl) (fun v acc s1 hv hx hacc => by
    obtain ⟨k, hk, rfl⟩ := List.mem_map.mp hv
    have hk : k < w.length := by rw [hw5]; exact List.mem_range.mp hk
    have a3 : (loc.set 18 (some (.int (k : Int))))[3]? = some (some (.str w)) := get_ne h3
    have a18 : (loc.set 18 (some (.int (k : Int))))[18]? = some (some (.int (k : Int))) := get_eq hu
    have ei : ev C (.idx (.var 3) (.var 18)) (loc.set 18 (some (.int (k : Int)))) s1 = some (chV (w.getD k 0), s1) := ev_idx (ev_var a3) (ev_var a18) (idx_str hwl (str_get hk))
    have ec := ev_cmp1 (op := .Eq) ei (ev_bcall (evs_one (ev_slc (ev_var a3) (ev_var a18) ev_lit ev_lit (slc_tail hwl (Nat.le_of_lt hk)))) (max_ok hk)) (eq_ch ..)
    by_cases h : w.getD k 0 = maxS (w.drop (k + 1)) (w.getD k 0)
    · rw [decide_eq_true h] at ec
      rw [show g4 w (.int (k : Int)) = some (.str [32, w.getD k 0]) from if_pos h]
      exact ⟨s1, gen_yes (ifs_go ec rfl rfl) (gens_end (ev_bin ev_lit ei (add_str (lim_of rfl))) hacc), .refl _⟩
    · rw [decide_eq_false h] at ec
      rw [show g4 w (.int (k : Int)) = none from if_neg h, Option.toList_none, List.append_nil]
      exact ⟨s1, gen_no (ifs_stop ec rfl), .refl _⟩)
  rw [g4_all, ← rng5] at e
  have h5 : (heldP w).length ≤ 5 := List.length_filterMap_le ..
  have hj := join_ok [] (new_at s1 (((heldP w).map fun c => [32, c]).map V.str)) (strs_str _) (by rw [joinL_flat, flat2_len]; exact Nat.le_trans (Nat.mul_le_mul_left 2 h5) (lim_of rfl)) (lim_of rfl)
  rw [joinL_flat] at hj
  exact ⟨_, ex_no (ev_cmp1 (ev_var h6) (ev_mcall ev_lit (evs_one (ev_comp (gens_mk (unset_of hu) (ev_bcall (evs_one ev_lit) rfl) (iter_rng (a := 0) (b := 5) (lim_of rfl) (lim_of rfl)) e) (by rw [List.length_map, List.length_map]; exact Nat.le_trans h5 (lim_of rfl)))) rfl hj) ne_str), hx.trans (.app _ _)⟩

/-! ## each symbol -/
noncomputable abbrev if5 : E := .orE [(.cmp (.fcall 42 [(.var 8)]) [.IsNot] [(.cmp (.var 8) [.Eq] [(.lit (.int (0)))])]), (.cmp (.fcall 28 [(.var 8)]) [.IsNot] [(.cmp (.var 8) [.Lt] [(.lit (.int (256)))])]), (.cmp (.fcall 35 [(.var 8)]) [.IsNot] [(.cmp (.var 8) [.Gt] [(.lit (.int (255)))])])]
noncomputable abbrev body5 : List S := [(.ifS if5 [(.ret (.lit (.bool false)))] [])]
noncomputable abbrev st5 : S := .forS (.var 8) (.var 4) body5
theorem isnot_same {a b : Bool} {s : AH} (h : a = b) : compareV .IsNot (.bool a) (.bool b) s = some false := by
  subst h
  show some (!(a == a)) = _
  rw [beq_self_eq_true]; rfl
theorem step5 (d : Nat) {loc : Loc} (x : Int) {v8 : Option V} {s : AH} (h8 : loc[8]? = some v8) : forB (callN T03 (d + 1)) (.var 8) body5 (.int x) loc s = some (.inl (loc.set 8 (some (.int x))), s) := by
  have a8 : ev (callN T03 (d + 1)) (.var 8) (loc.set 8 (some (.int x))) s = some (.int x, s) := ev_var (get_eq h8)
  have b3 : decide (x ≥ 256) = decide (x > 255) := by rw [decide_eq_decide]; exact Iff.rfl
  exact for_next (exs_one (ex_no (log_go (w := false) (ev_cmp1 (ev_fcall (evs_one a8) (c42 ..)) (ev_cmp1 (b := decide (x = 0)) a8 ev_lit rfl) (isnot_same rfl)) rfl (log_go (w := false) (ev_cmp1 (ev_fcall (evs_one a8) (c28 ..)) (ev_cmp1 (b := decide (x < 256)) a8 ev_lit rfl) (isnot_same rfl)) rfl (log_last (ev_cmp1 (ev_fcall (evs_one a8) (c35 ..)) (ev_cmp1 (b := decide (x > 255)) a8 ev_lit rfl) (isnot_same b3)))))))
theorem st5_ok (d : Nat) {loc : Loc} {R : Nat} {row : List Int} {v8 : Option V} {s : AH} (h4 : loc[4]? = some (some (.obj R))) (h8 : loc[8]? = some v8) (hR : s[R]? = some (.list (row.map V.int))) (hr : row.length < FUEL) :
    ∃ v8', ex (callN T03 (d + 1)) st5 loc s = some (.next, loc.set 8 v8', s) := by
  obtain ⟨l, s', e, ⟨v8', rfl⟩, rfl⟩ := loop_lst (f := forB (callN T03 (d + 1)) (.var 8) body5) (i := R) (vs := row.map V.int) (fun _ l s' => (∃ v, l = loc.set 8 v) ∧ s' = s) (fun _ _ _ h => h.2 ▸ lst_at hR) (fun k v a s1 hv h => by
      obtain ⟨⟨v0, rfl⟩, rfl⟩ := h
      obtain ⟨x, _, rfl⟩ := List.mem_map.mp (List.mem_of_getElem? hv)
      exact ⟨_, _, step5 d x (get_eq h8), ⟨some (.int x), List.set_set ..⟩, rfl⟩) _ FUEL 0 loc s (Nat.zero_add _) (by rw [List.length_map]; exact hr) ⟨⟨v8, by
      have := List.getElem?_eq_some_iff.mp h8
      rw [← this.2, List.set_getElem_self]⟩, rfl⟩
  exact ⟨v8', ex_for (ev_var h4) (bindI (lst_at hR) rfl) e⟩
end Mine.Pu
end
section -- NPi
set_option maxRecDepth 100000
set_option autoImplicit false
namespace Mine.Pu
open PySem

/-- the slots but those of S are as they were -/
noncomputable def Kl (S : List Nat) (a b : Loc) : Prop := ∀ j, S.contains j = false → b[j]? = a[j]?
theorem Kl.refl (S : List Nat) (a : Loc) : Kl S a a := fun _ _ => rfl
theorem Kl.trans {S : List Nat} {a b c : Loc} (x : Kl S a b) (y : Kl S b c) : Kl S a c := fun j h => (y j h).trans (x j h)
theorem Kl.set {S : List Nat} {a b : Loc} (x : Kl S a b) {i : Nat} (v : Option V) (h : S.contains i = true := by rfl) : Kl S a (b.set i v) := fun j hj => (List.getElem?_set_ne fun e => Bool.false_ne_true (hj.symm.trans ((congrArg S.contains e).symm.trans h))).trans (x j hj)
theorem Kl.at {S : List Nat} {a b : Loc} (x : Kl S a b) {j : Nat} {o : Option (Option V)} (h : a[j]? = o) (hj : S.contains j = false := by rfl) : b[j]? = o := (x j hj).trans h

noncomputable abbrev cnd7 : E := .andE [(.var 11), (.cmp (.var 10) [.Lt] [(.lit (.int (20)))])]
noncomputable abbrev idx7 : E := .idx (.var 11) (.bin .Mod (.bin .FloorDiv (.idx (.var 1) (.lit (.int (5)))) (.bin .Pow (.lit (.int (4))) (.var 10))) (.bcall .len [(.var 11)]))
noncomputable abbrev body7 : List S := [(.assign (.var 9) idx7), (.augVar 10 .Add (.lit (.int (1)))), (.assign (.var 11) (.fcall 159 [(.var 9), (.var 2), (.neg (.lit (.int (1))))]))]
noncomputable abbrev wordsV (φ : Nat → Nat) (R : List Cs) : List V := (R.map (mp φ)).map V.str
theorem words_get {φ : Nat → Nat} {R : List Cs} {k : Nat} (h : k < R.length) : (wordsV φ R)[k]? = some (.str (mp φ R[k])) := by rw [List.getElem?_map, List.getElem?_map, List.getElem?_eq_getElem h]; rfl
theorem words_len {φ : Nat → Nat} {R : List Cs} : (wordsV φ R).length = R.length := by rw [List.length_map, List.length_map]
theorem moves4 (l : List Nat) (way : Int) (w : Cs) : (movesL l way w).length ≤ 4 := List.length_filterMap_le ..
theorem lt_ok {a b : Int} {s : AH} : compareV .Lt (.int a) (.int b) s = some (decide (a < b)) := rfl

section
variable {φ : Nat → Nat} (hφ : ∀ a b, a < b → φ a < φ b) (h46 : ∀ c ∈ mp φ L0, c ≠ 46)
include hφ h46
theorem c159' (d : Nat) {v : Cs} {Lt : Nat} {way : Int} {s : AH} (hL : s[Lt]? = some (.list ((mp φ L0).map chV))) (hwy : way = 1 ∨ way = -1) (hv : v.length = 5) :
    ∃ F s', callN T03 (d + 2) 159 [.str (mp φ v), .obj Lt, .int way] s = some (.obj F, s') ∧ Own s F (wordsV φ (movesL L0 way v)) s' := by
  obtain ⟨F, s', e, o⟩ := c159 (w := mp φ v) (l0 := φ 0) (l1 := φ 1) (l2 := φ 2) (l3 := φ 3) (l4 := φ 4) d hL hwy (by rw [List.length_map, hv]; decide) h46
  rw [show five (φ 0) (φ 1) (φ 2) (φ 3) (φ 4) = mp φ L0 from rfl, e_movesL hφ] at o
  exact ⟨F, s', e, o⟩
theorem loop7 (d : Nat) {Lt Sx : Nat} {ns : List V} {n5 : Int} (hn5 : ns[5]? = some (.int n5)) {loc0 : Loc} (h2 : loc0[2]? = some (some (.obj Lt))) (h1 : loc0[1]? = some (some (.obj Sx))) (u : Cs) (n : Nat) : ∀ (v : Cs) (t M : Nat) (loc : Loc) (s : AH), v ∈ perms → leastP L0 12 v = u → cntP v < n → t + cntP v < 20 →
    Kl [9, 10, 11] loc0 loc → loc[9]? = some (some (.str (mp φ v))) → loc[10]? = some (some (.int t)) → loc[11]? = some (some (.obj M)) → s[M]? = some (.list (wordsV φ (movesL L0 (-1) v))) → s[Lt]? = some (.list ((mp φ L0).map chV)) → s[Sx]? = some (.list ns) →
    ∃ loc' s', whileM (wC (callN T03 (d + 2)) cnd7) (fun l s => exs (callN T03 (d + 2)) body7 l s) n loc s = some (.next, loc', s') ∧ Kl [9, 10, 11] loc0 loc' ∧ loc'[9]? = some (some (.str (mp φ u))) ∧ loc'[10]? = some (some (.int ((t + cntP v : Nat) : Int))) ∧ Ext s s' := by
  induction n with
  | zero => exact fun v t M loc s _ _ h => absurd h (Nat.not_lt_zero _)
  | succ n ih =>
    intro v t M loc s hv hu hn ht hk k9 k10 k11 hM hLt hS
    have D := down_of hv
    have hm := lst_at hM
    by_cases he : movesL L0 (-1) v = []
    · rw [he] at hm
      obtain ⟨h0, hl⟩ := D.fin he
      exact ⟨loc, s, while_end (wC_ok (log_stop (w := true) (ev_var k11) (truth_lst hm)) (truth_lst hm)), hk, by rw [← hu, hl]; exact k9, by rw [h0]; exact k10, .refl s⟩
    · have hpos : 0 < (movesL L0 (-1) v).length := List.length_pos_iff.mpr he
      have htr : truth (.obj M) s = some true := (truth_lst hm).trans (by
        cases hz : movesL L0 (-1) v with
        | nil => exact absurd hz he
        | cons _ _ => rfl)
      have ht20 : t < 20 := Nat.lt_of_le_of_lt (Nat.le_add_right ..) ht
      have hcnd : wC (callN T03 (d + 2)) cnd7 loc s = some (true, s) := wC_ok (log_go (ev_var k11) htr (log_last (ev_cmp1 (ev_var k10) ev_lit (lt_ok.trans (congrArg some (decide_eq_true (Int.ofNat_lt.mpr ht20))))))) rfl
      have h4 : ∀ t : Nat, t < 20 → ¬ ((4 : Int) ^ t = 0 ∨ BIG ≤ ((4 : Int) ^ t).natAbs) := by decide
      refine nat_of (z := Int.fdiv n5 (4 ^ t)) (m := ((movesL L0 (-1) v).length : Int)) (Int.natCast_pos.mpr hpos) (P := fun z => Int.fmod (Int.fdiv n5 (4 ^ t)) ((movesL L0 (-1) v).length : Int) = z → _) (fun i hi e => ?_) rfl
      have hi : i < (movesL L0 (-1) v).length := Int.ofNat_lt.mp hi
      have em : ev (callN T03 (d + 2)) idx7 loc s = some (.str (mp φ (movesL L0 (-1) v)[i]), s) := by
        refine ev_idx (ev_var k11) (ev_bin (ev_bin (ev_idx (ev_var (hk.at h1)) ev_lit (idx_lst (k := 5) (lst_at hS) hn5)) (ev_bin ev_lit (ev_var k10) (pow_ok ⟨Int.natCast_nonneg _, Int.le_trans (Int.ofNat_le.mpr (Nat.le_of_lt ht20)) (by decide), by decide⟩)) (fdiv_ok (h4 t ht20))) (ev_bcall (evs_one (ev_var k11)) ((len_lst hm).trans (by rw [words_len]))) (e ▸ mod_ok (Int.ne_of_gt (Int.natCast_pos.mpr hpos)))) (idx_lst hm (words_get hi))
      have hmem := List.getElem_mem hi
      generalize (movesL L0 (-1) v)[i] = m at em hmem
      obtain ⟨m1, m2, m3⟩ := D.go m hmem
      obtain ⟨F, s2, ec, o⟩ := c159' hφ h46 d hLt (.inr rfl) (down_of m1).len
      have q9 : (loc.set 9 (some (.str (mp φ m))))[9]? = some (some (.str (mp φ m))) := get_eq k9
      have hb : exs (callN T03 (d + 2)) body7 loc s = some (.next, ((loc.set 9 (some (.str (mp φ m)))).set 10 (some (.int ((t + 1 : Nat) : Int)))).set 11 (some (.obj F)), s2) :=
        exs_cons (ex_set em) (exs_cons (ex_aug (v := .int ((t + 1 : Nat) : Int)) (get_ne k10) ev_lit rfl) (exs_one (ex_set (ev_fcall (evs_cons (ev_var (get_ne q9)) (evs_cons (ev_var (get_ne (get_ne (hk.at h2)))) (evs_one (ev_neg ev_lit)))) ec))))
      have hc : t + 1 + cntP m = t + cntP v := by rw [← m2, Nat.add_right_comm, Nat.add_assoc]
      obtain ⟨loc', s', ew, w1, w2, w3, w4⟩ := ih m (t + 1) F _ s2 m1 (m3.trans hu) (by rw [← m2] at hn; exact Nat.lt_of_succ_lt_succ hn) (hc ▸ ht) (((hk.set _).set _).set _) (get_ne (get_ne q9)) (get_ne (get_eq (get_ne k10))) (get_eq (get_ne (get_ne k11))) o.at_ (o.ext.get hLt) (o.ext.get hS)
      exact ⟨loc', s', while_go hcnd hb ew, w1, w2, hc ▸ w3, o.ext.trans w4⟩

/-! ## the start of the way down -/
noncomputable abbrev st6 : S := .assign (.vars [9, 10, 11]) (.tup [(.var 3), (.lit (.int (0))), (.fcall 159 [(.var 3), (.var 2), (.neg (.lit (.int (1))))])])
theorem st6_ok (d : Nat) {loc : Loc} {v : Cs} {Lt : Nat} {s : AH} (hv : v.length = 5) (h3 : loc[3]? = some (some (.str (mp φ v)))) (h2 : loc[2]? = some (some (.obj Lt))) (hL : s[Lt]? = some (.list ((mp φ L0).map chV))) :
    ∃ M s', ex (callN T03 (d + 2)) st6 loc s = some (.next, ((loc.set 9 (some (.str (mp φ v)))).set 10 (some (.int ((0 : Nat) : Int)))).set 11 (some (.obj M)), s') ∧ Own s M (wordsV φ (movesL L0 (-1) v)) s' := by
  obtain ⟨M, s', e, o⟩ := c159' hφ h46 d hL (.inr rfl) hv
  exact ⟨M, s', ex_sets (is := [9, 10, 11]) (ev_tup (evs_cons (ev_var h3) (evs_cons ev_lit (evs_one (ev_fcall (evs_cons (ev_var h3) (evs_cons (ev_var h2) (evs_one (ev_neg ev_lit)))) e)))) (lim_of rfl)) rfl, o⟩
end

/-! ## the count of the steps down -/
noncomputable abbrev cmp8 : E := .cmp (.idx (.var 3) (.var 18)) [.Lt, .Lt] [(.idx (.var 3) (.var 19)), (.bcall .max [(.slc (.var 3) (.var 19) (.var 18) (.lit .none))])]
noncomputable abbrev gens8 : List G := [(.mk (.var 19) (.bcall .range [(.var 18)]) [cmp8])]
noncomputable abbrev comp8 : E := .comp (.lit (.int (1))) (.mk (.var 18) (.bcall .range [(.lit (.int (5)))]) [] :: gens8)
noncomputable abbrev st8 : S := .ifS (.cmp (.var 10) [.NotEq] [(.bcall .len [comp8])]) [(.ret (.lit (.bool false)))] []

/-- a loop that counts -/
theorem loop_cnt {f : V → List V → AH → Option ((List V ⊕ Empty) × AH)} {s : AH} {c : Nat → Nat} {N : Nat} (st : ∀ i (acc : List V), i < N → acc.length + c i < 900 → ∃ acc', f (.int (i : Nat)) acc s = some (.inl acc', s) ∧ acc'.length = acc.length + c i) (us : List Nat) : ∀ (n : Nat) (acc : List V), (∀ i ∈ us, i < N) → us.length < n → acc.length + (us.map c).sum < 900 →
    ∃ acc', loopM f n (.vals (us.map fun (k : Nat) => V.int (k : Int))) acc s = some (.inl acc', s) ∧ acc'.length = acc.length + (us.map c).sum := by
  induction us with
  | nil =>
    intro n acc _ hn _
    cases n with
    | zero => exact absurd hn (Nat.lt_irrefl _)
    | succ n => exact ⟨acc, rfl, rfl⟩
  | cons u us ih =>
    intro n acc hm hn ha
    cases n with
    | zero => exact absurd hn (Nat.not_lt_zero _)
    | succ n =>
      rw [show ((u :: us).map c).sum = c u + (us.map c).sum from rfl, ← Nat.add_assoc] at ha ⊢
      obtain ⟨a1, e1, l1⟩ := st u acc (hm u (List.mem_cons_self ..)) (Nat.lt_of_le_of_lt (Nat.le_add_right ..) ha)
      obtain ⟨a2, e2, l2⟩ := ih n a1 (fun i hi => hm i (List.mem_cons_of_mem _ hi)) (Nat.lt_of_succ_lt_succ hn) (l1.symm ▸ ha)
      exact ⟨a2, lv_go e1 e2, by rw [l2, l1]⟩
theorem sum_filter {α : Type} (p : α → Bool) (l : List α) : (l.map fun i => cond (p i) 1 0).sum = (l.filter p).length := by
  induction l with
  | nil => rfl
  | cons a l ih =>
    rw [List.map_cons, List.sum_cons, ih]
    cases h : p a with
    | true => rw [List.filter_cons_of_pos h, Nat.add_comm]; rfl
    | false => rw [List.filter_cons_of_neg (h ▸ Bool.false_ne_true)]; exact Nat.zero_add _
theorem lt_ch (a b : Nat) (s : AH) : compareV .Lt (chV a) (chV b) s = some (decide (a < b)) := by
  show some (if a < b then true else if b < a then false else false) = _
  by_cases h : a < b
  · rw [if_pos h, decide_eq_true h]
  · rw [if_neg h, decide_eq_false h, ite_self]
theorem ev_cmp8 {C : Oracle} {loc : Loc} {w : Cs} {i j : Nat} {s : AH} (hw5 : w.length = 5) (hij : i < j) (hj : j < 5) (h3 : loc[3]? = some (some (.str w))) (h18 : loc[18]? = some (some (.int (j : Int)))) (h19 : loc[19]? = some (some (.int (i : Int)))) :
    ev C cmp8 loc s = some (.bool (inB w j i), s) := by
  have hwl : w.length ≤ LIM := by rw [hw5]; exact lim_of rfl
  have hjw : j < w.length := hw5.symm ▸ hj
  have hiw := Nat.lt_trans hij hjw
  have ht : i < (w.take j).length := by rw [List.length_take, Nat.min_eq_left (Nat.le_of_lt hjw)]; exact hij
  have hg : (w.take j).getD i 0 = w.getD i 0 := by rw [List.getD_eq_getElem?_getD, List.getD_eq_getElem?_getD, List.getElem?_take_of_lt hij]
  have em : ev C (.bcall .max [(.slc (.var 3) (.var 19) (.var 18) (.lit .none))]) loc s = some (chV (maxS ((w.take j).drop (i + 1)) (w.getD i 0)), s) := hg ▸ ev_bcall (evs_one (ev_slc (ev_var h3) (ev_var h19) (ev_var h18) ev_lit (slc_ok' hwl (Nat.le_of_lt hiw) (Nat.le_of_lt hjw)))) (max_ok ht)
  have ei : ev C (.idx (.var 3) (.var 19)) loc s = some (chV (w.getD i 0), s) := ev_idx (ev_var h3) (ev_var h19) (idx_str hwl (str_get hiw))
  have e2 : evCmp C (chV (w.getD j 0)) [.Lt, .Lt] [(.idx (.var 3) (.var 19)), (.bcall .max [(.slc (.var 3) (.var 19) (.var 18) (.lit .none))])] loc s = some (inB w j i, s) := by
    unfold inB
    by_cases h : w.getD j 0 < w.getD i 0
    · rw [show decide (w.getD j 0 < w.getD i 0 ∧ w.getD i 0 < maxS ((w.take j).drop (i + 1)) (w.getD i 0)) = decide (w.getD i 0 < maxS ((w.take j).drop (i + 1)) (w.getD i 0)) from by rw [decide_eq_decide]; exact ⟨fun q => q.2, fun q => ⟨h, q⟩⟩]
      exact bindI ei (bindI ((lt_ch ..).trans (congrArg some (decide_eq_true h))) (bindI em (bindI (lt_ch ..) rfl)))
    · rw [decide_eq_false fun q => h q.1]
      exact bindI ei (bindI ((lt_ch ..).trans (congrArg some (decide_eq_false h))) rfl)
  exact bindI (ev_idx (ev_var h3) (ev_var h18) (idx_str hwl (str_get hjw))) (bindI e2 rfl)
theorem cntIn_le (w : Cs) (j : Nat) : cntIn w j ≤ j := Nat.le_trans (List.length_filter_le ..) (Nat.le_of_eq List.length_range)
theorem st8_ok (C : Oracle) {loc : Loc} {w : Cs} {s : AH} (hw5 : w.length = 5) (h3 : loc[3]? = some (some (.str w))) (h10 : loc[10]? = some (some (.int (cntP w : Nat)))) (h18 : loc[18]? = some none) (h19 : loc[19]? = some none) :
    ∃ s', ex C st8 loc s = some (.next, loc, s') ∧ Ext s s' := by
  have hs : ((List.range 5).map (cntIn w)).sum = cntP w := by show cntIn w 0 + (cntIn w 1 + (cntIn w 2 + (cntIn w 3 + (cntIn w 4 + 0)))) = _; unfold cntP; simp only [Nat.add_assoc, Nat.add_zero]
  have hle : cntP w ≤ 10 := Nat.add_le_add (Nat.add_le_add (Nat.add_le_add (Nat.add_le_add (cntIn_le w 0) (cntIn_le w 1)) (cntIn_le w 2)) (cntIn_le w 3)) (cntIn_le w 4)
  obtain ⟨acc, e, hl⟩ := loop_cnt (f := genB C (fun l s => ev C (.lit (.int 1)) l s) (.var 18) [] gens8 loc) (s := s) (c := cntIn w) (N := 5) (fun j acc hj hacc => by
      have a3 : (loc.set 18 (some (.int (j : Int))))[3]? = some (some (.str w)) := get_ne h3
      have a18 : (loc.set 18 (some (.int (j : Int))))[18]? = some (some (.int (j : Int))) := get_eq h18
      have a19 : (loc.set 18 (some (.int (j : Int))))[19]? = some none := get_ne h19
      have hs : ((List.range j).map fun i => cond (inB w j i) 1 0).sum = cntIn w j := sum_filter ..
      obtain ⟨acc', e, hl⟩ := loop_cnt (f := genB C (fun l s => ev C (.lit (.int 1)) l s) (.var 19) [cmp8] [] (loc.set 18 (some (.int (j : Int))))) (s := s) (c := fun i => cond (inB w j i) 1 0) (N := j) (fun i acc hi hacc => by
          have ec := ev_cmp8 (C := C) (s := s) hw5 hi hj (get_ne (v := some (.int (i : Int))) a3) (get_ne a18) (get_eq a19)
          cases h : inB w j i with
          | true => rw [h] at ec; exact ⟨_, gen_yes (ifs_go ec rfl rfl) (gens_end ev_lit (Nat.lt_of_le_of_lt (Nat.le_add_right ..) (Nat.lt_trans hacc (by decide)))), List.length_append⟩
          | false => rw [h] at ec; exact ⟨_, gen_no (ifs_stop ec rfl), rfl⟩) (List.range j) FUEL acc (fun i hi => List.mem_range.mp hi) (by rw [List.length_range]; exact Nat.lt_trans hj (by decide)) (hs ▸ hacc)
      rw [hs] at hl
      rw [← rng_nat] at e
      exact ⟨acc', gen_yes rfl (gens_mk (unset_of a19) (ev_bcall (evs_one (ev_var a18)) rfl) (iter_rng (a := 0) (b := (j : Int)) (lim_of rfl) (Nat.le_trans (Nat.le_of_lt hj) (lim_of rfl))) e), hl⟩) (List.range 5) FUEL [] (fun i hi => List.mem_range.mp hi) (by decide) (by rw [hs]; exact Nat.lt_of_le_of_lt (Nat.le_of_eq (Nat.zero_add _)) (Nat.lt_of_le_of_lt hle (by decide)))
  rw [hs, List.length_nil, Nat.zero_add] at hl
  rw [← rng5] at e
  have ec : ev C comp8 loc s = some (.obj s.length, s ++ [.list acc]) := ev_comp (gens_mk (gs := gens8) (unset_of h18) (ev_bcall (evs_one ev_lit) rfl) (iter_rng (a := 0) (b := 5) (lim_of rfl) (lim_of rfl)) e) (hl ▸ Nat.le_trans hle (lim_of rfl))
  have hne : compareV .NotEq (.int (cntP w : Nat)) (.int (acc.length : Nat)) (s ++ [.list acc]) = some false := (show some (!decide (((cntP w : Nat) : Int) = ((acc.length : Nat) : Int))) = some false from by rw [hl, decide_eq_true rfl]; rfl)
  exact ⟨_, ex_no (ev_cmp1 (ev_var h10) (ev_bcall (evs_one ec) (len_lst (new_at ..))) hne), .app ..⟩
end Mine.Pu
end
section -- NPj
set_option maxRecDepth 100000
set_option autoImplicit false
namespace Mine.Pu
open PySem

structure Two (s0 : AH) (A B : Nat) (us vs : List V) (s : AH) : Prop where
  ext : Ext s0 s
  ha : s0.length ≤ A
  hb : s0.length ≤ B
  ne : A ≠ B
  a : s[A]? = some (.list us)
  b : s[B]? = some (.list vs)
theorem Two.step {s0 s s' : AH} {A B : Nat} {us vs : List V} (o : Two s0 A B us vs s) (x : Ext s s') : Two s0 A B us vs s' := ⟨o.ext.trans x, o.ha, o.hb, o.ne, x.get o.a, x.get o.b⟩
theorem Two.setA {s0 s : AH} {A B : Nat} {us vs : List V} (o : Two s0 A B us vs s) (ws : List V) : Two s0 A B ws vs (s.set A (.list ws)) :=
  ⟨o.ext.set o.ha _, o.ha, o.hb, o.ne, List.getElem?_set_self (List.getElem?_eq_some_iff.mp o.a).1, by rw [List.getElem?_set_ne o.ne]; exact o.b⟩
theorem Two.setB {s0 s : AH} {A B : Nat} {us vs : List V} (o : Two s0 A B us vs s) (ws : List V) : Two s0 A B us ws (s.set B (.list ws)) :=
  ⟨o.ext.set o.hb _, o.ha, o.hb, o.ne, by rw [List.getElem?_set_ne (Ne.symm o.ne)]; exact o.a, List.getElem?_set_self (List.getElem?_eq_some_iff.mp o.b).1⟩
theorem ext_lst {s : AH} {i j : Nat} {vs us : List V} (h : s[i]? = some (.list vs)) (hj : s[j]? = some (.list us)) (ne : i ≠ j) (hl : vs.length + us.length ≤ LIM) : callM (.obj i) .extend [.obj j] s = some (.none, s.set i (.list (vs ++ us))) :=
  bindI h (show (if i = j then none else (lstAt (.obj j) s).bind fun us => if vs.length + us.length ≤ LIM then some (V.none, s.set i (.list (vs ++ us))) else none) = _ from (if_neg ne).trans (bindI (lst_at hj) (if_pos hl)))
theorem rep_one {α : Type} (a : α) (n : Nat) : rep n [a] = List.replicate n a := by
  induction n with
  | zero => rfl
  | succ n ih => show [a] ++ rep n [a] = _; rw [ih]; rfl
theorem movesL_len {l : List Nat} {way : Int} {w m : Cs} (h : m ∈ movesL l way w) : m.length = w.length := by
  obtain ⟨k, _, h⟩ := List.mem_filterMap.mp h
  exact ifE (show (if _ then some (w.map _) else none) = some m from h) fun _ h => by cases h; exact List.length_map ..
theorem freshL_le (l : List Nat) (R : List Cs) (k : Nat) : (freshL l R k).length ≤ 4 := Nat.le_trans (List.length_filter_le ..) (moves4 ..)

noncomputable abbrev cnd10 : E := .cmp (.var 7) [.Lt] [(.bcall .len [(.var 12)])]
noncomputable abbrev cmp10 : E := .cmp (.var 18) [.NotIn] [(.var 12)]
noncomputable abbrev comp10 : E := .comp (.var 18) [(.mk (.var 18) (.fcall 159 [(.idx (.var 12) (.var 7)), (.var 2), (.lit (.int (1)))]) [cmp10])]
noncomputable abbrev mul10 : E := .bin .Mult (.list [(.bin .Add (.idx (.var 13) (.var 7)) (.lit (.int (1))))]) (.bcall .len [(.var 15)])
noncomputable abbrev body10 : List S := [(.assign (.var 15) comp10), (.expr (.mcall (.var 12) .extend [(.var 15)])), (.expr (.mcall (.var 13) .extend [mul10])), (.augVar 7 .Add (.lit (.int (1))))]
noncomputable abbrev st10 : S := .whileS cnd10 body10
noncomputable def g10 (R : List Cs) (v : V) : Option V := (asStr v).bind fun o => cond (R.any (· == o)) none (some (.str o))
theorem g10_map (R l : List Cs) : (l.map V.str).filterMap (g10 R) = (l.filter fun o => !(R.any (· == o))).map V.str := by
  induction l with
  | nil => rfl
  | cons o l ih =>
    rw [List.map_cons]
    cases h : R.any (· == o) with
    | true => rw [List.filterMap_cons_none (show g10 R (.str o) = none from congrArg (cond · none (some (V.str o))) h), List.filter_cons_of_neg (by rw [h]; exact Bool.false_ne_true), ih]
    | false => rw [List.filterMap_cons_some (show g10 R (.str o) = some (.str o) from congrArg (cond · none (some (V.str o))) h), List.filter_cons_of_pos (by rw [h]; rfl), ih]; rfl
theorem in_ok {i : Nat} {R : List Cs} {o : Cs} {s : AH} (h : lstAt (.obj i) s = some (R.map V.str)) : inV (.str o) (.obj i) s = some (R.any (· == o)) := bindI h (bindI (strs_str R) rfl)

section
variable {φ : Nat → Nat} (hφ : ∀ a b, a < b → φ a < φ b) (h46 : ∀ c ∈ mp φ L0, c ≠ 46)
include hφ h46
theorem ev_comp10 (d : Nat) {loc : Loc} {s : AH} {A Lt k : Nat} {R : List Cs} (hA : s[A]? = some (.list (wordsV φ R))) (hk : k < R.length) (h5 : ∀ v ∈ R, v.length = 5)
    (h2 : loc[2]? = some (some (.obj Lt))) (h12 : loc[12]? = some (some (.obj A))) (h7 : loc[7]? = some (some (.int (k : Int)))) (h18 : loc[18]? = some none) (hL : s[Lt]? = some (.list ((mp φ L0).map chV))) :
    ∃ s', ev (callN T03 (d + 2)) comp10 loc s = some (.obj s'.length, s' ++ [.list (wordsV φ (freshL L0 R k))]) ∧ Ext s s' := by
  obtain ⟨F, s1, e1, o1⟩ := c159' hφ h46 d (v := R[k]) hL (.inl rfl) (h5 _ (List.getElem_mem hk))
  obtain ⟨s2, e2, x2⟩ := comp_run (f := genB (callN T03 (d + 2)) (fun l s => ev (callN T03 (d + 2)) (.var 18) l s) (.var 18) [cmp10] [] loc) (s := s1) (j := .lst F 0) (vs := wordsV φ (movesL L0 1 R[k])) (g10 (R.map (mp φ))) (by rw [words_len]; exact Nat.lt_of_le_of_lt (moves4 ..) (by decide)) (.inr ⟨F, rfl, fun s' x => lst_at (x.get o1.at_)⟩) (fun v acc s' hv hx hacc => by
    obtain ⟨o, _, rfl⟩ := List.mem_map.mp hv
    have a18 : (loc.set 18 (some (.str o)))[18]? = some (some (.str o)) := get_eq h18
    have ec : ev (callN T03 (d + 2)) cmp10 (loc.set 18 (some (.str o))) s' = some (.bool (!(R.map (mp φ)).any (· == o)), s') := ev_cmp1 (ev_var a18) (ev_var (get_ne h12)) (bindI (in_ok (lst_at ((o1.ext.trans hx).get hA))) rfl)
    cases h : (R.map (mp φ)).any (· == o) with
    | true => rw [h] at ec; rw [show g10 (R.map (mp φ)) (.str o) = none from congrArg (cond · none (some (V.str o))) h, Option.toList_none, List.append_nil]; exact ⟨s', gen_no (ifs_stop ec rfl), .refl _⟩
    | false => rw [h] at ec; rw [show g10 (R.map (mp φ)) (.str o) = some (.str o) from congrArg (cond · none (some (V.str o))) h]; exact ⟨s', gen_yes (ifs_go ec rfl rfl) (gens_end (ev_var a18) hacc), .refl _⟩)
  have hfr : (wordsV φ (movesL L0 1 R[k])).filterMap (g10 (R.map (mp φ))) = wordsV φ (freshL L0 R k) := by
    rw [g10_map]
    show _ = ((freshL L0 R k).map (mp φ)).map V.str
    rw [← e_fresh hφ hk]
    unfold freshL
    rw [show (R.map (mp φ)).getD k [] = mp φ R[k] from by rw [List.getD_eq_getElem?_getD, List.getElem?_map, List.getElem?_eq_getElem hk]; rfl, e_movesL hφ]
  rw [hfr] at e2
  exact ⟨s2, ev_comp (gens_mk (unset_of h18) (ev_fcall (evs_cons (ev_idx (ev_var h12) (ev_var h7) (idx_lst (lst_at hA) (words_get hk))) (evs_cons (ev_var h2) (evs_one ev_lit))) e1) (bindI o1.lst rfl) e2) (by rw [words_len]; exact Nat.le_trans (freshL_le ..) (lim_of rfl)), o1.ext.trans x2⟩

theorem body10_ok (d : Nat) {loc : Loc} {s0 s : AH} {A B Lt k : Nat} {R : List Cs} {St : List Int} {v15 : Option V} (o : Two s0 A B (wordsV φ R) (St.map V.int) s) (hk : k < R.length) (hS : St.length = R.length) (hR : R.length < 500) (h5 : ∀ v ∈ R, v.length = 5)
    (h2 : loc[2]? = some (some (.obj Lt))) (h12 : loc[12]? = some (some (.obj A))) (h13 : loc[13]? = some (some (.obj B))) (h7 : loc[7]? = some (some (.int (k : Int)))) (h15 : loc[15]? = some v15) (h18 : loc[18]? = some none) (hL : s[Lt]? = some (.list ((mp φ L0).map chV))) :
    ∃ Q s', exs (callN T03 (d + 2)) body10 loc s = some (.next, (loc.set 15 (some (.obj Q))).set 7 (some (.int ((k + 1 : Nat) : Int))), s') ∧ Two s0 A B (wordsV φ (R ++ freshL L0 R k)) ((St ++ List.replicate (freshL L0 R k).length (St.getD k 0 + 1)).map V.int) s' := by
  have hf4 := freshL_le L0 R k
  obtain ⟨s1, e1, x1⟩ := ev_comp10 hφ h46 d o.a hk h5 h2 h12 h7 h18 hL
  have hAQ : A ≠ s1.length := Nat.ne_of_lt (List.getElem?_eq_some_iff.mp (x1.get o.a)).1
  have x2 := x1.trans (Ext.app s1 [.list (wordsV φ (freshL L0 R k))])
  have hQ := top_at s1 (.list (wordsV φ (freshL L0 R k)))
  generalize s1 ++ [O.list (wordsV φ (freshL L0 R k))] = s2 at e1 x2 hQ
  generalize s1.length = Q at e1 hQ hAQ
  have o2 := o.step x2
  have k15 : (loc.set 15 (some (.obj Q)))[15]? = some (some (.obj Q)) := get_eq h15
  have k12 : (loc.set 15 (some (.obj Q)))[12]? = some (some (.obj A)) := get_ne h12
  have k13 : (loc.set 15 (some (.obj Q)))[13]? = some (some (.obj B)) := get_ne h13
  have k7 : (loc.set 15 (some (.obj Q)))[7]? = some (some (.int (k : Int))) := get_ne h7
  have lim500 : ∀ {m n : Nat}, m < 500 → n ≤ 4 → m + n ≤ LIM := fun a b => Nat.le_trans (Nat.add_le_add (Nat.le_of_lt a) b) (lim_of rfl)
  have b2 := ext_lst o2.a hQ hAQ (by rw [words_len, words_len]; exact lim500 hR hf4)
  have o3 := o2.setA (wordsV φ R ++ wordsV φ (freshL L0 R k))
  have hQ3 : (s2.set A (.list (wordsV φ R ++ wordsV φ (freshL L0 R k))))[Q]? = some (.list (wordsV φ (freshL L0 R k))) := by rw [List.getElem?_set_ne hAQ]; exact hQ
  generalize s2.set A (.list (wordsV φ R ++ wordsV φ (freshL L0 R k))) = s3 at b2 o3 hQ3
  have hkS : k < St.length := hS ▸ hk
  have hSt : (St.map V.int)[k]? = some (.int (St.getD k 0)) := by rw [List.getElem?_map, List.getD_eq_getElem?_getD, List.getElem?_eq_getElem hkS]; rfl
  have el : ev (callN T03 (d + 2)) (.list [(.bin .Add (.idx (.var 13) (.var 7)) (.lit (.int (1))))]) (loc.set 15 (some (.obj Q))) s3 = some (.obj s3.length, s3 ++ [.list [.int (St.getD k 0 + 1)]]) := ev_list (evs_one (ev_bin (ev_idx (ev_var k13) (ev_var k7) (idx_lst (lst_at o3.b) hSt)) ev_lit rfl)) (lim_of rfl)
  have x4 := Ext.app s3 [O.list [.int (St.getD k 0 + 1)]]
  have hP := new_at s3 [.int (St.getD k 0 + 1)]
  generalize s3 ++ [O.list [.int (St.getD k 0 + 1)]] = s4 at el x4 hP
  have em : ev (callN T03 (d + 2)) mul10 (loc.set 15 (some (.obj Q))) s3 = some (.obj s4.length, s4 ++ [.list ((List.replicate (freshL L0 R k).length (St.getD k 0 + 1)).map V.int)]) := by
    refine ev_bin el (ev_bcall (evs_one (ev_var k15)) ((len_lst (lst_at (x4.get hQ3))).trans (by rw [words_len]))) ?_
    rw [List.map_replicate, ← rep_one]
    exact bindI hP (bindI rfl ((if_pos ⟨by show 1 * _ ≤ _; rw [Nat.one_mul]; exact Nat.le_trans hf4 (lim_of rfl), Nat.le_trans hf4 (lim_of rfl)⟩).trans (newL_ok' (by rw [rep_one, List.length_replicate]; exact Nat.le_trans hf4 (lim_of rfl)))))
  have hBP : B ≠ s4.length := Nat.ne_of_lt (List.getElem?_eq_some_iff.mp (x4.get o3.b)).1
  have x5 := x4.trans (Ext.app s4 [.list ((List.replicate (freshL L0 R k).length (St.getD k 0 + 1)).map V.int)])
  have hP5 := top_at s4 (.list ((List.replicate (freshL L0 R k).length (St.getD k 0 + 1)).map V.int))
  generalize s4 ++ [O.list ((List.replicate (freshL L0 R k).length (St.getD k 0 + 1)).map V.int)] = s5 at em x5 hP5
  have o5 := o3.step x5
  have b3 := ext_lst o5.b hP5 hBP (by rw [List.length_map, List.length_map, List.length_replicate]; exact lim500 (hS ▸ hR) hf4)
  refine ⟨Q, _, exs_cons (ex_set e1) (exs_cons (ex_expr (ev_mcall (ev_var k12) (evs_one (ev_var k15)) rfl b2)) (exs_cons (ex_expr (ev_mcall (ev_var k13) (evs_one em) ((kind_at o3.b).trans (kind_at o5.b).symm) b3)) (exs_one (ex_aug (v := .int ((k + 1 : Nat) : Int)) k7 ev_lit rfl)))), ?_⟩
  rw [List.map_append, wordsV, List.map_append, List.map_append]
  exact o5.setB _

theorem loop10 (d : Nat) {loc0 : Loc} {s0 : AH} {A B Lt : Nat} (h2 : loc0[2]? = some (some (.obj Lt))) (h12 : loc0[12]? = some (some (.obj A))) (h13 : loc0[13]? = some (some (.obj B))) (h18 : loc0[18]? = some none) (hL : s0[Lt]? = some (.list ((mp φ L0).map chV))) {R' : List Cs} {St' : List Int} (n : Nat) : ∀ (e k : Nat) (loc : Loc) (s : AH) (R : List Cs) (St : List Int) (v15 : Option V),
    reachL L0 n R St k = some (R', St') → n ≤ e → St.length = R.length → R.length + 4 * n < 500 → (∀ v ∈ R, v.length = 5) → Two s0 A B (wordsV φ R) (St.map V.int) s → Kl [7, 15] loc0 loc → loc[7]? = some (some (.int (k : Int))) → loc[15]? = some v15 →
    ∃ loc' s', whileM (wC (callN T03 (d + 2)) cnd10) (fun l s => exs (callN T03 (d + 2)) body10 l s) e loc s = some (.next, loc', s') ∧ Kl [7, 15] loc0 loc' ∧ Two s0 A B (wordsV φ R') (St'.map V.int) s' ∧ R'.length < 500 := by
  induction n with
  | zero => exact fun _ _ _ _ _ _ _ h => noneE h
  | succ n ih =>
    intro e k loc s R St v15 h he hS hR h5 o hkl h7 h15
    cases e with
    | zero => exact absurd he (Nat.not_succ_le_zero _)
    | succ e =>
      have hR' : R.length < 500 := Nat.lt_of_le_of_lt (Nat.le_add_right ..) hR
      have hc : wC (callN T03 (d + 2)) cnd10 loc s = some (decide (((k : Nat) : Int) < ((R.length : Nat) : Int)), s) := wC_ok (ev_cmp1 (ev_var h7) (ev_bcall (evs_one (ev_var (hkl.at h12))) ((len_lst (lst_at o.a)).trans (by rw [words_len]))) lt_ok) rfl
      refine iteE (show (if k < R.length then reachL L0 n (R ++ freshL L0 R k) (St ++ List.replicate (freshL L0 R k).length (St.getD k 0 + 1)) (k + 1) else some (R, St)) = _ from h) (fun hk h => ?_) fun hk h => ?_
      · rw [decide_eq_true (Int.ofNat_lt.mpr hk)] at hc
        obtain ⟨Q, s1, e1, o1⟩ := body10_ok hφ h46 d o hk hS hR' h5 (hkl.at h2) (hkl.at h12) (hkl.at h13) h7 h15 (hkl.at h18) (o.ext.get hL)
        obtain ⟨loc', s', e2, kl2, o2⟩ := ih e (k + 1) _ s1 _ _ (some (.obj Q)) h (Nat.le_of_succ_le_succ he) (by rw [List.length_append, List.length_append, List.length_replicate, hS]) (by
            rw [List.length_append, Nat.add_assoc]
            exact Nat.lt_of_le_of_lt (Nat.add_le_add_left (by rw [Nat.mul_succ, Nat.add_comm]; exact Nat.add_le_add_left (freshL_le ..) _) _) hR) (fun v hv => (List.mem_append.mp hv).elim (h5 v) fun q => (movesL_len (List.mem_filter.mp q).1).trans (by
            rw [List.getD_eq_getElem?_getD, List.getElem?_eq_getElem hk]
            exact h5 _ (List.getElem_mem hk))) o1 ((hkl.set _).set _) (get_eq (get_ne h7)) (get_ne (get_eq h15))
        exact ⟨loc', s', while_go hc e1 e2, kl2, o2⟩
      · cases h
        rw [decide_eq_false fun q => hk (Int.ofNat_lt.mp q)] at hc
        exact ⟨loc, s, while_end hc, hkl, o, hR'⟩
end

/-! ## the start of the way up -/
noncomputable abbrev st9 : S := .assign (.vars [12, 13, 7]) (.tup [(.list [(.var 9)]), (.list [(.lit (.int (0)))]), (.lit (.int (0)))])
theorem st9_ok (C : Oracle) {loc : Loc} {u : V} {s : AH} (h9 : loc[9]? = some (some u)) :
    ex C st9 loc s = some (.next, ((loc.set 12 (some (.obj s.length))).set 13 (some (.obj (s ++ [O.list [u]]).length))).set 7 (some (.int ((0 : Nat) : Int))), (s ++ [.list [u]]) ++ [.list [.int 0]]) ∧ Two s s.length (s ++ [O.list [u]]).length [u] [.int 0] ((s ++ [.list [u]]) ++ [.list [.int 0]]) :=
  ⟨ex_sets (is := [12, 13, 7]) (ev_tup (evs_cons (ev_list (evs_one (ev_var h9)) (lim_of rfl)) (evs_cons (ev_list (evs_one ev_lit) (lim_of rfl)) (evs_one ev_lit))) (lim_of rfl)) rfl,
    (Ext.app _ _).trans (.app _ _), Nat.le_refl _, by rw [List.length_append]; exact Nat.le_succ _, by rw [List.length_append]; exact Nat.ne_of_lt (Nat.lt_succ_self _), (Ext.app _ _).get (top_at ..), top_at ..⟩
end Mine.Pu
end
section -- NPk
set_option maxRecDepth 100000
set_option autoImplicit false
namespace Mine.Pu
open PySem

theorem eqL_int (a : List Int) : ∀ b : List Int, a.length = b.length → eqL (eqP 3) (a.map V.int) (b.map V.int) = some (decide (a = b)) := by
  induction a with
  | nil =>
    intro b h
    cases b with
    | nil => rfl
    | cons _ _ => exact nomatch h
  | cons x a ih =>
    intro b h
    cases b with
    | nil => exact nomatch h
    | cons y b =>
      refine bindI (show eqP 3 (.int x) (.int y) = some (decide (x = y)) from rfl) (bindI (ih b (Nat.succ.inj h)) ?_)
      rw [Option.some.injEq, Bool.eq_iff_iff, Bool.and_eq_true, decide_eq_true_iff, decide_eq_true_iff, decide_eq_true_iff, List.cons.injEq]
theorem listsEq_int (a b : List Int) : listsEq (a.map V.int) (b.map V.int) = some (decide (a = b)) := by
  unfold listsEq
  by_cases h : a.length = b.length
  · rw [if_pos (by rw [List.length_map, List.length_map, h])]; exact eqL_int a b h
  · rw [if_neg (by rw [List.length_map, List.length_map]; exact h), decide_eq_false fun e => h (congrArg List.length e)]
theorem eq_lst {i j : Nat} {a b : List Int} {s : AH} (h1 : s[i]? = some (.list (a.map V.int))) (h2 : s[j]? = some (.list (b.map V.int))) : eqV (.obj i) (.obj j) s = some (decide (a = b)) := bindI (lst_at h1) (bindI (lst_at h2) (listsEq_int a b))
theorem intsOf_int (l : List Int) : intsOf (l.map V.int) = some l := by
  induction l with
  | nil => rfl
  | cons c w ih => exact bindI rfl (bindI ih rfl)
theorem eq_str {a b : Cs} {s : AH} : compareV .Eq (.str a) (.str b) s = some (decide (a = b)) := rfl
theorem dec_map {φ : Nat → Nat} (hφ : ∀ a b, a < b → φ a < φ b) (a b : Cs) : decide (mp φ a = mp φ b) = decide (a = b) := by rw [decide_eq_decide]; exact map_inj hφ a b

/-! ## the steps of the word -/
noncomputable abbrev cmp11 : E := .cmp (.var 18) [.Eq] [(.var 3)]
noncomputable abbrev comp11 : E := .comp (.var 19) [(.zip (.vars [18, 19]) (.var 12) (.var 13) [cmp11])]
noncomputable abbrev st11 : S := .ifS (.cmp comp11 [.NotEq] [(.list [(.var 10)])]) [(.ret (.lit (.bool false)))] []
noncomputable abbrev turn11 (C : Oracle) (loc : Loc) := genB C (fun l s => ev C (.var 19) l s) (.vars [18, 19]) [cmp11] [] loc
theorem zip_step (C : Oracle) {loc : Loc} {w o : Cs} {n : Int} {acc : List V} {s : AH} (h3 : loc[3]? = some (some (.str w))) (h18 : loc[18]? = some none) (h19 : loc[19]? = some none) (ha : acc.length < LIM) :
    turn11 C loc (.tup [.str o, .int n]) acc s = some (.inl (if (o == w) = true then acc ++ [.int n] else acc), s) := by
  have a18 : ((loc.set 18 (some (.str o))).set 19 (some (.int n)))[18]? = some (some (.str o)) := get_ne (get_eq h18)
  have a19 : ((loc.set 18 (some (.str o))).set 19 (some (.int n)))[19]? = some (some (.int n)) := get_eq (get_ne h19)
  have ec : ev C cmp11 ((loc.set 18 (some (.str o))).set 19 (some (.int n))) s = some (.bool (o == w), s) := ev_cmp1 (ev_var a18) (ev_var (get_ne (get_ne h3))) (eq_str.trans (by rw [Option.some.injEq, Bool.eq_iff_iff, decide_eq_true_iff, beq_iff_eq]))
  cases h : (o == w) with
  | true => rw [h] at ec; exact bindI rfl (bindI (ifs_go ec rfl rfl) (bindI (gens_end (ev_var a19) ha) rfl))
  | false => rw [h] at ec; exact bindI rfl (bindI (ifs_stop ec rfl) rfl)
theorem zip_loop (C : Oracle) {loc : Loc} {w : Cs} {s : AH} {A B : Nat} {R : List Cs} {St : List Int} (hA : lstAt (.obj A) s = some (R.map V.str)) (hB : lstAt (.obj B) s = some (St.map V.int)) (h3 : loc[3]? = some (some (.str w))) (h18 : loc[18]? = some none) (h19 : loc[19]? = some none) (R2 : List Cs) : ∀ (S2 : List Int) (R1 : List Cs) (S1 : List Int) (n : Nat) (acc : List V), R = R1 ++ R2 → St = S1 ++ S2 → R1.length = S1.length → R2.length = S2.length → R2.length < n → acc.length + R2.length < 900 →
    loopM (turn11 C loc) n (.zip A B R1.length) acc s = some (.inl (acc ++ (zipP w R2 S2).map V.int), s) := by
  induction R2 with
  | nil =>
    intro S2 R1 S1 n acc eR eS h1 h2 hn ha
    cases n with
    | zero => exact absurd hn (Nat.lt_irrefl _)
    | succ n =>
      cases S2 with
      | cons _ _ => exact nomatch h2
      | nil =>
        rw [List.append_nil] at eR eS
        rw [show (zipP w [] []).map V.int = [] from rfl, List.append_nil]
        have hx : nextOf (.zip A B R1.length) s = some none := bindI hA (bindI hB (by rw [List.getElem?_eq_none (by rw [List.length_map, eR]; exact Nat.le_refl _), List.getElem?_eq_none (by rw [List.length_map, eS, h1]; exact Nat.le_refl _)]))
        exact bindI hx rfl
  | cons o R2 ih =>
    intro S2 R1 S1 n acc eR eS h1 h2 hn ha
    cases n with
    | zero => exact absurd hn (Nat.not_lt_zero _)
    | succ n =>
      cases S2 with
      | nil => exact nomatch h2
      | cons t S2 =>
        have e1 : (R.map V.str)[R1.length]? = some (.str o) := by rw [eR, List.map_append, ← List.length_map (as := R1) (f := V.str), List.getElem?_append_right (Nat.le_refl _), Nat.sub_self]; rfl
        have e2 : (St.map V.int)[R1.length]? = some (.int t) := by rw [eS, h1, List.map_append, ← List.length_map (as := S1) (f := V.int), List.getElem?_append_right (Nat.le_refl _), Nat.sub_self]; rfl
        have hx : nextOf (.zip A B R1.length) s = some (some (.tup [.str o, .int t], .zip A B (R1.length + 1))) := bindI hA (bindI hB (by rw [e1]; exact bindI e2 rfl))
        have ih := ih S2 (R1 ++ [o]) (S1 ++ [t]) n (if (o == w) = true then acc ++ [.int t] else acc) (by rw [eR, List.append_assoc]; rfl) (by rw [eS, List.append_assoc]; rfl) (by rw [List.length_append, List.length_append, h1]; rfl) (Nat.succ.inj h2) (Nat.lt_of_succ_lt_succ hn) (Nat.lt_of_le_of_lt (by
          have : (if (o == w) = true then acc ++ [V.int t] else acc).length ≤ acc.length + 1 := by split; exact Nat.le_of_eq List.length_append; exact Nat.le_succ _
          exact Nat.le_trans (Nat.add_le_add_right this _) (Nat.le_of_eq (Nat.succ_add_eq_add_succ ..))) ha)
        rw [List.length_append] at ih
        refine bindI hx (bindI (zip_step C h3 h18 h19 (Nat.lt_trans (Nat.lt_of_le_of_lt (Nat.le_add_right ..) ha) (by decide))) (ih.trans ?_))
        show _ = some (Sum.inl (acc ++ (if (o == w) = true then t :: zipP w R2 S2 else zipP w R2 S2).map V.int), s)
        by_cases h : (o == w) = true
        · rw [if_pos h, if_pos h, List.append_assoc]; rfl
        · rw [if_neg h, if_neg h]
theorem st11_ok (C : Oracle) {loc : Loc} {w : Cs} {s : AH} {A B : Nat} {R : List Cs} {St : List Int} {c : Int} (hA : s[A]? = some (.list (R.map V.str))) (hB : s[B]? = some (.list (St.map V.int))) (hl : R.length = St.length) (hR : R.length < 500) (hz : zipP w R St = [c]) (h3 : loc[3]? = some (some (.str w))) (h18 : loc[18]? = some none) (h19 : loc[19]? = some none) (h10 : loc[10]? = some (some (.int c))) (h12 : loc[12]? = some (some (.obj A))) (h13 : loc[13]? = some (some (.obj B))) :
    ∃ s', ex C st11 loc s = some (.next, loc, s') ∧ Ext s s' := by
  have e := zip_loop C (lst_at hA) (lst_at hB) h3 h18 h19 R St [] [] FUEL [] rfl rfl rfl hl (Nat.lt_trans hR (by decide)) (by rw [List.length_nil, Nat.zero_add]; exact Nat.lt_trans hR (by decide))
  rw [hz] at e
  have e1 : ev C comp11 loc s = some (.obj s.length, s ++ [.list [.int c]]) := ev_comp (gens_zip (by
      show ((match loc[18]? with | some (some _) => false | _ => true) && ((match loc[19]? with | some (some _) => false | _ => true) && true)) = true
      rw [h18, h19]; rfl) (ev_var h12) (ev_var h13) (show (lstAt (.obj A) s).bind (fun _ => (lstAt (.obj B) s).bind fun _ => some (It.zip A B 0)) = _ from bindI (lst_at hA) (bindI (lst_at hB) rfl)) e) (lim_of rfl)
  have hne : compareV .NotEq (.obj s.length) (.obj (s ++ [O.list [.int c]]).length) ((s ++ [O.list [.int c]]) ++ [O.list [.int c]]) = some false := by
    have := eq_lst (a := [c]) (b := [c]) ((Ext.app (s ++ [O.list [.int c]]) [O.list [.int c]]).get (top_at ..)) (top_at ..)
    rw [decide_eq_true rfl] at this
    exact bindI this rfl
  exact ⟨_, ex_no (ev_cmp1 e1 (ev_list (evs_one (ev_var h10)) (lim_of rfl)) hne), (Ext.app _ _).trans (.app _ _)⟩

/-! ## each of the words reached -/
noncomputable abbrev or12 : E := .orE [(.cmp (.var 16) [.NotEq] [(.var 4)]), (.cmp (.cmp (.var 5) [.Eq] [(.mcall (.lit (.str [])) .join [(.var 2)])]) [.IsNot] [(.cmp (.var 14) [.Eq] [(.var 9)])])]
noncomputable abbrev body12 : List S := [(.assign (.vars [16, 5, 6]) (.fcall 166 [(.var 14)])), (.ifS or12 [(.ret (.lit (.bool false)))] [])]
noncomputable abbrev st12 : S := .forS (.var 14) (.var 12) body12
theorem get_at {l : Loc} {i : Nat} {v : Option V} (h : l.length = 26) (hi : Nat.ble (i + 1) 26 = true := by rfl) : (l.set i v)[i]? = some v := List.getElem?_set_self (h ▸ Nat.le_of_ble_eq_true hi)
section
variable {φ : Nat → Nat} (hφ : ∀ a b, a < b → φ a < φ b)
include hφ
theorem run166 (d : Nat) {o : Cs} (ho : o.length = 5) (s : AH) : ∃ Q s', callN T03 (d + 2) 166 [.str (mp φ o)] s = some (.tup [.obj Q, .str (mp φ (outOf o)), .str (heldOf (mp φ o))], s') ∧ Own s Q ((rowOf o).map V.int) s' := by
  obtain ⟨Q, s1, e1, o1⟩ := c166 d (mp φ o) s (by rw [List.length_map, ho]; decide)
  rw [e_row hφ] at o1
  rw [e_out hφ] at e1
  exact ⟨Q, s1, e1, o1⟩
theorem step12 (d : Nat) {loc : Loc} {s : AH} {Lt Rw : Nat} {v o u : Cs} (hlen : loc.length = 26) (ho : o.length = 5 ∧ rowOf o = rowOf v ∧ decide (outOf o = L0) = decide (o = u))
    (hL : s[Lt]? = some (.list ((mp φ L0).map chV))) (hRw : s[Rw]? = some (.list ((rowOf v).map V.int))) (h2 : loc[2]? = some (some (.obj Lt))) (h4 : loc[4]? = some (some (.obj Rw))) (h9 : loc[9]? = some (some (.str (mp φ u)))) :
    ∃ loc' s', forB (callN T03 (d + 2)) (.var 14) body12 (.str (mp φ o)) loc s = some (.inl loc', s') ∧ Kl [14, 16, 5, 6] loc loc' ∧ Ext s s' ∧ loc'.length = 26 := by
  obtain ⟨Q, s1, e1, o1⟩ := run166 hφ d ho.1 s
  rw [ho.2.1] at o1
  have l1 : (loc.set 14 (some (.str (mp φ o)))).length = 26 := by rw [List.length_set, hlen]
  have b1 : ex (callN T03 (d + 2)) (.assign (.vars [16, 5, 6]) (.fcall 166 [(.var 14)])) (loc.set 14 (some (.str (mp φ o)))) s = some (.next, (((loc.set 14 (some (.str (mp φ o)))).set 16 (some (.obj Q))).set 5 (some (.str (mp φ (outOf o))))).set 6 (some (.str (heldOf (mp φ o)))), s1) := ex_sets (is := [16, 5, 6]) (ev_fcall (evs_one (ev_var (get_at (v := some (.str (mp φ o))) hlen))) e1) rfl
  have kl : Kl [14, 16, 5, 6] loc ((((loc.set 14 (some (.str (mp φ o)))).set 16 (some (.obj Q))).set 5 (some (.str (mp φ (outOf o))))).set 6 (some (.str (heldOf (mp φ o))))) := ((((Kl.refl _ _).set _).set _).set _).set _
  have hn : compareV .NotEq (.obj Q) (.obj Rw) s1 = some false := by
    have := eq_lst o1.at_ (o1.ext.get hRw)
    rw [decide_eq_true rfl] at this
    exact bindI this rfl
  have l2 : ((loc.set 14 (some (.str (mp φ o)))).set 16 (some (.obj Q))).length = 26 := by rw [List.length_set, l1]
  refine ⟨_, s1, for_next (exs_cons b1 (exs_one (ex_no (log_go (w := false) (ev_cmp1 (ev_var (get_ne (get_ne (get_at l1)))) (ev_var (kl.at h4)) hn) rfl (log_last (ev_cmp1 (ev_cmp1 (ev_var (get_ne (get_at l2))) (ev_mcall ev_lit (evs_one (ev_var (kl.at h2))) rfl (join_chs (lst_at (o1.ext.get hL)) (lim_of rfl))) eq_str) (ev_cmp1 (ev_var (get_ne (get_ne (get_ne (get_at hlen))))) (ev_var (kl.at h9)) eq_str) (isnot_same ?_))))))), kl, o1.ext, ?_⟩
  · rw [dec_map hφ, dec_map hφ, ho.2.2]
  · rw [List.length_set, List.length_set, List.length_set, l1]
theorem st12_ok (d : Nat) {loc0 : Loc} {s0 : AH} {A Lt Rw : Nat} {R : List Cs} {v u : Cs} (hlen : loc0.length = 26) (hA : s0[A]? = some (.list (wordsV φ R))) (hR : R.length < 500) (hall : ∀ o ∈ R, o.length = 5 ∧ rowOf o = rowOf v ∧ decide (outOf o = L0) = decide (o = u))
    (hL : s0[Lt]? = some (.list ((mp φ L0).map chV))) (hRw : s0[Rw]? = some (.list ((rowOf v).map V.int))) (h2 : loc0[2]? = some (some (.obj Lt))) (h4 : loc0[4]? = some (some (.obj Rw))) (h9 : loc0[9]? = some (some (.str (mp φ u)))) (h12 : loc0[12]? = some (some (.obj A))) :
    ∃ loc' s', ex (callN T03 (d + 2)) st12 loc0 s0 = some (.next, loc', s') ∧ Kl [14, 16, 5, 6] loc0 loc' ∧ Ext s0 s' ∧ loc'.length = 26 := by
  obtain ⟨l, s', e, hk, hx, hl⟩ := loop_lst (f := forB (callN T03 (d + 2)) (.var 14) body12) (i := A) (vs := wordsV φ R) (fun _ l s' => Kl [14, 16, 5, 6] loc0 l ∧ Ext s0 s' ∧ l.length = 26) (fun _ _ _ h => lst_at (h.2.1.get hA)) (fun k x l s1 hv h => by
      obtain ⟨hk, hx, hl⟩ := h
      obtain ⟨o', ho', rfl⟩ := List.mem_map.mp (List.mem_of_getElem? hv)
      obtain ⟨o, ho, rfl⟩ := List.mem_map.mp ho'
      obtain ⟨l', s2, e, k2, x2, hl2⟩ := step12 hφ d hl (hall o ho) (hx.get hL) (hx.get hRw) (hk.at h2) (hk.at h4) (hk.at h9)
      exact ⟨l', s2, e, hk.trans k2, hx.trans x2, hl2⟩) _ FUEL 0 loc0 s0 (Nat.zero_add _) (by rw [words_len]; exact Nat.lt_trans hR (by decide)) ⟨.refl _ _, .refl _, hlen⟩
  exact ⟨l, s', ex_for (ev_var h12) (bindI (lst_at hA) rfl) e, hk, hx, hl⟩
end

/-! ## the product -/
noncomputable abbrev pow13 : E := .bin .Pow (.lit (.int (1000))) (.var 18)
noncomputable abbrev comp13 : E := .comp pow13 [(.mk (.var 18) (.var 13) [])]
noncomputable abbrev st13 : S := .ifS (.cmp (.bin .Mult (.bcall .sum [comp13]) (.fcall 173 [(.var 4)])) [.NotEq] [(.bin .Mult (.bin .Mult (.bin .Mult (.lit (.int (1001))) (.lit (.int (1001001)))) (.lit (.int (1001001001)))) (.lit (.int (1001001001001))))]) [(.ret (.lit (.bool false)))] []
noncomputable def g13 (v : V) : Option V := (asInt v).bind fun n => some (.int ((1000 : Int) ^ n.toNat))
theorem g13_map (l : List Int) : (l.map V.int).filterMap g13 = (l.map fun n => (1000 : Int) ^ n.toNat).map V.int := by
  induction l with
  | nil => rfl
  | cons c l ih => rw [List.map_cons, List.filterMap_cons_some (show g13 (.int c) = some (.int ((1000 : Int) ^ c.toNat)) from rfl), ih]; rfl
theorem mul_ok' {a b : Int} {s : AH} (h : a.natAbs < BIG ∧ b.natAbs < BIG) : binV .Mult (.int a) (.int b) s = some (.int (a * b), s) := if_pos h
theorem st13_ok (d : Nat) {loc : Loc} {s : AH} {B Rw : Nat} {St row : List Int} {h : Int} (hB : s[B]? = some (.list (St.map V.int))) (hRw : s[Rw]? = some (.list (row.map V.int))) (hS : St.length < 500) (hrow : row.length < 800) (hst : ∀ n ∈ St, 0 ≤ n ∧ n ≤ 64) (hh : hooksL row [0] 1 = some h) (hb : sumP St * h = BIGC ∧ (sumP St).natAbs < BIG ∧ h.natAbs < BIG)
    (h4 : loc[4]? = some (some (.obj Rw))) (h13 : loc[13]? = some (some (.obj B))) (h18 : loc[18]? = some none) : ∃ s', ex (callN T03 (d + 2)) st13 loc s = some (.next, loc, s') ∧ Ext s s' := by
  obtain ⟨s1, e1, x1⟩ := comp_run (f := genB (callN T03 (d + 2)) (fun l s => ev (callN T03 (d + 2)) pow13 l s) (.var 18) [] [] loc) (s := s) (j := .lst B 0) (vs := St.map V.int) g13 (by rw [List.length_map]; exact Nat.lt_trans hS (by decide)) (.inr ⟨B, rfl, fun s' x => lst_at (x.get hB)⟩) (fun v acc s' hv hx hacc => by
    obtain ⟨n, hn, rfl⟩ := List.mem_map.mp hv
    exact ⟨s', gen_yes rfl (gens_end (ev_bin ev_lit (ev_var (get_eq h18)) (pow_ok ⟨(hst n hn).1, (hst n hn).2, by decide⟩)) hacc), .refl _⟩)
  rw [g13_map] at e1
  have ec : ev (callN T03 (d + 2)) comp13 loc s = some (.obj s1.length, s1 ++ [.list ((St.map fun n => (1000 : Int) ^ n.toNat).map V.int)]) := ev_comp (gens_mk (unset_of h18) (ev_var h13) (bindI (lst_at hB) rfl) e1) (by rw [List.length_map, List.length_map]; exact Nat.le_trans (Nat.le_of_lt hS) (lim_of rfl))
  have x2 := x1.trans (Ext.app s1 [O.list ((St.map fun n => (1000 : Int) ^ n.toNat).map V.int)])
  have hs := new_at s1 ((St.map fun n => (1000 : Int) ^ n.toNat).map V.int)
  generalize s1 ++ [O.list ((St.map fun n => (1000 : Int) ^ n.toNat).map V.int)] = s2 at ec x2 hs
  obtain ⟨s3, e3, x3⟩ := c173 d Rw row s2 (x2.get hRw) hrow h hh
  have es : callB .sum [.obj s1.length] s2 = some (.int (sumP St), s2) := (show (lstAt (.obj s1.length) s2).bind (fun vs => (intsOf vs).bind fun l => some (V.int (l.foldl (· + ·) 0), s2)) = _ from bindI hs (bindI (intsOf_int _) rfl))
  have hne : compareV .NotEq (.int (sumP St * h)) (.int BIGC) s3 = some false := (show some (!decide (sumP St * h = BIGC)) = some false from by rw [decide_eq_true hb.1]; rfl)
  exact ⟨s3, ex_no (ev_cmp1 (ev_bin (ev_bcall (evs_one ec) es) (ev_fcall (evs_one (ev_var h4)) e3) (mul_ok' hb.2)) (ev_bin (ev_bin (ev_bin ev_lit ev_lit (mul_ok' (by decide))) ev_lit (mul_ok' (by decide))) ev_lit (mul_ok' (by decide))) hne), x2.trans x3⟩
end Mine.Pu
end
section -- NPl
set_option maxRecDepth 100000
set_option autoImplicit false
namespace Mine.Pu
open PySem

noncomputable abbrev st14 : S := .assign (.var 17) (.fcall 154 [(.var 3), (.bin .FloorDiv (.idx (.var 1) (.lit (.int (5)))) (.lit (.int (1024))))])
noncomputable abbrev ret15 : E := .cmp (.cmp (.idx (.fcall 166 [(.var 17)]) (.lit (.int (0)))) [.Eq] [(.var 4)]) [.Is] [(.cmp (.var 17) [.In] [(.var 12)])]
theorem is_same {a b : Bool} {s : AH} (h : a = b) : compareV .Is (.bool a) (.bool b) s = some true := by
  subst h
  show some (a == a) = _
  rw [beq_self_eq_true]
theorem Kl.len {S : List Nat} {a b : Loc} (x : Kl S a b) (h : a.length = 26) (h1 : S.contains 25 = false := by rfl) (h2 : S.contains 26 = false := by rfl) : b.length = 26 :=
  Nat.le_antisymm (List.getElem?_eq_none_iff.mp ((x 26 h2).trans (List.getElem?_eq_none (Nat.le_of_eq h)))) (List.getElem?_eq_some_iff.mp ((x 25 h1).trans (List.getElem?_eq_getElem (h ▸ Nat.lt_succ_self 25)))).1
theorem last_ok {φ : Nat → Nat} (hφ : ∀ a b, a < b → φ a < φ b) (d : Nat) {loc : Loc} {s : AH} {v : Cs} {R : List Cs} {A Sx Rw : Nat} {ns : List V} {n5 : Int} (hn5 : ns[5]? = some (.int n5)) (hlen : loc.length = 26) (hv : v.length = 5) (hA : s[A]? = some (.list (wordsV φ R))) (hS : s[Sx]? = some (.list ns)) (hRw : s[Rw]? = some (.list ((rowOf v).map V.int)))
    (hx : ∀ i q : Nat, i < 5 → q < 4 → decide (rowOf (exchL v i q) = rowOf v) = R.any (· == exchL v i q)) (h1 : loc[1]? = some (some (.obj Sx))) (h3 : loc[3]? = some (some (.str (mp φ v)))) (h4 : loc[4]? = some (some (.obj Rw))) (h12 : loc[12]? = some (some (.obj A))) :
    ∃ loc' s', exs (callN T03 (d + 2)) [st14, .ret ret15] loc s = some (.ret (.bool true), loc', s') := by
  obtain ⟨i, q, hi, hq, s1, e1, x1⟩ := c154 (d + 1) (mp φ v) (by rw [List.length_map, hv]) (Int.fdiv n5 1024) s
  rw [e_exch hv hi] at e1
  have hx := hx i q hi hq
  have hlen' : (exchL v i q).length = 5 := by unfold exchL; rw [List.length_set, List.length_set, hv]
  generalize exchL v i q = o at e1 hx hlen'
  obtain ⟨Q, s2, e2, o2⟩ := run166 hφ d hlen' s1
  have k17 : (loc.set 17 (some (.str (mp φ o))))[17]? = some (some (.str (mp φ o))) := get_at hlen
  exact ⟨_, s2, exs_cons (ex_set (ev_fcall (evs_cons (ev_var h3) (evs_one (ev_bin (ev_idx (ev_var h1) ev_lit (idx_lst (k := 5) (lst_at hS) hn5)) ev_lit (fdiv_ok (by decide))))) e1)) (exs_ret (ex_ret (ev_cmp1 (ev_cmp1 (ev_idx (ev_fcall (evs_one (ev_var k17)) e2) ev_lit (show (if 3 ≤ LIM then some (V.obj Q) else none) = _ from if_pos (lim_of rfl))) (ev_var (get_ne h4)) (eq_lst o2.at_ ((x1.trans o2.ext).get hRw))) (ev_cmp1 (ev_var k17) (ev_var (get_ne h12)) (in_ok (lst_at ((x1.trans o2.ext).get hA)))) (is_same (by rw [e_any hφ, hx])))))⟩

noncomputable abbrev loc178 (sc : List Int) (v1 v2 v3 v4 v5 v6 v8 v9 v10 v11 : Option V) : Loc := some (.flist (sc.map V.int)) :: v1 :: v2 :: v3 :: v4 :: v5 :: v6 :: none :: v8 :: v9 :: v10 :: v11 :: List.replicate 14 none
theorem pure_run {φ : Nat → Nat} (hφ : ∀ a b, a < b → φ a < φ b) (h46 : ∀ c ∈ mp φ L0, c ≠ 46) {script : List Int} {Sx Lt : Nat} {s1 s2 : AH} {n0 n1 n2 n3 n4 n5 : Int} {v : Cs} (hv : v ∈ perms) (e1 : callN T03 9 140 [.flist (script.map V.int)] [] = some (.obj Sx, s1)) (hS : s1[Sx]? = some (.list ([n0, n1, n2, n3, n4, n5].map V.int)))
    (e2 : callN T03 9 147 [.obj Sx] s1 = some (.tup [.obj Lt, .str (mp φ v)], s2)) (o2 : Own s1 Lt ((mp φ L0).map chV) s2) : ∃ σ, callN T03 10 178 [.flist (script.map V.int)] [] = some (.bool true, σ) := by
  have D := down_of hv
  obtain ⟨R, St, g, hre, U⟩ := up_of hv
  have hw5 : (mp φ v).length = 5 := by rw [List.length_map, D.len]
  obtain ⟨Rw, s3, e3, o3⟩ := run166 hφ 7 D.len s2
  have hheld : heldOf (mp φ v) = heldV (heldP (mp φ v)) := congrArg heldV (show heldS (mp φ v) = heldP (mp φ v) from by rw [e_heldS hφ, D.held, e_heldP hφ v D.len])
  rw [hheld] at e3
  generalize hl3 : loc178 script (some (.obj Sx)) (some (.obj Lt)) (some (.str (mp φ v))) (some (.obj Rw)) (some (.str (mp φ (outOf v)))) (some (.str (heldV (heldP (mp φ v))))) none none none none = l3
  have b3 : ∀ {r}, exs (callN T03 9) (b178.drop 3) l3 s3 = r → exs (callN T03 9) b178 (loc178 script none none none none none none none none none none) [] = r := fun h => exs_cons (ex_set (ev_fcall (evs_one rfl) e1)) (exs_cons (ex_sets (is := [2, 3]) (ev_fcall (evs_one rfl) e2) rfl) (exs_cons (ex_sets (is := [4, 5, 6]) (ev_fcall (evs_one rfl) e3) rfl) (by rw [← hl3] at h; exact h)))
  have g0 : l3.length = 26 := by rw [← hl3]; rfl
  have g1 : l3[1]? = some (some (.obj Sx)) := by rw [← hl3]; rfl
  have g2 : l3[2]? = some (some (.obj Lt)) := by rw [← hl3]; rfl
  have g3 : l3[3]? = some (some (.str (mp φ v))) := by rw [← hl3]; rfl
  have g4 : l3[4]? = some (some (.obj Rw)) := by rw [← hl3]; rfl
  have g6 : l3[6]? = some (some (.str (heldV (heldP (mp φ v))))) := by rw [← hl3]; rfl
  have g18 : l3[18]? = some none := by rw [← hl3]; rfl
  have g19 : l3[19]? = some none := by rw [← hl3]; rfl
  have g8 : l3[8]? = some none := by rw [← hl3]; rfl
  have g15 : l3[15]? = some none := by rw [← hl3]; rfl
  clear hl3 e3 hheld
  have hS3 := o3.ext.get (o2.ext.get hS)
  have hL3 := o3.ext.get o2.at_
  obtain ⟨s4, b4, x4⟩ := st4_ok (callN T03 9) (s := s3) hw5 g3 g6 g18
  obtain ⟨v8, b5⟩ := st5_ok 8 g4 g8 (x4.get o3.at_) (by rw [D.row]; decide)
  have K5 : Kl [8] l3 (l3.set 8 v8) := (Kl.refl _ _).set _
  have n5' := K5.len g0
  obtain ⟨M, s6, b6, o6⟩ := st6_ok hφ h46 7 D.len (K5.at g3) (K5.at g2) (x4.get hL3)
  have x6 := x4.trans o6.ext
  have K6 : Kl [8, 9, 10, 11] l3 ((((l3.set 8 v8).set 9 (some (.str (mp φ v)))).set 10 (some (.int ((0 : Nat) : Int)))).set 11 (some (.obj M))) := ((((Kl.refl _ _).set _).set _).set _).set _
  have q9 : ((l3.set 8 v8).set 9 (some (.str (mp φ v)))).length = 26 := by rw [List.length_set, n5']
  obtain ⟨l7, s7, w7, K7, k9, k10, x7⟩ := loop7 hφ h46 7 (n5 := n5) rfl (K6.at g2) (K6.at g1) (leastP L0 12 v) FUEL v 0 M _ s6 hv rfl (Nat.lt_trans D.few (by decide)) (by rw [Nat.zero_add]; exact Nat.lt_trans D.few (by decide)) (.refl _ _) (get_ne (get_ne (get_at n5'))) (get_ne (get_at q9)) (get_at (by rw [List.length_set, q9])) o6.at_ (x6.get hL3) (x6.get hS3)
  rw [Nat.zero_add] at k10
  obtain ⟨s8, b8, x8⟩ := st8_ok (callN T03 9) (s := s7) hw5 (K7.at (K6.at g3)) (by rw [e_cntP hφ v D.len]; exact k10) (K7.at (K6.at g18)) (K7.at (K6.at g19))
  obtain ⟨b9, o9⟩ := st9_ok (callN T03 9) (s := s8) k9
  have x38 := (x6.trans x7).trans x8
  generalize s8.length = A at b9 o9
  generalize (s8 ++ [O.list [V.str (mp φ (leastP L0 12 v))]]).length = B at b9 o9
  generalize (s8 ++ [O.list [V.str (mp φ (leastP L0 12 v))]]) ++ [O.list [.int 0]] = s9 at b9 o9
  have n7 := K7.len (K6.len g0)
  have K9 : Kl [12, 13, 7] l7 (((l7.set 12 (some (.obj A))).set 13 (some (.obj B))).set 7 (some (.int ((0 : Nat) : Int)))) := (((Kl.refl _ _).set _).set _).set _
  have n12 : (l7.set 12 (some (.obj A))).length = 26 := by rw [List.length_set, n7]
  have n13 : ((l7.set 12 (some (.obj A))).set 13 (some (.obj B))).length = 26 := by rw [List.length_set, n12]
  have p12 : (((l7.set 12 (some (.obj A))).set 13 (some (.obj B))).set 7 (some (.int ((0 : Nat) : Int))))[12]? = some (some (.obj A)) := get_ne (get_ne (get_at n7))
  have p13 : (((l7.set 12 (some (.obj A))).set 13 (some (.obj B))).set 7 (some (.int ((0 : Nat) : Int))))[13]? = some (some (.obj B)) := get_ne (get_at n12)
  have p7 : (((l7.set 12 (some (.obj A))).set 13 (some (.obj B))).set 7 (some (.int ((0 : Nat) : Int))))[7]? = some (some (.int ((0 : Nat) : Int))) := get_at n13
  generalize ((l7.set 12 (some (.obj A))).set 13 (some (.obj B))).set 7 (some (.int ((0 : Nat) : Int))) = l9 at b9 K9 p12 p13 p7
  have h5 : ∀ u ∈ [leastP L0 12 v], u.length = 5 := fun u hu => by
    have hz : ∀ (n : Nat) (R0 : List Cs) (S0 : List Int) (k : Nat), reachL L0 n R0 S0 k = some (R, St) → ∀ o ∈ R0, o ∈ R := by
      intro n
      induction n with
      | zero => exact fun _ _ _ h => noneE h
      | succ n ih => exact fun R0 S0 k h o ho => iteE (show (if k < R0.length then reachL L0 n (R0 ++ freshL L0 R0 k) (S0 ++ List.replicate (freshL L0 R0 k).length (S0.getD k 0 + 1)) (k + 1) else some (R0, S0)) = _ from h) (fun _ h => ih _ _ _ h o (List.mem_append_left _ ho)) fun _ h => by cases h; exact ho
    exact (U.all u (hz _ _ _ _ hre u hu)).1
  have up9 : ∀ {j : Nat} {o : Option (Option V)}, l3[j]? = o → [8, 9, 10, 11].contains j = false → [9, 10, 11].contains j = false → [12, 13, 7].contains j = false → l9[j]? = o := fun h a b c => K9.at (K7.at (K6.at h a) b) c
  obtain ⟨l10, s10, w10, K10, o10, hR⟩ := loop10 hφ h46 7 (up9 g2 rfl rfl rfl) p12 p13 (up9 g18 rfl rfl rfl) (x38.get hL3) 60 FUEL 0 l9 s9 [leastP L0 12 v] [0] none hre (by decide) rfl (by decide : 1 + 4 * 60 < 500) h5 o9 (.refl _ _) p7 (up9 g15 rfl rfl rfl)
  have up10 : ∀ {j : Nat} {o : Option (Option V)}, l3[j]? = o → [8, 9, 10, 11].contains j = false → [9, 10, 11].contains j = false → [12, 13, 7].contains j = false → [7, 15].contains j = false → l10[j]? = o := fun h a b c e => K10.at (up9 h a b c) e
  have x310 := x38.trans o10.ext
  have n10 := K10.len (K9.len n7)
  obtain ⟨s11, b11, x11⟩ := st11_ok (callN T03 9) (c := (cntP v : Nat)) (R := R.map (mp φ)) o10.a o10.b (by rw [List.length_map, U.len]) (by rw [List.length_map]; exact hR) (by rw [e_zip hφ, U.zip]) (up10 g3 rfl rfl rfl rfl) (up10 g18 rfl rfl rfl rfl) (up10 g19 rfl rfl rfl rfl) (K10.at (K9.at k10)) (K10.at p12) (K10.at p13)
  have x311 := x310.trans x11
  obtain ⟨l12, s12, b12, K12, x12, n12'⟩ := st12_ok hφ 7 (u := leastP L0 12 v) n10 (x11.get o10.a) hR U.all (x311.get hL3) (x311.get o3.at_) (up10 g2 rfl rfl rfl rfl) (up10 g4 rfl rfl rfl rfl) (K10.at (K9.at k9)) (K10.at p12)
  obtain ⟨s13, b13, x13⟩ := st13_ok 7 (x12.get (x11.get o10.b)) ((x311.trans x12).get o3.at_) (U.len ▸ hR) (by rw [D.row]; decide) U.rng U.hook U.prod (K12.at (up10 g4 rfl rfl rfl rfl)) (K12.at (K10.at p13)) (K12.at (up10 g18 rfl rfl rfl rfl))
  have x313 := (x311.trans x12).trans x13
  obtain ⟨loc', s', hl⟩ := last_ok hφ 7 (n5 := n5) rfl n12' D.len ((x11.trans (x12.trans x13)).get o10.a) (x313.get hS3) (x313.get o3.at_) U.exch (K12.at (up10 g1 rfl rfl rfl rfl)) (K12.at (up10 g3 rfl rfl rfl rfl)) (K12.at (up10 g4 rfl rfl rfl rfl)) (K12.at (K10.at p12))
  exact ⟨s', call_ret (np := 1) (ns := 25) (A := b178) rfl rfl (b3 (exs_cons b4 (exs_cons b5 (exs_cons b6 (exs_cons (ex_while w7) (exs_cons b8 (exs_cons b9 (exs_cons (ex_while w10) (exs_cons b11 (exs_cons b12 (exs_cons b13 hl)))))))))))⟩
theorem pure03 (script : List Int) (h : script.length ≤ 63) : ∃ σ, callN T03 10 178 [.flist (script.map V.int)] [] = some (.bool true, σ) := by
  obtain ⟨Sx, L, s1, hL6, e1, o1⟩ := c140 8 script h []
  match L, hL6 with
  | [n0, n1, n2, n3, n4, n5], _ =>
    obtain ⟨l0, l1, l2, l3, l4, i0, i1, i2, i3, i4, Lt, s2, hl, hi, e2, o2⟩ := c147 8 Sx n0 n1 n2 n3 n4 n5 s1 o1.at_
    have hφ := phi_mono hl.2
    have hL0 : L0.map (phi l0 l1 l2 l3 l4) = five l0 l1 l2 l3 l4 := rfl
    have hdr : drawL (five l0 l1 l2 l3 l4) [i0, i1, i2, i3, i4] = mp (phi l0 l1 l2 l3 l4) (drawL L0 [i0, i1, i2, i3, i4]) := by
      rw [← hL0]
      refine e_draw _ L0 fun k hk => ?_
      match k, hk with
      | 0, _ => exact hi.1
      | 1, _ => exact Nat.succ_lt_succ hi.2.1
      | 2, _ => exact Nat.succ_lt_succ (Nat.succ_lt_succ hi.2.2.1)
      | 3, _ => exact Nat.succ_lt_succ (Nat.succ_lt_succ (Nat.succ_lt_succ hi.2.2.2.1))
      | 4, _ => exact Nat.succ_lt_succ (Nat.succ_lt_succ (Nat.succ_lt_succ (Nat.succ_lt_succ hi.2.2.2.2)))
    rw [hdr] at e2
    rw [← hL0] at o2
    refine pure_run hφ (fun c hc => ?_) (draw_in hi) e1 o1.at_ e2 o2
    rw [mp, hL0] at hc
    have h97 : 97 ≤ c := by
      obtain ⟨h0, h1, h2, h3, h4⟩ := hl
      rcases hc with _ | ⟨_, _ | ⟨_, _ | ⟨_, _ | ⟨_, _ | ⟨_, hc⟩⟩⟩⟩⟩
      · exact h0
      · omega
      · omega
      · omega
      · omega
      · exact nomatch hc
    exact fun e => absurd (e ▸ h97) (by decide)
end Mine.Pu
end
section -- NHead
set_option maxRecDepth 100000
set_option maxHeartbeats 8000000
namespace Mine
open PySem PySem.W PySem.W.X PySem.Calls PyProof.Rows
/-- the program with the statements that the view keeps -/
noncomputable def view03 : Program := { PySem.Challenge.pw_uy0001_03 with main := { PySem.Challenge.pw_uy0001_03.main with body := PySem.Challenge.pw_uy0001_03.main.body.eraseIdx 13 |>.eraseIdx 10 |>.eraseIdx 7 |>.eraseIdx 1 } }
noncomputable def st03 (n : Nat) : Stmt := (PySem.Challenge.pw_uy0001_03.main.body.drop n).headD (.Pass default)
noncomputable def me03 (n : Nat) : Stmt := match st03 12 with
  | .ClassDef _ _ _ b .. => (b.drop n).headD (.Pass default)
  | s => s
noncomputable def sParts (s : Stmt) : Str × Arguments × List Stmt × Scope := match s with
  | .FunctionDef n ps b _ _ _ sc .. => (n, ps, b, sc)
  | _ => default
/-- the object that a def makes -/
noncomputable def fD (pre : Str) (s : Stmt) (cl : List (Str × Addr)) (dv : Value) (m : Str) (t : Tok) (c : Addr) (ct : Value) : FuncData :=
  ⟨(sParts s).1, pre ++ (sParts s).1, (sParts s).2.1, .stmts (sParts s).2.2.1, (sParts s).2.2.2, 3, cl, dv, .none, .none, .str m t, none, .ref c, ct, 0⟩
noncomputable def fO (d : FuncData) : Obj := ⟨.type "function", none, .func d, #[]⟩
noncomputable def cO (n qn : Str) (t : Nat) (line argc : Int) (a8 a11 : Addr) (v13 v14 : Value) (a15 : Addr) (i16 : Int) (t18 : Nat) : Obj :=
  ⟨.type "code", none, .fields #[.str n t, .str qn (t + 1), .str "/claim/cut.py" (t + 2), .int line 0, .int argc 0, .int 0 0, .int 0 0, .int 3 0, .ref a8, .bool true, .int 181 0, .ref a11, .none, v13, v14, .ref a15, .int i16 0, .int line 0, .str "/claim/cut.py" t18], #[]⟩
noncomputable def nO (P : Params) (l : List (Str × Nat × Value)) (n : Nat) : Obj := ⟨.type "dict", none, .dict (l.map fun p => ⟨PyData.keyHash P p.1, .str p.1 p.2.1, p.2.2⟩).toArray n, #[]⟩
noncomputable def K03h (P : Params) : Frag := [
(2, ⟨.none, none, .dict #[], #[]⟩),
  (3, nO P [("__name__", 165, (.str "law_uy0001_03" 336)), ("__doc__", 166, .none), ("__package__", 167, .none), ("__loader__", 168, (.builtin PySem.W.SZ.s7097527257260152453x26)), ("__spec__", 169, .none), ("__annotations__", 170, (.ref 6)), ("__builtins__", 171, (.ref 4)), ("__file__", 173, (.str "/claim/cut.py" 172)), ("__cached__", 174, .none), ("_wall", 193, (.ref 21)), ("ENDMARKER", 197, (.int 0 196)), ("NT_OFFSET", 199, (.int 256 198)), ("ISTERMINAL", 206, (.ref 28)), ("ISNONTERMINAL", 213, (.ref 35)), ("ISEOF", 220, (.ref 42)), ("ELLIPSIS_MARKER", 224, (.str "..." 223)), ("_ellipsis_match", 236, (.ref 49)), ("EMPTYSTRING", 240, (.str "" 239)), ("_Accumulator", 335, (.ref 129)), ("_law_sums", 346, (.ref 140)), ("_law_drawn", 358, (.ref 147)), ("_law_exchanged", 369, (.ref 154)), ("_law_moves", 375, (.ref 159)), ("_law_run", 389, (.ref 166)), ("_law_hooks", 400, (.ref 173)), ("law", 406, (.ref 178))] 26),
  (4, ⟨.type "module", some 0, .plain, #[]⟩),
  (27, cO "ISTERMINAL" "ISTERMINAL" 200 7 1 22 23 (.ref 24) (.ref 25) 26 204 205),
  (28, fO (fD "" (st03 4) [] .none "cpy313.token" 194 27 .none)),
  (34, cO "ISNONTERMINAL" "ISNONTERMINAL" 207 9 1 29 30 (.ref 31) (.ref 32) 33 211 212),
  (35, fO (fD "" (st03 5) [] .none "cpy313.token" 194 34 .none)),
  (41, cO "ISEOF" "ISEOF" 214 11 1 36 37 (.ref 38) (.ref 39) 40 218 219),
  (42, fO (fD "" (st03 6) [] .none "cpy313.token" 194 41 .none)),
  (48, cO "_ellipsis_match" "_ellipsis_match" 225 15 2 43 44 (.ref 45) (.ref 46) 47 234 235),
  (49, fO (fD "" (st03 9) [] .none "cpy313.doctest" 221 48 .none)),
  (139, cO "_law_sums" "_law_sums" 338 77 1 134 135 (.ref 136) (.ref 137) 138 344 345),
  (140, fO (fD "" (st03 14) [] .none "law_uy0001_03" 336 139 .none)),
  (146, cO "_law_drawn" "_law_drawn" 347 82 1 141 142 (.ref 143) (.ref 144) 145 356 357),
  (147, fO (fD "" (st03 15) [] .none "law_uy0001_03" 336 146 .none)),
  (153, cO "_law_exchanged" "_law_exchanged" 359 91 2 148 149 (.ref 150) (.ref 151) 152 367 368),
  (154, fO (fD "" (st03 16) [] .none "law_uy0001_03" 336 153 .none)),
  (158, cO "_law_moves" "_law_moves" 370 96 3 155 156 .none .none 157 373 374),
  (159, fO (fD "" (st03 17) [] .none "law_uy0001_03" 336 158 .none)),
  (165, cO "_law_run" "_law_run" 376 103 1 160 161 (.ref 162) (.ref 163) 164 387 388),
  (166, fO (fD "" (st03 18) [] .none "law_uy0001_03" 336 165 .none)),
  (172, cO "_law_hooks" "_law_hooks" 390 120 1 167 168 (.ref 169) (.ref 170) 171 398 399),
  (173, fO (fD "" (st03 19) [] .none "law_uy0001_03" 336 172 .none)),
  (177, cO "law" "law" 401 136 1 174 175 .none .none 176 404 405),
  (178, fO (fD "" (st03 20) [] .none "law_uy0001_03" 336 177 .none)),
  (58, ⟨.type "tuple", none, .seq #[.int 0 253], #[]⟩),
  (53, ⟨.type "cell", none, .cell (some (.ref 129)), #[]⟩),
  (65, cO "__init__" "_Accumulator.__init__" 254 47 2 60 61 (.ref 62) (.ref 63) 64 260 261),
  (66, fO (fD "_Accumulator." (me03 0) [("__class__", 53)] (.ref 58) "cpy313.email.header" 237 65 (.ref 59))),
  (72, cO "push" "_Accumulator.push" 263 51 3 67 68 (.ref 69) (.ref 70) 71 269 270),
  (73, fO (fD "_Accumulator." (me03 1) [] .none "cpy313.email.header" 237 72 .none)),
  (88, cO "pop" "_Accumulator.pop" 281 57 1 83 84 (.ref 85) (.ref 86) 87 286 287),
  (89, fO (fD "_Accumulator." (me03 3) [("__class__", 53)] .none "cpy313.email.header" 237 88 (.ref 82))),
  (102, cO "__str__" "_Accumulator.__str__" 296 65 1 97 98 (.ref 99) (.ref 100) 101 300 301),
  (103, fO (fD "_Accumulator." (me03 5) [] .none "cpy313.email.header" 237 102 .none)),
  (125, cO "part_count" "_Accumulator.part_count" 318 74 1 120 121 (.ref 122) (.ref 123) 124 323 324),
  (126, fO (fD "_Accumulator." (me03 8) [("__class__", 53)] .none "cpy313.email.header" 237 125 (.ref 119))),
  (98, ⟨.none, none, .fields #[], #[]⟩),
  (128, nO P [("__module__", 248, (.str "cpy313.email.header" 237)), ("__firstlineno__", 252, (.int 45 251)), ("__init__", 262, (.ref 66)), ("push", 271, (.ref 73)), ("pop_from", 280, (.ref 81)), ("pop", 288, (.ref 89)), ("__len__", 295, (.ref 96)), ("__str__", 302, (.ref 103)), ("reset", 310, (.ref 111)), ("is_onlyws", 317, (.ref 118)), ("part_count", 325, (.ref 126)), ("__static_attributes__", 327, (.ref 127)), ("__dict__", 330, (.ref 130)), ("__weakref__", 332, (.ref 131)), ("__doc__", 333, .none)] 5),
  (129, ⟨.type "type", none, .cls ⟨"_Accumulator", [.type "list"], [.ref 129, .type "list", .type "object"], 128, "_Accumulator", true, [], [], false, none, false⟩, #[some (.ref 50), none, some (.str "_Accumulator" 241), some (.str "_Accumulator" 249), some (.builtin "list.__new__"), some (.bool true)]⟩)]
def as03 : List Addr := [2, 3, 4, 27, 28, 34, 35, 41, 42, 48, 49, 139, 140, 146, 147, 153, 154, 158, 159, 165, 166, 172, 173, 177, 178, 58, 53, 65, 66, 72, 73, 88, 89, 102, 103, 125, 126, 98, 128, 129]
end Mine
end
section -- NFin
set_option maxRecDepth 100000
set_option maxHeartbeats 8000000
namespace Mine
open PySem PySem.W PySem.W.X PySem.Calls PyProof.Rows
theorem lookup_keep {K : Frag} {a c : Addr} (ha : (a != c) = true) : List.lookup a (K.filter (fun p => p.1 != c)) = List.lookup a K := by
  induction K with
  | nil => rfl
  | cons p r ih =>
    obtain ⟨b, x⟩ := p
    rw [List.filter_cons]
    simp only [List.lookup]
    by_cases hb : (a == b) = true
    · have : a = b := beq_iff_eq.mp hb
      subst this
      rw [hb, if_pos ha]
      simp [List.lookup]
    · rw [Bool.not_eq_true] at hb
      rw [hb]
      split
      · simp only [List.lookup, hb]; exact ih
      · exact ih
noncomputable def pos03 : Nat → Pos := fun n => match n with
  | 0 => ⟨48, 8, 48, 12⟩ | 1 => ⟨48, 8, 48, 26⟩ | 2 => ⟨48, 29, 48, 41⟩ | 3 => ⟨48, 8, 48, 41⟩ | 4 => ⟨49, 8, 49, 13⟩ | 5 => ⟨49, 8, 49, 15⟩ | 6 => ⟨49, 8, 49, 24⟩ | 7 => ⟨49, 8, 49, 26⟩ | 8 => ⟨49, 8, 49, 26⟩
  | 10 => ⟨52, 8, 52, 12⟩ | 11 => ⟨52, 8, 52, 19⟩ | 12 => ⟨52, 21, 52, 24⟩ | 13 => ⟨52, 26, 52, 32⟩ | 14 => ⟨52, 20, 52, 33⟩ | 15 => ⟨52, 8, 52, 34⟩ | 16 => ⟨52, 8, 52, 34⟩
  | 20 => ⟨58, 11, 58, 15⟩ | 21 => ⟨58, 11, 58, 26⟩ | 22 => ⟨58, 11, 58, 28⟩ | 23 => ⟨58, 32, 58, 33⟩ | 24 => ⟨58, 11, 58, 33⟩ | 25 => ⟨59, 20, 59, 22⟩ | 26 => ⟨59, 24, 59, 26⟩ | 27 => ⟨59, 19, 59, 27⟩ | 28 => ⟨59, 12, 59, 27⟩ | 29 => ⟨58, 8, 59, 27⟩
  | 30 => ⟨60, 15, 60, 20⟩ | 31 => ⟨60, 15, 60, 22⟩ | 32 => ⟨60, 15, 60, 26⟩ | 33 => ⟨60, 15, 60, 28⟩ | 34 => ⟨60, 8, 60, 28⟩
  | 40 => ⟨75, 15, 75, 20⟩ | 41 => ⟨75, 15, 75, 22⟩ | 42 => ⟨75, 15, 75, 30⟩ | 43 => ⟨75, 15, 75, 32⟩ | 44 => ⟨75, 8, 75, 32⟩
  | _ => ⟨0, 0, 0, 0⟩
noncomputable def posS03 : Nat → Pos := fun n => match n with
  | 0 => ⟨66, 33, 66, 44⟩ | 1 => ⟨66, 33, 66, 49⟩ | 2 => ⟨66, 51, 66, 54⟩ | 3 => ⟨66, 56, 66, 60⟩ | 4 => ⟨66, 50, 66, 61⟩ | 5 => ⟨66, 33, 66, 62⟩ | 6 => ⟨66, 67, 66, 70⟩ | 7 => ⟨66, 72, 66, 76⟩ | 8 => ⟨66, 67, 66, 76⟩ | 9 => ⟨66, 80, 66, 84⟩
  | 10 => ⟨66, 32, 66, 85⟩ | 11 => ⟨66, 15, 66, 26⟩ | 12 => ⟨66, 15, 66, 31⟩ | 13 => ⟨66, 15, 66, 86⟩ | 14 => ⟨66, 8, 66, 86⟩
  | _ => ⟨0, 0, 0, 0⟩
/-- what the final text shows of the heap -/
structure K03 (prog : Program) (w : World) (K : Frag) : Prop where
  F : KF (K.filter (fun p => p.1 != 98))
  sup : nsIn (K.filter (fun p => p.1 != 98)) mainGlobals "super" = some none
  bm : nsIn (K.filter (fun p => p.1 != 98)) mainGlobals "__builtins__" = some (some (.ref 4))
  tab : ∃ oc vs, K.lookup 102 = some oc ∧ oc.cls = .type "code" ∧ oc.data = .fields vs ∧ vs[11]? = some (.ref 98)
  tab0 : K.lookup 98 = some (tabO #[])
  acc : ∀ (mg mb : Str → Option Value) (te : Tok), mg "super" = none → mb "super" = some (.type "super") → mg "EMPTYSTRING" = some (.str ⟨#[]⟩ te) → mg "__builtins__" = some (.ref 4) → ∃ AT : AccAt (base03 prog w K mg mb), AccPos AT ∧ Nonempty (StrAt (base03 prog w K mg mb) AT)
  dfn : ∀ (mg mb : Str → Option Value), DefAt (base03 prog w K mg mb) 28 1 8 b28 ∧ DefAt (base03 prog w K mg mb) 35 1 8 b35 ∧ DefAt (base03 prog w K mg mb) 42 1 8 b42 ∧ DefAt (base03 prog w K mg mb) 49 2 12 b49 ∧ DefAt (base03 prog w K mg mb) 140 1 10 b140 ∧
    DefAt (base03 prog w K mg mb) 147 1 13 b147 ∧ DefAt (base03 prog w K mg mb) 154 2 11 b154 ∧ DefAt (base03 prog w K mg mb) 159 3 12 b159 ∧ DefAt (base03 prog w K mg mb) 166 1 15 b166 ∧ DefAt (base03 prog w K mg mb) 173 1 12 b173 ∧ DefAt (base03 prog w K mg mb) 178 1 25 b178

theorem law03_all {prog : Program} {w : World} {K : Frag} {mg mb : Str → Option Value} {s₁ : Shared} (X : K.In s₁.heap) (G : s₁.heap.Ns mainGlobals mg) (Bn : s₁.heap.Ns builtinsNs mb) (nl : s₁.heap.NoLimit) (hmb : ∀ x : Str, x ≠ "__name__" → mb x = bootBuiltins x)
    (hs : s₁.heap.objs.size = 180) (hg : s₁.gens = #[]) {items : List Value} {script : List Int} (hl : s₁.heap.get? 179 = some { cls := .type "list", data := .seq items.toArray }) (hi : IntsAre items script)
    (pure : ∃ σ, callN T03 10 178 [.flist (script.map V.int)] [] = some (.bool true, σ)) {Q : Value → Shared → Prop} {E : Value → Shared → Prop} (KK : K03 prog w K) (hQ : ∀ s', OldK s₁.heap s'.heap → s'.os = s₁.os → AllBare s'.gens → Q (.bool true) s') :
    wpAny (model prog w) callerA (call (.ref 178) [.ref 179]) Q E s₁ := by
  have X' := in_filter X 98
  obtain ⟨te, hte⟩ := KK.F.es
  obtain ⟨AT, AP, ⟨TT⟩⟩ := KK.acc mg mb te (mg_none_of X' G KK.sup) ((hmb "super" (by decide)).trans (by kernel_rfl)) (mg_of X' G hte) (mg_of X' G KK.bm)
  obtain ⟨d1, d2, d3, d4, d5, d6, d7, d8, d9, d10, d11⟩ := KK.dfn mg mb
  obtain ⟨oc, vs, h1, h2, h3, h4⟩ := KK.tab
  refine wpAny_mono (law03_main KK.F X G Bn nl hmb AT AP TT (t03_dfn d1 d2 d3 d4 d5 d6 d7 d8 d9 d10 d11) ⟨102, ⟨oc, vs, X _ _ h1, h2, h3, h4⟩, X _ _ KK.tab0⟩ hs hg hl hi pure) (fun v s' hr => ?_) fun _ _ z => z
  obtain ⟨rfl, a, b, c⟩ := hr
  exact hQ s' a b c
theorem len1 {P : List Value → Prop} (h : ∀ a, P [a]) (vs : List Value) (e : vs.length = 1) : P vs := by obtain ⟨a, rfl⟩ := List.length_eq_one_iff.mp e; exact h a
theorem len2 {P : List Value → Prop} (h : ∀ a b, P [a, b]) (vs : List Value) (e : vs.length = 2) : P vs := by
  rcases vs with _ | ⟨a, t⟩
  · exact absurd e (by decide)
  exact len1 (P := fun t => P (a :: t)) (h a) t (Nat.succ.inj e)
theorem len3 {P : List Value → Prop} (h : ∀ a b c, P [a, b, c]) (vs : List Value) (e : vs.length = 3) : P vs := by
  rcases vs with _ | ⟨a, t⟩
  · exact absurd e (by decide)
  exact len2 (P := fun t => P (a :: t)) (h a) t (Nat.succ.inj e)
theorem bnd1_inv {P : List Value → List (Str × Value) → Prop} (h : ∀ x, P [x] [("self", x)]) : ∀ vs bs, bnd1 vs = some bs → P vs bs := fun vs bs e => by
  rcases vs with _ | ⟨x, _ | ⟨y, r⟩⟩
  · cases e
  · cases e; exact h x
  · cases e
theorem bndPush_inv {P : List Value → List (Str × Value) → Prop} (h : ∀ x y z, P [x, y, z] [("self", x), ("fws", y), ("string", z)]) : ∀ vs bs, bndPush vs = some bs → P vs bs := fun vs bs e => by
  rcases vs with _ | ⟨x, _ | ⟨y, _ | ⟨z, _ | ⟨u, r⟩⟩⟩⟩
  · cases e
  · cases e
  · cases e
  · cases e; exact h x y z
  · cases e
theorem bndInit_inv {t : Tok} {P : List Value → List (Str × Value) → Prop} (h : ∀ x, P [x] [("self", x), ("initial_size", .int 0 t)]) (h2 : ∀ x y, P [x, y] [("self", x), ("initial_size", y)]) : ∀ vs bs, bndInit t vs = some bs → P vs bs := fun vs bs e => by
  rcases vs with _ | ⟨x, _ | ⟨y, _ | ⟨z, r⟩⟩⟩
  · cases e
  · cases e; exact h x
  · cases e; exact h2 x y
  · cases e
theorem fnAt_of {B : Base} {f : Addr} {clo : List (Str × Addr)} {names : List (Str × NameKind)} {body : List Stmt} {bnd : List Value → Option (List (Str × Value))} {od : Option Addr} {sl : Array (Option Value)} {fd : FuncData} {ar : Arg} {cda : Addr} {oc : Obj} {vs : Array Value} {file : Str} {tf : Tok}
    (h1 : B.K.lookup f = some ⟨.type "function", od, .func fd, sl⟩) (h2 : fd.body = .stmts body) (h3 : fd.closure = clo) (h4 : fd.scope = fscope names) (h5 : fd.globals = mainGlobals) (h6 : fd.builtins = builtinsNs) (h7 : codeIn B.K fd.code fd.qualname = true) (h8 : (fd.params.posonlyargs ++ fd.params.args).head? = some ar) (h9 : ar.arg = ("self" : Str))
    (h10 : ∀ vs bs, bnd vs = some bs → ∀ s : Shared, B.K.In s.heap → BindsTo s fd ⟨vs, []⟩ bs) (h11 : fd.code = .ref cda) (h12 : B.K.lookup cda = some oc) (h13 : oc.data = .fields vs) (h14 : vs[2]? = some (.str file tf)) (h15 : ((B.prog.main.file : Str) == file) = true) : FnAt B f clo names body bnd :=
  ⟨⟨od, sl, fd, ar, h1, h2, h3, h4, h5, h6, h7, ⟨h8, h9⟩, h10, cda, oc, vs, file, tf, h11, h12, h13, h14, h15⟩⟩
theorem defAt_of {prog : Program} {w : World} {K : Frag} {mg mb : Str → Option Value} {f : Addr} {np ns : Nat} {body : List S} {o : Obj} {fd : FuncData} {body0 : List Stmt} (hne : (f != 98) = true) (h1 : K.lookup f = some o) (h2 : o.data = .func fd) (h3 : fd.body = .stmts body0) (h4 : fd.closure = [])
    (h5 : fd.scope.isCoroutine = false) (h6 : fd.scope.isGenerator = false) (h7 : fd.globals = mainGlobals) (h8 : fd.builtins = builtinsNs) (h9 : codeIn (K.filter (fun p => p.1 != 98)) fd.code fd.qualname = true)
    (h10 : trDef GT3 fd.params body0 fd.scope = some (.dfn np ns body)) (h11 : ∀ vals, vals.length = np → bindArgs fd ⟨vals, []⟩ = pure ((fd.params.args.map (·.arg)).zip vals)) : DefAt (base03 prog w K mg mb) f np ns body :=
  ⟨⟨o, fd, body0, (lookup_keep hne).trans h1, h2, h3, h4, h5, h6, h7, h8, h9, h10, h11⟩⟩
theorem said03 : PySem.Challenge.rw_uy0001_03.wellSaid = true := by decide +kernel
theorem left03 : LeftO (PySem.Challenge.rw_uy0001_03.row.toRowW.prog) view03 ["_Accumulator"] (fun s => xlAt view03 [] s && recOk (RowW.records PySem.Challenge.rw_uy0001_03.row.toRowW) s) (obsZ as03) (valZ K03h 179 407) (2 * 957 + 100) := by
  intro w
  kernel_rfl
theorem k03 (w : World) : K03 PySem.Challenge.rw_uy0001_03.row.toRowW.prog w (K03h w.params) := by
  refine ⟨⟨by kernel_rfl, by kernel_rfl, ⟨_, rfl⟩, ⟨_, rfl⟩, ⟨_, rfl⟩, ⟨_, rfl⟩, by kernel_rfl⟩, by kernel_rfl, by kernel_rfl, ⟨_, _, rfl, rfl, rfl, rfl⟩, rfl, fun mg mb te m1 m2 m3 m4 => ?_, fun mg mb => ?_⟩
  · refine ⟨{ cc := 53, fInit := 66, fPush := 73, fPop := 89, fCnt := 126, cd := _, t0 := 253, ps := pos03, cls := (by rfl), mro := (by rfl), hasDict := (by rfl), qual := (by rfl), clsT := (by kernel_rfl), makes := (by kernel_rfl), ga := (by kernel_rfl), gh := (by kernel_rfl), sa := (by kernel_rfl), tk := (by kernel_rfl),
                  mInit := (by kernel_rfl), mPush := (by kernel_rfl), mPop := (by kernel_rfl), mCnt := (by kernel_rfl), mApp := (by kernel_rfl), cell := ⟨_, _, _, (lookup_keep (by decide)).trans rfl⟩, third := (by kernel_rfl), mgS := m1, mbS := m2, top := (by kernel_rfl),
                  dInit := fnAt_of ((lookup_keep (by decide)).trans rfl) rfl rfl rfl rfl rfl (by kernel_rfl) rfl rfl (bndInit_inv (fun x s X => kp_binds X (fun S => by kernel_rfl)) (fun x y s X => kp_binds X (fun S => by kernel_rfl))) rfl ((lookup_keep (by decide)).trans rfl) rfl rfl (by rfl),
                  dPush := fnAt_of ((lookup_keep (by decide)).trans rfl) rfl rfl rfl rfl rfl (by kernel_rfl) rfl rfl (bndPush_inv fun x y z s X => kp_binds X (fun S => by kernel_rfl)) rfl ((lookup_keep (by decide)).trans rfl) rfl rfl (by rfl),
                  dPop := fnAt_of ((lookup_keep (by decide)).trans rfl) rfl rfl rfl rfl rfl (by kernel_rfl) rfl rfl (bnd1_inv fun x s X => kp_binds X (fun S => by kernel_rfl)) rfl ((lookup_keep (by decide)).trans rfl) rfl rfl (by rfl),
                  dCnt := fnAt_of ((lookup_keep (by decide)).trans rfl) rfl rfl rfl rfl rfl (by kernel_rfl) rfl rfl (bnd1_inv fun x s X => kp_binds X (fun S => by kernel_rfl)) rfl ((lookup_keep (by decide)).trans rfl) rfl rfl (by rfl) }, ⟨rfl, rfl, rfl, rfl, rfl, fun _ => rfl, fun _ => rfl, fun _ => rfl⟩, ⟨?_⟩⟩
    exact { fStr := 103, cda := 102, P := 98, bm := 4, ob := _, te := te, ps := posS03, mStr := (by kernel_rfl), dStr := fnAt_of ((lookup_keep (by decide)).trans rfl) rfl rfl rfl rfl rfl (by kernel_rfl) rfl rfl (bnd1_inv fun x s X => kp_binds X (fun S => by kernel_rfl)) rfl ((lookup_keep (by decide)).trans rfl) rfl rfl (by rfl), isFn := (by kernel_rfl),
                  codeOf := (fun fd od sl h => by have h2 := (lookup_keep (c := 98) (by decide)).symm.trans h; cases h2; rfl),
                  code := ⟨_, _, _, _, _, _, _, _, _, (lookup_keep (by decide)).trans rfl, rfl, rfl, rfl, rfl, rfl, rfl, rfl⟩, tab := List.mem_singleton.mpr rfl, mgE := m3, bmName := m4, bmNe := (by decide), bmObj := (lookup_keep (by decide)).trans rfl, bmCls := (by rfl), bmDict := (by rfl), bmData := (by rfl), iter := (by kernel_rfl), l1 := rfl, l2 := rfl }
  · exact ⟨defAt_of (by decide) rfl rfl rfl rfl rfl rfl rfl rfl (by kernel_rfl) (by kernel_rfl) (len1 fun a => by kernel_rfl), defAt_of (by decide) rfl rfl rfl rfl rfl rfl rfl rfl (by kernel_rfl) (by kernel_rfl) (len1 fun a => by kernel_rfl), defAt_of (by decide) rfl rfl rfl rfl rfl rfl rfl rfl (by kernel_rfl) (by kernel_rfl) (len1 fun a => by kernel_rfl), defAt_of (by decide) rfl rfl rfl rfl rfl rfl rfl rfl (by kernel_rfl) (by kernel_rfl) (len2 fun a b => by kernel_rfl), defAt_of (by decide) rfl rfl rfl rfl rfl rfl rfl rfl (by kernel_rfl) (by kernel_rfl) (len1 fun a => by kernel_rfl), defAt_of (by decide) rfl rfl rfl rfl rfl rfl rfl rfl (by kernel_rfl) (by kernel_rfl) (len1 fun a => by kernel_rfl), defAt_of (by decide) rfl rfl rfl rfl rfl rfl rfl rfl (by kernel_rfl) (by kernel_rfl) (len2 fun a b => by kernel_rfl), defAt_of (by decide) rfl rfl rfl rfl rfl rfl rfl rfl (by kernel_rfl) (by kernel_rfl) (len3 fun a b c => by kernel_rfl), defAt_of (by decide) rfl rfl rfl rfl rfl rfl rfl rfl (by kernel_rfl) (by kernel_rfl) (len1 fun a => by kernel_rfl), defAt_of (by decide) rfl rfl rfl rfl rfl rfl rfl rfl (by kernel_rfl) (by kernel_rfl) (len1 fun a => by kernel_rfl), defAt_of (by decide) rfl rfl rfl rfl rfl rfl rfl rfl (by kernel_rfl) (by kernel_rfl) (len1 fun a => by kernel_rfl)⟩
theorem as03_eq (P : Params) : as03 = (K03h P).map (·.1) := by kernel_rfl
noncomputable def d03 : DefRec × List (Str × Expr) := (defOf view03 "law").get (by kernel_rfl)
theorem walk03 : WalkX view03 ["_Accumulator"] (XL view03 []) (obsZ as03) (valZ K03h 179 407) PySem.Challenge.rw_uy0001_03.row.toRowW d03.1 d03.2 fun f vs => PySem.call f vs := by
  intro w s₀ s₁ mg mb G y fa o pm cd doc dV kV ho hd hcd hD hmg hg args vals as L hpre hlay hrd hwl hlo
  clear ho hd hcd hD
  obtain ⟨-, ZI, ZN, ZT⟩ := z_facts as03_eq y
  have KX := InK.keeps w _ _ ZI (Laid.keeps L)
  have T := G.T
  clear G y ZI ZT
  wrow_args hpre hlay hrd hwl hlo
  obtain ⟨hat, hsz⟩ := script_at L
  rw [ZN] at hat hsz
  subst hat
  have hfa := hmg.symm.trans (mg_of KX T.g (show nsIn (K03h w.params) mainGlobals "law" = some (some (.ref 178)) by kernel_rfl))
  rename_i script _ _ _ _ _ _ _ vs _ _ hints _ hlen _ hlist _ _
  injection hfa with hfb
  injection hfb with hfc
  subst hfc
  have hobj := script_obj L hlist
  show wpAny _ callerA (call (.ref 178) [.ref 179]) _ _ _
  exact law03_all KX T.g T.b T.nolimit T.builtins hsz hg hobj hints (Pu.pure03 _ (by omega)) (k03 w) (fun s' h1 h2 h3 => ⟨.inl ⟨_, _, [], rfl, (fun _ => rfl), ReadsW.bool true, (by wrow_post), fun _ => ⟨List.nodup_nil, fun _ hm => (nomatch hm)⟩⟩, h1, h2, h3⟩)
end Mine
end
open PySem PySem.W PyProof.Rows PySem.W.X PySem.Calls Mine
set_option maxRecDepth 100000 in
set_option maxHeartbeats 8000000 in
theorem PySem.Challenge.cw_uy0001_03_holds : PySem.Challenge.rw_uy0001_03.Holds := by
  w_on
  refine holds_law said03 fun said => ?_
  refine holds_openX (q := view03) (loose := ["_Accumulator"]) (XP := XL view03 []) (Yf := obsZ as03) (Ya := valZ K03h 179 407) (N := 2 * 957 + 100) (d := d03.1) (kwd := d03.2) left03 (fun s e => xl_of s (Bool.and_eq_true_iff.mp e).1) XL.keeps (by kernel_rfl) (by kernel_rfl) (by kernel_rfl) (fun s e => recFacts_of (Bool.and_eq_true_iff.mp e).2) (by rfl) said (by decide +kernel) ⟨rfl, rfl, rfl, rfl, rfl, by decide +kernel⟩ ?hw walk03
  case hw => w_witness2
