import PyProof.Rows.All
import Wide.All
import OpenK.AllK
import Wide.FinOn
import KE.KFmtOwn
import KE.KLam
import KE.KDictIter
import KE.KStateDown
import PyProof.StrLawsTight
import PySem.Challenge.RW_uy0001_01
set_option Elab.async false
set_option genInjectivity false
set_option genSizeOf false
set_option genSizeOfSpec false
set_option bootstrap.genMatcherCode false
set_option linter.all false
set_option autoImplicit false
set_option maxRecDepth 100000
set_option maxHeartbeats 8000000
section
namespace Mine
theorem oJ.{u}{α:Type u}{a b:α}(h:some a=some b):a=b:=Option.some.inj h
theorem mS.{u}{α:Type u}{a b:α}(h:a∈[b]):a=b:=List.mem_singleton.mp h
theorem mC.{u}{α:Type u}{a b:α}{l:List α}(h:a∈b::l):a=b∨a∈l:=List.mem_cons.mp h
theorem nT{a b c:Nat}(h:a≤b)(k:b≤c):a≤c:=Nat.le_trans h k
end Mine
end
section
namespace Mine
open PySem
noncomputable abbrev Cs:=List Nat
inductive V where
 | none|bool (b:Bool)|int (i:Int)|str (s:Cs)
 | tup (vs:List V)|obj (i:Nat)|flist (vs:List V)
 | rng (a b c:Int)
noncomputable abbrev Loc:=List (Option V)
inductive Tgt where
 | var (i:Nat)|vars (is:List Nat)
inductive Bi where
 | len|ord|chr|sum|min|range|str|sorted|set
inductive Mt where
 | append|pop|extend|join|split|startswith|endswith|find
 | push|part_count|pop_from|reset
deriving DecidableEq
mutual
inductive E where
 | lit (v:V)
 | var (i:Nat)
 | bin (op:Operator) (a b:E)
 | neg (a:E)
 | notE (a:E)
 | andE (es:List E)
 | orE (es:List E)
 | ite (c a b:E)
 | cmp (a:E) (ops:List CmpOp) (es:List E)
 | list (es:List E)
 | tup (es:List E)
 | idx (o i:E)
 | slc (o l u s:E)
 | bcall (b:Bi) (args:List E)
 | fcall (f:Addr) (args:List E)
 | mcall (o:E) (m:Mt) (args:List E)
 | comp (elt:E) (gens:List G)
 | dict (kvs:List E)
 | dcomp (k v:E) (t:Tgt) (it:E)
 | lam (e:E)
 | vcall (f:E) (args:List E)
inductive G where
 | mk (t:Tgt) (it:E) (ifs:List E)
end
inductive S where
 | assign (t:Tgt) (e:E)
 | setIdx (o i e:E)
 | augVar (i:Nat) (op:Operator) (e:E)
 | augIdx (o i:E) (op:Operator) (e:E)
 | expr (e:E)
 | ret (e:E)
 | ifS (c:E) (a b:List S)
 | whileS (c:E) (body:List S)
 | forS (t:Tgt) (it:E) (body:List S)
 | del (o i:E)
 | assertS (c:E)
inductive Fl where
 | next|ret (v:V)
noncomputable abbrev Kx:=Int⊕Cs
inductive O where
 | list (vs:List V)
 | acc (n:Int) (vs:List V)
 | dict (kvs:List (Kx×V))
 | lam (e:E)
 | set (l:List Cs)
noncomputable abbrev AH:=List O
noncomputable abbrev Oracle:=Addr->List V->AH->Option (V×AH)
noncomputable def LIM:Nat:=1000000
noncomputable def BIG:Nat:=2 ^ 256
noncomputable def place (k:Int) (n:Nat):Option Nat:=
 if 0<=k then(if k<n then some k.toNat else none)
 else(if 0<=k+n then some (k+n).toNat else none)
noncomputable def asInt:V->Option Int
 | .int i=>some i
 | _=>none
noncomputable def asStr:V->Option Cs
 | .str i=>some i
 | _=>none
noncomputable def asBool:V->Option Bool
 | .bool i=>some i
 | _=>none
noncomputable def asTup:V->Option (List V)
 | .tup i=>some i
 | _=>none
noncomputable def asObj:V->Option Nat
 | .obj i=>some i
 | _=>none
noncomputable def asL:O->Option (List V)
 | .list vs=>some vs
 | _=>none
noncomputable def asD:O->Option (List (Kx×V))
 | .dict kvs=>some kvs
 | _=>none
noncomputable def asKx:V->Option Kx
 | .int i=>some (.inl i)
 | .str s=>some (.inr s)
 | _=>none
noncomputable def asLam:O->Option E
 | .lam e=>some e
 | _=>none
noncomputable def lamAt (v:V) (σ:AH):Option E:=(asObj v).bind λi=>(σ[i]?).bind asLam
noncomputable def dictAt (v:V) (σ:AH):Option (List (Kx×V)):=(asObj v).bind λi=>(σ[i]?).bind asD
noncomputable def lstAt (v:V) (σ:AH):Option (List V):=(asObj v).bind λi=>(σ[i]?).bind asL
noncomputable def seqAt (v:V) (σ:AH):Option (List V):=match v with
 | .flist vs=>if vs.length<=LIM then some vs else none
 | .obj i=>(σ[i]?).bind asL
 | _=>none
noncomputable def a1:List V->Option V
 | [v]=>some v
 | _=>none
noncomputable def a2:List V->Option (V×V)
 | [v,u]=>some (v,u)
 | _=>none
noncomputable def a3:List V->Option (V×V×V)
 | [v,u,w]=>some (v,u,w)
 | _=>none
noncomputable def int2 {α:Type}(a b:V) (k:Int->Int->Option α):Option α:=(asInt a).bind λi=>(asInt b).bind λj=>k i j
noncomputable def bool2 {α:Type}(a b:V) (k:Bool->Bool->Option α):Option α:=(asBool a).bind λi=>(asBool b).bind λj=>k i j
noncomputable def str2 {α:Type}(a b:V) (k:Cs->Cs->Option α):Option α:=(asStr a).bind λi=>(asStr b).bind λj=>k i j
noncomputable def eqL (f:V->V->Option Bool):List V->List V->Option Bool
 | [],[]=>some true
 | a::as,b::bs=>(f a b).bind λx=>(eqL f as bs).bind λy=>some (x&&y)
 | _,_=>none
noncomputable def eqB (a b:V):Option Bool:=match a with
 | .none=>match b with
  | .none=>some true
  | _=>none
 | .bool x=>(asBool b).bind λy=>some (x==y)
 | .int x=>(asInt b).bind λy=>some (decide (x=y))
 | .str x=>(asStr b).bind λy=>some (decide (x=y))
 | _=>none
noncomputable def eqP:Nat->V->V->Option Bool
 | 0,a,b=>eqB a b
 | n+1,a,b=>match a with
  | .tup as=>(asTup b).bind λbs=>if as.length=bs.length then eqL (eqP n) as bs else none
  | _=>eqB a b
noncomputable def listsEq (a b:List V):Option Bool:=if a.length=b.length then eqL (eqP 3) a b else some false
noncomputable def strsOf:List V->Option (List Cs)
 | []=>some []
 | v::r=>(asStr v).bind λs=>(strsOf r).bind λl=>some (s::l)
noncomputable def intsOf:List V->Option (List Int)
 | []=>some []
 | v::r=>(asInt v).bind λs=>(intsOf r).bind λl=>some (s::l)
noncomputable def memP (x:V) (l:List V):Option Bool:=(asInt x).bind λi=>(intsOf l).bind λys=>some (ys.any (· == i))
noncomputable def ltL:Cs->Cs->Bool
 | [],[]=>false
 | [],_::_=>true
 | _::_,[]=>false
 | a::as,b::bs=>if a<b then true else if b<a then false else ltL as bs
noncomputable def hasSub (x y:Cs):Bool:=Txt.contains ⟨y.toArray⟩ ⟨x.toArray⟩
noncomputable def eqV (a b:V) (σ:AH):Option Bool:=match a with
 | .obj i=>(lstAt (.obj i) σ).bind λx=>(lstAt b σ).bind λy=>listsEq x y
 | _=>eqP 3 a b
noncomputable def inV (a b:V) (σ:AH):Option Bool:=match b with
 | .str y=>(asStr a).bind λx=>some (hasSub x y)
 | .obj i=>(lstAt (.obj i) σ).bind λy=>memP a y
 | _=>none
noncomputable def compareV (op:CmpOp) (a b:V) (σ:AH):Option Bool:=match op with
 | .Eq=>eqV a b σ
 | .NotEq=>(eqV a b σ).bind λt=>some (!t)
 | .Lt=>int2 a b λx y=>some (decide (x<y))
 | .LtE=>int2 a b λx y=>some (decide (x<=y))
 | .Gt=>int2 a b λx y=>some (decide (x>y))
 | .GtE=>int2 a b λx y=>some (decide (x≥y))
 | .Is=>bool2 a b λx y=>some (x==y)
 | .IsNot=>bool2 a b λx y=>some (!(x==y))
 | .In=>inV a b σ
 | .NotIn=>(inV a b σ).bind λt=>some (!t)
noncomputable def truth (v:V) (σ:AH):Option Bool:=match v with
 | .bool b=>some b
 | .int i=>some (decide (i≠0))
 | .str s=>if s.length<=LIM then some (!s.isEmpty)else none
 | .obj i=>(lstAt (.obj i) σ).bind λvs=>some (!vs.isEmpty)
 | _=>none
noncomputable def rep {α:Type}(n:Nat) (l:List α):List α:=(List.replicate n l).flatten
noncomputable def newL (vs:List V) (σ:AH):Option (V×AH):=if vs.length<=LIM then some (.obj σ.length,σ++[.list vs])else none
noncomputable def binV (op:Operator) (a b:V) (σ:AH):Option (V×AH):=match op with
 | .Add=>match a with
  | .int x=>(asInt b).bind λy=>some (.int (x+y),σ)
  | .str x=>(asStr b).bind λy=>if x.length+y.length<=LIM then some (.str (x++y),σ)else none
  | .obj i=>(lstAt (.obj i) σ).bind λx=>(lstAt b σ).bind λy=>newL (x++y) σ
  | _=>none
 | .Sub=>int2 a b λx y=>some (.int (x-y),σ)
 | .Mult=>match a with
  | .str x=>(asInt b).bind λy=>if x.length*y.toNat<=LIM/\y.natAbs<=LIM then some (.str (rep y.toNat x),σ)else none
  | .obj i=>(lstAt (.obj i) σ).bind λx=>(asInt b).bind λy=>if x.length*y.toNat<=LIM/\y.natAbs<=LIM then newL (rep y.toNat x) σ else none
  | _=>none
 | .FloorDiv=>int2 a b λx y=>if y=0∨BIG<=y.natAbs then none else some (.int (Int.fdiv x y),σ)
 | .Mod=>int2 a b λx y=>if y=0 then none else some (.int (Int.fmod x y),σ)
 | .Pow=>int2 a b λx y=>if 0<=y/\y<=64/\x.natAbs<2 ^ 64 then some (.int (x ^ y.toNat),σ)else none
 | _=>none
noncomputable def getK (kvs:List (Kx×V)) (k:Kx):Option V:=(kvs.find? λp=>decide (p.1=k)).map (·.2)
noncomputable def idxL (o i:V) (σ:AH):Option V:=(seqAt o σ).bind λvs=>(asInt i).bind λk=>(place k vs.length).bind λn=>vs[n]?
noncomputable def idxV (o i:V) (σ:AH):Option V:=match dictAt o σ with
 | some kvs=>(asKx i).bind λk=>getK kvs k
 | none=>idxL o i σ
noncomputable def clip (v:V) (n:Nat) (dflt:Nat):Option Nat:=match v with
 | .none=>some dflt
 | .int k=>some (if 0<=k then min k.toNat n else(k+n).toNat)
 | _=>none
noncomputable def asNone:V->Option Unit
 | .none=>some ()
 | _=>none
noncomputable def cut {α:Type}(xs:List α) (l u s:V):Option (List α):=match s with
 | .none=>(clip l xs.length 0).bind λa=>(clip u xs.length xs.length).bind λb=>some ((xs.take b).drop a)
 | .int k=>(asNone l).bind λ_=>(asNone u).bind λ_=>if k = -1 then some xs.reverse else none
 | _=>none
noncomputable def slcV (o l u s:V) (σ:AH):Option (V×AH):=match o with
 | .str x=>if x.length<=LIM then(cut x l u s).bind λr=>some (.str r,σ)else none
 | o=>(seqAt o σ).bind λvs=>(cut vs l u s).bind λr=>newL r σ
noncomputable def rngL (a b c:Int):List V:=(List.range (if c=1 then b-a else a-b).toNat).map λ(k:Nat)=>.int (a+k*c)
inductive It where
 | vals (vs:List V)
 | lst (i:Nat) (k:Nat)
 | dct (i n k:Nat)
noncomputable def iterOf (v:V) (σ:AH):Option It:=match v with
 | .obj i=>match dictAt (.obj i) σ with
  | some kvs=>some (.dct i kvs.length 0)
  | none=>(lstAt (.obj i) σ).bind λ_=>some (.lst i 0)
 | .tup vs=>some (.vals vs)
 | .str s=>some (.vals (s.map λc=>.str [c]))
 | .rng a b c=>if a.natAbs<=LIM/\b.natAbs<=LIM/\(c=1∨c = -1)then some (.vals (rngL a b c))else none
 | _=>none
noncomputable def ofKx:Kx->V
 | .inl i=>.int i
 | .inr s=>.str s
noncomputable def nextOf (it:It) (σ:AH):Option (Option (V×It)):=match it with
 | .vals vs=>match vs with
  | []=>some none
  | v::vs=>some (some (v,.vals vs))
 | .lst i k=>(lstAt (.obj i) σ).bind λvs=>match vs[k]? with
  | some v=>some (some (v,.lst i (k+1)))
  | none=>some none
 | .dct i n k=>(dictAt (.obj i) σ).bind λkvs=>if kvs.length=n then match kvs[k]? with
  | some p=>some (some (ofKx p.1,.dct i n (k+1)))
  | none=>some none
  else none
noncomputable def loopM {α β:Type}(f:V->α->AH->Option ((α⊕β)×AH)):Nat->It->α->AH->Option ((α⊕β)×AH)
 | 0,_,_,_=>none
 | n+1,it,a,σ=>(nextOf it σ).bind λo=>match o with
  | none=>some (.inl a,σ)
  | some q=>(f q.1 a σ).bind λr=>match r.1 with
   | .inl a'=>loopM f n q.2 a' r.2
   | .inr b=>some (.inr b,r.2)
noncomputable def FUEL:Nat:=5000
noncomputable def unpackV (v:V) (n:Nat) (_:AH):Option (List V):=match v with
 | .tup vs=>if vs.length=n then some vs else none
 | _=>none
noncomputable def setAll:List Nat->List V->Loc->Loc
 | i::is,v::vs,l=>setAll is vs (l.set i (some v))
 | _,_,l=>l
noncomputable def assignT (t:Tgt) (v:V) (loc:Loc) (σ:AH):Option Loc:=match t with
 | .var i=>some (loc.set i (some v))
 | .vars is=>(unpackV v is.length σ).bind λvs=>some (setAll is vs loc)
noncomputable def tgtSlots:Tgt->List Nat
 | .var i=>[i]
 | .vars is=>is
noncomputable def unsetT (t:Tgt) (loc:Loc):Bool:=(tgtSlots t).all λi=>match loc[i]? with
 | some (some _)=>false
 | _=>true
noncomputable def joinL (sep:Cs):List Cs->Cs
 | []=>[]
 | [x]=>x
 | x::y::r=>x++sep++joinL sep (y::r)
noncomputable def splitS (s q:Cs):List Cs:=(Txt.split ⟨s.toArray⟩ ⟨q.toArray⟩).map λz=>z.cps.toList
noncomputable def headZ:List Nat->Int
 | i::_=>i
 | []=>-1
noncomputable def findS (p s:Cs) (a b:Nat):Int:=headZ (Builtin.Str.occurrences ⟨s.toArray⟩ ⟨p.toArray⟩ a b 1)
noncomputable def pairOf:List V->Option (Cs×Cs)
 | [.str a,.str b]=>some (a,b)
 | _=>none
noncomputable def strOfAcc:List V->Option Cs
 | []=>some []
 | v::r=>(asTup v).bind λl=>(pairOf l).bind λp=>(strOfAcc r).bind λt=>some (p.1++p.2++t)
noncomputable def asAcc:O->Option (Int×List V)
 | .acc n vs=>some (n,vs)
 | _=>none
noncomputable def accAt (v:V) (σ:AH):Option (Int×List V):=(asObj v).bind λi=>(σ[i]?).bind asAcc
noncomputable def oneC:Cs->Option Nat
 | [c]=>some c
 | _=>none
noncomputable def asSet:O->Option (List Cs)
 | .set l=>some l
 | _=>none
noncomputable def headI:List Int->Option (Int×List Int)
 | c::r=>some (c,r)
 | _=>none
noncomputable def dedupS:List Cs->List Cs->List Cs
 | [],acc=>acc
 | c::r,acc=>dedupS r (if acc.any (· == c)then acc else acc++[c])
noncomputable def insS (x:Cs):List Cs->List Cs
 | []=>[x]
 | y::r=>if ltL y x=true then y::insS x r else x::y::r
noncomputable def sortS:List Cs->List Cs
 | []=>[]
 | x::r=>insS x (sortS r)
noncomputable def minI:List Int->Int->Int
 | [],m=>m
 | c::r,m=>minI r (if c<m then c else m)
noncomputable def headC:Cs->Option (Nat×Cs)
 | c::r=>some (c,r)
 | _=>none
noncomputable def textsAt (v:V) (σ:AH):Option (List Cs):=match (asObj v).bind λi=>(σ[i]?).bind asSet with
 | some l=>some l
 | none=>(lstAt v σ).bind strsOf
noncomputable def lenO (v:V) (σ:AH):Option (V×AH):=match accAt v σ with
 | some p=>(strOfAcc p.2).bind λs=>if s.length<=LIM/\p.2.length<=LIM/\0<=p.1/\p.1<=1000 then some (.int (s.length+p.1),σ)else none
 | none=>(seqAt v σ).bind λvs=>some (.int vs.length,σ)
noncomputable def callB (b:Bi) (args:List V) (σ:AH):Option (V×AH):=match b with
 | .len=>(a1 args).bind λv=>match v with
  | .str s=>if s.length<=LIM then some (.int s.length,σ)else none
  | v=>lenO v σ
 | .ord=>(a1 args).bind λv=>(asStr v).bind λs=>(oneC s).bind λc=>some (.int c,σ)
 | .chr=>(a1 args).bind λv=>(asInt v).bind λi=>if 0<=i/\i<0x110000 then some (.str [i.toNat],σ)else none
 | .sum=>(a1 args).bind λv=>(lstAt v σ).bind λvs=>(intsOf vs).bind λl=>some (.int (l.foldl (· + ·) 0),σ)
 | .min=>(a1 args).bind λv=>(lstAt v σ).bind λvs=>(intsOf vs).bind λl=>(headI l).bind λp=>some (.int (minI p.2 p.1),σ)
 | .range=>match args with
  | [v]=>(asInt v).bind λn=>some (.rng 0 n 1,σ)
  | [v,u,w]=>int2 v u λa b=>(asInt w).bind λc=>if c = -1/\a.natAbs<=LIM/\b.natAbs<=LIM then some (.rng a b (-1),σ)else none
  | _=>none
 | .str=>(a1 args).bind λv=>(accAt v σ).bind λp=>(strOfAcc p.2).bind λs=>if s.length<=LIM/\p.2.length<=LIM then some (.str s,σ)else none
 | .set=>(a1 args).bind λv=>(lstAt v σ).bind λvs=>(strsOf vs).bind λl=>if vs.length<64 then some (.obj σ.length,σ++[.set (dedupS l [])])else none
 | .sorted=>(a1 args).bind λv=>(textsAt v σ).bind λl=>if l.length<64 then newL ((sortS l).map .str) σ else none
noncomputable def kindO:O->Nat
 | .list _=>2
 | .acc _ _=>3
 | _=>4
noncomputable def kindV (o:V) (σ:AH):Nat:=match o with
 | .str _=>1
 | .obj i=>match σ[i]? with
  | some o=>kindO o
  | none=>0
 | _=>0
noncomputable def strM (s:Cs) (m:Mt) (args:List V) (σ:AH):Option (V×AH):=match m with
 | .join=>(a1 args).bind λv=>(lstAt v σ).bind λvs=>(strsOf vs).bind λl=>if (joinL s l).length<=LIM/\s.length<=LIM then some (.str (joinL s l),σ)else none
 | .split=>(a1 args).bind λv=>(asStr v).bind λq=>(headC q).bind λp=>if s.length<=LIM then newL ((splitS s (p.1::p.2)).map .str) σ else none
 | .startswith=>(a1 args).bind λv=>(asStr v).bind λp=>some (.bool (p.isPrefixOf s),σ)
 | .endswith=>(a1 args).bind λv=>(asStr v).bind λp=>some (.bool (p.isSuffixOf s),σ)
 | .find=>(a3 args).bind λt=>(asStr t.1).bind λp=>int2 t.2.1 t.2.2 λa b=>if 0<=a/\0<=b/\b<=s.length then some (.int (findS p s a.toNat b.toNat),σ)else none
 | _=>none
noncomputable def lstM (i:Nat) (vs:List V) (m:Mt) (args:List V) (σ:AH):Option (V×AH):=match m with
 | .append=>(a1 args).bind λv=>if vs.length<LIM then some (.none,σ.set i (.list (vs++[v])))else none
 | .pop=>match args with
  | []=>(vs.getLast?).bind λv=>some (v,σ.set i (.list vs.dropLast))
  | _=>none
 | .extend=>(a1 args).bind λv=>(asObj v).bind λj=>if i=j then none else(lstAt (.obj j) σ).bind λus=>if vs.length+us.length<=LIM then some (.none,σ.set i (.list (vs++us)))else none
 | _=>none
noncomputable def accM (i:Nat) (n:Int) (vs:List V) (m:Mt) (args:List V) (σ:AH):Option (V×AH):=match m with
 | .push=>(a2 args).bind λp=>str2 p.1 p.2 λa b=>if vs.length<LIM then some (.none,σ.set i (.acc n (vs++[.tup [.str a,.str b]])))else none
 | .pop=>match args with
  | []=>match vs.getLast? with
   | some v=>some (v,σ.set i (.acc n vs.dropLast))
   | none=>some (.tup [.str [],.str []],σ)
  | _=>none
 | .part_count=>match args with
  | []=>some (.int vs.length,σ)
  | _=>none
 | .pop_from=>(a1 args).bind λv=>(asInt v).bind λk=>if k=0 then some (.obj σ.length,σ.set i (.acc n [])++[.list vs])else none
 | .reset=>(a1 args).bind λv=>(lstAt v σ).bind λus=>some (.none,σ.set i (.acc 0 us))
 | _=>none
noncomputable def callM (o:V) (m:Mt) (args:List V) (σ:AH):Option (V×AH):=match o with
 | .str s=>strM s m args σ
 | .obj i=>(σ[i]?).bind λob=>match ob with
  | .list vs=>lstM i vs m args σ
  | .acc n vs=>accM i n vs m args σ
  | _=>none
 | _=>none
noncomputable def augV (op:Operator) (a b:V):Option V:=match op with
 | .Add=>match a with
  | .int x=>(asInt b).bind λy=>some (.int (x+y))
  | .str x=>(asStr b).bind λy=>if x.length+y.length<=LIM then some (.str (x++y))else none
  | _=>none
 | .Sub=>int2 a b λx y=>some (.int (x-y))
 | _=>none
noncomputable def putK (kvs:List (Kx×V)) (k:Kx) (v:V):List (Kx×V):=if kvs.any (λp=>decide (p.1=k))then kvs.map (λp=>if p.1=k then(p.1,v)else p)else kvs++[(k,v)]
noncomputable def setKeyV (o k v:V) (σ:AH):Option AH:=(asObj o).bind λa=>(asKx k).bind λx=>(dictAt (.obj a) σ).bind λkvs=>if kvs.length<LIM then some (σ.set a (.dict (putK kvs x v)))else none
noncomputable def fillK (o:V):List V->AH->Option AH
 | k::v::r,σ=>(setKeyV o k v σ).bind λσ=>fillK o r σ
 | [],σ=>some σ
 | _,_=>none
noncomputable def setLstV (o i v:V) (σ:AH):Option AH:=(asObj o).bind λa=>(asInt i).bind λk=>(lstAt (.obj a) σ).bind λvs=>(place k vs.length).bind λn=>some (σ.set a (.list (vs.set n v)))
noncomputable def setIdxV (o i v:V) (σ:AH):Option AH:=match dictAt o σ with
 | some _=>setKeyV o i v σ
 | none=>setLstV o i v σ
noncomputable def delIdxV (o i:V) (σ:AH):Option AH:=(asObj o).bind λa=>(asInt i).bind λk=>(lstAt (.obj a) σ).bind λvs=>(place k vs.length).bind λn=>some (σ.set a (.list (vs.eraseIdx n)))
mutual
noncomputable def ev (C:Oracle):E->Loc->AH->Option (V×AH)
 | .lit v,_,σ=>some (v,σ)
 | .var i,loc,σ=>(loc[i]?).bind λo=>o.bind λv=>some (v,σ)
 | .bin op a b,loc,σ=>(ev C a loc σ).bind λp=>(ev C b loc p.2).bind λq=>binV op p.1 q.1 q.2
 | .neg a,loc,σ=>(ev C a loc σ).bind λp=>(asInt p.1).bind λx=>some (.int (-x),p.2)
 | .notE a,loc,σ=>(ev C a loc σ).bind λp=>(truth p.1 p.2).bind λb=>some (.bool (!b),p.2)
 | .andE es,loc,σ=>evLog C true es loc σ
 | .orE es,loc,σ=>evLog C false es loc σ
 | .ite c a b,loc,σ=>(ev C c loc σ).bind λp=>(truth p.1 p.2).bind λt=>cond t (ev C a loc p.2) (ev C b loc p.2)
 | .cmp a ops es,loc,σ=>(ev C a loc σ).bind λp=>(evCmp C p.1 ops es loc p.2).bind λq=>some (.bool q.1,q.2)
 | .list es,loc,σ=>(evs C es loc σ).bind λp=>newL p.1 p.2
 | .tup es,loc,σ=>(evs C es loc σ).bind λp=>if p.1.length<=LIM then some (.tup p.1,p.2)else none
 | .idx o i,loc,σ=>(ev C o loc σ).bind λp=>(ev C i loc p.2).bind λq=>(idxV p.1 q.1 q.2).bind λv=>some (v,q.2)
 | .slc o l u s,loc,σ=>(ev C o loc σ).bind λp=>(ev C l loc p.2).bind λq=>(ev C u loc q.2).bind λr=>(ev C s loc r.2).bind λt=>slcV p.1 q.1 r.1 t.1 t.2
 | .bcall b args,loc,σ=>(evs C args loc σ).bind λp=>callB b p.1 p.2
 | .fcall f args,loc,σ=>(evs C args loc σ).bind λp=>C f p.1 p.2
 | .mcall o m args,loc,σ=>(ev C o loc σ).bind λp=>(evs C args loc p.2).bind λq=>if kindV p.1 p.2=kindV p.1 q.2 then callM p.1 m q.1 q.2 else none
 | .dict es,loc,σ=>(evs C es loc (σ++[.dict []])).bind λp=>(fillK (.obj σ.length) p.1 p.2).bind λs=>some (.obj σ.length,s)
 | .dcomp k v t it,loc,σ=>if unsetT t loc=true then(ev C it loc σ).bind λp=>(iterOf p.1 p.2).bind λi=>
   (loopM (β:=Empty) (λx (acc:List V) s=>(assignT t x loc s).bind λl=>(((ev C k l s).bind λq=>(ev C v l q.2).bind λr=>(setKeyV (.obj p.2.length) q.1 r.1 r.2).bind λs'=>some (V.none,s')).bind λq=>
    if acc.length<LIM then some (acc++[q.1],q.2)else none).bind λr=>some (.inl r.1,r.2)) FUEL i [] (p.2++[.dict []])).bind λr=>some (.obj p.2.length,r.2)else none
 | .lam e,_,σ=>some (.obj σ.length,σ++[.lam e])
 | .vcall f args,loc,σ=>(ev C f loc σ).bind λp=>(evs C args loc p.2).bind λq=>(lamAt p.1 q.2).bind λ_=>C 0 (p.1::q.1) q.2
 | .comp elt gens,loc,σ=>(evGens C (λl s=>ev C elt l s) gens loc loc [] σ).bind λp=>newL p.1 p.2
noncomputable def evs (C:Oracle):List E->Loc->AH->Option (List V×AH)
 | [],_,σ=>some ([],σ)
 | e::es,loc,σ=>(ev C e loc σ).bind λp=>(evs C es loc p.2).bind λq=>some (p.1::q.1,q.2)
noncomputable def evLog (C:Oracle) (w:Bool):List E->Loc->AH->Option (V×AH)
 | [],_,_=>none
 | e::es,loc,σ=>(ev C e loc σ).bind λp=>cond es.isEmpty (some p) ((truth p.1 p.2).bind λt=>cond (t==w) (evLog C w es loc p.2) (some p))
noncomputable def evCmp (C:Oracle):V->List CmpOp->List E->Loc->AH->Option (Bool×AH)
 | x,op::ops,e::es,loc,σ=>(ev C e loc σ).bind λp=>(compareV op x p.1 p.2).bind λb=>if ops.length=es.length then cond (ops.isEmpty || !b) (some (b,p.2)) (evCmp C p.1 ops es loc p.2)else none
 | _,_,_,_,_=>none
noncomputable def evIfs (C:Oracle):List E->Loc->AH->Option (Bool×AH)
 | [],_,σ=>some (true,σ)
 | e::es,loc,σ=>(ev C e loc σ).bind λp=>(truth p.1 p.2).bind λt=>cond t (evIfs C es loc p.2) (some (false,p.2))
noncomputable def evGens (C:Oracle) (elt:Loc->AH->Option (V×AH)):List G->Loc->Loc->List V->AH->Option (List V×AH)
 | [],_,loc,acc,σ=>(elt loc σ).bind λp=>if acc.length<LIM then some (acc++[p.1],p.2)else none
 | g::gs,oloc,loc,acc,σ=>match g with
  | .mk t it ifs=>if unsetT t loc=true then(ev C it oloc σ).bind λp=>(iterOf p.1 p.2).bind λi=>
    (loopM (β:=Empty) (λv (acc:List V) s=>(assignT t v loc s).bind λl=>(evIfs C ifs l s).bind λb=>cond b.1 ((evGens C elt gs l l acc b.2).bind λr=>some (.inl r.1,r.2)) (some (.inl acc,b.2))) FUEL i acc p.2).bind λr=>match r.1 with
     | .inl a=>some (a,r.2)
     | .inr b=>b.elim else none
end
noncomputable def whileM (c:Loc->AH->Option (Bool×AH)) (f:Loc->AH->Option (Fl×Loc×AH)):Nat->Loc->AH->Option (Fl×Loc×AH)
 | 0,_,_=>none
 | n+1,loc,σ=>(c loc σ).bind λb=>cond b.1 ((f loc b.2).bind λr=>match r.1 with
   | .ret v=>some (.ret v,r.2.1,r.2.2)
   | .next=>whileM c f n r.2.1 r.2.2) (some (.next,loc,b.2))
mutual
noncomputable def ex (C:Oracle):S->Loc->AH->Option (Fl×Loc×AH)
 | .assign t e,loc,σ=>(ev C e loc σ).bind λp=>(assignT t p.1 loc p.2).bind λl=>some (.next,l,p.2)
 | .setIdx o i e,loc,σ=>(ev C e loc σ).bind λp=>(ev C o loc p.2).bind λq=>(ev C i loc q.2).bind λr=>(setIdxV q.1 r.1 p.1 r.2).bind λs=>some (.next,loc,s)
 | .augVar i op e,loc,σ=>(loc[i]?).bind λo=>o.bind λold=>(ev C e loc σ).bind λp=>(augV op old p.1).bind λr=>some (.next,loc.set i (some r),p.2)
 | .augIdx o i op e,loc,σ=>(ev C o loc σ).bind λp=>(ev C i loc p.2).bind λq=>(idxL p.1 q.1 q.2).bind λold=>(ev C e loc q.2).bind λw=>(augV op old w.1).bind λr=>(setLstV p.1 q.1 r w.2).bind λs=>some (.next,loc,s)
 | .expr e,loc,σ=>(ev C e loc σ).bind λp=>some (.next,loc,p.2)
 | .ret e,loc,σ=>(ev C e loc σ).bind λp=>some (.ret p.1,loc,p.2)
 | .ifS c a b,loc,σ=>(ev C c loc σ).bind λp=>(truth p.1 p.2).bind λt=>cond t (exs C a loc p.2) (exs C b loc p.2)
 | .whileS c body,loc,σ=>whileM (λl s=>(ev C c l s).bind λp=>(truth p.1 p.2).bind λt=>some (t,p.2)) (λl s=>exs C body l s) FUEL loc σ
 | .forS t it body,loc,σ=>(ev C it loc σ).bind λp=>(iterOf p.1 p.2).bind λi=>
   (loopM (β:=V×Loc) (λv (l:Loc) s=>(assignT t v l s).bind λl1=>(exs C body l1 s).bind λr=>match r.1 with
     | .next=>some (.inl r.2.1,r.2.2)
     | .ret x=>some (.inr (x,r.2.1),r.2.2)) FUEL i loc p.2).bind λr=>match r.1 with
    | .inl l=>some (.next,l,r.2)
    | .inr q=>some (.ret q.1,q.2,r.2)
 | .del o i,loc,σ=>(ev C o loc σ).bind λp=>(ev C i loc p.2).bind λq=>(delIdxV p.1 q.1 q.2).bind λs=>some (.next,loc,s)
 | .assertS c,loc,σ=>(ev C c loc σ).bind λp=>(truth p.1 p.2).bind λt=>cond t (some (.next,loc,p.2)) none
noncomputable def exs (C:Oracle):List S->Loc->AH->Option (Fl×Loc×AH)
 | [],loc,σ=>some (.next,loc,σ)
 | s::ss,loc,σ=>(ex C s loc σ).bind λr=>match r.1 with
  | .ret v=>some (.ret v,r.2.1,r.2.2)
  | .next=>exs C ss r.2.1 r.2.2
end
inductive Fn where
 | dfn (np ns:Nat) (body:List S)
 | acc
 | lamb
noncomputable def callN (T:Addr->Option Fn):Nat->Oracle
 | 0=>λ_ _ _=>none
 | d+1=>λf args σ=>(T f).bind λF=>match F with
  | .dfn np ns body=>if args.length=np then(exs (callN T d) body (args.map some++List.replicate ns none) σ).bind λr=>match r.1 with
    | .ret v=>some (v,r.2.2)
    | .next=>some (.none,r.2.2)
   else none
  | .acc=>(a1 args).bind λv=>(asInt v).bind λn=>some (.obj σ.length,σ++[.acc n []])
  | .lamb=>(a3 args).bind λt=>(lamAt t.1 σ).bind λe=>ev (callN T d) e [some t.2.1,some t.2.2] σ
inductive GV where
 | fn (a:Addr)|bi (b:Bi)|cst (v:V)
noncomputable def chars (s:Str):Cs:=s.cps.toList
noncomputable def nameOf:Mt->Str
 | .append=>"append" | .pop=>"pop" | .extend=>"extend" | .join=>"join" | .split=>"split" | .startswith=>"startswith" | .endswith=>"endswith" | .find=>"find"
 | .push=>"push" | .part_count=>"part_count" | .pop_from=>"pop_from" | .reset=>"reset"
noncomputable def methOf (n:Str):Option Mt:=[Mt.append,.pop,.extend,.join,.split,.startswith,.endswith,.find,.push,.part_count,.pop_from,.reset].find? λm=>n==nameOf m
noncomputable def litOf:Const->Option V
 | .none=>some .none
 | .bool b=>some (.bool b)
 | .int i=>some (.int i)
 | .str s=>some (.str (chars s))
 | _=>none
noncomputable abbrev Ren:=List (Str×Nat)
noncomputable def innerRen (ren:Ren):List (Str×NameKind)->Nat->Option Ren
 | [],_=>some []
 | p::r,n=>match p.2 with
  | .local=>if p.1=(".0":Str)then innerRen ren r n else(innerRen ren r (n+1)).bind λl=>some ((p.1,n)::l)
  | .cell=>(innerRen ren r (n+1)).bind λl=>some ((p.1,n)::l)
  | .free=>(ren.lookup p.1).bind λi=>(innerRen ren r n).bind λl=>some ((p.1,i)::l)
  | .globalImplicit=>innerRen ren r n
  | .globalExplicit=>none
noncomputable def ownCount:List (Str×NameKind)->Nat
 | []=>0
 | p::r=>match p.2 with
  | .local=>if p.1=(".0":Str)then ownCount r else ownCount r+1
  | .cell=>ownCount r+1
  | _=>ownCount r
noncomputable def eName:Expr->Option (Str×Pos)
 | .Name x p=>some (x,p)
 | _=>none
noncomputable def eTup:Expr->Option (List Expr×Nat×Pos)
 | .Tuple es k p=>some (es,k,p)
 | _=>none
noncomputable def eSub:Expr->Option (Expr×Expr×Pos)
 | .Subscript o i p=>some (o,i,p)
 | _=>none
noncomputable def eSlc:Expr->Option (Option Expr×Option Expr×Option Expr×Pos)
 | .Slice l u s p=>some (l,u,s,p)
 | _=>none
noncomputable def eAttr:Expr->Option (Expr×Str×Pos)
 | .Attribute o m p=>some (o,m,p)
 | _=>none
noncomputable def eCall:Expr->Option (Expr×List Expr×List Keyword×Pos)
 | .Call f as kw p=>some (f,as,kw,p)
 | _=>none
noncomputable def eComp:Expr->Option Unit
 | .ListComp _ _ _ _=>none
 | .DictComp _ _ _ _ _=>none
 | _=>some ()
noncomputable def l1 {α:Type}:List α->Option α
 | [a]=>some a
 | _=>none
noncomputable def l2 {α:Type}:List α->Option (α×α)
 | [a,b]=>some (a,b)
 | _=>none
noncomputable def l0 {α:Type}:List α->Option Unit
 | []=>some ()
 | _=>none
noncomputable def nameSlot (sc:Scope) (ren:Ren) (x:Str):Option Nat:=(sc.names.lookup x).bind λk=>if k = .local∨k = .cell then ren.lookup x else none
noncomputable def nameSlots (sc:Scope) (ren:Ren):List Expr->Option (List Nat)
 | []=>some []
 | e::es=>(eName e).bind λx=>(nameSlot sc ren x.1).bind λi=>(nameSlots sc ren es).bind λis=>some (i::is)
noncomputable def trTgt (sc:Scope) (ren:Ren) (e:Expr):Option Tgt:=match eName e with
 | some x=>(nameSlot sc ren x.1).bind λi=>some (.var i)
 | none=>(eTup e).bind λt=>(nameSlots sc ren t.1).bind λis=>if is.Nodup then some (.vars is)else none
noncomputable def asCst:GV->Option V
 | .cst v=>some v
 | _=>none
noncomputable def gName (GT:Str->Option GV) (sc:Scope) (x:Str):Option GV:=if sc.names.lookup x=some .globalImplicit then GT x else none
noncomputable def trName (GT:Str->Option GV) (sc:Scope) (ren:Ren) (x:Str):Option E:=(sc.names.lookup x).bind λk=>match k with
 | .globalImplicit=>(GT x).bind λg=>(asCst g).bind λv=>some (.lit v)
 | .globalExplicit=>none
 | _=>if x=("__debug__":Str)∨x=("__classdict__":Str)then none else(ren.lookup x).bind λi=>some (.var i)
noncomputable def boolE (op:BoolOp) (es:List E):E:=match op with
 | .And=>.andE es
 | .Or=>.orE es
noncomputable def unE (op:UnaryOp) (a:E):Option E:=match op with
 | .USub=>some (.neg a)
 | .Not=>some (.notE a)
 | _=>none
noncomputable def callE (g:GV) (as:List E):Option E:=match g with
 | .fn a=>some (.fcall a as)
 | .bi b=>some (.bcall b as)
 | .cst _=>none
noncomputable def lamSc (sc:Scope):Bool:=sc.names.any λp=>p.1==("back":Str)
noncomputable def compScope (sc cs:Scope):Bool := !lamSc cs&&decide (cs.kind = .function)&&decide ((cs.names.map (·.1)).Nodup)&&cs.names.all λp=>p.2 != .free||sc.names.lookup p.1==some .cell||sc.names.lookup p.1==some .free
noncomputable def lamScope (args:Arguments) (sc:Scope):Option Ren:=(l2 args.args).bind λp=>(l0 args.posonlyargs).bind λ_=>(l0 args.kwonlyargs).bind λ_=>(l0 args.defaults).bind λ_=>(l0 args.kw_defaults).bind λ_=>
 if lamSc sc=false/\sc.kind = .function/\args.vararg.isNone=true/\args.kwarg.isNone=true/\sc.isGenerator=false/\sc.isCoroutine=false/\p.1.arg≠p.2.arg/\sc.names.take 2=[(p.1.arg,.local),(p.2.arg,.local)]/\((sc.names.drop 2).all λq=>q.2 == .globalImplicit)=true then some [(p.1.arg,0),(p.2.arg,1)]else none
noncomputable def inTurn:List (Option Expr)->List Expr->Option (List Expr)
 | k::ks,v::vs=>k.bind λk=>(inTurn ks vs).bind λl=>some (k::v::l)
 | [],[]=>some []
 | _,_=>none
mutual
noncomputable def tr (GT:Str->Option GV):Nat->Scope->Ren->Nat->Expr->Option E
 | 0,_,_,_,_=>none
 | n+1,sc,ren,nx,e=>match e with
  | .Constant c _ _=>(litOf c).bind λv=>some (.lit v)
  | .Name x _=>trName GT sc ren x
  | .BoolOp op vs _=>(trs GT n sc ren nx vs).bind λes=>some (boolE op es)
  | .BinOp l op r _=>(tr GT n sc ren nx l).bind λa=>(tr GT n sc ren nx r).bind λb=>some (.bin op a b)
  | .UnaryOp op a _=>(tr GT n sc ren nx a).bind λa=>unE op a
  | .IfExp c a b _=>(tr GT n sc ren nx c).bind λc=>(tr GT n sc ren nx a).bind λa=>(tr GT n sc ren nx b).bind λb=>some (.ite c a b)
  | .Compare a ops es _=>(tr GT n sc ren nx a).bind λa=>(trs GT n sc ren nx es).bind λes=>some (.cmp a ops es)
  | .List es _=>(trs GT n sc ren nx es).bind λes=>some (.list es)
  | .Tuple es _ _=>(trs GT n sc ren nx es).bind λes=>some (.tup es)
  | .Subscript o i _=>(tr GT n sc ren nx o).bind λo=>match eSlc i with
   | some p=>(trO GT n sc ren nx p.1).bind λl=>(trO GT n sc ren nx p.2.1).bind λu=>(trO GT n sc ren nx p.2.2.1).bind λs=>some (.slc o l u s)
   | none=>(tr GT n sc ren nx i).bind λi=>some (.idx o i)
  | .Dict ks vs _=>if ks≠[]/\ks.length<=15 then(inTurn ks vs).bind λl=>(trs GT n sc ren nx l).bind λes=>some (.dict es)else none
  | .Lambda args body ls _=>if lamSc sc=true then(lamScope args ls).bind λr=>(tr GT n ls r 2 body).bind λe=>some (.lam e)else none
  | .Call f as kw cp=>(l0 kw).bind λ_=>match eName f with
   | some x=>(trs GT n sc ren nx as).bind λas=>match gName GT sc x.1 with
    | some g=>callE g as
    | none=>(trName GT sc ren x.1).bind λf=>(l2 as).bind λ_=>some (.vcall f as)
   | none=>(eAttr f).bind λa=>if a.2.2.endLine=cp.line/\as.length<20 then(tr GT n sc ren nx a.1).bind λo=>(methOf a.2.1).bind λm=>(trs GT n sc ren nx as).bind λas=>some (.mcall o m as)else none
  | .ListComp elt gens cs _=>if compScope sc cs=true then(innerRen ren cs.names nx).bind λren'=>match gens with
   | []=>none
   | g::gs=>if g.4=0 then(trTgt cs ren' g.1).bind λt=>(trs GT n cs ren' (nx+ownCount cs.names) g.3).bind λifs=>(trGs GT n cs ren' (nx+ownCount cs.names) gs).bind λgs=>(tr GT n cs ren' (nx+ownCount cs.names) elt).bind λelt=>
     (tr GT n sc ren nx g.2).bind λit=>some (.comp elt (.mk t it ifs::gs))else none
   else none
  | .DictComp k v gens cs _=>if compScope sc cs=true then(innerRen ren cs.names nx).bind λren'=>(l1 gens).bind λg=>if g.4=0 then(trTgt cs ren' g.1).bind λt=>(l0 g.3).bind λ_=>(tr GT n cs ren' (nx+ownCount cs.names) k).bind λk=>
     (tr GT n cs ren' (nx+ownCount cs.names) v).bind λv=>(tr GT n sc ren nx g.2).bind λit=>some (.dcomp k v t it)else none
   else none
  | _=>none
termination_by structural n=>n
noncomputable def trs (GT:Str->Option GV):Nat->Scope->Ren->Nat->List Expr->Option (List E)
 | 0,_,_,_,_=>none
 | n+1,sc,ren,nx,es=>match es with
  | []=>some []
  | e::es=>(tr GT n sc ren nx e).bind λa=>(trs GT n sc ren nx es).bind λas=>some (a::as)
termination_by structural n=>n
noncomputable def trO (GT:Str->Option GV):Nat->Scope->Ren->Nat->Option Expr->Option E
 | 0,_,_,_,_=>none
 | n+1,sc,ren,nx,o=>match o with
  | none=>some (.lit .none)
  | some e=>tr GT n sc ren nx e
termination_by structural n=>n
noncomputable def trGs (GT:Str->Option GV):Nat->Scope->Ren->Nat->List Comprehension->Option (List G)
 | 0,_,_,_,_=>none
 | n+1,sc,ren,nx,gs=>match gs with
  | []=>some []
  | g::gs=>if g.4=0 then(trTgt sc ren g.1).bind λt=>(tr GT n sc ren nx g.2).bind λit=>(trs GT n sc ren nx g.3).bind λifs=>(trGs GT n sc ren nx gs).bind λgs=>some (.mk t it ifs::gs)else none
termination_by structural n=>n
end
noncomputable def storesOK (t e:Expr):Bool:=match t,e with
 | .Tuple _ _ _,.Tuple vs _ _=>vs.all (foldedForSure 8) || !(vs.all (constantsAlone 8))
 | _,_=>true
mutual
noncomputable def trS (GT:Str->Option GV):Nat->Scope->Ren->Nat->Stmt->Option S
 | 0,_,_,_,_=>none
 | n+1,sc,ren,nx,s=>match s with
  | .Assign ts e _=>(l1 ts).bind λt=>(tr GT n sc ren nx e).bind λe'=>match eSub t with
   | some a=>(tr GT n sc ren nx a.1).bind λo=>(tr GT n sc ren nx a.2.1).bind λi=>some (.setIdx o i e')
   | none=>if storesOK t e=true then(trTgt sc ren t).bind λt=>some (.assign t e')else none
  | .AugAssign t op e _=>(tr GT n sc ren nx e).bind λe=>match eName t with
   | some x=>(nameSlot sc ren x.1).bind λi=>some (.augVar i op e)
   | none=>(eSub t).bind λa=>(tr GT n sc ren nx a.1).bind λo=>(tr GT n sc ren nx a.2.1).bind λi=>some (.augIdx o i op e)
  | .Expr e _=>(eComp e).bind λ_=>(tr GT n sc ren nx e).bind λe=>some (.expr e)
  | .Return o _=>o.bind λe=>(tr GT n sc ren nx e).bind λe=>some (.ret e)
  | .If c a b _=>(tr GT n sc ren nx c).bind λc=>(trSs GT n sc ren nx a).bind λa=>(trSs GT n sc ren nx b).bind λb=>some (.ifS c a b)
  | .While c a l _=>(l0 l).bind λ_=>(tr GT n sc ren nx c).bind λc=>(trSs GT n sc ren nx a).bind λa=>some (.whileS c a)
  | .For t it a l _=>(l0 l).bind λ_=>(trTgt sc ren t).bind λt=>(tr GT n sc ren nx it).bind λit=>(trSs GT n sc ren nx a).bind λa=>some (.forS t it a)
  | .Delete ts _=>(l1 ts).bind λt=>(eSub t).bind λa=>(tr GT n sc ren nx a.1).bind λo=>(tr GT n sc ren nx a.2.1).bind λi=>some (.del o i)
  | .Assert c m _=>match m with
   | none=>(tr GT n sc ren nx c).bind λc=>some (.assertS c)
   | some _=>none
  | _=>none
noncomputable def trSs (GT:Str->Option GV):Nat->Scope->Ren->Nat->List Stmt->Option (List S)
 | 0,_,_,_,_=>none
 | n+1,sc,ren,nx,ss=>match ss with
  | []=>some []
  | e::es=>(trS GT n sc ren nx e).bind λa=>(trSs GT n sc ren nx es).bind λas=>some (a::as)
end
noncomputable def defRen:List (Str×NameKind)->Nat->Ren
 | [],_=>[]
 | p::r,n=>if p.2 = .local∨p.2 = .cell then(p.1,n)::defRen r (n+1)else defRen r n
noncomputable def trDef (GT:Str->Option GV) (args:Arguments) (body:List Stmt) (sc:Scope):Option Fn:=
 if sc.kind = .function/\(sc.names.map (·.1)).Nodup/\(sc.names.take args.args.length).map (·.1)=args.args.map (·.arg)/\((sc.names.take args.args.length).all λp=>p.2 == .local||p.2 == .cell)=true/\(sc.names.all λp=>p.1 != (".0":Str))=true then
  (trSs GT 200 sc (defRen sc.names 0) (ownCount sc.names) body).bind λb=>some (.dfn args.args.length (ownCount sc.names+8-args.args.length) b)
 else none
theorem bindE {α β:Type}{o:Option α}{f:α->Option β}{b:β}{G:Prop}(h:o.bind f=some b) (k:∀ a,o=some a->f a=some b->G):G:=by
 cases o with
 | none=>exact nomatch h
 | some a=>exact k a rfl h
theorem ifE {α:Type}{c:Prop}[Decidable c]{o:Option α}{b:α}{G:Prop}(h:(if c then o else none)=some b) (k:c->o=some b->G):G:=by
 by_cases hc:c
 ·rw[if_pos hc]at h;exact k hc h
 ·rw[if_neg hc]at h;exact nomatch h
theorem nifE {α:Type}{c:Prop}[Decidable c]{o:Option α}{b:α}{G:Prop}(h:(if c then none else o)=some b) (k:¬c->o=some b->G):G:=by
 by_cases hc:c
 ·rw[if_pos hc]at h;exact nomatch h
 ·rw[if_neg hc]at h;exact k hc h
theorem noneE {α:Type}{b:α}{G:Prop}(h:none=some b):G:=nomatch h
theorem someE {α:Type}{a b:α}{P:α->Prop}(h:some a=some b) (k:P a):P b:=oJ h▸k
end Mine
end
section
namespace Mine
open PySem
noncomputable abbrev Phi:=List (Addr×Addr)
noncomputable def addrs (φ:Phi):List Addr:=φ.flatMap λp=>[p.1,p.2]
theorem mem_addrs {φ:Phi}{a:Addr}:a∈addrs φ↔∃ p∈φ,a=p.1∨a=p.2:=by
 simp[addrs,List.mem_flatMap]
theorem addrs_append (φ ψ:Phi):addrs (φ++ψ)=addrs φ++addrs ψ:=by simp[addrs]
noncomputable def tabO (vs:Array Value):Obj:={cls:=.none,data:=.fields vs}
noncomputable abbrev lstO (items:Array Value) (n:Nat):Obj:={cls:=.type "list",data:=.seq items n}
noncomputable abbrev rngO (vs:Array Value):Obj:={cls:=.type "range",dict:=none,data:=.fields vs,slots:=#[]}
noncomputable abbrev tupO (items:Array Value) (n:Nat):Obj:={cls:=.type "tuple",data:=.seq items n}
noncomputable def fixO (o:Obj):Bool:=match o.data with
 | .seq _ _=>o.cls == .type "tuple"
 | .fields _=>o.cls == .type "range"||o.cls == .type "code"
 | _=>false
inductive CodeQ (h:Heap) (q:Str):Value->Prop
 | mk (c:Addr) (o:Obj) (vs:Array Value) (t:Tok) (g:h.get? c=some o) (hc:o.cls = .type "code") (hd:o.data = .fields vs) (r:vs[1]?=some (.str q t)):CodeQ h q (.ref c)
theorem CodeQ.at' {h h':Heap}{q:Str}{cd:Value}(x:CodeQ h q cd) (k:∀ b o,fixO o=true->h.get? b=some o->h'.get? b=some o):CodeQ h' q cd:=
 x.rec λc o vs t g hc hd r=>⟨c,o,vs,t,k c o (by unfold fixO;rw[hd,hc];rfl) g,hc,hd,r⟩
noncomputable def TabOk (h:Heap) (q:Option Str) (vs:List Value):Prop:=TriplesOk vs/\∀ x,q=some x->∀ pos cv,codeAmong pos vs=some cv->CodeQ h x cv
noncomputable abbrev Tabs:=List (Addr×Option Str)
structure Kp (tabs:Tabs) (W:List Addr) (h h':Heap):Prop where
 keep:∀ b o,h.get? b=some o->b∉W->h'.get? b=some o∨∃ q vs more,tabs.lookup b=some q/\o=tabO vs/\h'.get? b=some (tabO (vs++more))/\(TabOk h q vs.toList->TabOk h' q (vs++more).toList)
 fix:∀ b o,fixO o=true->h.get? b=some o->h'.get? b=some o
 size:h.objs.size<=h'.objs.size
namespace Kp
variable {tabs:Tabs}{W W':List Addr}{h h' h'':Heap}
theorem refl (tabs:Tabs) (W:List Addr) (h:Heap):Kp tabs W h h:=⟨λ_ _ e _=>.inl e,λ_ _ _ e=>e,Nat.le_refl _⟩
theorem tab (x:Kp tabs W h h'){q:Option Str}{vs:List Value}(t:TabOk h q vs):TabOk h' q vs:=⟨t.1,λy e pos cv hc=>(t.2 y e pos cv hc).at' x.fix⟩
theorem trans' (x:Kp tabs W h h') (y:Kp tabs W' h' h'') (hw:∀ b∈W',b∈W∨h.objs.size<=b):Kp tabs W h h'':=by
 refine⟨λb o e hb=>?_,λb o f e=>y.fix b o f (x.fix b o f e),nT x.size y.size⟩
 have hlt:=Heap.lt_size e
 have hb':b∉W':=λhm=>by
  rcases hw b hm with q|q
  ·exact hb q
  ·exact absurd (Nat.lt_of_lt_of_le hlt q) (Nat.lt_irrefl _)
 rcases x.keep b o e hb with e1|⟨q,vs,more,ht,rfl,e1,t1⟩
 ·rcases y.keep b o e1 hb' with e2|⟨q,vs,more,ht,rfl,e2,t2⟩
  ·exact .inl e2
  ·exact .inr ⟨q,vs,more,ht,rfl,e2,λz=>t2 (x.tab z)⟩
 ·rcases y.keep b _ e1 hb' with e2|⟨q',vs',more',ht',e3,e2,t2⟩
  ·exact .inr ⟨q,vs,more,ht,rfl,e2,λz=>y.tab (t1 z)⟩
  ·injection e3 with _ _ e3
   injection e3 with e3
   subst e3
   refine .inr ⟨q,vs,more++more',ht,rfl,by rw[e2,Array.append_assoc],?_⟩
   rw[<-Array.append_assoc]
   obtain rfl:=oJ (ht.symm.trans ht')
   exact λz=>t2 (t1 z)
theorem trans (x:Kp tabs W h h') (y:Kp tabs W h' h''):Kp tabs W h h'':=x.trans' y λ_ hb=>.inl hb
theorem mono (x:Kp tabs W h h') (hw:∀ b∈W,b∈W'∨h.objs.size<=b):Kp tabs W' h h':=
 (refl tabs W' h).trans' x hw
theorem push (tabs:Tabs) (W:List Addr) (h:Heap) (o:Obj):Kp tabs W h (h.push o):=
 ⟨λ_ _ e _=>.inl (Heap.get?_push_of_some _ e),λ_ _ _ e=>Heap.get?_push_of_some _ e,by rw[Heap.size_push];exact Nat.le_succ _⟩
theorem sameBut {a:Addr}(x:Heap.SameBut a h h') (ha:a∈W){o:Obj}(e:h.get? a=some o) (hf:fixO o=false):Kp tabs W h h':=
 ⟨λb o e hb=>.inl ((x.2 b λq=>hb (q▸ha)).trans e),λb o' f e'=>(x.2 b λq=>by subst q;obtain rfl:=oJ (e.symm.trans e');exact absurd (hf.symm.trans f) Bool.false_ne_true).trans e',by rw[x.1];exact Nat.le_refl _⟩
theorem extBut {a:Addr}(x:Heap.ExtBut a h h') (ha:a∈W){o:Obj}(e:h.get? a=some o) (hf:fixO o=false) (hs:h.objs.size<=h'.objs.size):Kp tabs W h h':=
 ⟨λb o e hb=>.inl (x b o (λq=>hb (q▸ha)) e),λb o' f e'=>x b o' (λq=>by subst q;obtain rfl:=oJ (e.symm.trans e');exact absurd (hf.symm.trans f) Bool.false_ne_true) e',hs⟩
theorem keeps (x:∀ b o,h.get? b=some o->h'.get? b=some o) (hs:h.objs.size<=h'.objs.size):Kp tabs W h h':=
 ⟨λb o e _=>.inl (x b o e),λb o _ e=>x b o e,hs⟩
theorem get (x:Kp tabs W h h'){b:Addr}{o:Obj}(e:h.get? b=some o) (hb:b∉W) (hc:o.cls ≠ .none):h'.get? b=some o:=by
 rcases x.keep b o e hb with e1|⟨_,vs,_,_,rfl,_⟩
 ·exact e1
 ·exact absurd rfl hc
theorem getD (x:Kp tabs W h h'){b:Addr}{o:Obj}(e:h.get? b=some o) (hb:b∉W) (hc:∀ vs,o.data ≠ .fields vs):h'.get? b=some o:=by
 rcases x.keep b o e hb with e1|⟨_,vs,_,_,rfl,_⟩
 ·exact e1
 ·exact absurd rfl (hc vs)
theorem ns (x:Kp tabs W h h'){a:Addr}{m:Str->Option Value}(n:h.Ns a m) (ha:a∉W):h'.Ns a m:=by
 obtain⟨o,es,ep,e,hd,r⟩:=n
 exact⟨o,es,ep,x.getD e ha (by rw[hd];exact nofun),hd,r⟩
theorem cell (x:Kp tabs W h h'){a:Addr}{v:Option Value}(n:h.IsCell a v) (ha:a∉W):h'.IsCell a v:=by
 obtain⟨o,e,hd⟩:=n
 exact⟨o,x.getD e ha (by rw[hd];exact nofun),hd⟩
end Kp
theorem ns_fix {h:Heap}{a:Addr}{m:Str->Option Value}(n:h.Ns a m):∃ o,h.get? a=some o/\fixO o=false:=by
 obtain⟨o,es,ep,e,hd,r⟩:=n
 exact⟨o,e,by unfold fixO;rw[hd]⟩
theorem cell_fix {h:Heap}{a:Addr}{v:Option Value}(n:h.IsCell a v):∃ o,h.get? a=some o/\fixO o=false:=by
 obtain⟨o,e,hd⟩:=n
 exact⟨o,e,by unfold fixO;rw[hd]⟩
noncomputable abbrev Zone:=Nat
structure Base where
 prog:Program
 w:World
 N:Nat
 K:PySem.W.Frag
 tabs:Tabs
 C:Addr
 T:Addr->Option Fn
 GT:Str->Option GV
 mg:Str->Option Value
 mb:Str->Option Value
 lc:Addr
 lP:Addr
 lq:Str
noncomputable abbrev Base.Z (B:Base):Zone:=B.N
inductive TupAt (h:Heap) (P:List Value->Prop) (x:Value):Prop
 | mk (a:Addr) (items:List Value) (n:Nat) (e:x = .ref a) (g:h.get? a=some (tupO (List.toArray items) n)) (r:P items)
inductive FlsAt (N:Nat) (h:Heap) (P:List Value->Prop) (x:Value):Prop
 | mk (a:Addr) (items:List Value) (n:Nat) (e:x = .ref a) (l:a<N) (g:h.get? a=some (lstO (List.toArray items) n)) (r:P items)
inductive RngAt (h:Heap) (a b c:Int) (v:Value):Prop
 | mk (x:Addr) (t u:Tok) (y:Tok) (e:v = .ref x) (r:IsRange h x a b c t u y)
mutual
noncomputable def VR (N:Zone) (φ:Phi) (h:Heap):V->Value->Prop
 | .none,v=>v = .none
 | .bool b,v=>v = .bool b
 | .int i,v=>∃ t,v = .int i t
 | .str s,v=>∃ t,v = .str ⟨s.toArray⟩ t
 | .tup vs,v=>TupAt h (VRs N φ h vs) v
 | .obj i,v=>∃ p,φ[i]?=some p/\v = .ref p.1
 | .flist vs,v=>FlsAt N h (VRs N φ h vs) v
 | .rng a b c,v=>RngAt h a b c v
noncomputable def VRs (N:Zone) (φ:Phi) (h:Heap):List V->List Value->Prop
 | [],[]=>True
 | [],_::_=>False
 | _::_,[]=>False
 | v::vs,x::xs=>VR N φ h v x/\VRs N φ h vs xs
end
noncomputable def accDict (P:Params) (sz:Int) (es:Array DictEntry):Prop:=∃ t1 t2,es=#[⟨PyData.keyHash P "_initial_size",.str "_initial_size" t1,.int sz t2⟩]
noncomputable def kxIs:Kx->Value->Bool
 | .inl i,v=>v.isInt i
 | .inr s,v=>Value.isStrOf ⟨s.toArray⟩ v
theorem kx_shape {k:Kx}{v:Value}(h:kxIs k v=true):(∃ i t,k = .inl i/\v = .int i t)∨∃ s t,k = .inr s/\v = .str ⟨s.toArray⟩ t:=by
 cases k with
 | inl i=>obtain⟨t,rfl⟩:=Value.isInt_shape h;exact .inl ⟨i,t,rfl,rfl⟩
 | inr s=>obtain⟨t,rfl⟩:=Value.isStrOf_shape h;exact .inr ⟨s,t,rfl,rfl⟩
theorem cs_inj {a b:Cs}(h:(⟨a.toArray⟩:Str)=⟨b.toArray⟩):a=b:=by injection h with h;injection h
noncomputable def kxKind (prog:Program) (w:World):KeyKind prog w Kx where
 is:=kxIs
 hash
  | .inl i=>(intKind prog w).hash i
  | .inr s=>(strKind prog w).hash ⟨s.toArray⟩
 inj:=λv a b ha hb=>by
  cases a with
  | inl i=>cases b with
   | inl j=>exact congrArg Sum.inl ((intKind prog w).inj _ _ _ ha hb)
   | inr r=>obtain⟨t,rfl⟩:=Value.isInt_shape ha;exact absurd hb Bool.false_ne_true
  | inr s=>cases b with
   | inl j=>obtain⟨t,rfl⟩:=Value.isInt_shape hb;exact absurd ha Bool.false_ne_true
   | inr r=>exact congrArg Sum.inr (cs_inj ((strKind prog w).inj _ _ _ ha hb))
 byValue:=λk v h=>by
  cases k with
  | inl i=>exact(intKind prog w).byValue i v h
  | inr s=>exact(strKind prog w).byValue ⟨s.toArray⟩ v h
 pyHash:=λ{_ _ _ k _ _} hv h=>by
  cases k with
  | inl i=>exact(intKind prog w).pyHash (k:=i) hv h
  | inr s=>exact(strKind prog w).pyHash (k:=⟨s.toArray⟩) hv h
 eqBool:=λ{_ _ _ a b _ _ Q} hu hv h=>by
  cases a with
  | inl i=>cases b with
   | inl j=>
    refine(intKind prog w).eqBool (a:=i) (b:=j) hu hv ?_
    rwa [show decide (i=j)=decide ((.inl i:Kx) = .inl j)from decide_eq_decide.mpr ⟨congrArg _,Sum.inl.inj⟩]
   | inr r=>
    obtain⟨t,rfl⟩:=Value.isInt_shape hu
    obtain⟨u,rfl⟩:=Value.isStrOf_shape hv
    exact PySem.SeqAt.EqAt.int_str i t ⟨r.toArray⟩ u prog w _ Q h
  | inr s=>cases b with
   | inl j=>
    obtain⟨t,rfl⟩:=Value.isInt_shape hv
    obtain⟨u,rfl⟩:=Value.isStrOf_shape hu
    exact PySem.SeqAt.EqAt.str_int ⟨s.toArray⟩ u j t prog w _ Q h
   | inr r=>
    refine(strKind prog w).eqBool (a:=⟨s.toArray⟩) (b:=⟨r.toArray⟩) hu hv ?_
    rwa [show decide ((⟨s.toArray⟩:Str)=⟨r.toArray⟩)=decide ((.inr s:Kx) = .inr r)from decide_eq_decide.mpr ⟨λe=>congrArg _ (cs_inj e),λe=>congrArg (λx:Cs=>(⟨x.toArray⟩:Str)) (Sum.inr.inj e)⟩]
 «strs»:=λk x t v h=>by
  cases k with
  | inl i=>exact absurd h Bool.false_ne_true
  | inr s=>exact(strKind prog w).«strs» ⟨s.toArray⟩ x t v h
structure DictOK (B:Base) (φ:Phi) (h:Heap) (kvs:List (Kx×V)) (a:Addr) (ps:List (Kx×Value)):Prop where
 d:h.DictAt (kxKind B.prog B.w) a ps kvs.length
 ks:ps.map (·.1)=kvs.map (·.1)
 vs:VRs B.Z φ h (kvs.map (·.2)) (ps.map (·.2))
 z:kvs.length<=LIM
noncomputable abbrev setO (es:Array (Int×Value)) (ep:Nat) (t:SetTable):Obj:={cls:=.type "set",dict:=none,data:=.set es ep t,slots:=#[]}
structure SetIn (prog:Program) (w:World) (es:Array (Int×Value)) (t:SetTable) (l:List Cs):Prop where
 led:t.led=true∨w.params.followText "set-order"=true
 plain:t.plain=false∨es.size=0
 fits:t.fits es.size=true
 el:ElemsOf (strKind prog w) es.toList
 nd:l.Nodup
 len:l.length<64
 txt:∃ xs:List Cs,xs.Perm l/\PyProof.Rows.StrsAre (es.toList.map (·.2)) (xs.map λx=>(⟨x.toArray⟩:Str))
inductive SetHas (prog:Program) (w:World) (h:Heap) (a:Addr) (l:List Cs):Prop
 | mk (es:Array (Int×Value)) (ep:Nat) (t:SetTable) (g:h.get? a=some (setO es ep t)) (q:SetIn prog w es t l)
noncomputable abbrev SetAt (B:Base) (h:Heap) (l:List Cs) (a:Addr):Prop:=SetHas B.prog B.w h a l
inductive LamAt (B:Base) (h:Heap) (e:E) (a:Addr):Prop
 | mk (name qual:Str) (params:Arguments) (body:Expr) (scope:Scope) (pm:Value) (c:Addr) (ct:Value) (n:Nat) (r:Ren) (g:h.get? a=some (PySem.W.kla_obj name qual params body scope [] pm c ct)) (q:CodeQ h qual (.ref c))
   (sc:lamScope params scope=some r) (t:tr B.GT n scope r 2 body=some e)
inductive LstIs (N:Zone) (φ:Phi) (h:Heap) (vs:List V) (a:Addr):Prop
 | mk (items:List Value) (n:Nat) (g:h.get? a=some (lstO (List.toArray items) n)) (r:VRs N φ h vs items/\vs.length<=LIM)
inductive AccIs (B:Base) (φ:Phi) (h:Heap) (sz:Int) (vs:List V) (a d:Addr):Prop
 | mk (items:List Value) (n:Nat) (sl:Array (Option Value)) (es:Array DictEntry) (ep:Nat) (g:h.get? a=some ⟨.ref B.C,some d,.seq (List.toArray items) n,sl⟩) (r:VRs B.Z φ h vs items/\vs.length<=LIM)
   (gd:h.get? d=some {cls:=.type "dict",data:=.dict es ep}) (dd:accDict B.w.params sz es)
noncomputable def OR (B:Base) (φ:Phi) (h:Heap):O->Addr×Addr->Prop
 | .list vs,p=>p.2=p.1/\LstIs B.Z φ h vs p.1
 | .acc sz vs,p=>AccIs B φ h sz vs p.1 p.2
 | .dict kvs,p=>p.2=p.1/\∃ ps,DictOK B φ h kvs p.1 ps
 | .lam e,p=>p.2=p.1/\LamAt B h e p.1
 | .set l,p=>p.2=p.1/\SetAt B h l p.1
structure Stat (B:Base) (h:Heap):Prop where
 K:∀ a o,B.K.lookup a=some o->h.get? a=some o
 g:h.Ns mainGlobals B.mg
 b:h.Ns builtinsNs B.mb
 nolimit:h.NoLimit
 tab:∀ t q,B.tabs.lookup t=some q->∃ vs,h.get? t=some (tabO vs)/\TabOk h q vs.toList
 size:B.N<=h.objs.size
structure Base.Ok (B:Base):Prop where
 low:∀ a o,B.K.lookup a=some o->a<B.N
 gl:mainGlobals<B.N
 bl:builtinsNs<B.N
 sl:cStatics<B.N
 sml:sysModules<B.N
 off:∀ a o,B.K.lookup a=some o->B.tabs.lookup a=none
 tlow:∀ t q,B.tabs.lookup t=some q->t<B.N
structure Rep (B:Base) (σ:AH) (φ:Phi) (h:Heap):Prop where
 stat:Stat B h
 len:φ.length=σ.length
 above:∀ a∈addrs φ,B.N<=a
 apart:∀ (i j:Nat) (p q:Addr×Addr),i≠j->φ[i]?=some p->φ[j]?=some q->p.1≠q.1/\p.1≠q.2/\p.2≠q.2
 rel:∀ (i:Nat) (o:O) (p:Addr×Addr),σ[i]?=some o->φ[i]?=some p->OR B φ h o p
theorem Stat.keep {B:Base}(O:B.Ok){W:List Addr}{h h':Heap}(S:Stat B h) (k:Kp B.tabs W h h') (hW:∀ a∈W,B.N<=a):Stat B h':=by
 have off:∀ a,a<B.N->a∉W:=λa ha hm=>Nat.lt_irrefl _ (Nat.lt_of_lt_of_le ha (hW a hm))
 refine⟨λa o e=>?_,k.ns S.g (off _ O.gl),k.ns S.b (off _ O.bl),?_,λt q ht=>?_,nT S.size k.size⟩
 ·rcases k.keep a o (S.K a o e) (off a (O.low a o e))with e1|⟨q,_,_,ht,_⟩
  ·exact e1
  ·exact noneE ((O.off a o e).symm.trans ht)
 ·obtain⟨mc,n,q⟩:=S.nolimit
  exact⟨mc,k.ns n (off _ O.sl),q⟩
 ·obtain⟨vs,e,z⟩:=S.tab t q ht
  rcases k.keep t _ e (off t (O.tlow t q ht))with e1|⟨q',vs',more,ht',e3,e1,z1⟩
  ·exact⟨_,e1,k.tab z⟩
  ·obtain rfl:=oJ (ht.symm.trans ht')
   injection e3 with _ _ e3
   injection e3 with e3
   subst e3
   exact⟨_,e1,z1 z⟩
theorem VRs_length {N:Zone}{φ:Phi}{h:Heap}:∀ {vs:List V}{xs:List Value},VRs N φ h vs xs->vs.length=xs.length
 | [],[],_=>rfl
 | v::vs,x::xs,r=>by unfold VRs at r;simp[VRs_length r.2]
 | [],_::_,r=>by unfold VRs at r;exact r.elim
 | _::_,[],r=>by unfold VRs at r;exact r.elim
theorem VRs_get {N:Zone}{φ:Phi}{h:Heap}:∀ {vs:List V}{xs:List Value}{i:Nat}{v:V},VRs N φ h vs xs->vs[i]?=some v->∃ x,xs[i]?=some x/\VR N φ h v x
 | v::vs,x::xs,0,_,r,e=>by unfold VRs at r;obtain rfl:=oJ e;exact⟨x,rfl,r.1⟩
 | v::vs,x::xs,i+1,_,r,e=>by unfold VRs at r;exact VRs_get (i:=i) r.2 (by simpa using e)
 | [],[],_,_,_,e=>by simp at e
 | [],_::_,_,_,r,_=>by unfold VRs at r;exact r.elim
 | _::_,[],_,_,r,_=>by unfold VRs at r;exact r.elim
theorem VRs_append {N:Zone}{φ:Phi}{h:Heap}:∀ {vs us:List V}{xs ys:List Value},VRs N φ h vs xs->VRs N φ h us ys->VRs N φ h (vs++us) (xs++ys)
 | [],_,[],_,_,q=>q
 | v::vs,_,x::xs,_,r,q=>by unfold VRs at r;show VR N φ h v x/\VRs N φ h _ _;exact⟨r.1,VRs_append r.2 q⟩
 | [],_,_::_,_,r,_=>by unfold VRs at r;exact r.elim
 | _::_,_,[],_,r,_=>by unfold VRs at r;exact r.elim
theorem VRs_one {N:Zone}{φ:Phi}{h:Heap}{v:V}{x:Value}(r:VR N φ h v x):VRs N φ h [v] [x]:=by unfold VRs;exact⟨r,by unfold VRs;trivial⟩
theorem VRs_nil {N:Zone}{φ:Phi}{h:Heap}:VRs N φ h [] []:=by unfold VRs;trivial
theorem VRs_cons {N:Zone}{φ:Phi}{h:Heap}{v:V}{x:Value} {vs xs}(r:VR N φ h v x) (q:VRs N φ h vs xs):VRs N φ h (v::vs) (x::xs):=by unfold VRs;exact⟨r,q⟩
theorem VRs_take {N:Zone}{φ:Phi}{h:Heap}:∀ (n:Nat){vs:List V}{xs:List Value},VRs N φ h vs xs->VRs N φ h (vs.take n) (xs.take n)
 | 0,_,_,_=>by simp[VRs_nil]
 | n+1,[],[],_=>by simp[VRs_nil]
 | n+1,v::vs,x::xs,r=>by unfold VRs at r;exact VRs_cons r.1 (VRs_take n r.2)
 | _,[],_::_,r=>by unfold VRs at r;exact r.elim
 | _,_::_,[],r=>by unfold VRs at r;exact r.elim
theorem VRs_drop {N:Zone}{φ:Phi}{h:Heap}:∀ (n:Nat){vs:List V}{xs:List Value},VRs N φ h vs xs->VRs N φ h (vs.drop n) (xs.drop n)
 | 0,_,_,r=>r
 | n+1,[],[],_=>by simp[VRs_nil]
 | n+1,v::vs,x::xs,r=>by unfold VRs at r;exact VRs_drop n r.2
 | _,[],_::_,r=>by unfold VRs at r;exact r.elim
 | _,_::_,[],r=>by unfold VRs at r;exact r.elim
theorem VRs_set {N:Zone}{φ:Phi}{h:Heap}{v:V}{x:Value}(q:VR N φ h v x):∀ (n:Nat){vs:List V}{xs:List Value},VRs N φ h vs xs->VRs N φ h (vs.set n v) (xs.set n x)
 | _,[],[],_=>by simp[VRs_nil]
 | 0,v::vs,x::xs,r=>by unfold VRs at r;exact VRs_cons q r.2
 | n+1,v::vs,x::xs,r=>by unfold VRs at r;exact VRs_cons r.1 (VRs_set q n r.2)
 | _,[],_::_,r=>by unfold VRs at r;exact r.elim
 | _,_::_,[],r=>by unfold VRs at r;exact r.elim
theorem VRs_erase {N:Zone}{φ:Phi}{h:Heap}(n:Nat){vs:List V}{xs:List Value}(r:VRs N φ h vs xs):VRs N φ h (vs.eraseIdx n) (xs.eraseIdx n):=by
 rw[List.eraseIdx_eq_take_drop_succ,List.eraseIdx_eq_take_drop_succ]
 exact VRs_append (VRs_take n r) (VRs_drop (n+1) r)
theorem VRs_reverse {N:Zone}{φ:Phi}{h:Heap}:∀ {vs:List V}{xs:List Value},VRs N φ h vs xs->VRs N φ h vs.reverse xs.reverse
 | [],[],_=>by simp[VRs_nil]
 | v::vs,x::xs,r=>by unfold VRs at r;simp only [List.reverse_cons];exact VRs_append (VRs_reverse r.2) (VRs_one r.1)
 | [],_::_,r=>by unfold VRs at r;exact r.elim
 | _::_,[],r=>by unfold VRs at r;exact r.elim
theorem VRs_rep {N:Zone}{φ:Phi}{h:Heap}(n:Nat){vs:List V}{xs:List Value}(r:VRs N φ h vs xs):VRs N φ h (rep n vs) (rep n xs):=by
 induction n with
 | zero=>simp[rep,VRs_nil]
 | succ n ih=>simp only [rep,List.replicate_succ,List.flatten_cons]at ih ⊢;exact VRs_append r ih
structure Vk (N:Zone) (φ:Phi) (h:Heap) (φ':Phi) (h':Heap):Prop where
 fix:∀ a o,fixO o=true->h.get? a=some o->h'.get? a=some o
 low:∀ a items n,a<N->h.get? a=some (lstO items n)->h'.get? a=some (lstO items n)
 pre:∀ (i:Nat) (p:Addr×Addr),φ[i]?=some p->φ'[i]?=some p
mutual
theorem VR_mono {N:Zone}{φ φ':Phi}{h h':Heap}(k:Vk N φ h φ' h'):∀ (v:V){x:Value},VR N φ h v x->VR N φ' h' v x
 | .none,_,r=>by unfold VR at r ⊢;exact r
 | .bool _,_,r=>by unfold VR at r ⊢;exact r
 | .int _,_,r=>by unfold VR at r ⊢;exact r
 | .str _,_,r=>by unfold VR at r ⊢;exact r
 | .tup vs,_,r=>by unfold VR at r ⊢;obtain⟨a,items,n,e,e1,r⟩:=r;exact⟨a,items,n,e,k.fix a _ rfl e1,VRs_mono k vs r⟩
 | .obj i,_,r=>by unfold VR at r ⊢;obtain⟨p,e,e1⟩:=r;exact⟨p,k.pre i p e,e1⟩
 | .flist vs,_,r=>by unfold VR at r ⊢;obtain⟨a,items,n,e,l,e1,r⟩:=r;exact⟨a,items,n,e,l,k.low a _ n l e1,VRs_mono k vs r⟩
 | .rng _ _ _,_,r=>by unfold VR at r ⊢;obtain⟨x,t,u,y,e,e1⟩:=r;exact⟨x,t,u,y,e,k.fix _ _ rfl e1⟩
theorem VRs_mono {N:Zone}{φ φ':Phi}{h h':Heap}(k:Vk N φ h φ' h'):∀ (vs:List V){xs:List Value},VRs N φ h vs xs->VRs N φ' h' vs xs
 | [],[],_=>VRs_nil
 | v::vs,x::xs,r=>by unfold VRs at r;exact VRs_cons (VR_mono k v r.1) (VRs_mono k vs r.2)
 | [],_::_,r=>by unfold VRs at r;exact r.elim
 | _::_,[],r=>by unfold VRs at r;exact r.elim
end
noncomputable def Safe (N:Zone) (W:List Addr):Prop:=∀ a∈W,N<=a
theorem Rep.safe {B:Base}{σ:AH}{φ:Phi}{h:Heap}(R:Rep B σ φ h):Safe B.Z (addrs φ):=R.above
theorem Safe.nil (N:Zone):Safe N []:=λ_ h=>absurd h List.not_mem_nil
theorem pre_get {φ φ' ψ:Phi}(e:φ'=φ++ψ) (i:Nat) (p:Addr×Addr) (h:φ[i]?=some p):φ'[i]?=some p:=by
 subst e
 rw[List.getElem?_append_left (List.getElem?_eq_some_iff.mp h).1];exact h
theorem Vk.of {N:Zone}{tabs:Tabs}{W:List Addr}{φ φ':Phi}{h h':Heap}(k:Kp tabs W h h') (S:Safe N W) (pre:∃ ψ,φ'=φ++ψ/\∀ a∈addrs ψ,h.objs.size<=a):Vk N φ h φ' h':=by
 obtain⟨ψ,hψ,hf⟩:=pre
 exact⟨k.fix,λa items n l e=>k.get e (λhm=>Nat.lt_irrefl _ (Nat.lt_of_lt_of_le l (S a hm))) nofun,pre_get hψ⟩
theorem pre_refl (φ:Phi) (h:Heap):∃ ψ,φ=φ++ψ/\∀ a∈addrs ψ,h.objs.size<=a:=⟨[],by simp,λ_ h=>by simp[addrs]at h⟩
structure St (B:Base) (φ:Phi) (s:Shared) (φ':Phi) (s':Shared):Prop where
 pre:∃ ψ,φ'=φ++ψ/\∀ a∈addrs ψ,s.heap.objs.size<=a
 keep:Kp B.tabs (addrs φ) s.heap s'.heap
 os:s'.os=s.os
 gens:PyProof.Rows.AllBare s.gens->PyProof.Rows.AllBare s'.gens
theorem St.refl (B:Base) (φ:Phi) (s:Shared):St B φ s φ s:=⟨⟨[],by simp,λ_ h=>by simp[addrs]at h⟩,.refl ..,rfl,id⟩
theorem St.trans {B:Base}{φ φ' φ'':Phi}{s s' s'':Shared}(x:St B φ s φ' s') (y:St B φ' s' φ'' s''):St B φ s φ'' s'':=by
 obtain⟨ψ,rfl,h1⟩:=x.pre
 obtain⟨ψ',rfl,h2⟩:=y.pre
 refine⟨⟨ψ++ψ',by simp,λa ha=>?_⟩,x.keep.trans' y.keep λb hb=>?_,y.os.trans x.os,λq=>y.gens (x.gens q)⟩
 ·rw[addrs_append]at ha
  rcases List.mem_append.mp ha with ha|ha
  ·exact h1 a ha
  ·exact nT x.keep.size (h2 a ha)
 ·rw[addrs_append]at hb
  rcases List.mem_append.mp hb with hb|hb
  ·exact .inl hb
  ·exact .inr (h1 b hb)
theorem St.get {B:Base}{φ φ':Phi}{s s':Shared}(x:St B φ s φ' s') (i:Nat) (p:Addr×Addr) (e:φ[i]?=some p):φ'[i]?=some p:=by
 obtain⟨ψ,rfl,_⟩:=x.pre
 rw[List.getElem?_append_left (List.getElem?_eq_some_iff.mp e).1];exact e
theorem St.vr {B:Base}{σ:AH}{φ φ':Phi}{s s':Shared}(x:St B φ s φ' s') (R:Rep B σ φ s.heap){v:V}{a:Value}(r:VR B.Z φ s.heap v a):VR B.Z φ' s'.heap v a:=
 VR_mono (Vk.of x.keep R.safe x.pre) v r
theorem St.vrs {B:Base}{σ:AH}{φ φ':Phi}{s s':Shared}(x:St B φ s φ' s') (R:Rep B σ φ s.heap){v:List V}{a:List Value}(r:VRs B.Z φ s.heap v a):VRs B.Z φ' s'.heap v a:=
 VRs_mono (Vk.of x.keep R.safe x.pre) v r
theorem St.of_kp {B:Base}{φ:Phi}{s s':Shared}(k:Kp B.tabs [] s.heap s'.heap) (ho:s'.os=s.os) (hg:s'.gens=s.gens):St B φ s φ s':=
 ⟨⟨[],by simp,λ_ h=>by simp[addrs]at h⟩,k.mono (λ_ h=>absurd h List.not_mem_nil),ho,λq=>by rw[hg];exact q⟩
theorem OR_mono {B:Base}{φ φ':Phi}{h h':Heap}(k:Vk B.Z φ h φ' h'){o:O}{p:Addr×Addr}
  (k1:∀ o,h.get? p.1=some o->h'.get? p.1=some o) (k2:∀ o,h.get? p.2=some o->h'.get? p.2=some o) (r:OR B φ h o p):OR B φ' h' o p:=by
 cases o with
 | list vs=>obtain⟨e2,items,n,e1,q⟩:=r;exact⟨e2,items,n,k1 _ e1,VRs_mono k vs q.1,q.2⟩
 | acc sz vs=>obtain⟨items,n,sl,es,ep,e1,q,e2,d⟩:=r;exact⟨items,n,sl,es,ep,k1 _ e1,⟨VRs_mono k vs q.1,q.2⟩,k2 _ e2,d⟩
 | dict kvs=>obtain⟨e2,ps,⟨o,es,ho,r⟩,ks,vs,z⟩:=r;exact⟨e2,ps,⟨o,es,k1 _ ho,r⟩,ks,VRs_mono k _ vs,z⟩
 | lam e=>obtain⟨e2,name,qual,params,body,scope,pm,c,ct,n,r,ho,hc,q,t⟩:=r;exact⟨e2,name,qual,params,body,scope,pm,c,ct,n,r,k1 _ ho,hc.at' k.fix,q,t⟩
 | set l=>obtain⟨e2,es,ep,t,ho,q⟩:=r;exact⟨e2,es,ep,t,k1 _ ho,q⟩
theorem OR.obs {B:Base}{φ:Phi}{h:Heap}{o:O}{p:Addr×Addr}(r:OR B φ h o p):(∃ ob,h.get? p.1=some ob/\ob.cls ≠ .none/\fixO ob=false)/\∃ ob,h.get? p.2=some ob/\ob.cls ≠ .none/\fixO ob=false:=by
 have two:∀ {ob:Obj},p.2=p.1->h.get? p.1=some ob->ob.cls ≠ .none->fixO ob=false->(∃ ob,h.get? p.1=some ob/\ob.cls ≠ .none/\fixO ob=false)/\∃ ob,h.get? p.2=some ob/\ob.cls ≠ .none/\fixO ob=false:=
  λe2 e1 c f=>by rw[e2];exact⟨⟨_,e1,c,f⟩,⟨_,e1,c,f⟩⟩
 cases o with
 | list vs=>obtain⟨e2,items,n,e1,q⟩:=r;exact two e2 e1 nofun rfl
 | acc sz vs=>obtain⟨items,n,sl,es,ep,e1,q,e2,d⟩:=r;exact⟨⟨_,e1,nofun,rfl⟩,⟨_,e2,nofun,rfl⟩⟩
 | dict kvs=>obtain⟨e2,ps,⟨o,es,ho,hx,hd,r⟩,_⟩:=r;exact two e2 ho (by rw[hx.1];exact nofun) (by unfold fixO;rw[hd])
 | lam e=>obtain⟨e2,name,qual,params,body,scope,pm,c,ct,n,r,ho,q⟩:=r;exact two e2 ho nofun rfl
 | set l=>obtain⟨e2,es,ep,t,ho,q⟩:=r;exact two e2 ho nofun rfl
namespace Rep
variable {B:Base}{σ:AH}{φ:Phi}{h h':Heap}
theorem at_ (R:Rep B σ φ h){i:Nat}{o:O}(e:σ[i]?=some o):∃ p,φ[i]?=some p/\OR B φ h o p:=by
 have hl:i<φ.length:=by rw[R.len];exact(List.getElem?_eq_some_iff.mp e).1
 exact⟨_,List.getElem?_eq_getElem hl,R.rel i o _ e (List.getElem?_eq_getElem hl)⟩
theorem back (R:Rep B σ φ h){i:Nat}{p:Addr×Addr}(e:φ[i]?=some p):∃ o,σ[i]?=some o/\OR B φ h o p:=by
 have hl:i<σ.length:=by rw[<-R.len];exact(List.getElem?_eq_some_iff.mp e).1
 exact⟨_,List.getElem?_eq_getElem hl,R.rel i _ p (List.getElem?_eq_getElem hl) e⟩
theorem ob (R:Rep B σ φ h){a:Addr}(ha:a∈addrs φ):∃ o,h.get? a=some o/\o.cls ≠ .none/\fixO o=false:=by
 obtain⟨p,hp,hq⟩:=mem_addrs.mp ha
 obtain⟨i,hi⟩:=List.getElem?_of_mem hp
 obtain⟨o,_,r⟩:=R.back hi
 rcases hq with rfl|rfl
 ·exact r.obs.1
 ·exact r.obs.2
theorem lt (R:Rep B σ φ h){a:Addr}(ha:a∈addrs φ):a<h.objs.size:=have⟨_,e,_⟩:=R.ob ha;Heap.lt_size e
theorem mem (_:Rep B σ φ h){i:Nat}{q:Addr×Addr}(e:φ[i]?=some q):q.1∈addrs φ/\q.2∈addrs φ:=⟨mem_addrs.mpr ⟨_,List.mem_of_getElem? e,.inl rfl⟩,mem_addrs.mpr ⟨_,List.mem_of_getElem? e,.inr rfl⟩⟩
theorem get (R:Rep B σ φ h){W:List Addr}(k:Kp B.tabs W h h'){a:Addr}(ha:a∈addrs φ) (hw:a∉W):∀ o,h.get? a=some o->h'.get? a=some o:=λo e=>by
 obtain⟨o1,e1,c1,_⟩:=R.ob ha
 obtain rfl:=oJ (e1.symm.trans e)
 exact k.get e hw c1
theorem off (R:Rep B σ φ h) (O:B.Ok){W:List Addr}(k:Kp B.tabs W h h') (S:Safe B.Z W) (hW:∀ a∈W,a∉addrs φ):Rep B σ φ h':=
 ⟨R.stat.keep O k S,R.len,R.above,R.apart,λi o p e1 e2=>OR_mono (Vk.of k S (pre_refl ..)) (R.get k (R.mem e2).1 λhm=>hW _ hm (R.mem e2).1) (R.get k (R.mem e2).2 λhm=>hW _ hm (R.mem e2).2) (R.rel i o p e1 e2)⟩
theorem grow (R:Rep B σ φ h) (O:B.Ok) (k:Kp B.tabs [] h h'):Rep B σ φ h':=R.off O k (Safe.nil B.Z) (λ_ h=>absurd h List.not_mem_nil)
theorem add (R:Rep B σ φ h){o:O}{p:Addr×Addr}(h1:p.1∉addrs φ) (h2:p.2∉addrs φ) (n1:B.N<=p.1) (n2:B.N<=p.2) (r:OR B φ h o p):Rep B (σ++[o]) (φ++[p]) h:=by
 have pre:∀ (i:Nat) (q:Addr×Addr),φ[i]?=some q->(φ++[p])[i]?=some q:=λi q e=>by
  rw[List.getElem?_append_left (List.getElem?_eq_some_iff.mp e).1];exact e
 have vk:Vk B.Z φ h (φ++[p]) h:=⟨λ_ _ _ e=>e,λ_ _ _ _ e=>e,pre⟩
 have up:∀ {o:O}{q:Addr×Addr},OR B φ h o q->OR B (φ++[p]) h o q:=λr=>OR_mono vk (λ_ e=>e) (λ_ e=>e) r
 have cases_:∀ {i:Nat}{q:Addr×Addr},(φ++[p])[i]?=some q->φ[i]?=some q∨(i=φ.length/\q=p):=λ{i q} e=>by
  rcases Nat.lt_or_ge i φ.length with l|l
  ·rw[List.getElem?_append_left l]at e;exact .inl e
  ·rw[List.getElem?_append_right l]at e
   cases hi:i-φ.length with
   | zero=>rw[hi]at e;exact .inr ⟨Nat.le_antisymm (Nat.le_of_sub_eq_zero hi) l,(oJ e).symm⟩
   | succ n=>rw[hi]at e;exact noneE e
 refine⟨R.stat,by simp[R.len],λa ha=>?_,λi j q q' hij e1 e2=>?_,λi o' q e1 e2=>?_⟩
 ·rw[addrs_append]at ha
  rcases List.mem_append.mp ha with ha|ha
  ·exact R.above a ha
  ·rcases mem_addrs.mp ha with⟨q,hq,rfl|rfl⟩<;>simp at hq<;>subst hq<;>assumption
 ·rcases cases_ e1 with f1|⟨rfl,rfl⟩<;>rcases cases_ e2 with f2|⟨rfl,rfl⟩
  ·exact R.apart i j q q' hij f1 f2
  ·have m:=R.mem f1
   exact⟨λz=>h1 (z▸m.1),λz=>h2 (z▸m.1),λz=>h2 (z▸m.2)⟩
  ·have m:=R.mem f2
   exact⟨λz=>h1 (z▸m.1),λz=>h1 (z▸m.2),λz=>h2 (z▸m.2)⟩
  ·exact absurd rfl hij
 ·rcases cases_ e2 with e2|⟨rfl,rfl⟩
  ·have l:i<σ.length:=by rw[<-R.len];exact(List.getElem?_eq_some_iff.mp e2).1
   rw[List.getElem?_append_left l]at e1
   exact up (R.rel i o' q e1 e2)
  ·rw[R.len,List.getElem?_append_right (Nat.le_refl _),Nat.sub_self]at e1
   cases e1
   exact up r
theorem put (R:Rep B σ φ h) (ok:B.Ok){i:Nat}{p:Addr×Addr}{o:O}(hp:φ[i]?=some p) (k:Kp B.tabs [p.1,p.2] h h') (r:OR B φ h' o p):Rep B (σ.set i o) φ h':=by
 have S:Safe B.Z [p.1,p.2]:=λa ha=>(mC ha).elim (λe=>e▸R.safe _ (R.mem hp).1) λha=>mS ha▸R.safe _ (R.mem hp).2
 refine⟨R.stat.keep ok k S,by rw[List.length_set];exact R.len,R.above,R.apart,λj o' q e1 e2=>?_⟩
 by_cases hij:i=j
 ·subst hij
  rw[List.getElem?_set_self (by rw[<-R.len];exact(List.getElem?_eq_some_iff.mp hp).1)]at e1
  obtain rfl:=oJ e1
  obtain rfl:=oJ (hp.symm.trans e2)
  exact r
 ·rw[List.getElem?_set_ne hij]at e1
  obtain⟨a1,a2,a3⟩:=R.apart i j p q hij hp e2
  obtain⟨b1,b2,b3⟩:=R.apart j i q p (Ne.symm hij) e2 hp
  have no:∀ a,a≠p.1->a≠p.2->a∉[p.1,p.2]:=λa h1 h2 hm=>(mC hm).elim h1 λhm=>h2 (mS hm)
  exact OR_mono (Vk.of k S (pre_refl ..)) (R.get k (R.mem e2).1 (no _ b1 b2)) (R.get k (R.mem e2).2 (no _ (Ne.symm a2) b3)) (R.rel j o' q e1 e2)
end Rep
noncomputable def Holds (env:Env) (h:Heap) (x:Str) (rv:Value):Prop:=
 (env.kindOf x=some .local/\∃ m,h.Ns env.locals m/\m x=some rv)∨
 ((env.kindOf x=some .cell∨env.kindOf x=some .free)/\∃ c,env.cells.lookup x=some c/\h.IsCell c (some rv))
structure EnvOK (B:Base) (sc:Scope) (ren:Ren) (nx:Nat) (env:Env) (loc:Loc) (φ:Phi) (h:Heap):Prop where
 fk:env.scope.kind = .function
 kind:∀ x k,sc.names.lookup x=some k->env.kindOf x=some k∨(k = .free/\env.kindOf x=some .cell)
 glob:env.globals=mainGlobals
 blt:env.builtins=builtinsNs
 base:env.locals∉addrs φ
 above:B.N<=env.locals
 ns:∃ m,h.Ns env.locals m
 cells:∀ x c,env.cells.lookup x=some c->(∃ v,h.IsCell c v)/\c∉addrs φ/\B.N<=c
 inj:∀ x y c,env.cells.lookup x=some c->env.cells.lookup y=some c->x=y
 has:∀ x i,ren.lookup x=some i->(env.kindOf x=some .cell∨env.kindOf x=some .free)->∃ c,env.cells.lookup x=some c
 rinj:∀ x y i,ren.lookup x=some i->ren.lookup y=some i->x=y
 rlt:∀ x i,ren.lookup x=some i->i<nx
 free:∀ (i:Nat) v,nx<=i->loc[i]?≠some (some v)
 vals:∀ x i v,ren.lookup x=some i->loc[i]?=some (some v)->∃ rv,Holds env h x rv/\VR B.Z φ h v rv
 lam:lamSc sc=true->env.code = .ref B.lc/\env.qual++"<lambda>"=B.lq
theorem Holds.keep {env:Env}{h h':Heap}{x:Str}{rv:Value}(q:Holds env h x rv){tabs:Tabs}{W:List Addr}(k:Kp tabs W h h') (h1:env.locals∉W) (h2:∀ c,env.cells.lookup x=some c->c∉W):Holds env h' x rv:=by
 rcases q with⟨a,m,n,e⟩|⟨a,c,e,n⟩
 ·exact .inl ⟨a,m,k.ns n h1,e⟩
 ·exact .inr ⟨a,c,e,k.cell n (h2 c e)⟩
theorem EnvOK.step {B:Base}{sc:Scope}{ren:Ren}{nx:Nat}{env:Env}{loc:Loc}{σ:AH}{φ φ':Phi}{s s':Shared}(V:EnvOK B sc ren nx env loc φ s.heap) (x:St B φ s φ' s') (R:Rep B σ φ s.heap):EnvOK B sc ren nx env loc φ' s'.heap:=by
 obtain⟨ψ,rfl,hψ⟩:=x.pre
 have off:∀ a o,s.heap.get? a=some o->a∉addrs φ->a∉addrs (φ++ψ):=λa o e ha hm=>by
  rw[addrs_append]at hm
  rcases List.mem_append.mp hm with hm|hm
  ·exact ha hm
  ·exact absurd (Nat.lt_of_lt_of_le (Heap.lt_size e) (hψ a hm)) (Nat.lt_irrefl _)
 refine⟨V.fk,V.kind,V.glob,V.blt,?_,V.above,?_,λy c e=>?_,V.inj,V.has,V.rinj,V.rlt,V.free,λy i v e1 e2=>?_,V.lam⟩
 ·obtain⟨m,o,_,_,e,_⟩:=V.ns
  exact off _ o e V.base
 ·obtain⟨m,n⟩:=V.ns
  exact⟨m,x.keep.ns n V.base⟩
 ·obtain⟨⟨v,n⟩,a,b⟩:=V.cells y c e
  obtain⟨o,e',hd⟩:=id n
  exact⟨⟨v,x.keep.cell n a⟩,off c o e' a,b⟩
 ·obtain⟨rv,q,r⟩:=V.vals y i v e1 e2
  exact⟨rv,q.keep x.keep V.base λc e=>(V.cells y c e).2.1,x.vr R r⟩
noncomputable def biVal:Bi->Value
 | .len=>.builtin "len" | .ord=>.builtin "ord" | .chr=>.builtin "chr" | .sum=>.builtin "sum" | .min=>.builtin "min" | .sorted=>.builtin "sorted"
 | .range=>.type "range" | .str=>.type "str" | .set=>.type "set"
structure Room (A:Around) (d:Nat):Prop where
 handled:A.handled=none
 depth:A.depth+d+40<=recursionLimit
 units:A.units+40*d+400<=cLine
 frames:∃ l,A.frames=some l
noncomputable def Res (B:Base) (φ:Phi) (s:Shared) (σ':AH) (v:V):Value->Shared->Prop:=
 λrv s'=>∃ φ',St B φ s φ' s'/\Rep B σ' φ' s'.heap/\VR B.Z φ' s'.heap v rv
noncomputable def ResB (B:Base) (φ:Phi) (s:Shared) (σ':AH) (b:Bool):Bool->Shared->Prop:=
 λb' s'=>∃ φ',St B φ s φ' s'/\Rep B σ' φ' s'.heap/\b'=b
noncomputable def ResL (B:Base) (φ:Phi) (s:Shared) (σ':AH) (vs:List V):List Value->Shared->Prop:=
 λrv s'=>∃ φ',St B φ s φ' s'/\Rep B σ' φ' s'.heap/\VRs B.Z φ' s'.heap vs rv
inductive CodeK (K:PySem.W.Frag) (c P:Addr):Prop
 | mk (oc:Obj) (vs:Array Value) (file:Str) (tf:Tok) (flags:Int) (tg:Tok) (inF:Bool) (text:Int) (tt:Tok) (h1:K.lookup c=some oc) (h2:oc.cls = .type "code") (h3:oc.data = .fields vs) (h4:vs[11]?=some (.ref P)) (h5:vs.getD 18 .none = .str file tf)
   (h6:vs.getD 7 .none = .int flags tg) (h7:vs.getD 9 .none = .bool inF) (h8:vs.getD 10 .none = .int text tt)
inductive BmK (K:PySem.W.Frag) (mg:Str->Option Value):Prop
 | mk (bm:Addr) (ob:Obj) (h1:mg "__builtins__"=some (.ref bm)) (h2:bm≠builtinsNs) (h3:bm≠mainGlobals) (h4:K.lookup bm=some ob) (h5:ob.cls = .type "module") (h6:ob.dict=some builtinsNs) (h7:ob.data = .plain)
structure Sys (B:Base):Prop where
 ok:B.Ok
 cst:∀ x v,B.GT x=some (.cst v)->(x==("__debug__":Str))=false/\∃ rv,B.mg x=some rv/\∀ N φ h,VR N φ h v rv
 fn:∀ x a,B.GT x=some (.fn a)->(x==("__debug__":Str))=false/\B.mg x=some (.ref a)/\a≠0
 bi:∀ x b,B.GT x=some (.bi b)->(x==("__debug__":Str))=false/\B.mg x=none/\B.mb x=some (biVal b)
 lam:CodeK B.K B.lc B.lP
 lamT:B.tabs.lookup B.lP=some (some B.lq)
 bm:BmK B.K B.mg
 keeper:∀ x a,B.GT x=some (.fn a)->∀ h,(∀ a o,B.K.lookup a=some o->h.get? a=some o)->∃ k,(k=Keeper.frame∨k=Keeper.machine∨k=Keeper.boundFrame)/\PySem.W.Looks (model B.prog B.w) h (keeperOf (.ref a)) k
noncomputable def OrOK (B:Base) (C:Oracle) (d:Nat):Prop:=
 ∀ f args σ v σ',C f args σ=some (v,σ')->∀ A E φ s xs,Room A d->Rep B σ φ s.heap->VRs B.Z φ s.heap args xs->
  if f=0 then ∀ a rest,xs=a::rest->wpAny (model B.prog B.w) A (call a rest []) (Res B φ s σ' v) E s else wpAny (model B.prog B.w) A (call (.ref f) xs []) (Res B φ s σ' v) E s
theorem wp_yes {M:Model}{A:Around}{α:Type}{c:Prop}[Decidable c]{a b:Sem α}{Q:α->Shared->Prop}{E:Value->Shared->Prop}{s:Shared}(hc:c) (k:wpAny M A a Q E s):wpAny M A (if c then a else b) Q E s:=(if_pos hc (α:=Sem α) (t:=a) (e:=b)).symm▸k
theorem wp_no {M:Model}{A:Around}{α:Type}{c:Prop}[Decidable c]{a b:Sem α}{Q:α->Shared->Prop}{E:Value->Shared->Prop}{s:Shared}(hc:¬c) (k:wpAny M A b Q E s):wpAny M A (if c then a else b) Q E s:=(if_neg hc (α:=Sem α) (t:=a) (e:=b)).symm▸k
theorem absG2 {α β:Sort _}{T:α->β->Prop}{a:α}{b:β}(h:∀ G:α->β->Prop,(∀ x y,T x y->G x y)->G a b):T a b:=h T λ_ _ h=>h
theorem absG {α:Sort _}{T:α->Prop}{a:α}(h:∀ G:α->Prop,(∀ x,T x->G x)->G a):T a:=h T λ_ h=>h
end Mine
end
section
namespace Mine
open PySem
theorem subAt_eq (y x:Cs) (i:Nat):Builtin.Str.subAt ⟨y.toArray⟩ ⟨x.toArray⟩ i=decide ((y.drop i).take x.length=x):=by
 unfold Builtin.Str.subAt
 have e:(y.toArray.extract i (i+(⟨x.toArray⟩:Str).length))=((y.drop i).take x.length).toArray:=by
  simp[Str.length,List.extract_eq_take_drop]
 show(y.toArray.extract i (i+(⟨x.toArray⟩:Str).length)==x.toArray)=_
 rw[e,Bool.eq_iff_iff]
 simp
theorem pre_at (y x:Cs) (i:Nat):(i+x.length<=y.length/\(y.drop i).take x.length=x)↔(i<=y.length/\x <+: y.drop i):=by
 constructor
 ·rintro ⟨h1,h2⟩
  exact⟨by omega,List.prefix_iff_eq_take.mpr h2.symm⟩
 ·rintro ⟨h1,h2⟩
  have h3:=h2.length_le
  rw[List.length_drop]at h3
  exact⟨by omega,(List.prefix_iff_eq_take.mp h2).symm⟩
theorem starts_ok (x p:Cs):Txt.startswith ⟨x.toArray⟩ ⟨p.toArray⟩=p.isPrefixOf x:=by
 rw[Bool.eq_iff_iff,List.isPrefixOf_iff_prefix]
 unfold Txt.startswith
 rw[subAt_eq]
 have:=pre_at x p 0
 simp[Str.length]at this⊢
 simpa using this
theorem ends_ok (x p:Cs):Txt.endswith ⟨x.toArray⟩ ⟨p.toArray⟩=p.isSuffixOf x:=by
 rw[Bool.eq_iff_iff,List.isSuffixOf_iff_suffix]
 unfold Txt.endswith
 rw[subAt_eq]
 have key:(p.length<=x.length/\(x.drop (x.length-p.length)).take p.length=p)↔p <:+ x:=by
  constructor
  ·rintro ⟨h1,h2⟩
   rw[List.suffix_iff_eq_drop]
   rw[List.take_of_length_le (by simp;omega)]at h2
   exact h2.symm
  ·intro h
   have hl:=h.length_le
   refine⟨hl,?_⟩
   have:=List.suffix_iff_eq_drop.mp h
   rw[<-this,List.take_length]
 rw[<-key]
 simp[Str.length]
theorem joinL_glue (sep a y:Cs):∀ r:List Cs,joinL sep ((a++y)::r)=a++joinL sep (y::r)
 | []=>by simp[joinL]
 | z::r=>by simp[joinL]
theorem joinL_fold (sep:Cs):∀ (l:List Cs) (x:Cs),joinL sep (x::l)=l.foldl (λa p=>a++sep++p) x
 | [],x=>rfl
 | y::l,x=>by
  rw[List.foldl_cons,<-joinL_fold sep l,joinL,joinL_glue,List.append_assoc]
theorem fold_arr (sep:Cs):∀ (l:List Cs) (x:Cs),((l.map λc=>(⟨c.toArray⟩:Str)).foldl (λacc p=>acc++sep.toArray++p.cps) x.toArray)=(l.foldl (λa p=>a++sep++p) x).toArray
 | [],x=>rfl
 | y::l,x=>by
  rw[List.map_cons,List.foldl_cons,List.foldl_cons,<-fold_arr sep l]
  simp
theorem join_ok (sep:Cs) (l:List Cs):Txt.join ⟨sep.toArray⟩ (l.map λc=>(⟨c.toArray⟩:Str))=⟨(joinL sep l).toArray⟩:=by
 unfold Txt.join Builtin.Str.glued
 cases l with
 | nil=>simp[joinL,Str.empty]
 | cons x l=>
  rw[joinL_fold,<-fold_arr]
  simp
end Mine
end
section
namespace Mine
open PySem
section
variable {B:Base}{d:Nat}{A:Around}{E:Value->Shared->Prop}{σ σ':AH}{φ:Phi}{s:Shared}
theorem res_here {v:V}{rv:Value}(R:Rep B σ φ s.heap) (r:VR B.Z φ s.heap v rv) (tk:Nat):Res B φ s σ v rv {s with toks:=tk}:=
 ⟨φ,St.of_kp (.refl ..) rfl rfl,R,r⟩
theorem res_here' {v:V}{rv:Value}(R:Rep B σ φ s.heap) (r:VR B.Z φ s.heap v rv):Res B φ s σ v rv s:=
 ⟨φ,St.refl ..,R,r⟩
theorem vr_int {N:Zone}{φ:Phi}{h:Heap}(i:Int) (t:Tok):VR N φ h (.int i) (.int i t):=by unfold VR;exact⟨t,rfl⟩
theorem vr_bool {N:Zone}{φ:Phi}{h:Heap}(b:Bool):VR N φ h (.bool b) (.bool b):=by unfold VR;rfl
theorem vr_none {N:Zone}{φ:Phi}{h:Heap}:VR N φ h .none .none:=by unfold VR;rfl
theorem vr_str {N:Zone}{φ:Phi}{h:Heap}(x:Cs) (t:Tok):VR N φ h (.str x) (.str ⟨x.toArray⟩ t):=by unfold VR;exact⟨t,rfl⟩
theorem vr_str' {N:Zone}{φ:Phi}{h:Heap}(x:Cs) (y:Str) (e:y=⟨x.toArray⟩) (t:Tok):VR N φ h (.str x) (.str y t):=by subst e;exact vr_str x t
theorem res_new (Y:Sys B) (R:Rep B σ φ s.heap){vs:List V}{xs:List Value}(r:VRs B.Z φ s.heap vs xs) (hl:vs.length<=LIM) (tk:Nat):
  Res B φ s (σ++[.list vs]) (.obj σ.length) (.ref s.heap.objs.size) {s with heap:=s.heap.push (lstO xs.toArray 0),toks:=tk}:=by
 have k:Kp B.tabs [] s.heap (s.heap.push (lstO xs.toArray 0)):=.push ..
 have R':=R.grow Y.ok k
 have fr:s.heap.objs.size∉addrs φ:=λhm=>absurd (R.lt hm) (Nat.lt_irrefl _)
 refine⟨φ++[(s.heap.objs.size,s.heap.objs.size)],⟨⟨_,rfl,λa ha=>?_⟩,k.mono (λ_ h=>absurd h List.not_mem_nil),rfl,id⟩,R'.add fr fr R.stat.size R.stat.size ⟨rfl,xs,0,Heap.get?_push_size _ rfl,VRs_mono (Vk.of k (Safe.nil B.Z) (pre_refl ..)) _ r,hl⟩,?_⟩
 ·rcases mem_addrs.mp ha with⟨q,hq,rfl|rfl⟩<;>simp at hq<;>subst hq<;>exact Nat.le_refl _
 ·unfold VR
  exact⟨(s.heap.objs.size,s.heap.objs.size),by rw[<-R.len];simp,rfl⟩
theorem lim_line {n:Nat}(h:n<=LIM):n<=sizeLine:=nT h (by decide)
theorem log_big {i:Int}(h:i.natAbs<BIG):i.natAbs.log2<9000:=by
 rcases Nat.eq_zero_or_pos i.natAbs with h0|h0
 ·rw[h0];decide
 ·have:i.natAbs.log2<256:=(Nat.log2_lt (by omega)).mpr h
  omega
theorem foldl_app (xs:Array Value) (n:Nat):(List.foldl (λx1 x2=>x1++x2) (#[]:Array Value) (List.replicate n xs))=(rep n xs.toList).toArray:=by
 have:∀ (n:Nat) (acc:Array Value),List.foldl (λx1 x2=>x1++x2) acc (List.replicate n xs)=acc++(rep n xs.toList).toArray:=by
  intro n
  induction n with
  | zero=>intro acc;simp[rep]
  | succ n ih=>intro acc;rw[List.replicate_succ,List.foldl_cons,ih];apply Array.ext';simp[rep,List.replicate_succ]
 rw[this];simp
theorem foldl_app_nat (xs:Array Nat) (n:Nat):(List.foldl (λx1 x2=>x1++x2) (#[]:Array Nat) (List.replicate n xs))=(rep n xs.toList).toArray:=by
 have:∀ (n:Nat) (acc:Array Nat),List.foldl (λx1 x2=>x1++x2) acc (List.replicate n xs)=acc++(rep n xs.toList).toArray:=by
  intro n
  induction n with
  | zero=>intro acc;simp[rep]
  | succ n ih=>intro acc;rw[List.replicate_succ,List.foldl_cons,ih];apply Array.ext';simp[rep,List.replicate_succ]
 rw[this];simp
theorem rep_zero {α:Type}(l:List α):rep 0 l=[]:=by simp[rep]
theorem rep_one {α:Type}(l:List α):rep 1 l=l:=by simp[rep]
theorem rep_nil {α:Type}(n:Nat):rep n ([]:List α)=[]:=by simp[rep]
theorem mulTxt (x:Cs) (n:Int):Txt.mul ⟨x.toArray⟩ n=⟨(rep n.toNat x).toArray⟩:=by
 unfold Txt.mul
 split
 ·rename_i h
  have:n.toNat=0:=by omega
  rw[this,rep_zero];rfl
 ·split
  ·rename_i h
   simp only [Bool.or_eq_true,beq_iff_eq]at h
   rcases h with rfl|h
   ·show(⟨x.toArray⟩:Str)=⟨(rep 1 x).toArray⟩
    rw[rep_one]
   ·have:x=[]:=by simpa[Str.length] using h
    subst this
    rw[rep_nil]
  ·rw[foldl_app_nat]
section
variable {Z:Zone}{φ:Phi}{h:Heap}{a:V}{x:Value}{P:Value->Prop}
theorem vInt {i:Int}(e:asInt a=some i) (r:VR Z φ h a x) (k:∀ t,P (.int i t)):P x:=by
 cases a with
 | int j=>unfold VR at r;obtain⟨t,rfl⟩:=r;exact someE (P:=λi=>(∀ t,P (.int i t))->P (.int j t)) e (λk=>k t) k
 | _=>exact noneE e
theorem vStr {i:Cs}(e:asStr a=some i) (r:VR Z φ h a x) (k:∀ t,P (.str ⟨i.toArray⟩ t)):P x:=by
 cases a with
 | str j=>unfold VR at r;obtain⟨t,rfl⟩:=r;exact someE (P:=λi:Cs=>(∀ t,P (.str ⟨i.toArray⟩ t))->P (.str ⟨j.toArray⟩ t)) e (λk=>k t) k
 | _=>exact noneE e
theorem vBool {i:Bool}(e:asBool a=some i) (r:VR Z φ h a x) (k:P (.bool i)):P x:=by
 cases a with
 | bool j=>unfold VR at r;subst r;exact someE (P:=λi=>P (.bool i)->P (.bool j)) e id k
 | _=>exact noneE e
theorem vNone {u:Unit}(e:asNone a=some u) (r:VR Z φ h a x) (k:P .none):P x:=by
 cases a with
 | none=>unfold VR at r;subst r;exact k
 | _=>exact noneE e
theorem vTup {vs:List V}(e:asTup a=some vs) (r:VR Z φ h a x) (k:∀ l xs n,h.get? l=some (tupO (List.toArray xs) n)->VRs Z φ h vs xs->P (.ref l)):P x:=by
 cases a with
 | tup j=>unfold VR at r;obtain⟨l,xs,n,rfl,h1,r⟩:=r;exact someE (P:=λvs=>VRs Z φ h vs xs->P (.ref l)) e (λr=>by obtain rfl:=oJ e;exact k l xs n h1 r) (by obtain rfl:=oJ e;exact r)
 | _=>exact noneE e
theorem vObj {i:Nat}(e:asObj a=some i) (r:VR Z φ h a x) (k:∀ p,φ[i]?=some p->P (.ref p.1)):P x:=by
 cases a with
 | obj j=>obtain rfl:=oJ e;unfold VR at r;obtain⟨p,hp,rfl⟩:=r;exact k p hp
 | _=>exact noneE e
end
theorem lE {o:O}{vs:List V}{φ:Phi}{h:Heap}{p:Addr×Addr}{G:Prop}(e:asL o=some vs) (q:OR B φ h o p) (k:∀ xs n,p.2=p.1->h.get? p.1=some (lstO (List.toArray xs) n)->VRs B.Z φ h vs xs->vs.length<=LIM->G):G:=by
 cases o with
 | list us=>obtain rfl:=oJ e;obtain⟨e2,xs,n,h1,r1,hl⟩:=q;exact k xs n e2 h1 r1 hl
 | _=>exact noneE e
theorem vLst {a:V}{x:Value}{P:Value->Prop}{vs:List V}(e:lstAt a σ=some vs) (R:Rep B σ φ s.heap) (r:VR B.Z φ s.heap a x) (k:∀ p xs n,s.heap.get? p=some (lstO (List.toArray xs) n)->VRs B.Z φ s.heap vs xs->vs.length<=LIM->P (.ref p)):P x:=
 bindE e λi h1 e=>bindE e λo h2 e=>vObj h1 r λp hp=>by
  have q:=R.rel _ _ _ h2 hp
  exact lE e q λxs n _ h r l=>k _ xs n h r l
theorem kv_get {N:Zone}{h:Heap}{k:Kx}{v:V}:∀ {kvs:List (Kx×V)}{ps:List (Kx×Value)},ps.map (·.1)=kvs.map (·.1)->VRs N φ h (kvs.map (·.2)) (ps.map (·.2))->getK kvs k=some v->∃ y,valueAt ps k=some y/\VR N φ h v y
 | [],_,_,_,e=>noneE e
 | _::_,[],ks,_,_=>nomatch ks
 | (x,u)::kvs,(x',y)::ps,ks,vs,e=>by
  injection ks with k1 k2
  cases (show x'=x from k1)
  rw[List.map_cons,List.map_cons]at vs
  unfold VRs at vs
  unfold getK at e
  unfold valueAt
  by_cases hk:x=k
  ·rw[List.find?_cons_of_pos (p:=λq:Kx×V=>decide (q.1=k)) (a:=(x,u)) (decide_eq_true hk)]at e
   rw[List.find?_cons_of_pos (p:=λq:Kx×Value=>decide (q.1=k)) (a:=(x,y)) (decide_eq_true hk)]
   cases e
   exact⟨y,rfl,vs.1⟩
  ·have hk':¬decide (x=k)=true:=λq=>hk (of_decide_eq_true q)
   rw[List.find?_cons_of_neg (p:=λq:Kx×V=>decide (q.1=k)) (a:=(x,u)) hk']at e
   rw[List.find?_cons_of_neg (p:=λq:Kx×Value=>decide (q.1=k)) (a:=(x,y)) hk']
   exact kv_get k2 vs.2 e
theorem vKx {N:Zone}{h:Heap}{a:V}{x:Value}{k:Kx}(e:asKx a=some k) (r:VR N φ h a x):(kxKind B.prog B.w).is k x=true:=by
 cases a with
 | int i=>obtain rfl:=oJ e;unfold VR at r;obtain⟨t,rfl⟩:=r;exact beq_self_eq_true i
 | str c=>obtain rfl:=oJ e;unfold VR at r;obtain⟨t,rfl⟩:=r;exact beq_self_eq_true (⟨c.toArray⟩:Str)
 | _=>exact noneE e
theorem dE {o:O}{kvs:List (Kx×V)}{φ:Phi}{h:Heap}{p:Addr×Addr}{G:Prop}(e:asD o=some kvs) (q:OR B φ h o p) (k:∀ ps,p.2=p.1->DictOK B φ h kvs p.1 ps->G):G:=by
 cases o with
 | dict us=>obtain rfl:=oJ e;obtain⟨e2,ps,D⟩:=q;exact k ps e2 D
 | _=>exact noneE e
theorem vDict {a:V}{x:Value}{P:Value->Prop}{kvs:List (Kx×V)}(e:dictAt a σ=some kvs) (R:Rep B σ φ s.heap) (r:VR B.Z φ s.heap a x) (k:∀ p ps,p.2=p.1->DictOK B φ s.heap kvs p.1 ps->(∀ i,asObj a=some i->φ[i]?=some p)->P (.ref p.1)):P x:=
 bindE e λi h1 e=>bindE e λo h2 e=>vObj h1 r λp hp=>by
  have q:=R.rel _ _ _ h2 hp
  exact dE e q λps e2 D=>k p ps e2 D λj hj=>by obtain rfl:=oJ (h1.symm.trans hj);exact hp
theorem vSeq {a:V}{x:Value}{P:Value->Prop}{vs:List V}(e:seqAt a σ=some vs) (R:Rep B σ φ s.heap) (r:VR B.Z φ s.heap a x) (k:∀ p xs n,s.heap.get? p=some (lstO (List.toArray xs) n)->VRs B.Z φ s.heap vs xs->vs.length<=LIM->P (.ref p)):P x:=by
 cases a with
 | obj i=>exact vLst (a:=.obj i) e R r k
 | flist us=>exact ifE e λhl e=>by obtain rfl:=oJ e;unfold VR at r;obtain⟨p,xs,n,rfl,_,h,r⟩:=r;exact k p xs n h r hl
 | _=>exact noneE e
theorem leafE {r r':V×AH}{t:Sem Value}(e:some r=some r') (h:wpAny (model B.prog B.w) A t (Res B φ s r.2 r.1) E s):wpAny (model B.prog B.w) A t (Res B φ s r'.2 r'.1) E s:=someE (P:=λr=>wpAny (model B.prog B.w) A t (Res B φ s r.2 r.1) E s) e h
theorem leafV {v v':V}{t:Sem Value}(e:some v=some v') (h:wpAny (model B.prog B.w) A t (Res B φ s σ v) E s):wpAny (model B.prog B.w) A t (Res B φ s σ v') E s:=someE (P:=λv=>wpAny (model B.prog B.w) A t (Res B φ s σ v) E s) e h
theorem newL_ok (Y:Sys B) (R:Rep B σ φ s.heap){vs:List V}{xs:List Value}{r:V×AH}{t:Sem Value}(e:newL vs σ=some r) (rr:VRs B.Z φ s.heap vs xs)
  (k:vs.length<=LIM->(∀ tk,Res B φ s (σ++[.list vs]) (.obj σ.length) (.ref s.heap.objs.size) {s with heap:=s.heap.push (lstO xs.toArray 0),toks:=tk})->wpAny (model B.prog B.w) A t (Res B φ s (σ++[.list vs]) (.obj σ.length)) E s):wpAny (model B.prog B.w) A t (Res B φ s r.2 r.1) E s:=
 ifE e λhl e=>leafE e (k hl (res_new Y R rr hl))
theorem int2_ok {α:Type}{a b:V}{x y:Value}{k:Int->Int->Option α}{r:α}{P:Value->Value->Prop}(e:int2 a b k=some r) (ra:VR B.Z φ s.heap a x) (rb:VR B.Z φ s.heap b y)
  (H:∀ i j t u,k i j=some r->P (.int i t) (.int j u)):P x y:=
 bindE e λ_ h1 e=>bindE e λ_ h2 e=>vInt (P:=λx=>P x y) h1 ra λt=>vInt (P:=P _) h2 rb λu=>H _ _ t u e
theorem add_txt (x y:Cs):Str.append ⟨x.toArray⟩ ⟨y.toArray⟩=⟨(x++y).toArray⟩:=by simp[Str.append]
theorem add_len {x y:Cs}(h:x.length+y.length<=LIM):(⟨x.toArray⟩:Str).length+(⟨y.toArray⟩:Str).length<=sizeLine:=lim_line (by simpa[Str.length] using h)
theorem rep_arr (xs:List Value) (k:Int):(List.foldl (λx1 x2=>x1++x2) (#[]:Array Value) (List.replicate (if xs.toArray.isEmpty=true then 0 else k.toNat) xs.toArray))=(rep k.toNat xs).toArray:=by
 rw[foldl_app]
 split
 ·rename_i h0
  have:xs=[]:=by simpa using h0
  subst this
  rw[rep_nil,rep_nil]
 ·rfl
theorem mul_str {x:Cs}{y:Int}{t u:Tok}(R:Rep B σ φ s.heap) (h:x.length*y.toNat<=LIM/\y.natAbs<=LIM):wpAny (model B.prog B.w) A (binaryOp .Mult (.str ⟨x.toArray⟩ t) (.int y u)) (Res B φ s σ (.str (rep y.toNat x))) E s:=by
 refine SB.mul ⟨?_,?_,?_⟩ λt' tk=>res_here R (vr_str' _ _ (mulTxt ..) _) _
 ·have:=h.2;simp[LIM]at this ⊢;omega
 ·intro h1 _
  have h2:=h.1;have h3:=h.2;simp only [LIM]at h2 h3
  have hl:((⟨List.toArray x⟩:Str).length:Int)=(x.length:Int):=by simp[Str.length]
  rw[hl,Int.not_lt]
  refine(Int.le_ediv_iff_mul_le (by omega)).mpr ?_
  have:(x.length:Int)*y=((x.length*y.toNat:Nat):Int):=by rw[Int.natCast_mul,Int.toNat_of_nonneg (by omega)]
  omega
 ·intro _ _
  have h2:=h.1;simp only [LIM]at h2
  have hl:(⟨List.toArray x⟩:Str).length=x.length:=by simp[Str.length]
  rw[hl];simp[Builtin.Str.tooLong,sizeLine];omega
theorem mul_lst {p:Addr}{xs:List Value}{n:Nat}{k:Int}{u:Tok}{Q:Value->Shared->Prop}(h1:s.heap.get? p=some (lstO xs.toArray n)) (hk:xs.length*k.toNat<=LIM/\k.natAbs<=LIM)
  (hq:Q (.ref s.heap.objs.size) {s with heap:=s.heap.push (lstO (rep k.toNat xs).toArray 0)}):wpAny (model B.prog B.w) A (binaryOp .Mult (.ref p) (.int k u)) Q E s:=by
 have l1:=hk.1
 have l2:=hk.2
 simp only [LIM]at l1 l2
 refine PySem.wpAny_binaryOp_repeat_ref (T:="list") (U:="int") (by decide) ⟨_,h1,rfl⟩ (λs'=>typeIs_int s' k u) noFill_list_mul PySem.F.fills_int_mul PySem.F.slot_int_rmul repeat_list PySem.F.slot_int_index.lookup
  (call_meets PySem.F.slot_int_rmul (typeIs_int s k u) PySem.F.entry_int_rmul (PySem.F.args_int_rmul_2 _ _) (int___rmul___int_list k u p xs.toArray n)
   ⟨h1,rfl,⟨_,h1,rfl⟩,call_meets PySem.F.slot_list_mul ⟨_,h1,rfl⟩ PySem.F.entry_list_mul (PySem.F.args_list_mul_2 _ _)
    (AutoListH.list___mul___list_int_3 p xs.toArray n k u (by simp[Builtin.List.listFitsIndex];omega) (by simp;omega) (by simp[Builtin.List.listTooLong,sizeLine];omega))
    ⟨h1,?_⟩⟩)
 rw[rep_arr];exact hq
theorem add_ok (Y:Sys B){a b:V}{r:V×AH}{x y:Value}(e:binV .Add a b σ=some r) (R:Rep B σ φ s.heap) (ra:VR B.Z φ s.heap a x) (rb:VR B.Z φ s.heap b y):wpAny (model B.prog B.w) A (binaryOp .Add x y) (Res B φ s r.2 r.1) E s:=by
 cases a with
 | int i=>exact bindE e λ_ h2 e=>vInt (P:=λx=>wpAny _ _ (binaryOp _ x y) _ E s) (a:=.int i) rfl ra λt=>vInt (P:=λy=>wpAny _ _ (binaryOp _ _ y) _ E s) h2 rb λu=>leafE e (PyProof.Rows.add_int (res_here R (vr_int ..) _))
 | str z=>exact bindE e λw h2 e=>ifE e λh e=>vStr (P:=λx=>wpAny _ _ (binaryOp _ x y) _ E s) (a:=.str z) rfl ra λt=>vStr (P:=λy=>wpAny _ _ (binaryOp _ _ y) _ E s) h2 rb λu=>leafE e (PyProof.Rows.add_str (λt' tk=>res_here R (vr_str' _ _ (add_txt ..) _) _) (add_len h))
 | obj i=>exact bindE e λ_ h1 e=>bindE e λ_ h2 e=>vLst (P:=λx=>wpAny _ _ (binaryOp _ x y) _ E s) h1 R ra λp xs n g1 r1 _=>vLst (P:=λy=>wpAny _ _ (binaryOp _ _ y) _ E s) h2 R rb λq ys m g2 r2 _=>newL_ok Y R e (VRs_append r1 r2) λhl z=>PySem.P.add_list g1 g2 (by simpa using z s.toks) (lim_line (by simpa[VRs_length r1,VRs_length r2] using hl))
 | _=>exact noneE e
theorem mul_ok (Y:Sys B){a b:V}{r:V×AH}{x y:Value}(e:binV .Mult a b σ=some r) (R:Rep B σ φ s.heap) (ra:VR B.Z φ s.heap a x) (rb:VR B.Z φ s.heap b y):wpAny (model B.prog B.w) A (binaryOp .Mult x y) (Res B φ s r.2 r.1) E s:=by
 cases a with
 | str z=>exact bindE e λw h2 e=>ifE e λh e=>vStr (P:=λx=>wpAny _ _ (binaryOp _ x y) _ E s) (a:=.str z) rfl ra λt=>vInt (P:=λy=>wpAny _ _ (binaryOp _ _ y) _ E s) h2 rb λu=>leafE e (mul_str R h)
 | obj i=>exact bindE e λ_ h1 e=>bindE e λ_ h2 e=>ifE e λh e=>vLst (P:=λx=>wpAny _ _ (binaryOp _ x y) _ E s) h1 R ra λp xs n g1 r1 _=>vInt (P:=λy=>wpAny _ _ (binaryOp _ _ y) _ E s) h2 rb λu=>newL_ok Y R e (VRs_rep _ r1) λhl z=>mul_lst g1 (by rw[<-VRs_length r1];exact h) (by simpa using z s.toks)
 | _=>exact noneE e
theorem bin_ok (Y:Sys B){op:Operator}{a b:V}{r:V×AH}{x y:Value}(e:binV op a b σ=some r) (R:Rep B σ φ s.heap) (ra:VR B.Z φ s.heap a x) (rb:VR B.Z φ s.heap b y):
  wpAny (model B.prog B.w) A (binaryOp op x y) (Res B φ s r.2 r.1) E s:=by
 cases op with
 | Add=>exact add_ok Y e R ra rb
 | Sub=>exact int2_ok (P:=λx y=>wpAny _ _ (binaryOp _ x y) _ E s) e ra rb λi j t u e=>leafE e (PyProof.Rows.sub_int (res_here R (vr_int ..) _))
 | FloorDiv=>exact int2_ok (P:=λx y=>wpAny _ _ (binaryOp _ x y) _ E s) e ra rb λi j t u e=>nifE e λh e=>leafE e (PyProof.Rows.floordiv_int (λq=>h (.inl q)) (res_here R (vr_int ..) _) (.inl (PyProof.noPylong_of_log2 (log_big (Nat.lt_of_not_le λq=>h (.inr q))))))
 | Mod=>exact int2_ok (P:=λx y=>wpAny _ _ (binaryOp _ x y) _ E s) e ra rb λi j t u e=>nifE e λh e=>leafE e (PyProof.Rows.mod_int h (res_here R (vr_int ..) _))
 | Pow=>exact int2_ok (P:=λx y=>wpAny _ _ (binaryOp _ x y) _ E s) e ra rb λi j t u e=>ifE e λh e=>leafE e (PyProof.Rows.pow_int_small h.1 (by omega) h.2.2 (res_here R (vr_int ..) _))
 | Mult=>exact mul_ok Y e R ra rb
 | _=>exact noneE e
open SeqAt in
theorem eqL_get {f:V->V->Option Bool}:∀ {as bs:List V}{r:Bool},eqL f as bs=some r->as.length=bs.length/\∃ e:Nat->Bool,(∀ j a b,as[j]?=some a->bs[j]?=some b->f a b=some (e j))/\(List.range as.length).all e=r
 | [],[],r,h=>by obtain rfl:=oJ h;exact⟨rfl,λ_=>true,(λj a b q=>noneE q),rfl⟩
 | a::as,b::bs,r,h=>bindE h λx h1 h=>bindE h λy h2 h=>(by
  obtain rfl:=oJ h
  obtain⟨hl,e,he,hr⟩:=eqL_get h2
  refine⟨congrArg Nat.succ hl,λj=>match j with|0=>x|j+1=>e j,λj=>?_,?_⟩
  ·cases j with
   | zero=>intro a' b' q1 q2;obtain rfl:=oJ q1;obtain rfl:=oJ q2;exact h1
   | succ j=>exact he j
  ·rw[List.length_cons,List.range_succ_eq_map,List.all_cons,List.all_map,<-hr];rfl)
 | [],_::_,_,h=>noneE h
 | _::_,[],_,h=>noneE h
theorem str_beq (a b:Cs):((⟨a.toArray⟩:Str)==⟨b.toArray⟩)=decide (a=b):=by
 rw[Bool.eq_iff_iff];simp
inductive EqV:Value->Value->Bool->Prop
 | none:EqV .none .none true
 | bool (a b:Bool):EqV (.bool a) (.bool b) (a==b)
 | int (i j:Int) (t u:Tok):EqV (.int i t) (.int j u) (decide (i=j))
 | str (a b:Cs) (t u:Tok):EqV (.str ⟨a.toArray⟩ t) (.str ⟨b.toArray⟩ u) ((⟨a.toArray⟩:Str)==⟨b.toArray⟩)
theorem eqB_view {a b:V}{x y:Value}{r:Bool}{N:Zone}{h:Heap}(e:eqB a b=some r) (ra:VR N φ h a x) (rb:VR N φ h b y):EqV x y r:=by
 cases a with
 | none=>cases b with
  | none=>unfold VR at ra rb;subst ra rb;exact someE (P:=EqV _ _) e .none
  | _=>exact noneE e
 | bool i=>exact bindE e λ_ h e=>vBool (P:=λx=>EqV x y r) (a:=.bool i) rfl ra (vBool (P:=λy=>EqV _ y r) h rb (someE (P:=EqV _ _) e (.bool _ _)))
 | int i=>exact bindE e λ_ h e=>vInt (P:=λx=>EqV x y r) (a:=.int i) rfl ra λt=>vInt (P:=λy=>EqV _ y r) h rb λu=>someE (P:=EqV _ _) e (.int _ _ _ _)
 | str i=>exact bindE e λ_ h e=>vStr (P:=λx=>EqV x y r) (a:=.str i) rfl ra λt=>vStr (P:=λy=>EqV _ y r) h rb λu=>someE (P:=EqV _ _) e (str_beq i _ ▸ .str _ _ _ _)
 | _=>exact noneE e
theorem EqV.same {x y:Value}{r:Bool}(q:EqV x y r) (h:x=y):r=true:=by
 cases q with
 | none=>rfl
 | bool a b=>cases h;simp
 | int i j t u=>cases h;simp
 | str a b t u=>injection h with h _;simp[h]
theorem EqV.at {x y:Value}{r:Bool}(q:EqV x y r):SeqAt.EqAt A s x y r:=by
 cases q with
 | none=>exact SeqAt.EqAt.same _
 | bool a b=>exact SeqAt.EqAt.bool_bool _ _
 | int i j t u=>exact SeqAt.EqAt.int_int _ _ _ _
 | str a b t u=>exact SeqAt.EqAt.str_str _ _ _ _
theorem EqV.rc {x y:Value}{r:Bool}(q:EqV x y r):SeqAt.RcAt A s x y r/\SeqAt.RcNeAt A s x y (!r):=by
 cases q with
 | none=>exact⟨SeqAt.RcAt.none_none,λprog w E Q h=>PySem.EqNone.ne_none_none h⟩
 | bool a b=>exact⟨SeqAt.RcAt.bool_bool _ _,SeqAt.RcNeAt.bool_bool _ _⟩
 | int i j t u=>exact⟨SeqAt.RcAt.int_int _ _ _ _,SeqAt.RcNeAt.int_int _ _ _ _⟩
 | str a b t u=>exact⟨SeqAt.RcAt.str_str _ _ _ _,SeqAt.RcNeAt.str_str _ _ _ _⟩
theorem eqP_elim {n:Nat}{a b:V}{x y:Value}{r:Bool}{N:Zone}{h:Heap}{G:Prop}(e:eqP n a b=some r) (ra:VR N φ h a x) (rb:VR N φ h b y) (k1:EqV x y r->G)
  (k2:∀ m as bs l xs k l' ys k',n=m+1->x = .ref l->y = .ref l'->h.get? l=some (tupO (List.toArray xs) k)->h.get? l'=some (tupO (List.toArray ys) k')->VRs N φ h as xs->VRs N φ h bs ys->eqL (eqP m) as bs=some r->G):G:=by
 cases n with
 | zero=>exact k1 (eqB_view e ra rb)
 | succ m=>cases a with
  | tup as=>exact bindE e λbs hb e=>ifE e λhl e=>vTup (P:=λx'=>x=x'->G) (a:=.tup as) rfl ra (λl xs k g1 r1 ex=>vTup (P:=λy'=>y=y'->G) hb rb (λl' ys k' g2 r2 ey=>k2 m as bs l xs k l' ys k' rfl ex ey g1 g2 r1 r2 e) rfl) rfl
  | _=>exact k1 (by refine eqB_view ?_ ra rb;exact e)
theorem arr_inj {xs ys:List Value}{k k':Nat}(h:tupO xs.toArray k=tupO ys.toArray k'):xs=ys:=by
 unfold tupO at h
 injection h with _ _ q _
 injection q with q _
 simpa using q
theorem eqP_same {N:Zone}{h:Heap}:∀ (n:Nat){a b:V}{x:Value}{r:Bool},VR N φ h a x->VR N φ h b x->eqP n a b=some r->r=true:=by
 intro n
 induction n with
 | zero=>intro a b x r ra rb e;exact(eqB_view e ra rb).same rfl
 | succ n ih=>
  intro a b x r ra rb e
  refine eqP_elim e ra rb (λq=>q.same rfl) λm as bs l xs k l' ys k' hm ex ey g1 g2 r1 r2 e=>?_
  cases hm
  cases ex.symm.trans ey
  cases arr_inj (oJ (g1.symm.trans g2))
  obtain⟨hl,ee,he,hr⟩:=eqL_get e
  rw[<-hr,List.all_eq_true]
  intro j hj
  have hj:j<as.length:=List.mem_range.mp hj
  obtain⟨x,hx,v1⟩:=VRs_get r1 (List.getElem?_eq_getElem hj)
  obtain⟨x',hx',v2⟩:=VRs_get r2 (List.getElem?_eq_getElem (hl▸hj))
  cases hx.symm.trans hx'
  exact ih v1 v2 (he j _ _ (List.getElem?_eq_getElem hj) (List.getElem?_eq_getElem (hl▸hj)))
open SeqAt in
theorem items_of {n:Nat}{as bs:List V}{xs ys:List Value}{r:Bool}(ih:∀ {a b:V}{x y:Value}{r:Bool},VR B.Z φ s.heap a x->VR B.Z φ s.heap b y->eqP n a b=some r->SeqAt.EqAt A.in1 s x y r) (r1:VRs B.Z φ s.heap as xs) (r2:VRs B.Z φ s.heap bs ys) (e:eqL (eqP n) as bs=some r):
  xs.length=ys.length/\∃ ee:Nat->Bool,(∀ j (h1:j<xs.toArray.size) (h2:j<ys.toArray.size),SeqAt.EqAt A.in1 s xs.toArray[j] ys.toArray[j] (ee j))/\(List.range xs.length).all ee=r:=by
 obtain⟨hl,ee,he,hr⟩:=eqL_get e
 refine⟨by rw[<-VRs_length r1,<-VRs_length r2,hl],ee,λj h1 h2=>?_,by rw[<-VRs_length r1];exact hr⟩
 have hj:j<as.length:=by rw[VRs_length r1];exact h1
 obtain⟨x,hx,v1⟩:=VRs_get r1 (List.getElem?_eq_getElem hj)
 obtain⟨x',hx',v2⟩:=VRs_get r2 (List.getElem?_eq_getElem (hl▸hj))
 obtain rfl:=oJ ((List.getElem?_eq_getElem (show j<xs.length from h1)).symm.trans hx)
 obtain rfl:=oJ ((List.getElem?_eq_getElem (show j<ys.length from h2)).symm.trans hx')
 exact ih v1 v2 (he j _ _ (List.getElem?_eq_getElem hj) (List.getElem?_eq_getElem (hl▸hj)))
open SeqAt in
theorem eqAt_ok:∀ (n:Nat){A:Around}{a b:V}{x y:Value}{r:Bool},A.units+n<cLine->VR B.Z φ s.heap a x->VR B.Z φ s.heap b y->eqP n a b=some r->SeqAt.EqAt A s x y r:=by
 intro n
 induction n with
 | zero=>intro A a b x y r hu ra rb e;exact(eqB_view e ra rb).at
 | succ n ih=>
  intro A a b x y r hu ra rb e
  refine eqP_elim e ra rb EqV.at λm as bs l xs k l' ys k' hm ex ey g1 g2 r1 r2 e'=>?_
  cases hm
  subst ex ey
  by_cases hll:l=l'
  ·subst hll
   exact eqP_same _ ra rb e▸SeqAt.EqAt.same _
  ·obtain⟨hs,ee,he,hr⟩:=items_of (A:=A) (λv1 v2 e=>ih (A:=A.in1) (by rw[Around.in1_units];omega) v1 v2 e) r1 r2 e'
   have q:=SeqAt.RcAt.tuples (A:=A) (s:=s) (l:=l) (b:=l') (items:=xs.toArray) (items2:=ys.toArray) (e:=ee) ⟨_,g1,rfl,k,rfl⟩ ⟨_,g2,rfl,k',rfl⟩ (by omega) he
   simp only [List.size_toArray,<-hs,Nat.min_self,hr,beq_self_eq_true,Bool.and_true]at q
   exact SeqAt.EqAt.of_refs hll q
open SeqAt in
theorem items_eq {n:Nat}{as bs:List V}{xs ys:List Value}{r:Bool}(hu:A.units+1+n<cLine) (r1:VRs B.Z φ s.heap as xs) (r2:VRs B.Z φ s.heap bs ys) (e:eqL (eqP n) as bs=some r):
  xs.length=ys.length/\∃ ee:Nat->Bool,(∀ j (h1:j<xs.toArray.size) (h2:j<ys.toArray.size),SeqAt.EqAt A.in1 s xs.toArray[j] ys.toArray[j] (ee j))/\(List.range xs.length).all ee=r:=
 items_of (λv1 v2 e=>eqAt_ok n (A:=A.in1) (by rw[Around.in1_units];omega) v1 v2 e) r1 r2 e
theorem strsOf_ok {N:Zone}{h:Heap}:∀ {vs:List V}{xs:List Value}{l:List Cs},strsOf vs=some l->VRs N φ h vs xs->PyProof.Rows.StrsAre xs (l.map λc=>(⟨c.toArray⟩:Str))
 | [],[],_,e,_=>by obtain rfl:=oJ e;exact .nil
 | v::vs,x::xs,l,e,r=>bindE e λc h1 e=>bindE e λl' h2 e=>(by obtain rfl:=oJ e;unfold VRs at r;exact vStr (P:=λx=>PyProof.Rows.StrsAre (x::xs) ((c::l').map λc=>(⟨c.toArray⟩:Str))) h1 r.1 λt=>.cons _ _ (strsOf_ok h2 r.2))
 | [],_::_,_,_,r=>by unfold VRs at r;exact r.elim
 | _::_,[],_,_,r=>by unfold VRs at r;exact r.elim
theorem intsOf_ok {N:Zone}{h:Heap}:∀ {vs:List V}{xs:List Value}{l:List Int},intsOf vs=some l->VRs N φ h vs xs->PyProof.Rows.IntsAre xs l
 | [],[],_,e,_=>by obtain rfl:=oJ e;exact .nil
 | v::vs,x::xs,l,e,r=>bindE e λc h1 e=>bindE e λl' h2 e=>(by obtain rfl:=oJ e;unfold VRs at r;exact vInt (P:=λx=>PyProof.Rows.IntsAre (x::xs) (c::l')) h1 r.1 λt=>.cons _ _ (intsOf_ok h2 r.2))
 | [],_::_,_,_,r=>by unfold VRs at r;exact r.elim
 | _::_,[],_,_,r=>by unfold VRs at r;exact r.elim
theorem lt_ltL:∀ (a b:Cs),(decide (a<b))=ltL a b
 | [],[]=>by simp[ltL]
 | [],_::_=>by simp[ltL]
 | _::_,[]=>by simp[ltL]
 | a::as,b::bs=>by
  unfold ltL
  rw[<-lt_ltL as bs]
  rw[Bool.eq_iff_iff]
  simp only [decide_eq_true_eq,List.cons_lt_cons_iff]
  by_cases h1:a<b
  ·simp[h1]
  ·by_cases h2:b<a
   ·simp only [h1,h2,if_false,if_true,false_or];constructor
    ·rintro ⟨rfl,_⟩;omega
    ·intro h;cases h
   ·have:a=b:=by omega
    simp[this]
open SeqAt in
theorem lists_rc {v u:List V}{xs ys:List Value}{l l':Addr}{n m:Nat}{r:Bool}(hu:A.units+10<cLine) (h1:s.heap.get? l=some (lstO xs.toArray n)) (h2:s.heap.get? l'=some (lstO ys.toArray m)) (r1:VRs B.Z φ s.heap v xs) (r2:VRs B.Z φ s.heap u ys) (e:listsEq v u=some r):
  RcAt A s (.ref l) (.ref l') r/\RcNeAt A s (.ref l) (.ref l') (!r):=by
 unfold listsEq at e
 by_cases hl:v.length=u.length
 ·rw[if_pos hl]at e
  obtain⟨hs,ee,he,hr⟩:=items_eq (A:=A) (n:=3) (by omega) r1 r2 e
  have a1:=RcAt.lists (A:=A) (s:=s) (l:=l) (b:=l') (items:=xs.toArray) (items2:=ys.toArray) (e:=ee) ⟨_,h1,rfl,n,rfl⟩ ⟨_,h2,rfl,m,rfl⟩ (by simp[hs]) (by omega) he
  have a2:=RcNeAt.lists (A:=A) (s:=s) (l:=l) (b:=l') (items:=xs.toArray) (items2:=ys.toArray) (e:=ee) ⟨_,h1,rfl,n,rfl⟩ ⟨_,h2,rfl,m,rfl⟩ (by simp[hs]) (by omega) he
  simp only [List.size_toArray,hr]at a1 a2
  exact⟨a1,a2⟩
 ·rw[if_neg hl]at e
  have hne':(xs.toArray.size != ys.toArray.size)=true:=by
   rw[VRs_length r1,VRs_length r2]at hl
   simpa using hl
  exact someE (P:=λr=>RcAt A s (.ref l) (.ref l') r/\RcNeAt A s (.ref l) (.ref l') (!r)) e ⟨RcAt.lists_lengths ⟨_,h1,rfl,n,rfl⟩ ⟨_,h2,rfl,m,rfl⟩ hne' (by omega),RcNeAt.lists_lengths ⟨_,h1,rfl,n,rfl⟩ ⟨_,h2,rfl,m,rfl⟩ hne' (by omega)⟩
open SeqAt in
theorem eqP_rc {a b:V}{r:Bool}{x y:Value}(e:eqP 3 a b=some r) (hu:A.units+10<cLine) (ra:VR B.Z φ s.heap a x) (rb:VR B.Z φ s.heap b y):RcAt A s x y r/\RcNeAt A s x y (!r):=by
 refine eqP_elim e ra rb EqV.rc λm as bs l xs k l' ys k' hm ex ey g1 g2 r1 r2 e'=>?_
 cases hm
 subst ex ey
 obtain⟨hs,ee,he,hr⟩:=items_eq (A:=A) (n:=2) (by omega) r1 r2 e'
 have q:=RcAt.tuples (A:=A) (s:=s) (l:=l) (b:=l') (items:=xs.toArray) (items2:=ys.toArray) (e:=ee) ⟨_,g1,rfl,k,rfl⟩ ⟨_,g2,rfl,k',rfl⟩ (by omega) he
 have q':=RcNeAt.tuples (A:=A) (s:=s) (l:=l) (b:=l') (items:=xs.toArray) (items2:=ys.toArray) (e:=ee) ⟨_,g1,rfl,k,rfl⟩ ⟨_,g2,rfl,k',rfl⟩ (by omega) he
 simp only [List.size_toArray,<-hs,Nat.min_self,hr,beq_self_eq_true,Bool.and_true]at q q'
 exact⟨q,q'⟩
theorem eqV_rc {a b:V}{r:Bool}{x y:Value}(e:eqV a b σ=some r) (hu:A.units+10<cLine) (R:Rep B σ φ s.heap) (ra:VR B.Z φ s.heap a x) (rb:VR B.Z φ s.heap b y):SeqAt.RcAt A s x y r/\SeqAt.RcNeAt A s x y (!r):=by
 cases a with
 | obj i=>exact bindE e λv h1 e=>bindE e λu h2 e=>vLst (P:=λx=>SeqAt.RcAt A s x y r/\SeqAt.RcNeAt A s x y (!r)) h1 R ra λp xs n g1 r1 _=>vLst (P:=λy=>SeqAt.RcAt A s _ y r/\SeqAt.RcNeAt A s _ y (!r)) h2 R rb λq ys m g2 r2 _=>lists_rc hu g1 g2 r1 r2 e
 | _=>exact(by refine eqP_rc ?_ hu ra rb;exact e)
theorem res_bool {r:Bool}(R:Rep B σ φ s.heap):∀ b,b=r->Res B φ s σ (.bool r) (.bool b) s:=λb h=>h▸res_here' R (vr_bool _)
structure InG (B:Base) (A:Around) (E:Value->Shared->Prop) (σ:AH) (φ:Phi) (s:Shared) (x y:Value) (r:Bool):Prop where
 yes:wpAny (model B.prog B.w) A (compareOp .In x y) (Res B φ s σ (.bool r)) E s
 no:wpAny (model B.prog B.w) A (compareOp .NotIn x y) (Res B φ s σ (.bool (!r))) E s
theorem mem_ok {a:V}{r:Bool}{x:Value}{l:Addr}{vs:List V}{xs:List Value}{n:Nat}(e:memP a vs=some r) (R:Rep B σ φ s.heap) (ra:VR B.Z φ s.heap a x) (g:s.heap.get? l=some (lstO xs.toArray n)) (r2:VRs B.Z φ s.heap vs xs):InG B A E σ φ s x (.ref l) r:=
 bindE e λz h1 e=>bindE e λl' hl e=>vInt (P:=λx=>InG B A E σ φ s x (.ref l) r) h1 ra λt=>someE (P:=InG B A E σ φ s _ _) e ⟨PyProof.Rows.in_list_ints ⟨_,g,rfl,n,rfl⟩ (intsOf_ok hl r2) (res_bool R _ rfl),PyProof.Rows.notin_list_ints ⟨_,g,rfl,n,rfl⟩ (intsOf_ok hl r2) (res_bool R _ rfl)⟩
theorem in_ok {a b:V}{r:Bool}{x y:Value}(e:inV a b σ=some r) (R:Rep B σ φ s.heap) (ra:VR B.Z φ s.heap a x) (rb:VR B.Z φ s.heap b y):InG B A E σ φ s x y r:=by
 cases b with
 | str w=>exact bindE e λz h1 e=>vStr (P:=λx=>InG B A E σ φ s x y r) h1 ra λt=>vStr (P:=λy=>InG B A E σ φ s _ y r) (a:=.str w) rfl rb λu=>someE (P:=InG B A E σ φ s _ _) e ⟨SB.contains (res_bool R _ rfl),SB.notContains (res_bool R _ rfl)⟩
 | obj j=>exact bindE e λl h1 e=>vLst (P:=λy=>InG B A E σ φ s x y r) h1 R rb λq ys m g2 r2 _=>mem_ok e R ra g2 r2
 | _=>exact noneE e
theorem cmp_ok {op:CmpOp}{a b:V}{r:Bool}{x y:Value}(e:compareV op a b σ=some r) (hu:A.units+10<cLine) (R:Rep B σ φ s.heap) (ra:VR B.Z φ s.heap a x) (rb:VR B.Z φ s.heap b y):
  wpAny (model B.prog B.w) A (compareOp op x y) (Res B φ s σ (.bool r)) E s:=by
 cases op with
 | Eq=>exact(eqV_rc e hu R ra rb).1 _ _ _ _ (res_bool R _ rfl)
 | NotEq=>exact bindE e λt h e=>someE (P:=λr=>wpAny _ _ (compareOp _ x y) (Res B φ s σ (.bool r)) E s) e ((eqV_rc h hu R ra rb).2 _ _ _ _ (res_bool R _ rfl))
 | Lt=>exact int2_ok (P:=λx y=>wpAny _ _ (compareOp _ x y) _ E s) e ra rb λi j t u e=>PyProof.Rows.lt_int (res_bool R _ (oJ e))
 | LtE=>exact int2_ok (P:=λx y=>wpAny _ _ (compareOp _ x y) _ E s) e ra rb λi j t u e=>PyProof.Rows.le_int (res_bool R _ (oJ e))
 | Gt=>exact int2_ok (P:=λx y=>wpAny _ _ (compareOp _ x y) _ E s) e ra rb λi j t u e=>PyProof.Rows.gt_int (res_bool R _ (oJ e))
 | GtE=>exact int2_ok (P:=λx y=>wpAny _ _ (compareOp _ x y) _ E s) e ra rb λi j t u e=>PyProof.Rows.ge_int (res_bool R _ (oJ e))
 | Is=>exact bindE e λi h1 e=>bindE e λj h2 e=>vBool (P:=λx=>wpAny _ _ (compareOp _ x y) _ E s) h1 ra (vBool (P:=λy=>wpAny _ _ (compareOp _ _ y) _ E s) h2 rb (PyProof.Rows.is_bool (res_bool R _ (oJ e))))
 | IsNot=>exact bindE e λi h1 e=>bindE e λj h2 e=>vBool (P:=λx=>wpAny _ _ (compareOp _ x y) _ E s) h1 ra (vBool (P:=λy=>wpAny _ _ (compareOp _ _ y) _ E s) h2 rb (PyProof.Rows.isnot_bool (res_bool R _ (oJ e))))
 | In=>exact(in_ok e R ra rb).yes
 | NotIn=>exact bindE e λt h e=>someE (P:=λr=>wpAny _ _ (compareOp _ x y) (Res B φ s σ (.bool r)) E s) e (in_ok h R ra rb).no
end
end Mine
end
section
namespace Mine
open PySem
theorem range_pick {α:Type}(xs:List α) (a:Nat):∀ c:Nat,((List.range c).filterMap λk=>xs[a+k]?)=(xs.drop a).take c
 | 0=>by simp
 | c+1=>by
  rw[List.range_succ,List.filterMap_append,range_pick xs a c,List.take_add_one]
  simp[List.getElem?_drop]
  cases h:xs[a+c]?<;>simp[h]
theorem filterMap_same {α β:Type}{f g:α->Option β}:∀ {l:List α},(∀ x∈l,f x=g x)->l.filterMap f=l.filterMap g
 | [],_=>rfl
 | x::l,h=>by rw[List.filterMap_cons,List.filterMap_cons,h x (.head _),filterMap_same λy hy=>h y (.tail _ hy)]
theorem fwd_eq (a b:Nat):sliceRange a b 1=(List.range (b-a)).map λk=>a+k:=by
 have:(if (1:Int)>0 then(if (a:Int)<b then((b:Int)-a+1-1) / 1 else 0)else(if (a:Int)>b then((a:Int)-b-1-1) / (-1)else 0)).toNat=b-a:=by
  rw[if_pos (by decide),Int.ediv_one,Int.add_sub_cancel]
  by_cases h:(a:Int)<b
  ·rw[if_pos h];exact Int.toNat_sub b a
  ·rw[if_neg h];exact(Nat.sub_eq_zero_of_le (Int.ofNat_le.mp (Int.not_lt.mp h))).symm
 show(List.range (if (1:Int)>0 then(if (a:Int)<b then((b:Int)-a+1-1) / 1 else 0)else(if (a:Int)>b then((a:Int)-b-1-1) / (-1)else 0)).toNat).map (λ(k:Nat)=>((a:Int)+1*(k:Int)).toNat)=_
 rw[this]
 exact List.map_congr_left λk _=>by rw[Int.one_mul];rfl
theorem pick_fwd {α:Type}(xs:List α) (a b:Nat):(sliceRange a b 1).filterMap (xs[·]?)=(xs.take b).drop a:=by
 rw[List.drop_take,<-range_pick,fwd_eq,List.filterMap_map]
 rfl
theorem back_eq:∀ n:Nat,sliceRange ((n:Int)-1) (-1) (-1)=(List.range n).map λk=>n-1-k
 | 0=>rfl
 | m+1=>by
  rw[show((m+1:Nat):Int)-1=(m:Int)from Int.add_sub_cancel (m:Int) 1]
  show(List.range (if (m:Int) > -1 then((m:Int)+1+1-1) / 1 else 0).toNat).map (λ(k:Nat)=>((m:Int) + -1*(k:Int)).toNat)=_
  rw[if_pos (Int.lt_of_lt_of_le (by decide) (Int.natCast_nonneg m)),Int.ediv_one,Int.add_sub_cancel]
  exact List.map_congr_left λk _=>by rw[Int.neg_mul,Int.one_mul];exact Int.toNat_sub m k
theorem pick_back {α:Type}(xs:List α):(sliceRange ((xs.length:Int)-1) (-1) (-1)).filterMap (xs[·]?)=xs.reverse:=by
 rw[back_eq,List.filterMap_map]
 have e:xs.reverse=(List.range xs.length).filterMap (λk=>xs.reverse[0+k]?):=by rw[range_pick,List.drop_zero,<-List.length_reverse,List.take_length]
 rw[e]
 exact filterMap_same λk hk=>by rw[Nat.zero_add,List.getElem?_reverse (List.mem_range.mp hk)];rfl
theorem clip_le {v:V}{n dflt a:Nat}(hd:dflt<=n) (e:clip v n dflt=some a):a<=n:=by
 cases v with
 | none=>exact someE (P:=(· <= n)) e hd
 | int k=>
  refine someE (P:=(· <= n)) e ?_
  by_cases h:0<=k
  ·rw[if_pos h];exact Nat.min_le_right ..
  ·rw[if_neg h];exact Int.toNat_le.mpr (Int.add_le_of_le_sub_right (by rw[Int.sub_self];exact Int.le_of_lt (Int.not_le.mp h)))
 | _=>exact noneE e
structure ClipIs (x:Value) (n dflt a:Nat) (k:Option Int):Prop where
 part:IsPart x k
 val:(match k with|none=>(dflt:Int)|some i=>max 0 (min (if i<0 then i+n else i) n))=(a:Int)
theorem clip_is {N:Zone}{φ:Phi}{h:Heap}{v:V}{x:Value}{n dflt a:Nat}(e:clip v n dflt=some a) (r:VR N φ h v x):∃ k,ClipIs x n dflt a k:=by
 cases v with
 | none=>unfold VR at r;subst r;exact⟨none,.none,congrArg Int.ofNat (oJ e)⟩
 | int k=>
  unfold VR at r;obtain⟨t,rfl⟩:=r
  refine⟨some k,.int _ _,?_⟩
  obtain rfl:=oJ e
  show max 0 (min (if k<0 then k+n else k) n)=((if 0<=k then min k.toNat n else(k+n).toNat:Nat):Int)
  by_cases h0:0<=k
  ·obtain⟨m,rfl⟩:=Int.eq_ofNat_of_zero_le h0
   have q:min (m:Int) (n:Int)=((min m n:Nat):Int):=by
    rcases Nat.le_total m n with q|q
    ·rw[Nat.min_eq_left q,Int.min_eq_left (Int.ofNat_le.mpr q)]
    ·rw[Nat.min_eq_right q,Int.min_eq_right (Int.ofNat_le.mpr q)]
   rw[if_neg (Int.not_lt.mpr h0),if_pos h0,q,Int.max_eq_right (Int.natCast_nonneg _)];rfl
  ·have hk:=Int.not_le.mp h0
   rw[if_pos hk,if_neg h0,Int.min_eq_left (Int.add_le_of_le_sub_right (by rw[Int.sub_self];exact Int.le_of_lt hk)),Int.ofNat_toNat,Int.max_comm]
 | _=>exact noneE e
section
variable {B:Base}{d:Nat}{A:Around}{E:Value->Shared->Prop}{σ σ':AH}{φ:Phi}{s:Shared}
theorem sub_tail {T id:String}{o i:Value}{Q:Value->Shared->Prop}(base slice:Expr) (ne:o ≠ .builtin "sys.modules#opaque") (hT:s.TypeIs o T) (hs:Slot T "__getitem__" id)
  (h:wpAny (model B.prog B.w) A (getItem o i) Q E s):
  wpAny (model B.prog B.w) A (do let r <-subscripted slice (<-getitemInPython o) o i;letTemporaryGo base o r;pure r) Q E s:=by
 rw[getitemInPython_of_ne ne]
 refine wpAny_bind (wpAny_bind (wpAny_specialOf hT hs.lookup (wpAny_pure ?_)))
 have fin:∀ t:Sem Value,wpAny (model B.prog B.w) A t Q E s->wpAny (model B.prog B.w) A (do let r <-t;letTemporaryGo base o r;pure r) Q E s:=λt ht=>
  wpAny_bind (wpAny_mono ht (λr s' hr=>wpAny_bind (wpAny_letTemporaryGo (wpAny_pure hr))) λ_ _ x=>x)
 refine fin _ ?_
 have op:∀ l:List Value,wpAny (model B.prog B.w) A (operate l (getItem o i)) Q E s:=λl Γ p hΓ=>by rw[Sem.wp_operate];exact h Γ p hΓ
 cases slice with
 | Slice _ _ st _=>cases st with
  | none=>exact op [i,o]
  | some _=>exact op [o,i]
 | _=>exact op [o,i]
theorem place_eq (k:Int) (n:Nat):place k n=seqIndex? k n:=by
 unfold place seqIndex?
 by_cases h:0<=k
 ·simp only [h,if_true,show ¬k<0 by omega,if_false]
  by_cases h2:k<n<;>simp[h,h2]
 ·simp only [h,if_false,show k<0 by omega,if_true]
  by_cases h2:0<=k+n
  ·simp[h2,show k+(n:Int)<n by omega]
  ·simp[h2]
theorem place_cases {k:Int}{n j:Nat}{G:Prop}(e:place k n=some j) (k1:0<=k->k<n->j=k.toNat->G) (k2:k<0->0<=k+n->j=(k+n).toNat->G):G:=by
 unfold place at e
 by_cases h:0<=k
 ·rw[if_pos h]at e;exact ifE e λh2 e=>k1 h h2 (oJ e).symm
 ·rw[if_neg h]at e;exact ifE e λh2 e=>k2 (by omega) h2 (oJ e).symm
theorem item_list {l:Addr}{items:List Value}{n j:Nat}{k:Int}{t:Tok}{x:Value}{Q:Value->Shared->Prop}(hl:s.heap.get? l=some (lstO items.toArray n)) (hz:items.length<=LIM) (e:place k items.length=some j) (hx:items[j]?=some x) (h:Q x s):
  wpAny (model B.prog B.w) A (getItem (.ref l) (.int k t)) Q E s:=by
 simp only [LIM]at hz
 exact place_cases e (λh0 h1 hj=>wpAny_getItem_list ⟨_,hl,rfl,n,rfl⟩ h0 (by omega) (by rw[hj]at hx;simpa using hx) h)
  λh0 h1 hj=>wpAny_getItem_list_neg ⟨_,hl,rfl,n,rfl⟩ h0 (by simp;omega) (by omega) (by rw[hj]at hx;simpa using hx) h
theorem place_lim {k:Int}{n j:Nat}(e:place k n=some j) (hn:n<=LIM) : -1000000<=k/\k<=1000000:=by
 simp only [LIM]at hn
 exact place_cases e (λ_ _ _=>by omega) λ_ _ _=>by omega
theorem idx_ok (base slice:Expr){o i v:V}{x y:Value}(e:idxV o i σ=some v) (R:Rep B σ φ s.heap) (ra:VR B.Z φ s.heap o x) (rb:VR B.Z φ s.heap i y):
  wpAny (model B.prog B.w) A (do let r <-subscripted slice (<-getitemInPython x) x y;letTemporaryGo base x r;pure r) (Res B φ s σ v) E s:=by
 unfold idxV at e
 cases hd:dictAt o σ with
 | some kvs=>
  rw[hd]at e
  refine bindE e λk h1 e=>vDict (P:=λx=>wpAny _ _ (do let r <-subscripted slice (<-getitemInPython x) x y;letTemporaryGo base x r;pure r) _ E s) hd R ra λp ps _ D _=>?_
  obtain⟨z,hz,rz⟩:=kv_get D.ks D.vs e
  have hm:=(Heap.DictAt.dictOf D.d).mapOf
  exact sub_tail base slice nofun hm.typeIs slot_dict_getitem (wpAny_getItem_of (vKx h1 rb) hm hz (res_here R rz _))
 | none=>
  rw[hd]at e
  refine bindE e λvs h1 e=>bindE e λk h2 e=>bindE e λj hj hv=>vSeq (P:=λx=>wpAny _ _ (do let r <-subscripted slice (<-getitemInPython x) x y;letTemporaryGo base x r;pure r) _ E s) h1 R ra λp xs n g r1 hz=>
   vInt (P:=λy=>wpAny _ _ (do let r <-subscripted slice (<-getitemInPython _) _ y;letTemporaryGo base _ r;pure r) _ E s) h2 rb λt=>?_
  obtain⟨x,hx,rx⟩:=VRs_get r1 hv
  rw[VRs_length r1]at hj hz
  exact sub_tail base slice nofun ⟨_,g,rfl⟩ slot_list_getitem (item_list g hz hj hx (res_here' R rx))
structure CutIs (l u st:V) (vl vu vs:Value) (n:Nat) (same:Prop) (lo hi s3:Option Int):Prop where
 p1:IsPart vl lo
 p2:IsPart vu hi
 p3:IsPart vs s3
 ne:s3≠some 0
 pick:∀ {β:Type}(ys:List β),ys.length=n->cut ys l u st=some ((sliceRange (sliceBounds lo hi s3 n).1 (sliceBounds lo hi s3 n).2.1 (sliceBounds lo hi s3 n).2.2).filterMap (ys[·]?))
 all:s3.getD 1=1->(sliceRange (sliceBounds lo hi s3 n).1 (sliceBounds lo hi s3 n).2.1 (sliceBounds lo hi s3 n).2.2).length=n->same
theorem range_len (a b:Nat):(sliceRange (a:Int) b 1).length=b-a:=by rw[fwd_eq,List.length_map,List.length_range]
theorem cut_all {α:Type}(xs:List α) (a b:Nat) (h:b-a=xs.length) (hb:b<=xs.length):(xs.take b).drop a=xs:=by
 cases a with
 | zero=>rw[show b=xs.length from h,List.take_length];rfl
 | succ a=>
  have h0:xs.length=0:=by
   cases hx:xs.length with
   | zero=>rfl
   | succ n=>exact absurd (h▸hb) (Nat.not_le_of_lt (Nat.sub_lt (Nat.lt_of_lt_of_le (by rw[hx];exact Nat.succ_pos n) (h▸Nat.sub_le ..)) (Nat.succ_pos a)))
  rw[List.eq_nil_of_length_eq_zero h0,List.take_nil,List.drop_nil]
theorem cut_pick {N:Zone}{φ:Phi}{h:Heap}{l u st:V}{vl vu vs:Value}(rl:VR N φ h l vl) (ru:VR N φ h u vu) (rs:VR N φ h st vs){n:Nat}{α:Type}{xs r:List α}(hn:xs.length=n) (e:cut xs l u st=some r):∃ lo hi s3,CutIs l u st vl vu vs n (r=xs) lo hi s3:=by
 subst hn
 cases st with
 | none=>
  refine bindE e λa h1 e=>bindE e λb h2 e=>?_
  obtain⟨lo,p1,q1⟩:=clip_is h1 rl
  obtain⟨hi,p2,q2⟩:=clip_is h2 ru
  unfold VR at rs;subst rs
  have b1:(sliceBounds lo hi none xs.length).1=(a:Int):=by rw[<-q1];cases lo<;>simp[sliceBounds]
  have b2:(sliceBounds lo hi none xs.length).2.1=(b:Int):=by rw[<-q2];cases hi<;>simp[sliceBounds]
  have b3:(sliceBounds lo hi none xs.length).2.2=1:=rfl
  refine⟨lo,hi,none,p1,p2,.none,(by intro q;cases q),λys hy=>?_,λ_ hlen=>?_⟩
  ·rw[b1,b2,b3,pick_fwd]
   show(clip l ys.length 0).bind (λa=>(clip u ys.length ys.length).bind λb=>some ((ys.take b).drop a))=_
   rw[hy,h1,h2];rfl
  ·rw[b1,b2,b3,range_len]at hlen
   exact someE (P:=(· = xs)) e (cut_all xs a b hlen (clip_le (Nat.le_refl _) h2))
 | int k=>
  refine bindE e λ_ h1 e=>bindE e λ_ h2 e=>?_
  refine vNone (P:=λvl=>∃ lo hi s3,CutIs l u (.int k) vl vu vs xs.length (r=xs) lo hi s3) h1 rl (vNone (P:=λvu=>∃ lo hi s3,CutIs l u (.int k) _ vu vs xs.length (r=xs) lo hi s3) h2 ru ?_)
  unfold VR at rs;obtain⟨t,rfl⟩:=rs
  refine ifE e λhk2 e=>?_
  subst hk2
  have un:∀ {β:Type}(ys:List β),cut ys l u (.int (-1))=some ys.reverse:=λys=>by
   show(asNone l).bind (λ_=>(asNone u).bind λ_=>_)=_
   rw[h1,h2];rfl
  refine⟨none,none,some (-1),.none,.none,.int _ _,nofun,λys hy=>?_,λq=>nomatch q⟩
  have:=pick_back ys
  rw[hy]at this
  exact(un ys).trans (congrArg some this.symm)
 | _=>exact noneE e
theorem cut_vrs {N:Zone}{φ:Phi}{h:Heap}{l u st:V}{vs r:List V}{xs:List Value}(e:cut vs l u st=some r) (q:VRs N φ h vs xs):∃ ys,cut xs l u st=some ys/\VRs N φ h r ys:=by
 have hl:=VRs_length q
 cases st with
 | none=>
  refine bindE e λa h1 e=>bindE e λb h2 e=>⟨(xs.take b).drop a,?_,someE (P:=λr=>VRs N φ h r _) e (VRs_drop _ (VRs_take _ q))⟩
  rw[hl]at h1 h2
  show(clip l xs.length 0).bind (λa=>(clip u xs.length xs.length).bind λb=>some ((xs.take b).drop a))=_
  rw[h1,h2];rfl
 | int k=>
  refine bindE e λ_ h1 e=>bindE e λ_ h2 e=>?_
  refine ifE e λhk2 e=>⟨xs.reverse,?_,someE (P:=λr=>VRs N φ h r _) e (VRs_reverse q)⟩
  show(asNone l).bind (λ_=>(asNone u).bind λ_=>_)=_
  rw[h1,h2];exact if_pos hk2
 | _=>exact noneE e
theorem cut_len {α:Type}{xs r:List α}{l u st:V}(e:cut xs l u st=some r):r.length<=xs.length:=by
 cases st with
 | none=>exact bindE e λa h1 e=>bindE e λb h2 e=>someE (P:=λr:List α=>r.length<=xs.length) e (by rw[List.length_drop,List.length_take];exact nT (Nat.sub_le ..) (Nat.min_le_right ..))
 | int k=>
  exact bindE e λ_ h1 e=>bindE e λ_ h2 e=>ifE e λ_ e=>someE (P:=λr:List α=>r.length<=xs.length) e (Nat.le_of_eq (List.length_reverse ..))
 | _=>exact noneE e
theorem sliceIdx_bounds (lo hi s3:Option Int) (n:Nat):Builtin.Str.strSliceIndices lo hi (s3.getD 1) n=sliceRange (sliceBounds lo hi s3 n).1 (sliceBounds lo hi s3 n).2.1 (sliceBounds lo hi s3 n).2.2:=by
 rfl
theorem part_of {v:Value}{k:Option Int}(p:IsPart v k):∃ l:Option (Int×Tok),v=partValue l/\k=l.map (·.1):=by
 cases p with
 | none=>exact⟨none,rfl,rfl⟩
 | int i t=>exact⟨some (i,t),rfl,rfl⟩
theorem slc_ok (Y:Sys B) (base slice:Expr){o l u st:V}{r:V×AH}{x vl vu vs:Value}{sl:Addr}(e:slcV o l u st σ=some r) (R:Rep B σ φ s.heap) (ra:VR B.Z φ s.heap o x)
  (rl:VR B.Z φ s.heap l vl) (ru:VR B.Z φ s.heap u vu) (rs:VR B.Z φ s.heap st vs) (hs:s.heap.IsSliceOf sl vl vu vs):
  wpAny (model B.prog B.w) A (do let r <-subscripted slice (<-getitemInPython x) x (.ref sl);letTemporaryGo base x r;pure r) (Res B φ s r.2 r.1) E s:=by
 have seq:(seqAt o σ).bind (λvs=>(cut vs l u st).bind λr=>newL r σ)=some r->wpAny (model B.prog B.w) A (do let r <-subscripted slice (<-getitemInPython x) x (.ref sl);letTemporaryGo base x r;pure r) (Res B φ s r.2 r.1) E s:=λe=>
  bindE e λus h1 e=>bindE e λc hc e=>vSeq (P:=λx=>wpAny _ _ (do let r <-subscripted slice (<-getitemInPython x) x (.ref sl);letTemporaryGo base x r;pure r) _ E s) h1 R ra λp xs n g r1 hz=>by
   obtain⟨ys,hy,ry⟩:=cut_vrs hc r1
   obtain⟨lo,hi',s3,q⟩:=cut_pick rl ru rs (VRs_length r1) hc
   refine newL_ok Y R e ry λhl z=>sub_tail base slice (by intro q;cases q) ⟨_,g,rfl⟩ slot_list_getitem (wpAny_getItem_list_slice (items:=xs.toArray) ⟨_,g,rfl,n,rfl⟩ hs q.p1 q.p2 q.p3 q.ne ?_ ?_)
   ·have:=q.pick xs rfl
    rw[hy]at this
    have z':slicePick xs.toArray lo hi' s3=ys.toArray:=by
     unfold slicePick
     rw[oJ this]
     simp
    rw[z']
    exact z s.toks
   ·rw[VRs_length r1]at hz;simpa using lim_line hz
 cases o with
 | str w=>exact ifE e λhz e=>bindE e λc hr e=>vStr (P:=λx=>wpAny _ _ (do let r <-subscripted slice (<-getitemInPython x) x (.ref sl);letTemporaryGo base x r;pure r) _ E s) (a:=.str w) rfl ra λtk=>(by
   obtain⟨lo,hi',s3,q⟩:=cut_pick rl ru rs rfl hr
   obtain⟨l1,rfl,rfl⟩:=part_of q.p1
   obtain⟨l2,rfl,rfl⟩:=part_of q.p2
   obtain⟨l3,rfl,rfl⟩:=part_of q.p3
   have hlen:(⟨w.toArray⟩:Str).length=w.length:=by simp[Str.length]
   have hp:slicePicked ⟨w.toArray⟩ l1 l2 l3=sliceRange (sliceBounds (l1.map (·.1)) (l2.map (·.1)) (l3.map (·.1)) w.length).1 (sliceBounds (l1.map (·.1)) (l2.map (·.1)) (l3.map (·.1)) w.length).2.1 (sliceBounds (l1.map (·.1)) (l2.map (·.1)) (l3.map (·.1)) w.length).2.2:=by
    unfold slicePicked;rw[hlen,sliceIdx_bounds]
   refine leafE e (sub_tail base slice (by intro q;cases q) (typeIs_str s _ tk) PyProof.Rows.slot_str_getitem (wpAny_getItem_str_slice hs ?_ ?_))
   ·have:=q.ne
    cases l3 with
    | none=>rfl
    | some p=>simp at this ⊢;exact this
   ·unfold sliceMade
    by_cases hc:(Option.map (·.1) l3).getD 1==1&&(slicePicked ⟨w.toArray⟩ l1 l2 l3).length==(⟨w.toArray⟩:Str).length
    ·rw[if_pos hc]
     simp only [Bool.and_eq_true,beq_iff_eq]at hc
     have:=q.all hc.1 (by rw[<-hp];rw[hlen]at hc;exact hc.2)
     subst this
     exact res_here' R (vr_str ..)
    ·rw[if_neg hc]
     have q:=q.pick w rfl
     rw[hr,<-hp]at q
     have q:=oJ q
     refine⟨?_,res_here R (vr_str' _ _ ?_ _) _⟩
     ·have:=cut_len hr
      show(Array.size _)<=_
      simp only [List.size_toArray]
      refine nT ?_ (lim_line (nT this hz))
      rw[q];simp
     ·rw[q];simp)
 | _=>exact seq e
end
end Mine
end
section
namespace Mine
open PySem
section
variable {B:Base}{d:Nat}{A:Around}{E:Value->Shared->Prop}{σ σ':AH}{φ:Phi}{s:Shared}
theorem resB_of {b b':Bool}(h:b'=b) (R:Rep B σ φ s.heap) (tk:Nat):ResB B φ s σ b b' {s with toks:=tk}:=⟨φ,St.of_kp (.refl ..) rfl rfl,R,h⟩
theorem truth_ok {v:V}{b:Bool}{x:Value}(e:truth v σ=some b) (R:Rep B σ φ s.heap) (r:VR B.Z φ s.heap v x):wpAny (model B.prog B.w) A (truthy x) (ResB B φ s σ b) E s:=by
 cases v with
 | bool i=>exact vBool (P:=λx=>wpAny _ _ (truthy x) _ E s) (a:=.bool i) rfl r (wpAny_truthy_bool (resB_of (oJ e) R _))
 | int i=>exact vInt (P:=λx=>wpAny _ _ (truthy x) _ E s) (a:=.int i) rfl r λt=>PyProof.Rows.truthy_int (resB_of (Eq.trans (by rw[Bool.eq_iff_iff];simp) (oJ e)) R _)
 | str z=>exact ifE e λhz e=>vStr (P:=λx=>wpAny _ _ (truthy x) _ E s) (a:=.str z) rfl r λt=>PySem.P.truthy_str (by simp[Str.length,LIM]at hz ⊢;omega) (resB_of (Eq.trans (by rw[Bool.eq_iff_iff];cases z<;>simp[Str.length];omega) (oJ e)) R _)
 | obj i=>exact bindE e λvs h1 e=>vLst (P:=λx=>wpAny _ _ (truthy x) _ E s) h1 R r λp xs n g r1 hz=>wpAny_truthy_list (items:=xs.toArray) ⟨_,g,rfl,n,rfl⟩ (by rw[VRs_length r1]at hz;simp only [LIM]at hz;simp;omega) (resB_of (Eq.trans (by have:=VRs_length r1;cases vs<;>cases xs<;>simp_all) (oJ e)) R _)
 | _=>exact noneE e
theorem not_ok {v:V}{b:Bool}{x:Value}(e:truth v σ=some b) (R:Rep B σ φ s.heap) (r:VR B.Z φ s.heap v x):wpAny (model B.prog B.w) A (unaryOp .Not x) (Res B φ s σ (.bool !b)) E s:=by
 exact PyProof.Rows.not_of (wpAny_mono (truth_ok e R r) (λb' s' ⟨φ',h1,h2,h3⟩=>⟨φ',h1,h2,h3▸vr_bool _⟩) λ_ _ h=>h)
theorem Res.bind {v:V}{t:Sem Value}{Q:Value->Shared->Prop}(h:wpAny (model B.prog B.w) A t (Res B φ s σ' v) E s)
  (k:∀ φ' s' x,St B φ s φ' s'->Rep B σ' φ' s'.heap->VR B.Z φ' s'.heap v x->Q x s'):wpAny (model B.prog B.w) A t Q E s:=
 wpAny_mono h (λx s' ⟨φ',h1,h2,h3⟩=>k φ' s' x h1 h2 h3) λ_ _ q=>q
theorem ResB.bind {b:Bool}{t:Sem Bool}{Q:Bool->Shared->Prop}(h:wpAny (model B.prog B.w) A t (ResB B φ s σ' b) E s)
  (k:∀ φ' s',St B φ s φ' s'->Rep B σ' φ' s'.heap->Q b s'):wpAny (model B.prog B.w) A t Q E s:=
 wpAny_mono h (λx s' ⟨φ',h1,h2,h3⟩=>by subst h3;exact k φ' s' h1 h2) λ_ _ q=>q
theorem ResL.bind {vs:List V}{t:Sem (List Value)}{Q:List Value->Shared->Prop}(h:wpAny (model B.prog B.w) A t (ResL B φ s σ' vs) E s)
  (k:∀ φ' s' x,St B φ s φ' s'->Rep B σ' φ' s'.heap->VRs B.Z φ' s'.heap vs x->Q x s'):wpAny (model B.prog B.w) A t Q E s:=
 wpAny_mono h (λx s' ⟨φ',h1,h2,h3⟩=>k φ' s' x h1 h2 h3) λ_ _ q=>q
theorem Res.after {φ':Phi}{s' s'':Shared}{v:V}{x:Value}(st:St B φ s φ' s') (r:Res B φ' s' σ' v x s''):Res B φ s σ' v x s'':=r.elim λφ'' h=>⟨φ'',st.trans h.1,h.2⟩
theorem ResB.after {φ':Phi}{s' s'':Shared}{b c:Bool}(st:St B φ s φ' s') (r:ResB B φ' s' σ' b c s''):ResB B φ s σ' b c s'':=r.elim λφ'' h=>⟨φ'',st.trans h.1,h.2⟩
theorem ResL.after {φ':Phi}{s' s'':Shared}{v:List V}{x:List Value}(st:St B φ s φ' s') (r:ResL B φ' s' σ' v x s''):ResL B φ s σ' v x s'':=r.elim λφ'' h=>⟨φ'',st.trans h.1,h.2⟩
theorem wp_after {t:Sem Value}{φ':Phi}{s':Shared}{v:V}(st:St B φ s φ' s') (h:wpAny (model B.prog B.w) A t (Res B φ' s' σ' v) E s'):wpAny (model B.prog B.w) A t (Res B φ s σ' v) E s':=
 wpAny_mono h (λ_ _ q=>q.after st) λ_ _ q=>q
theorem wp_afterB {t:Sem Bool}{φ':Phi}{s':Shared}{b:Bool}(st:St B φ s φ' s') (h:wpAny (model B.prog B.w) A t (ResB B φ' s' σ' b) E s'):wpAny (model B.prog B.w) A t (ResB B φ s σ' b) E s':=
 wpAny_mono h (λ_ _ q=>q.after st) λ_ _ q=>q
structure At (B:Base) (d:Nat) (sc:Scope) (ren:Ren) (nx:Nat) (A:Around) (env:Env) (loc:Loc) (σ:AH) (φ:Phi) (s:Shared):Prop where
 rm:Room A d
 V:EnvOK B sc ren nx env loc φ s.heap
 R:Rep B σ φ s.heap
theorem At.step {sc:Scope}{ren:Ren}{nx:Nat}{env:Env}{loc:Loc}{σ':AH}{φ':Phi}{s':Shared}(K:At B d sc ren nx A env loc σ φ s) (st:St B φ s φ' s') (R':Rep B σ' φ' s'.heap):At B d sc ren nx A env loc σ' φ' s':=⟨K.rm,K.V.step st K.R,R'⟩
noncomputable def plainE:Expr->Bool
 | .Starred _ _=>false
 | .Set _ _ _=>false
 | _=>true
structure Snd (B:Base) (C:Oracle) (d:Nat) (sc:Scope) (ren:Ren) (nx:Nat) (e:Expr) (e':Mine.E):Prop where
 pl:plainE e=true
 val:∀ {loc:Loc}{σ:AH}{r:V×AH}{A:Around}{Ex:Value->Shared->Prop}{φ:Phi}{s:Shared}{env:Env},ev C e' loc σ=some r->At B d sc ren nx A env loc σ φ s->wpAny (model B.prog B.w) A (eval e env) (Res B φ s r.2 r.1) Ex s
 tst:∀ {loc:Loc}{σ:AH}{r:V×AH}{A:Around}{Ex:Value->Shared->Prop}{φ:Phi}{s:Shared}{env:Env}{b:Bool},ev C e' loc σ=some r->truth r.1 r.2=some b->At B d sc ren nx A env loc σ φ s->wpAny (model B.prog B.w) A (isTrue e env (eval e env)) (ResB B φ s r.2 b) Ex s
theorem Snd.star {C:Oracle}{d nx:Nat}{sc:Scope}{ren:Ren}{e:Expr}{e':Mine.E}(q:Snd B C d sc ren nx e e') (x:Expr) (p:Pos) (h:e = .Starred x p):False:=Bool.false_ne_true (h▸q.pl:plainE (.Starred x p)=true)
theorem Snd.set {C:Oracle}{d nx:Nat}{sc:Scope}{ren:Ren}{e:Expr}{e':Mine.E}(q:Snd B C d sc ren nx e e') (a:List Expr) (k:_) (p:Pos) (h:e = .Set a k p):False:=Bool.false_ne_true (h▸q.pl:plainE (.Set a k p)=true)
theorem true_plain {e:Expr}{env:Env}{v:V}{b:Bool}(hp:isTrue e env (eval e env)=(do let v <-eval e env;standAt e.pos;holding [v] (truthy v))) (h:wpAny (model B.prog B.w) A (eval e env) (Res B φ s σ' v) E s) (hb:truth v σ'=some b):
  wpAny (model B.prog B.w) A (isTrue e env (eval e env)) (ResB B φ s σ' b) E s:=by
 rw[hp]
 exact wpAny_bind (Res.bind h λφ' s' x st R r=>wpAny_bind (wpAny_standAt (wpAny_holding (wp_afterB st (truth_ok hb R r)))))
theorem load_ok {sc:Scope}{ren:Ren}{nx:Nat}{env:Env}{loc:Loc}{x:Str}{i:Nat}{v:V}(K:At B d sc ren nx A env loc σ φ s) (hx:ren.lookup x=some i) (hl:loc[i]?=some (some v)) (hc:(x==("__classdict__":Str))=false):
  wpAny (model B.prog B.w) A (loadName env x) (Res B φ s σ v) E s:=by
 obtain⟨rv,q,r⟩:=K.V.vals x i v hx hl
 rcases q with⟨hk,m,hn,hm⟩|⟨hk|hk,c,hcell,hv⟩
 ·exact wpAny_loadName_local K.V.fk hk hn hm (res_here' K.R r)
 ·exact wpAny_loadName_cell K.V.fk hk hcell hv (res_here' K.R r)
 ·exact wpAny_loadName_free K.V.fk hk hcell hv (res_here' K.R r) hc
theorem EnvOK.kindE {sc:Scope}{ren:Ren}{nx:Nat}{env:Env}{loc:Loc}{h:Heap}(V:EnvOK B sc ren nx env loc φ h){x:Str}{k:NameKind}(hk:sc.names.lookup x=some k) (hn:k ≠ .free):env.kindOf x=some k:=
 (V.kind x k hk).elim id λh=>absurd h.1 hn
theorem global_load {env:Env}{x:Str}(hk:env.kindOf x=some .globalImplicit) (fk:env.scope.kind = .function):loadName env x=loadGlobal env x:=by
 unfold loadName Env.blockKind
 rw[fk,hk]
 rfl
theorem global_ok {sc:Scope}{ren:Ren}{nx:Nat}{env:Env}{loc:Loc}{x:Str}{rv:Value}{Q:Value->Shared->Prop}(K:At B d sc ren nx A env loc σ φ s) (hk:sc.names.lookup x=some .globalImplicit)
  (hg:B.mg x=some rv∨(B.mg x=none/\B.mb x=some rv)) (h:Q rv s):wpAny (model B.prog B.w) A (loadName env x) Q E s:=by
 rw[global_load (K.V.kindE hk (by decide)) K.V.fk]
 refine wpAny_bind (m:=nsGet _ _) ?_
 rw[K.V.glob]
 refine wpAny_nsGet K.R.stat.g ?_
 rcases hg with hg|⟨hg,hb⟩
 ·rw[hg];exact wpAny_pure h
 ·rw[hg]
  refine wpAny_bind (m:=nsGet _ _) ?_
  rw[K.V.blt]
  refine wpAny_nsGet K.R.stat.b ?_
  rw[hb];exact wpAny_pure h
end
end Mine
end
section
namespace Mine
open PySem
theorem starEach_cons {e:Expr}{rest:List Expr}{env:Env}(h:∀ x p,e ≠ .Starred x p):starEach (e::rest) env=(false,eval e env)::starEach rest env:=by
 cases e<;>first|rfl|exact absurd rfl (h _ _)
theorem marks_no {e:Expr}(op:CmpOp) (h:∀ a k p,e ≠ .Set a k p):behindInMarks op e=false:=by
 cases e<;>first|rfl|exact absurd rfl (h _ _ _)
theorem folded_no {e:Expr}(env:Env) (x:Value) (h:∀ a k p,e ≠ .Set a k p):foldedSetIterable e env x=pure x:=by
 cases e<;>first|rfl|exact absurd rfl (h _ _ _)
section
variable {B:Base}{C:Oracle}{d:Nat}{A:Around}{Ex:Value->Shared->Prop}{σ σ':AH}{φ:Phi}{s:Shared}{sc:Scope}{ren:Ren}{nx:Nat}{env:Env}{loc:Loc}
inductive Snd2 (B:Base) (C:Oracle) (d:Nat) (sc:Scope) (ren:Ren) (nx:Nat):List Expr->List Mine.E->Prop
 | nil:Snd2 B C d sc ren nx [] []
 | cons {e:Expr}{e':Mine.E}{es:List Expr}{es':List Mine.E}:Snd B C d sc ren nx e e'->Snd2 B C d sc ren nx es es'->Snd2 B C d sc ren nx (e::es) (e'::es')
theorem Snd.run {e:Expr}{e':Mine.E}(q:Snd B C d sc ren nx e e'){r:V×AH}(h:ev C e' loc σ=some r) (K:At B d sc ren nx A env loc σ φ s){Q:Value->Shared->Prop}
  (k:∀ φ' s' x,St B φ s φ' s'->At B d sc ren nx A env loc r.2 φ' s'->VR B.Z φ' s'.heap r.1 x->Q x s'):wpAny (model B.prog B.w) A (eval e env) Q Ex s:=
 Res.bind (q.val h K) λφ' s' x st R' r=>k φ' s' x st (K.step st R') r
theorem Snd.test {e:Expr}{e':Mine.E}(q:Snd B C d sc ren nx e e'){r:V×AH}{b:Bool}(h:ev C e' loc σ=some r) (hb:truth r.1 r.2=some b) (K:At B d sc ren nx A env loc σ φ s){Q:Bool->Shared->Prop}
  (k:∀ φ' s',St B φ s φ' s'->At B d sc ren nx A env loc r.2 φ' s'->Q b s'):wpAny (model B.prog B.w) A (isTrue e env (eval e env)) Q Ex s:=
 ResB.bind (q.tst h hb K) λφ' s' st R'=>k φ' s' st (K.step st R')
theorem args_ok (pos:Pos):∀ {es:List Expr}{es':List Mine.E},Snd2 B C d sc ren nx es es'->∀ {r:List V×AH}{σ:AH}{φ:Phi}{s:Shared},evs C es' loc σ=some r->At B d sc ren nx A env loc σ φ s->
  wpAny (model B.prog B.w) A (spliced (backTo pos (starEach es env))) (ResL B φ s r.2 r.1) Ex s:=by
 intro es es' q
 induction q with
 | nil=>intro r σ φ s h K;exact someE (P:=λr=>wpAny (model B.prog B.w) A (spliced (backTo pos (starEach [] env))) (ResL B φ s r.2 r.1) Ex s) h (wpAny_pure ⟨φ,St.refl ..,K.R,VRs_nil⟩)
 | cons q1 q2 ih=>
  intro r σ φ s h K
  refine bindE h λp h1 h=>bindE h λus h2 h=>?_
  rw[starEach_cons q1.star]
  show wpAny _ _ (do let v <-eval _ env;let here <-(pure [v]:Sem (List Value));return here++(<-holding here (spliced (backTo pos (starEach _ env))))) _ _ _
  exact wpAny_bind (q1.run h1 K λφ1 s1 x st1 K1 r1=>wpAny_bind (wpAny_pure (wpAny_bind (wpAny_holding (ResL.bind (ih h2 K1) λφ2 s2 xs st2 R2 r2=>wpAny_pure (someE (P:=λr=>ResL B φ s r.2 r.1 (x::xs) s2) h ⟨φ2,st1.trans st2,R2,VRs_cons (st2.vr K1.R r1) r2⟩))))))
noncomputable def opW (op:BoolOp):Bool:=match op with
 | .And=>true
 | .Or=>false
theorem boolOp_ok (pos:Pos) (op:BoolOp):∀ {es:List Expr}{es':List Mine.E},Snd2 B C d sc ren nx es es'->∀ {r:V×AH}{σ:AH}{φ:Phi}{s:Shared},evLog C (opW op) es' loc σ=some r->At B d sc ren nx A env loc σ φ s->
  wpAny (model B.prog B.w) A (boolOp pos op (evalEach es env)) (Res B φ s r.2 r.1) Ex s/\∀ b,truth r.1 r.2=some b->wpAny (model B.prog B.w) A (allTrue op es env) (ResB B φ s r.2 b) Ex s:=by
 intro es es' q
 induction q with
 | nil=>intro r σ φ s h;exact noneE h
 | @cons e e' es es' q1 q2 ih=>
  intro r σ φ s h K
  refine bindE h λp h1 h=>?_
  cases q2 with
  | nil=>
   cases h
   refine⟨q1.val h1 K,λb hb=>?_⟩
   show wpAny _ _ (do match op,<-isTrue e env (eval e env)with | .And,false=>pure false | .Or,true=>pure true|_,_=>allTrue op [] env) _ _ _
   refine wpAny_bind (q1.test h1 hb K λφ1 s1 st1 K1=>?_)
   cases op<;>cases b<;>exact wpAny_pure ⟨φ1,st1,K1.R,rfl⟩
  | @cons e2 e2' es es' q2 q3=>
   refine bindE (show(truth p.1 p.2).bind (λt=>cond (t==opW op) (evLog C (opW op) (e2'::es') loc p.2) (some p))=some r from h) λt ht h=>⟨?_,λb hb=>?_⟩
   ·show wpAny _ _ (do
     let v <-eval e env
     standAt pos
     let t <-holding [v] (truthy v)
     match op,t with
     | .And,false | .Or,true=>pure v
     | _,_=>boolOp pos op (evalEach (e2::es) env)) _ _ _
    refine wpAny_bind (q1.run h1 K λφ1 s1 x st1 K1 r1=>wpAny_bind (wpAny_standAt (wpAny_bind (wpAny_holding (ResB.bind (truth_ok ht K1.R r1) λφ2 s2 st2 R2=>?_)))))
    have stop:some p=some r->wpAny (model B.prog B.w) A (pure x) (Res B φ s r.2 r.1) Ex s2:=λh=>someE (P:=λr=>wpAny (model B.prog B.w) A (pure x) (Res B φ s r.2 r.1) Ex s2) h (wpAny_pure ⟨φ2,st1.trans st2,R2,st2.vr K1.R r1⟩)
    cases op<;>cases t
    ·exact stop h
    ·exact wp_after (st1.trans st2) (ih h (K1.step st2 R2)).1
    ·exact wp_after (st1.trans st2) (ih h (K1.step st2 R2)).1
    ·exact stop h
   ·show wpAny _ _ (do match op,<-isTrue e env (eval e env)with | .And,false=>pure false | .Or,true=>pure true|_,_=>allTrue op (e2::es) env) _ _ _
    refine wpAny_bind (q1.test h1 ht K λφ1 s1 st1 K1=>?_)
    have stop:some p=some r->ResB B φ s r.2 b t s1:=λh=>⟨φ1,st1,oJ h▸K1.R,oJ (ht.symm.trans (oJ h▸hb))⟩
    cases op<;>cases t
    ·exact wpAny_pure (stop h)
    ·exact wp_afterB st1 ((ih h K1).2 b hb)
    ·exact wp_afterB st1 ((ih h K1).2 b hb)
    ·exact wpAny_pure (stop h)
theorem Room.cmp (rm:Room A d):A.units+10<cLine:=Nat.lt_of_lt_of_le (Nat.add_lt_add_of_le_of_lt (Nat.le_add_right A.units (40*d)) (by decide:10<400)) rm.units
theorem wp_operate {t:Sem Value}{xs:List Value}{Q:Value->Shared->Prop}{M:Model}(h:wpAny M A t Q Ex s):wpAny M A (operate xs t) Q Ex s:=λΓ p hΓ=>by rw[Sem.wp_operate];exact h Γ p hΓ
theorem wp_release {α:Type}{t:Sem α}{xs ys:List Value}{Q:α->Shared->Prop}{M:Model}(h:wpAny M A t Q Ex s):wpAny M A (do release xs ys;t) Q Ex s:=wpAny_bind λΓ p hΓ=>by rw[Sem.wp_release];exact h
theorem cmp_run {op:CmpOp}{e:Expr}{e':Mine.E}{pos:Pos}{x:V}{xv:Value}{p:V×AH}{c:Bool}(q:Snd B C d sc ren nx e e') (h1:ev C e' loc σ=some p) (hc:compareV op x p.1 p.2=some c) (K:At B d sc ren nx A env loc σ φ s) (r:VR B.Z φ s.heap x xv){α:Type}{F:Value->Sem Value->Sem α}{Q:α->Shared->Prop}
  (k:∀ φ1 s1 yv,St B φ s φ1 s1->At B d sc ren nx A env loc p.2 φ1 s1->VR B.Z φ1 s1.heap p.1 yv->wpAny (model B.prog B.w) A (compareOp op xv yv) (Res B φ1 s1 p.2 (.bool c)) Ex s1->wpAny (model B.prog B.w) A (F yv (compareOp op xv yv)) Q Ex s1):
  wpAny (model B.prog B.w) A (do let rv <-holding [xv] (eval e env);standAt pos;F rv (compareOp op xv rv)) Q Ex s:=
 wpAny_bind (wpAny_holding (q.run h1 K λφ1 s1 yv st1 K1 r1=>wpAny_bind (wpAny_standAt (k φ1 s1 yv st1 K1 r1 (cmp_ok hc K.rm.cmp K1.R (st1.vr K.R r) r1)))))
theorem chain_ok (pos:Pos):∀ {es:List Expr}{es':List Mine.E},Snd2 B C d sc ren nx es es'->∀ {ops:List CmpOp}{x:V}{r:Bool×AH}{σ:AH}{φ:Phi}{s:Shared}{xv:Value},evCmp C x ops es' loc σ=some r->
  At B d sc ren nx A env loc σ φ s->VR B.Z φ s.heap x xv->
  wpAny (model B.prog B.w) A (compareChain pos xv ops (markedEach ops es (evalEach es env))) (Res B φ s r.2 (.bool r.1)) Ex s/\
  wpAny (model B.prog B.w) A (testChain pos xv ops (markedEach ops es (evalEach es env))) (ResB B φ s r.2 r.1) Ex s:=by
 intro es es' q
 induction q with
 | nil=>intro ops x r σ φ s xv h;cases ops<;>exact noneE h
 | @cons e e' es es' q1 q2 ih=>
  intro ops x r σ φ s xv h K rx
  cases ops with
  | nil=>exact noneE h
  | cons op ops=>
   refine bindE h λp h1 h=>bindE h λc hc h=>ifE h λhlen h=>?_
   cases ops with
   | nil=>
    cases q2 with
    | cons _ _=>cases hlen
    | nil=>
     cases (show some (c,p.2)=some r from h)
     have hm:markedEach [op] [e] (evalEach [e] env)=[eval e env]:=congrArg (· :: []) (markedBehindIn_of_false (marks_no op q1.set))
     rw[hm]
     refine⟨cmp_run (F:=λrv t=>operate [xv,rv] t) q1 h1 hc K rx λφ1 s1 yv st1 K1 r1 z=>wp_operate (wp_after st1 z),cmp_run (F:=λrv t=>do let c <-operate [xv,rv] t;holding [c] (truthy c)) q1 h1 hc K rx λφ1 s1 yv st1 K1 r1 z=>wpAny_bind (wp_operate (Res.bind z λφ2 s2 cv st2 R2 r2=>wpAny_holding ?_))⟩
     exact vBool (P:=λcv=>wpAny _ _ (truthy cv) _ _ s2) (a:=.bool c) rfl r2 (wpAny_truthy_bool ⟨φ2,st1.trans st2,R2,rfl⟩)
   | cons op2 ops=>
    cases q2 with
    | nil=>cases hlen
    | @cons e2 e2' es es' q2 q3=>
     have hm:markedEach (op::op2::ops) (e::e2::es) (evalEach (e::e2::es) env)=eval e env::markedEach (op2::ops) (e2::es) (evalEach (e2::es) env):=rfl
     rw[hm]
     have step:∀ {α:Type}(F:Value->Value->Sem α) (Q:α->Shared->Prop),(∀ φ1 s1 yv,St B φ s φ1 s1->At B d sc ren nx A env loc p.2 φ1 s1->VR B.Z φ1 s1.heap p.1 yv->wpAny (model B.prog B.w) A (F yv (.bool c)) Q Ex s1)->
       wpAny (model B.prog B.w) A (do let rv <-holding [xv] (eval e env);standAt pos;let c <-holding [xv,rv] (compareOp op xv rv);release [xv,rv] [c];F rv c) Q Ex s:=λF Q hF=>
      cmp_run (F:=λrv t=>do let c <-holding [xv,rv] t;release [xv,rv] [c];F rv c) q1 h1 hc K rx λφ1 s1 yv st1 K1 r1 z=>wpAny_bind (wpAny_holding (Res.bind z λφ2 s2 cv st2 R2 r2=>wp_release (vBool (P:=λcv=>wpAny _ _ (F yv cv) Q Ex s2) (a:=.bool c) rfl r2 (hF φ2 s2 yv (st1.trans st2) (K1.step st2 R2) (st2.vr K1.R r1)))))
     refine⟨step (λrv c=>do if <-holding [c,rv] (truthy c)then compareChain pos rv (op2::ops) (markedEach (op2::ops) (e2::es) (evalEach (e2::es) env))else pure c) _ λφ1 s1 yv st1 K1 r1=>wpAny_bind (wpAny_holding (wpAny_truthy_bool ?_)),
      step (λrv c=>do if <-holding [c,rv] (truthy c)then testChain pos rv (op2::ops) (markedEach (op2::ops) (e2::es) (evalEach (e2::es) env))else pure false) _ λφ1 s1 yv st1 K1 r1=>wpAny_bind (wpAny_holding (wpAny_truthy_bool ?_))⟩
     ·cases c with
      | false=>cases (show some (false,p.2)=some r from h);exact wpAny_pure ⟨φ1,st1,K1.R,vr_bool _⟩
      | true=>exact wp_after st1 (ih h K1 r1).1
     ·cases c with
      | false=>cases (show some (false,p.2)=some r from h);exact wpAny_pure ⟨φ1,st1,K1.R,rfl⟩
      | true=>exact wp_afterB st1 (ih h K1 r1).2
end
end Mine
end
section
namespace Mine
open PySem
structure StW (B:Base) (W:List Addr) (φ:Phi) (s:Shared) (φ':Phi) (s':Shared):Prop where
 pre:∃ ψ,φ'=φ++ψ/\∀ a∈addrs ψ,s.heap.objs.size<=a
 keep:Kp B.tabs (W++addrs φ) s.heap s'.heap
 safe:Safe B.Z W
 os:s'.os=s.os
 gens:PyProof.Rows.AllBare s.gens->PyProof.Rows.AllBare s'.gens
section
variable {B:Base}{W W':List Addr}{σ:AH}{φ φ' φ'':Phi}{s s' s'':Shared}
theorem StW.of (x:St B φ s φ' s') (S:Safe B.Z W):StW B W φ s φ' s':=
 ⟨x.pre,x.keep.mono λb hb=>.inl (List.mem_append.mpr (.inr hb)),S,x.os,x.gens⟩
theorem StW.refl (B:Base) (φ:Phi) (s:Shared) (S:Safe B.Z W):StW B W φ s φ s:=StW.of (St.refl ..) S
theorem StW.trans (x:StW B W φ s φ' s') (y:StW B W φ' s' φ'' s''):StW B W φ s φ'' s'':=by
 obtain⟨ψ,rfl,h1⟩:=x.pre
 obtain⟨ψ',rfl,h2⟩:=y.pre
 refine⟨⟨ψ++ψ',by simp,λa ha=>?_⟩,x.keep.trans' y.keep λb hb=>?_,x.safe,y.os.trans x.os,λq=>y.gens (x.gens q)⟩
 ·rw[addrs_append]at ha
  rcases List.mem_append.mp ha with ha|ha
  ·exact h1 a ha
  ·exact nT x.keep.size (h2 a ha)
 ·rcases List.mem_append.mp hb with hb|hb
  ·exact .inl (List.mem_append.mpr (.inl hb))
  ·rw[addrs_append]at hb
   rcases List.mem_append.mp hb with hb|hb
   ·exact .inl (List.mem_append.mpr (.inr hb))
   ·exact .inr (h1 b hb)
theorem StW.get (x:StW B W φ s φ' s') (i:Nat) (p:Addr×Addr) (e:φ[i]?=some p):φ'[i]?=some p:=by
 obtain⟨ψ,rfl,_⟩:=x.pre
 rw[List.getElem?_append_left (List.getElem?_eq_some_iff.mp e).1];exact e
theorem StW.vk (x:StW B W φ s φ' s') (R:Rep B σ φ s.heap):Vk B.Z φ s.heap φ' s'.heap:=
 Vk.of x.keep (λa ha=>by
  rcases List.mem_append.mp ha with ha|ha
  ·exact x.safe a ha
  ·exact R.safe a ha) x.pre
theorem StW.vr (x:StW B W φ s φ' s') (R:Rep B σ φ s.heap){v:V}{a:Value}(r:VR B.Z φ s.heap v a):VR B.Z φ' s'.heap v a:=VR_mono (x.vk R) v r
theorem StW.vrs (x:StW B W φ s φ' s') (R:Rep B σ φ s.heap){v:List V}{a:List Value}(r:VRs B.Z φ s.heap v a):VRs B.Z φ' s'.heap v a:=VRs_mono (x.vk R) v r
theorem StW.widen (x:StW B W φ s φ' s') (h:∀ b∈W,b∈W'∨s.heap.objs.size<=b) (S:Safe B.Z W'):StW B W' φ s φ' s':=
 ⟨x.pre,x.keep.mono λb hb=>by
  rcases List.mem_append.mp hb with hb|hb
  ·rcases h b hb with q|q
   ·exact .inl (List.mem_append.mpr (.inl q))
   ·exact .inr q
  ·exact .inl (List.mem_append.mpr (.inr hb)),S,x.os,x.gens⟩
theorem St.close (x:St B φ s φ' s') (y:StW B W φ' s' φ'' s'') (h:∀ b∈W,s.heap.objs.size<=b):St B φ s φ'' s'':=by
 obtain⟨ψ,rfl,h1⟩:=x.pre
 obtain⟨ψ',rfl,h2⟩:=y.pre
 refine⟨⟨ψ++ψ',by simp,λa ha=>?_⟩,x.keep.trans' y.keep λb hb=>?_,y.os.trans x.os,λq=>y.gens (x.gens q)⟩
 ·rw[addrs_append]at ha
  rcases List.mem_append.mp ha with ha|ha
  ·exact h1 a ha
  ·exact nT x.keep.size (h2 a ha)
 ·rcases List.mem_append.mp hb with hb|hb
  ·exact .inr (h b hb)
  ·rw[addrs_append]at hb
   rcases List.mem_append.mp hb with hb|hb
   ·exact .inl hb
   ·exact .inr (h1 b hb)
noncomputable def ownW (sc:Scope) (env:Env):List Addr:=env.locals::sc.names.filterMap λx=>if x.2 = .cell then env.cells.lookup x.1 else none
variable {sc:Scope}{ren:Ren}{nx:Nat}{env:Env}{loc:Loc}
theorem EnvOK.own (V:EnvOK B sc ren nx env loc φ s.heap):∀ a∈ownW sc env,a∉addrs φ/\B.N<=a/\((∃ m,s.heap.Ns a m)∨∃ v,s.heap.IsCell a v):=by
 intro a ha
 rcases mC ha with rfl|ha
 ·exact⟨V.base,V.above,.inl V.ns⟩
 ·obtain⟨x,_,hx⟩:=List.mem_filterMap.mp ha
  exact ifE hx λ_ hx=>⟨(V.cells _ _ hx).2.1,(V.cells _ _ hx).2.2,.inr (V.cells _ _ hx).1⟩
theorem EnvOK.safe (V:EnvOK B sc ren nx env loc φ s.heap):Safe B.Z (ownW sc env):=λa ha=>(V.own a ha).2.1
theorem Kp.nsBut {tabs:Tabs}{h h':Heap}{a:Addr}{m:Str->Option Value}(sb:Heap.SameBut a h h') (n:h.Ns a m):Kp tabs [a] h h':=have⟨_,e,f⟩:=ns_fix n;.sameBut sb (List.mem_singleton.mpr rfl) e f
theorem Kp.cellBut {tabs:Tabs}{h h':Heap}{a:Addr}{v:Option Value}(sb:Heap.SameBut a h h') (n:h.IsCell a v):Kp tabs [a] h h':=have⟨_,e,f⟩:=cell_fix n;.sameBut sb (List.mem_singleton.mpr rfl) e f
theorem EnvOK.lt (V:EnvOK B sc ren nx env loc φ s.heap):∀ a∈ownW sc env,a<s.heap.objs.size:=λa ha=>by
 rcases(V.own a ha).2.2 with⟨m,n⟩|⟨v,n⟩
 ·exact n.lt
 ·exact n.lt
theorem EnvOK.cellsLt (V:EnvOK B sc ren nx env loc φ s.heap){x:Str}{c:Addr}(e:env.cells.lookup x=some c):c<s.heap.objs.size:=by
 obtain⟨⟨v,n⟩,_⟩:=V.cells x c e
 exact n.lt
theorem EnvOK.stepW (V:EnvOK B sc ren nx env loc φ s.heap) (x:StW B W φ s φ' s') (R:Rep B σ φ s.heap) (h1:env.locals∉W) (h2:∀ y c,env.cells.lookup y=some c->c∉W):EnvOK B sc ren nx env loc φ' s'.heap:=by
 obtain⟨ψ,hφ,hψ⟩:=x.pre
 have off:∀ a,a<s.heap.objs.size->a∉addrs φ->a∉addrs φ':=λa e ha hm=>by
  rw[hφ,addrs_append]at hm
  rcases List.mem_append.mp hm with hm|hm
  ·exact ha hm
  ·exact absurd (Nat.lt_of_lt_of_le e (hψ a hm)) (Nat.lt_irrefl _)
 have offW:∀ a,a∉W->a∉addrs φ->a∉W++addrs φ:=λa q1 q2 hm=>by
  rcases List.mem_append.mp hm with hm|hm
  ·exact q1 hm
  ·exact q2 hm
 refine⟨V.fk,V.kind,V.glob,V.blt,?_,V.above,?_,λy c e=>?_,V.inj,V.has,V.rinj,V.rlt,V.free,λy i v e1 e2=>?_,V.lam⟩
 ·obtain⟨m,n⟩:=V.ns
  exact off _ n.lt V.base
 ·obtain⟨m,n⟩:=V.ns
  exact⟨m,x.keep.ns n (offW _ h1 V.base)⟩
 ·obtain⟨⟨v,n⟩,a,b⟩:=V.cells y c e
  exact⟨⟨v,x.keep.cell n (offW _ (h2 y c e) a)⟩,off c n.lt a,b⟩
 ·obtain⟨rv,q,r⟩:=V.vals y i v e1 e2
  exact⟨rv,q.keep x.keep (offW _ h1 V.base) λc e=>offW _ (h2 y c e) (V.cells y c e).2.1,x.vr R r⟩
theorem EnvOK.store {a:Addr}{h':Heap}(Y:Sys B) (V:EnvOK B sc ren nx env loc φ s.heap) (R:Rep B σ φ s.heap){x:Str}{i:Nat}{v:Mine.V}{xv:Value}(hr:ren.lookup x=some i) (r:VR B.Z φ s.heap v xv) (ha:a∈ownW sc env) (sb:Heap.SameBut a s.heap h')
  (hns:∃ m,h'.Ns env.locals m) (hc:∀ y c,env.cells.lookup y=some c->∃ v,h'.IsCell c v) (hx:Holds env h' x xv) (hy:∀ y rv,y≠x->Holds env s.heap y rv->Holds env h' y rv):
  (∀ tk,StW B (ownW sc env) φ s φ {s with heap:=h',toks:=tk})/\Rep B σ φ h'/\EnvOK B sc ren nx env (loc.set i (some v)) φ h':=by
 have S:=V.safe
 have kp:Kp B.tabs [a] s.heap h':=(V.own a ha).2.2.elim (λ⟨_,n⟩=>.nsBut sb n) λ⟨_,n⟩=>.cellBut sb n
 have hs:Safe B.Z [a]:=λb hb=>S b (mS hb▸ha)
 have R':Rep B σ φ h':=R.off Y.ok kp hs λb hb=>mS hb▸(V.own a ha).1
 have vk:Vk B.Z φ s.heap φ h':=Vk.of kp hs (pre_refl ..)
 refine⟨λtk=>⟨pre_refl ..,kp.mono λb hb=>.inl (List.mem_append.mpr (.inl (mS hb▸ha))),S,rfl,id⟩,R',V.fk,V.kind,V.glob,V.blt,V.base,V.above,hns,λy c e=>⟨hc y c e,(V.cells y c e).2⟩,V.inj,V.has,V.rinj,V.rlt,λj u hj e=>?_,λy j u e1 e2=>?_,V.lam⟩
 ·have:i≠j:=by have:=V.rlt x i hr;omega
  rw[List.getElem?_set_ne this]at e;exact V.free j u hj e
 ·by_cases hyx:y=x
  ·subst hyx
   cases hr.symm.trans e1
   rw[List.getElem?_set]at e2
   simp only [if_true]at e2
   refine ifE e2 λ_ e2=>?_
   cases e2
   exact⟨xv,hx,VR_mono vk v r⟩
  ·have:i≠j:=λq=>hyx (V.rinj y x j e1 (q▸hr))
   rw[List.getElem?_set_ne this]at e2
   obtain⟨rv,q,r'⟩:=V.vals y j u e1 e2
   exact⟨rv,hy y rv hyx q,VR_mono vk u r'⟩
theorem store_ok (Y:Sys B){d:Nat}{A:Around}{Ex:Value->Shared->Prop}(K:At B d sc ren nx A env loc σ φ s){x:Str}{i:Nat}{v:Mine.V}{xv:Value}(hx:nameSlot sc ren x=some i) (r:VR B.Z φ s.heap v xv){Q:Unit->Shared->Prop}
  (k:∀ s',StW B (ownW sc env) φ s φ s'->At B d sc ren nx A env (loc.set i (some v)) σ φ s'->Q () s'):wpAny (model B.prog B.w) A (storeName env x xv) Q Ex s:=by
 have V:=K.V
 have fin:∀ {h':Heap}{tk:Nat},((∀ tk,StW B (ownW sc env) φ s φ {s with heap:=h',toks:=tk})/\Rep B σ φ h'/\EnvOK B sc ren nx env (loc.set i (some v)) φ h')->Q () {s with heap:=h',toks:=tk}:=λh=>k _ (h.1 _) ⟨K.rm,h.2.2,h.2.1⟩
 refine bindE hx λkd hk hx=>ifE hx λhkd hr=>?_
 rcases hkd with rfl|rfl
 ·have hk':env.kindOf x=some .local:=V.kindE hk (by decide)
  obtain⟨m,n⟩:=V.ns
  refine wpAny_storeName_local hk' n (λh' n' sb=>fin ?_) (by rw[V.fk];rfl)
  have kp:Kp B.tabs [env.locals] s.heap h':=.nsBut sb n
  have nin:∀ y c,env.cells.lookup y=some c->c∉[env.locals]:=λy c e q=>by
   obtain⟨⟨v,o,e1,hd⟩,_⟩:=V.cells y c e
   obtain⟨o',es,ep,e2,hd2,_⟩:=n
   rw[mS q]at e1
   cases e1.symm.trans e2
   cases hd.symm.trans hd2
  refine V.store Y K.R hr r (List.mem_cons_self ..) sb ⟨_,n'⟩ (λy c e=>(V.cells y c e).1.elim λv n=>⟨v,kp.cell n (nin y c e)⟩) (.inl ⟨hk',_,n',by simp⟩) λy rv hy q=>?_
  rcases q with⟨hky,m',n2,hm⟩|⟨hky,c,hc,hv⟩
  ·refine .inl ⟨hky,_,n',?_⟩
   simp only [hy,if_false]
   obtain⟨o1,es1,ep1,g1,d1,_,f1⟩:=n
   obtain⟨o2,es2,ep2,g2,d2,_,f2⟩:=n2
   cases g1.symm.trans g2
   cases d1.symm.trans d2
   rw[<-f1,f2];exact hm
  ·exact .inr ⟨hky,c,hc,kp.cell hv (nin y c hc)⟩
 ·have hk':env.kindOf x=some .cell:=V.kindE hk (by decide)
  obtain⟨c,hc⟩:=V.has x i hr (.inl hk')
  obtain⟨⟨v0,n⟩,a1,b1⟩:=V.cells x c hc
  have hcW:c∈ownW sc env:=List.mem_cons_of_mem _ (List.mem_filterMap.mpr ⟨(x,.cell),mem_of_lookup hk,by simp[hc]⟩)
  refine wpAny_storeName_cell V.fk hk' hc n λh' n' sb=>fin ?_
  have kp:Kp B.tabs [c] s.heap h':=.cellBut sb n
  have nl:env.locals∉[c]:=λq=>by
   obtain⟨m,o',es,ep,e2,hd2,_⟩:=V.ns
   obtain⟨o,e1,hd⟩:=n
   rw[mS q]at e2
   cases e1.symm.trans e2
   cases hd.symm.trans hd2
  have nin:∀ y c',env.cells.lookup y=some c'->y≠x->c'∉[c]:=λy c' e hy q=>hy (V.inj y x c (by rw[e,mS q]) hc)
  refine V.store Y K.R hr r hcW sb (V.ns.elim λm n=>⟨m,kp.ns n nl⟩) (λy c' e=>?_) (.inr ⟨.inl hk',c,hc,n'⟩) λy rv hy q=>q.keep kp nl λc' hc'=>nin y c' hc' hy
  by_cases hy:y=x
  ·subst hy
   cases hc.symm.trans e
   exact⟨_,n'⟩
  ·exact(V.cells y c' e).1.elim λv n=>⟨v,kp.cell n (nin y c' e hy)⟩
end
end Mine
end
section
namespace Mine
open PySem
theorem upd_size (h:Heap) (a:Addr) (f:Obj->Obj):(h.update a f).objs.size=h.objs.size:=by
 cases h;simp[Heap.update]
theorem runs_size {M:Model}{Γ:Ctx}{p:Pos}{t:Sem Fin}{fs:List Frame}{s s':Shared}{e:End}(h:Runs M Γ p t fs s e s'):s.heap.objs.size<=s'.heap.objs.size:=by
 induction h<;>(try simp only [Shared.setGen,upd_size,Heap.size_push]at *)<;>omega
theorem returns_size {M:Model}{Γ:Ctx}{p:Pos}{s s':Shared}{r:Result}(h:Returns M Γ p s r s'):s.heap.objs.size<=s'.heap.objs.size:=runs_size h
theorem wakes_size {M:Model}{Γ:Ctx}{p:Pos}{g:Nat}{r:Resume}{s s':Shared}{res:GenResult}(h:Wakes M Γ p g r s res s'):s.heap.objs.size<=s'.heap.objs.size:=by
 have same:∀ {P:Prop}{t:Shared},t.heap.objs.size=s.heap.objs.size->P/\s'=t->s.heap.objs.size<=s'.heap.objs.size:=λe h=>by rw[h.2,e];exact Nat.le_refl _
 have run:∀ {Γ':Ctx}{p':Pos}{t:Sem Fin}{fs:List Frame},(∃ e₁ s₁,Runs M Γ' p' t fs (s.setGen g .running) e₁ s₁/\e₁.quiet=true/\res=e₁.result/\s'=s₁.setGen g e₁.genState)->s.heap.objs.size<=s'.heap.objs.size:=λ⟨_,_,hr,_,_,e⟩=>by rw[e];exact(runs_size hr:(s.setGen g .running).heap.objs.size<=_)
 unfold Wakes at h
 generalize s.gens[g]?=o at h
 cases o with
 | none=>exact h.elim
 | some st=>cases st with
  | fresh c=>cases r with
   | send v=>cases v with
    | none=>exact run h
    | _=>exact same (t:=s) rfl h
   | throw x=>exact same (t:=s.setGen g .finished) rfl h
  | suspended _ _ _ _ _ _=>exact run h
  | running=>exact same (t:=s) rfl h
  | finished=>exact same (t:=s) rfl h
theorem wp_size {α:Type}(M:Model) (Γ:Ctx) (n:Nat) (t:Sem α):∀ (Q:α->Pos->Shared->Prop) (E:Value->Pos->Shared->Prop) (p:Pos) (s:Shared),n<=s.heap.objs.size->Sem.wp M Γ t Q E p s->
  Sem.wp M Γ t (λa p' s'=>n<=s'.heap.objs.size/\Q a p' s') E p s:=by
 induction t with
 | pure a=>intro Q E p s hn h;exact⟨hn,h⟩
 | raise e=>intro Q E p s hn h;exact h
 | unsupported _=>intro Q E p s _ h;exact h
 | finish _=>intro Q E p s _ h;exact h
 | rule _ k ih=>intro Q E p s hn h;exact ih () Q E p s hn h
 | «at» p' k ih=>intro Q E p s hn h;exact ih () Q E p' s hn h
 | load a _ k ih=>intro Q E p s hn h;obtain⟨o,ho,h⟩:=h;exact⟨o,ho,ih o Q E p s hn h⟩
 | update a _ f k ih=>intro Q E p s hn h;exact⟨h.1,ih () Q E p _ (by show n<=(s.heap.update a f).objs.size;rw[upd_size];exact hn) h.2⟩
 | loadIfAlive a k ih=>intro Q E p s hn h;exact ih _ Q E p s hn h
 | point _ k ih=>intro Q E p s hn h;exact ih () Q E p s hn h
 | register _ _=>intro Q E p s _ h;exact h
 | alloc o k ih=>intro Q E p s hn h;exact ih _ Q E p _ (by show n<=(s.heap.push o).objs.size;rw[Heap.size_push];omega) h
 | fresh k ih=>intro Q E p s hn h;exact ih _ Q E p _ hn h
 | ask k ih=>intro Q E p s hn h;exact ih _ Q E p s hn h
 | choose src m k ih=>intro Q E p s hn h;exact⟨h.1,ih _ Q E p _ hn h.2⟩
 | os q _ k ih=>intro Q E p s hn h;exact ih _ Q E p _ hn h
 | call c hd g l k ih=>
  intro Q E p s hn h
  obtain⟨r,s₁,hr,h⟩:=h
  exact⟨r,s₁,hr,ih r Q E p s₁ (nT hn (returns_size hr)) h⟩
 | handled own k ih=>intro Q E p s hn h;exact ih _ Q E p s hn h
 | genState g k ih=>intro Q E p s hn h;obtain⟨st,hg,h⟩:=h;exact⟨st,hg,ih _ Q E p s hn h⟩
 | newGen c k ih=>intro Q E p s hn h;exact ih _ Q E p _ hn h
 | resume g r l k ih=>
  intro Q E p s hn h
  obtain⟨res,s₁,hw,h⟩:=h
  exact⟨res,s₁,hw,ih res Q E p s₁ (nT hn (wakes_size hw)) h⟩
 | yield v g l k _=>intro Q E p s _ h;exact h
 | stack k ih=>intro Q E p s hn h;exact ih _ Q E p s hn h
 | fork c k _=>intro Q E p s _ h;exact h
 | thread k ih=>intro Q E p s hn h;exact ih _ Q E p s hn h
 | await a f d l k _=>intro Q E p s _ h;exact h
theorem wpAny_size {α:Type}{M:Model}{A:Around}{t:Sem α}{Q:α->Shared->Prop}{E:Value->Shared->Prop}{s:Shared}(h:wpAny M A t (λa s'=>s.heap.objs.size<=s'.heap.objs.size->Q a s') E s):wpAny M A t Q E s:=
 λΓ p hΓ=>Sem.wp_mono M Γ t (λ_ _ _ q=>q.2 q.1) (λ_ _ _ q=>q) p s (wp_size M Γ _ t _ _ p s (Nat.le_refl _) (h Γ p hΓ))
end Mine
end
section
namespace Mine
open PySem
noncomputable def okIt (c:String):Bool := !(["tuple","range","code","enumerate","zip","dict_itemiterator","dict_reverseitemiterator","odict_iterator","itertools.zip_longest","itertools.pairwise"].contains c)
inductive IsIt (h:Heap) (a:Addr):Prop
 | mk (o:Obj) (c:String) (g:h.get? a=some o) (hc:o.cls = .type c) (k:okIt c=true)
inductive ItR (B:Base) (φ:Phi) (h:Heap):It->Addr->List Addr->Prop
 | lst {i k:Nat}{a:Addr}{p:Addr×Addr}:φ[i]?=some p->h.IsListIter a p.1 k->ItR B φ h (.lst i k) a [a]
 | rng {a:Addr}{x left c:Int}:IsRangeIter h a x left c->ItR B φ h (.vals ((List.range left.toNat).map λ(k:Nat)=>V.int (x+k*c))) a [a]
 | txt {a:Addr}{x:Str}{t:Tok}{k:Nat}{ty:String}:(ty="str_ascii_iterator"∨ty="str_iterator")->h.IsStrIter a ty x t k->ItR B φ h (.vals ((x.cps.toList.drop k).map λc=>V.str [c])) a [a]
 | tup {a l:Addr}{items:List Value}{n:Nat}{us:List V}{k:Nat}:h.IsTupleIter a l k->h.get? l=some (tupO (List.toArray items) n)->VRs B.Z φ h us items->ItR B φ h (.vals (us.drop k)) a [a]
 | dct {i n k:Nat}{a:Addr}{p:Addr×Addr}:φ[i]?=some p->h.IsKeyIter a p.1 k n n->ItR B φ h (.dct i n k) a [a]
theorem ItR.it {B:Base}{φ:Phi}{h:Heap}{it:It}{a:Addr}{W:List Addr}(I:ItR B φ h it a W):IsIt h a/\W=[a]:=by
 cases I with
 | lst _ q=>obtain⟨o,e,hc,_⟩:=q;exact⟨⟨o,_,e,hc,by decide⟩,rfl⟩
 | rng q=>exact⟨⟨_,_,q,rfl,by decide⟩,rfl⟩
 | txt hty q=>obtain⟨o,e,hc,_⟩:=q;exact⟨⟨o,_,e,hc,by rcases hty with rfl|rfl<;>decide⟩,rfl⟩
 | tup q _ _=>obtain⟨o,e,hc,_⟩:=q;exact⟨⟨o,_,e,hc,by decide⟩,rfl⟩
 | dct _ q=>obtain⟨o,e,hc,_⟩:=q;exact⟨⟨o,_,e,hc,by decide⟩,rfl⟩
theorem okIt_no {c x:String}(h:okIt c=true) (hx:okIt x=false):c≠x:=λe=>absurd ((e▸h).symm.trans hx).symm Bool.false_ne_true
theorem IsIt.fix {h:Heap}{a:Addr}(q:IsIt h a):∃ o,h.get? a=some o/\fixO o=false:=by
 obtain⟨o,c,e,hc,k⟩:=q
 have no:∀ x,okIt x=false->(Value.type c==Value.type x)=false:=λx hx=>beq_eq_false_iff_ne.mpr λz=>okIt_no k hx (Value.type.inj z)
 refine⟨o,e,?_⟩
 unfold fixO
 rw[hc,no "tuple" (by decide),no "range" (by decide),no "code" (by decide)]
 cases o.data<;>rfl
noncomputable def itSafe (B:Base) (φ:Phi) (h:Heap) (W:List Addr):Prop:=Safe B.Z W/\∀ a∈W,a∉addrs φ/\a<h.objs.size
section
variable {B:Base}{A:Around}{Ex:Value->Shared->Prop}{σ:AH}{φ φ':Phi}{s s':Shared}
noncomputable def NoPair (o:Obj):Prop:=∀ n,o.cls = .type n->["enumerate","zip","dict_itemiterator","dict_reverseitemiterator","odict_iterator","itertools.zip_longest","itertools.pairwise"].contains n=false
theorem letGo_off {t:Expr}{a:Addr}{v:Value}{o:Obj}{Q:Unit->Shared->Prop}(ho:s.heap.get? a=some o) (hc:NoPair o) (h:Q () s):
  wpAny (model B.prog B.w) A (letOwnedTupleGo t (.ref a) v) Q Ex s:=by
 have key:wpAny (model B.prog B.w) A (letOwnedTupleGo (.List [] ⟨0,0,0,0⟩) (.ref a) v) Q Ex s:=by
  cases v with
  | ref b=>
   refine wpAny_bind (m:=load _) (wpAny_load ho ?_)
   obtain⟨c,_,d,_⟩:=o
   cases c with
   | type n=>cases d with
    | fields vs=>
     refine wp_no ?_ (wpAny_pure h)
     rw[hc n rfl]
     exact Bool.false_ne_true
    | _=>exact wpAny_pure h
   | _=>exact wpAny_pure h
  | _=>exact wpAny_pure h
 cases t with
 | Tuple _ _ _=>exact key
 | List _ _=>exact key
 | _=>exact wpAny_pure h
structure Drawn (B:Base) (σ:AH) (φ:Phi) (s:Shared) (a:Addr) (W:List Addr) (q:V×It) (xv:Value) (s':Shared):Prop where
 st:StW B W φ s φ s'
 R:Rep B σ φ s'.heap
 S:itSafe B φ s'.heap W
 r:VR B.Z φ s'.heap q.1 xv
 I:ItR B φ s'.heap q.2 a W
structure NextK (B:Base) (A:Around) (Ex:Value->Shared->Prop) (σ:AH) (φ:Phi) (s:Shared) (a:Addr) (W:List Addr) (t:Expr) (r:Option (V×It)) (Q:Option Value->Shared->Prop):Prop where
 no:r=none->∀ s1,StW B W φ s φ s1->Rep B σ φ s1.heap->Q none s1
 yes:∀ q xv s1,r=some q->wpAny (model B.prog B.w) A (letOwnedTupleGo t (.ref a) xv) (λ_ s2=>Drawn B σ φ s a W q xv s2) Ex s1->Q (some xv) s1
theorem IsIt.pair {h:Heap}{a:Addr}(q:IsIt h a):∃ o,h.get? a=some o/\NoPair o:=by
 obtain⟨o,c,e,hc,k⟩:=q
 refine⟨o,e,λn hn=>?_⟩
 cases hc.symm.trans hn
 cases hb:["enumerate","zip","dict_itemiterator","dict_reverseitemiterator","odict_iterator","itertools.zip_longest","itertools.pairwise"].contains c with
 | false=>rfl
 | true=>
  have:okIt c=false:=congrArg (!·) (List.contains_iff_mem.mpr (List.mem_append_right ["tuple","range","code"] (List.contains_iff_mem.mp hb)))
  exact absurd (k.symm.trans this).symm Bool.false_ne_true
theorem NextK.one {Q:Option Value->Shared->Prop}{a:Addr}{t:Expr}{r:Option (V×It)}{q:V×It}{it0:It}(N:NextK B A Ex σ φ s a [a] t r Q) (Y:Sys B) (I0:ItR B φ s.heap it0 a [a]) (R:Rep B σ φ s.heap) (S:itSafe B φ s.heap [a]) (e:r=some q){h':Heap}{tk:Nat}(sb:Heap.SameBut a s.heap h')
  {xv:Value}(hq:Vk B.Z φ s.heap φ h'->VR B.Z φ h' q.1 xv/\ItR B φ h' q.2 a [a]):Q (some xv) {s with heap:=h',toks:=tk}:=by
 obtain⟨o,h1,h2⟩:=I0.it.1.fix
 have kp:Kp B.tabs [a] s.heap h':=.sameBut sb (List.mem_singleton.mpr rfl) h1 h2
 have g:=hq (Vk.of kp S.1 (pre_refl ..))
 obtain⟨o',h3,h4⟩:=g.2.it.1.pair
 exact N.yes q xv _ e (letGo_off h3 h4 ⟨⟨pre_refl ..,kp.mono (λb hb=>.inl (List.mem_append.mpr (.inl hb))),S.1,rfl,id⟩,R.off Y.ok kp S.1 λb hb=>(S.2 b hb).1,⟨S.1,λb hb=>⟨(S.2 b hb).1,Nat.lt_of_lt_of_le (S.2 b hb).2 kp.size⟩⟩,g.1,g.2⟩)
theorem NextK.stop {Q:Option Value->Shared->Prop}{a:Addr}{t:Expr}{r:Option (V×It)}{it0:It}(N:NextK B A Ex σ φ s a [a] t r Q) (Y:Sys B) (I0:ItR B φ s.heap it0 a [a]) (R:Rep B σ φ s.heap) (S:itSafe B φ s.heap [a]) (e:r=none){h':Heap}(x:Heap.ExtBut a s.heap h') (hs:s.heap.objs.size<=h'.objs.size):Q none {s with heap:=h'}:=by
 obtain⟨o,h1,h2⟩:=I0.it.1.fix
 have kp:Kp B.tabs [a] s.heap h':=.extBut x (List.mem_singleton.mpr rfl) h1 h2 hs
 exact N.no e _ ⟨pre_refl ..,kp.mono (λb hb=>.inl (List.mem_append.mpr (.inl hb))),S.1,rfl,id⟩ (R.off Y.ok kp S.1 λb hb=>(S.2 b hb).1)
theorem vals_cons {vs vs':List V}{v:V}{r:Option (V×It)}(e:nextOf (.vals vs) σ=some r) (hc:vs=v::vs'):r=some (v,.vals vs'):=by subst hc;exact(oJ e).symm
theorem vals_nil {vs:List V}{r:Option (V×It)}(e:nextOf (.vals vs) σ=some r) (hc:vs=[]):r=none:=by subst hc;exact(oJ e).symm
variable {Q:Option Value->Shared->Prop}{t:Expr}{r:Option (V×It)}
theorem rng_cons (x c:Int) (n:Nat):((List.range (n+1)).map λ(k:Nat)=>V.int (x+k*c))=V.int x::(List.range n).map λ(k:Nat)=>V.int (x+c+k*c):=by
 rw[List.range_succ_eq_map,List.map_cons,List.map_map]
 exact congr (congrArg _ (congrArg V.int (by rw[Int.natCast_zero,Int.zero_mul,Int.add_zero]))) (List.map_congr_left λk _=>congrArg V.int (show x+((k:Int)+1)*c=_ by rw[Int.add_mul,Int.one_mul,Int.add_comm (k*c),Int.add_assoc]))
theorem next_rng (Y:Sys B){a:Addr}{x left c:Int}(hh:A.handled=none) (hit:IsRangeIter s.heap a x left c) (e:nextOf (.vals ((List.range left.toNat).map λ(k:Nat)=>V.int (x+k*c))) σ=some r) (S:itSafe B φ s.heap [a]) (R:Rep B σ φ s.heap) (N:NextK B A Ex σ φ s a [a] t r Q):wpAny (model B.prog B.w) A (pyNext (.ref a)) Q Ex s:=by
 cases left with
 | ofNat n=>cases n with
  | zero=>exact wpAny_size (wpAny_pyNext_range_end hh hit (Int.le_refl 0) λh' ext hs=>N.stop Y (.rng hit) R S (vals_nil e rfl) ext hs)
  | succ n=>exact wpAny_pyNext_range_item hit (Int.natCast_pos.mpr (Nat.succ_pos n)) λh' hit' sb=>N.one Y (.rng hit) R S (vals_cons e (rng_cons x c n)) sb λvk=>⟨vr_int _ _,by
    have q:((n+1:Nat):Int)-1=(n:Int):=Int.add_sub_cancel (n:Int) 1
    have hit':IsRangeIter h' a (x+c) (n:Int) c:=q▸hit'
    exact .rng hit'⟩
 | negSucc n=>exact wpAny_size (wpAny_pyNext_range_end hh hit (Int.le_of_lt (Int.negSucc_lt_zero n)) λh' ext hs=>N.stop Y (.rng hit) R S (vals_nil e rfl) ext hs)
theorem next_txt (Y:Sys B){a:Addr}{x:Str}{tk:Tok}{k:Nat}{ty:String}(hh:A.handled=none) (hty:ty="str_ascii_iterator"∨ty="str_iterator") (hit:s.heap.IsStrIter a ty x tk k) (e:nextOf (.vals ((x.cps.toList.drop k).map λc=>V.str [c])) σ=some r) (S:itSafe B φ s.heap [a]) (R:Rep B σ φ s.heap) (N:NextK B A Ex σ φ s a [a] t r Q):wpAny (model B.prog B.w) A (pyNext (.ref a)) Q Ex s:=by
 cases hk:x.cps[k]? with
 | some c=>
  have hc:(x.cps.toList.drop k).map (λc=>V.str [c])=V.str [c]::((x.cps.toList.drop (k+1)).map λc=>V.str [c]):=by
   have hk':x.cps.toList[k]?=some c:=by rw[Array.getElem?_toList];exact hk
   obtain⟨hlt,hcc⟩:=List.getElem?_eq_some_iff.mp hk'
   rw[List.drop_eq_getElem_cons hlt,List.map_cons,hcc]
  have fin:∀ h',h'.IsStrIter a ty x tk (k+1)->Heap.SameBut a s.heap h'->Q (some (.str ⟨#[c]⟩ s.toks)) {s with heap:=h',toks:=s.toks+1}:=λh' hit' sb=>
   N.one Y (.txt hty hit) R S (vals_cons e hc) sb λvk=>⟨vr_str [c] _,.txt hty hit'⟩
  rcases hty with rfl|rfl
  ·exact wpAny_pyNext_ascii_item hit hk fin
  ·exact wpAny_pyNext_wide_item hit hk fin
 | none=>
  have fin:∀ h',Heap.ExtBut a s.heap h'->s.heap.objs.size<=h'.objs.size->Q none {s with heap:=h'}:=λh' ext hs=>N.stop Y (.txt hty hit) R S (vals_nil e (by rw[List.drop_eq_nil_of_le (by simpa using Array.getElem?_eq_none_iff.mp hk)];rfl)) ext hs
  rcases hty with rfl|rfl
  ·exact wpAny_size (wpAny_pyNext_ascii_end hh hit hk fin)
  ·exact wpAny_size (wpAny_pyNext_wide_end hh hit hk fin)
theorem toA_get {xs:List Value}{k:Nat}{x:Option Value}(h:xs[k]?=x):xs.toArray[k]?=x:=by rw[List.getElem?_toArray];exact h
theorem VRs_none {N:Zone}{h:Heap}{vs:List V}{xs:List Value}{k:Nat}(r:VRs N φ h vs xs) (e:vs[k]?=none):xs[k]?=none:=by rw[List.getElem?_eq_none_iff]at e ⊢;rw[<-VRs_length r];exact e
theorem kx_vr {k:Kx}{x:Value}{N:Zone}{h:Heap}(e:(kxKind B.prog B.w).is k x=true):VR N φ h (ofKx k) x:=by
 rcases kx_shape e with⟨i,t,rfl,rfl⟩|⟨c,t,rfl,rfl⟩
 ·exact vr_int i t
 ·exact vr_str c t
theorem list_at (R:Rep B σ φ s.heap){i:Nat}{p:Addr×Addr}{vs:List V}(hp:φ[i]?=some p) (e:lstAt (.obj i) σ=some vs){G:Prop}(k:∀ xs n,p.2=p.1->s.heap.get? p.1=some (lstO (List.toArray xs) n)->VRs B.Z φ s.heap vs xs->vs.length<=LIM->G):G:=
 bindE (show(σ[i]?).bind asL=some vs from e) λo h2 e=>by
  have q:=R.rel _ _ _ h2 hp
  exact lE e q k
theorem next_ok (Y:Sys B){it:It}{a:Addr}{W:List Addr}(hh:A.handled=none) (e:nextOf it σ=some r) (I:ItR B φ s.heap it a W) (S:itSafe B φ s.heap W) (R:Rep B σ φ s.heap) (N:NextK B A Ex σ φ s a W t r Q):
  wpAny (model B.prog B.w) A (pyNext (.ref a)) Q Ex s:=by
 have I0:=I
 cases I with
 | @lst i k a p hp hit=>
  refine bindE e λvs h1 e=>list_at R hp h1 λxs n _ l1 r1 _=>?_
  cases hv:vs[k]? with
  | some v=>
   rw[hv]at e
   obtain⟨x,hx,rx⟩:=VRs_get r1 hv
   exact wpAny_pyNext_list_item hit (items:=xs.toArray) ⟨_,l1,rfl,n,rfl⟩ (toA_get hx) λh' hit' sb=>N.one Y I0 R S (oJ e).symm sb λvk=>⟨VR_mono vk v rx,.lst hp hit'⟩
  | none=>
   rw[hv]at e
   exact wpAny_size (wpAny_pyNext_list_end hh hit (items:=xs.toArray) ⟨_,l1,rfl,n,rfl⟩ (toA_get (VRs_none r1 hv)) λh' ext hs=>N.stop Y I0 R S (oJ e).symm ext hs)
 | rng hit=>exact next_rng Y hh hit e S R N
 | txt hty hit=>exact next_txt Y hh hty hit e S R N
 | @tup a l items n us k hit hl rs=>
  cases hv:us[k]? with
  | some v=>
   obtain⟨x,hx,rx⟩:=VRs_get rs hv
   obtain⟨hlt,hv'⟩:=List.getElem?_eq_some_iff.mp hv
   exact wpAny_pyNext_tuple_item hit (items:=items.toArray) ⟨_,hl,rfl,n,rfl⟩ (toA_get hx) λh' hit' sb=>N.one Y I0 R S (vals_cons e (by rw[List.drop_eq_getElem_cons hlt,hv'])) sb λvk=>⟨VR_mono vk v rx,.tup hit' (vk.fix _ _ rfl hl) (VRs_mono vk us rs)⟩
  | none=>
   exact wpAny_size (wpAny_pyNext_tuple_end hh hit (items:=items.toArray) ⟨_,hl,rfl,n,rfl⟩ (toA_get (VRs_none rs hv)) λh' ext hs=>N.stop Y I0 R S (vals_nil e (List.drop_eq_nil_of_le (List.getElem?_eq_none_iff.mp hv))) ext hs)
 | @dct i n k a p hp hit=>
  refine bindE (show((σ[i]?).bind asD).bind _=some r from e) λkvs h1 e=>bindE h1 λo h2 h3=>ifE e λhn e=>?_
  have q:=R.rel _ _ _ h2 hp
  subst hn
  refine dE h3 q λps _ D=>?_
  have hl:ps.length=kvs.length:=by rw[<-List.length_map (f:=λq:Kx×Value=>q.1),D.ks,List.length_map]
  have hit':s.heap.IsKeyIter a p.1 k ps.length kvs.length:=hl.symm▸hit
  have gk:ps[k]?.map (·.1)=kvs[k]?.map (·.1):=by rw[<-List.getElem?_map,D.ks,List.getElem?_map]
  cases hv:kvs[k]? with
  | some q=>
   rw[hv]at e gk
   obtain⟨⟨x,y⟩,h4,h5⟩:=Option.map_eq_some_iff.mp gk
   cases (show x=q.1 from h5)
   exact wpAny_pyNext_dict_item hit' D.d h4 λkey h' hk hit2 sb=>N.one Y I0 R S (oJ e).symm sb λvk=>⟨kx_vr hk,.dct hp (hl▸hit2)⟩
  | none=>
   rw[hv]at e gk
   exact wpAny_size (wpAny_pyNext_dict_end hh hit' D.d (Option.map_eq_none_iff.mp gk) λh' ext hs=>N.stop Y I0 R S (oJ e).symm ext hs)
structure Fresh (B:Base) (φ:Phi) (s:Shared) (it:It) (a:Addr) (s1:Shared):Prop where
 kp:Kp B.tabs [] s.heap s1.heap
 os:s1.os=s.os
 gens:s1.gens=s.gens
 ge:s.heap.objs.size<=a
 I:ItR B φ s1.heap it a [a]
 S:itSafe B φ s1.heap [a]
noncomputable def Fresh1 (B:Base) (φ:Phi) (s:Shared) (it:It) (x:Value) (s1:Shared):Prop:=∃ a,x = .ref a/\Fresh B φ s it a s1
theorem fresh_one (R:Rep B σ φ s.heap){it:It}{c:String}{vs:Array Value}(I:ItR B φ (s.heap.push {cls:=.type c,data:=.fields vs}) it s.heap.objs.size [s.heap.objs.size]):Fresh1 B φ s it (.ref s.heap.objs.size) {s with heap:=s.heap.push {cls:=.type c,data:=.fields vs}}:=by
 refine⟨_,rfl,.push ..,rfl,rfl,Nat.le_refl _,I,λa ha=>mS ha▸R.stat.size,λa ha=>?_⟩
 cases mS ha
 exact⟨λhm=>absurd (R.lt hm) (Nat.lt_irrefl _),by show _<(s.heap.push _).objs.size;rw[Heap.size_push];exact Nat.lt_succ_self _⟩
theorem lim_int {a:Int}(h:a.natAbs<=LIM) : -(2 ^ 62)<=a/\a<2 ^ 62:=by simp only [LIM]at h;omega
theorem iter_ok (Y:Sys B){v:V}{it:It}{x:Value}(e:iterOf v σ=some it) (R:Rep B σ φ s.heap) (r:VR B.Z φ s.heap v x):wpAny (model B.prog B.w) A (pyIter x) (Fresh1 B φ s it) Ex s:=by
 cases v with
 | obj i=>
  refine vObj (P:=λx=>wpAny _ _ (pyIter x) _ Ex s) (a:=.obj i) rfl r λp hp=>?_
  unfold iterOf at e
  cases hd:dictAt (.obj i) σ with
  | some kvs=>
   simp only [hd]at e
   refine bindE hd λj hj h1=>bindE h1 λo h2 h3=>?_
   obtain rfl:=oJ hj
   have q:=R.rel _ _ _ h2 hp
   refine dE h3 q λps _ D=>?_
   have hl:ps.length=kvs.length:=by rw[<-List.length_map (f:=λq:Kx×Value=>q.1),D.ks,List.length_map]
   have hne:(p.1==sysModules)=false:=beq_eq_false_iff_ne.mpr λz=>absurd (R.above _ (R.mem hp).1) (by rw[z];exact Nat.not_le.mpr Y.ok.sml)
   exact someE (P:=λit=>wpAny _ _ (pyIter _) (Fresh1 B φ s it) Ex s) e (wpAny_pyIter_dict hne D.d (fresh_one R (hl ▸ .dct hp ⟨_,Heap.get?_push_size _ rfl,rfl,by rw[hl];rfl⟩)))
  | none=>
   simp only [hd]at e
   exact bindE e λvs h1 e=>list_at R hp h1 λxs n _ g _ _=>someE (P:=λit=>wpAny _ _ (pyIter _) (Fresh1 B φ s it) Ex s) e (wpAny_pyIter_list (items:=xs.toArray) ⟨_,g,rfl,n,rfl⟩ (fresh_one R (.lst hp ⟨_,Heap.get?_push_size _ rfl,rfl,rfl⟩)))
 | tup us=>exact vTup (P:=λx=>wpAny _ _ (pyIter x) _ Ex s) (a:=.tup us) rfl r λl xs n g r1=>someE (P:=λit=>wpAny _ _ (pyIter _) (Fresh1 B φ s it) Ex s) e (wpAny_pyIter_tuple (items:=xs.toArray) ⟨_,g,rfl,n,rfl⟩
   (fresh_one R (.tup (us:=us) (k:=0) ⟨_,Heap.get?_push_size _ rfl,rfl,rfl⟩ (Heap.get?_push_of_some _ g) (VRs_mono (Vk.of (tabs:=B.tabs) (Kp.push B.tabs [] s.heap _) (Safe.nil B.Z) (pre_refl ..)) _ r1))))
 | str z=>
  refine vStr (P:=λx=>wpAny _ _ (pyIter x) _ Ex s) (a:=.str z) rfl r λt=>someE (P:=λit=>wpAny _ _ (pyIter _) (Fresh1 B φ s it) Ex s) e ?_
  cases ha:(⟨z.toArray⟩:Str).cps.all (· < 128)with
  | true=>exact wpAny_pyIter_ascii ha (fresh_one R (.txt (x:=⟨z.toArray⟩) (k:=0) (.inl rfl) ⟨_,Heap.get?_push_size _ rfl,rfl,rfl⟩))
  | false=>exact wpAny_pyIter_wide ha (fresh_one R (.txt (x:=⟨z.toArray⟩) (k:=0) (.inr rfl) ⟨_,Heap.get?_push_size _ rfl,rfl,rfl⟩))
 | rng a b c=>
  refine ifE e λhg e2=>?_
  unfold VR at r
  obtain⟨x,t,u,y,rfl,hr⟩:=r
  obtain⟨ga,gb,hc⟩:=hg
  have sm:Builtin.Range.small a b c=true/\Builtin.Range.rangeSize a b c=((if c=1 then b-a else a-b).toNat:Int):=by
   rcases hc with rfl|rfl
   ·exact⟨PySem.small_one (lim_int ga).1 (lim_int ga).2 (lim_int gb).1 (lim_int gb).2,PyProof.Rows.rangeSize_nat a b⟩
   ·exact⟨PySem.W.small_down (lim_int ga).1 (lim_int ga).2 (lim_int gb).1 (lim_int gb).2,PySem.W.rangeSize_downNat a b⟩
  refine someE (P:=λit=>wpAny _ _ (pyIter _) (Fresh1 B φ s it) Ex s) e2 (wpAny_pyIter_range hr sm.1 ?_)
  rw[sm.2]
  exact fresh_one R (.rng (left:=(((if c=1 then b-a else a-b).toNat:Nat):Int)) (Heap.get?_push_size _ rfl))
 | _=>exact noneE e
end
end Mine
end
section
namespace Mine
open PySem
section
variable {B:Base}{C:Oracle}{d:Nat}{A:Around}{Ex:Value->Shared->Prop}{σ σ':AH}{φ φ':Phi}{s s':Shared}{sc:Scope}{ren:Ren}{nx:Nat}{env:Env}{loc loc':Loc}
structure Unp (B:Base) (φ:Phi) (s:Shared) (us:List V) (n:Nat) (xs:List Value) (s1:Shared):Prop where
 st:St B φ s φ s1
 kp:Kp B.tabs [] s.heap s1.heap
 len:us.length=n
 rs:VRs B.Z φ s1.heap us xs
theorem unpack_fin {us:List V}{n:Nat}{xs:List Value}{h':Heap}(ext:Heap.ExtBut s.heap.objs.size s.heap h') (hs:s.heap.objs.size<=h'.objs.size) (hn:us.length=n) (q:VRs B.Z φ s.heap us xs):Unp B φ s us n xs {s with heap:=h'}:=
 have kp:Kp B.tabs [] s.heap h':=.keeps (λb o e=>ext b o (Nat.ne_of_lt (Heap.lt_size e)) e) hs
 ⟨St.of_kp kp rfl rfl,kp,hn,VRs_mono (Vk.of kp (Safe.nil B.Z) (pre_refl ..)) _ q⟩
theorem unpack_ok (hh:A.handled=none){v:V}{n:Nat}{us:List V}{x:Value}(e:unpackV v n σ=some us) (R:Rep B σ φ s.heap) (r:VR B.Z φ s.heap v x):
  wpAny (model B.prog B.w) A (unpackItems x n none) (Unp B φ s us n) Ex s:=by
 cases v with
 | tup vs=>
  refine ifE e λhn e=>?_
  cases e
  refine vTup (P:=λx=>wpAny _ _ (unpackItems x n none) _ Ex s) (a:=.tup us) rfl r λl xs k g r1=>?_
  have hl:n=xs.toArray.size:=hn.symm.trans (VRs_length r1)
  rw[hl]
  exact wpAny_size (wpAny_unpackItems_tuple hh (items:=xs.toArray) ⟨_,g,rfl,k,rfl⟩ λh' ext hs=>unpack_fin ext hs (hn.trans hl) r1)
 | _=>exact noneE e
theorem eName_eq {e:Expr}{x:Str×Pos}(h:eName e=some x):e = .Name x.1 x.2:=by
 cases e with
 | Name y p=>exact someE (P:=λx:Str×Pos=>Expr.Name y p = .Name x.1 x.2) h rfl
 | _=>exact noneE h
theorem eTup_eq {e:Expr}{x:List Expr×Nat×Pos}(h:eTup e=some x):e = .Tuple x.1 x.2.1 x.2.2:=by
 cases e with
 | Tuple y k p=>exact someE (P:=λx:List Expr×Nat×Pos=>Expr.Tuple y k p = .Tuple x.1 x.2.1 x.2.2) h rfl
 | _=>exact noneE h
theorem eSub_eq {e:Expr}{x:Expr×Expr×Pos}(h:eSub e=some x):e = .Subscript x.1 x.2.1 x.2.2:=by
 cases e with
 | Subscript y k p=>exact someE (P:=λx:Expr×Expr×Pos=>Expr.Subscript y k p = .Subscript x.1 x.2.1 x.2.2) h rfl
 | _=>exact noneE h
theorem nameSlots_false:∀ {es:List Expr}{is:List Nat},nameSlots sc ren es=some is->(∀ x∈assignEach es env,x.1=false)/\(assignEach es env).length=is.length
 | [],is,h=>by obtain rfl:=oJ h;exact⟨nofun,rfl⟩
 | e::es,is,h=>bindE h λx h1 h=>bindE h λi h2 h=>bindE h λis' h3 h=>by
  obtain rfl:=oJ h
  rw[eName_eq h1]
  obtain⟨a,b⟩:=nameSlots_false h3
  exact⟨λy hy=>(mC hy).elim (λe=>e▸rfl) (a y),congrArg Nat.succ b⟩
theorem nameSlots_ok (Y:Sys B):∀ {es:List Expr}{is:List Nat},nameSlots sc ren es=some is->∀ {vs:List V}{xs:List Value}{loc:Loc}{s:Shared},vs.length=is.length->VRs B.Z φ s.heap vs xs->At B d sc ren nx A env loc σ φ s->
  ∀ {Q:Unit->Shared->Prop},(∀ s',StW B (ownW sc env) φ s φ s'->At B d sc ren nx A env (setAll is vs loc) σ φ s'->Q () s')->wpAny (model B.prog B.w) A (assignInOrder ((assignEach es env).map (·.2)) xs) Q Ex s
 | [],is,h,vs,xs,loc,s,hl,r,K,_,k=>by
  cases h
  cases List.eq_nil_of_length_eq_zero hl
  exact wpAny_pure (k s (StW.refl _ _ _ K.V.safe) K)
 | e::es,is,h,vs,xs,loc,s,hl,r,K,_,k=>bindE h λx h1 h=>bindE h λi h2 h=>bindE h λis' h3 h=>by
  cases h
  rw[eName_eq h1]
  cases vs with
  | nil=>cases hl
  | cons v vs=>
   cases xs with
   | nil=>unfold VRs at r;exact r.elim
   | cons xv xs=>
    unfold VRs at r
    show wpAny _ _ (do holding xs (assign (.Name x.1 x.2) env xv);assignInOrder ((assignEach es env).map (·.2)) xs) _ _ _
    exact wpAny_bind (wpAny_holding (wpAny_assign_Name (store_ok Y K h2 r.1 λs1 st1 K1=>nameSlots_ok Y h3 (Nat.succ.inj hl) (st1.vrs K.R r.2) K1 λs2 st2 K2=>k s2 (st1.trans st2) K2)))
theorem tgt_ok (Y:Sys B){t:Expr}{t':Tgt}{v:V}{x:Value}(ht:trTgt sc ren t=some t') (e:assignT t' v loc σ=some loc') (K:At B d sc ren nx A env loc σ φ s) (r:VR B.Z φ s.heap v x){Q:Unit->Shared->Prop}
  (k:∀ s',StW B (ownW sc env) φ s φ s'->At B d sc ren nx A env loc' σ φ s'->Q () s'):wpAny (model B.prog B.w) A (assign t env x) Q Ex s:=by
 unfold trTgt at ht
 cases hn:eName t with
 | some y=>
  rw[hn]at ht
  refine bindE ht λi hi ht=>?_
  obtain rfl:=oJ ht
  obtain rfl:=oJ e
  rw[eName_eq hn]
  exact wpAny_assign_Name (store_ok Y K hi r k)
 | none=>
  rw[hn]at ht
  refine bindE ht λw hw ht=>bindE ht λis his ht=>ifE ht λ_ ht=>?_
  obtain rfl:=oJ ht
  refine bindE e λus hu e=>?_
  obtain rfl:=oJ e
  rw[eTup_eq hw]
  show wpAny _ _ (do standAt _;unpack x (assignEach w.1 env)) _ _ _
  refine wpAny_bind (wpAny_standAt ?_)
  unfold unpack
  obtain⟨f1,f2⟩:=nameSlots_false (env:=env) his
  rw[List.findIdx?_eq_none_iff.mpr λx hx=>by rw[f1 x hx],f2]
  exact wpAny_bind (wpAny_holding (wpAny_mono (unpack_ok (Ex:=Ex) K.rm.handled hu K.R r) (λxs s1 h1=>nameSlots_ok Y his h1.len h1.rs (K.step h1.st (K.R.grow Y.ok h1.kp)) λs2 st2 K2=>k s2 ((StW.of h1.st K.V.safe).trans st2) K2) λ_ _ q=>q))
theorem ifs_off:∀ l:List Expr,forIn (m:=Sem) l false (λc r=>if r=true then do let ok <-isTrue c env (eval c env);pure (ForInStep.yield ok)else pure (ForInStep.yield r))=pure false
 | []=>rfl
 | x::l=>by rw[List.forIn_cons];exact ifs_off l
theorem ifs_ok':∀ {es:List Expr}{es':List Mine.E},Snd2 B C d sc ren nx es es'->∀ {b:Bool×AH}{σ:AH}{φ:Phi}{s:Shared},evIfs C es' loc σ=some b->At B d sc ren nx A env loc σ φ s->
  wpAny (model B.prog B.w) A (forIn es true λc r=>if r=true then do let ok <-isTrue c env (eval c env);pure (ForInStep.yield ok)else pure (ForInStep.yield r)) (ResB B φ s b.2 b.1) Ex s:=by
 intro es es' q
 induction q with
 | nil=>intro b σ φ s h K;obtain rfl:=oJ h;exact wpAny_pure ⟨φ,St.refl ..,K.R,rfl⟩
 | @cons e e' es es' q1 q2 ih=>
  intro b σ φ s h K
  refine bindE h λp h1 h=>bindE h λt ht h=>?_
  rw[List.forIn_cons]
  refine wpAny_bind (wpAny_bind (q1.test h1 ht K λφ1 s1 st1 K1=>wpAny_pure ?_))
  cases t with
  | false=>
   obtain rfl:=oJ (show some (false,p.2)=some b from h)
   show wpAny _ _ (forIn (m:=Sem) es false (λc r=>if r=true then do let ok <-isTrue c env (eval c env);pure (ForInStep.yield ok)else pure (ForInStep.yield r))) _ _ _
   rw[ifs_off]
   exact wpAny_pure ⟨φ1,st1,K1.R,rfl⟩
  | true=>exact wp_afterB st1 (ih h K1)
end
end Mine
end
section
namespace Mine
open PySem
section
variable {B:Base}{C:Oracle}{d:Nat}{A:Around}{Ex:Value->Shared->Prop}{W W' W1:List Addr}{σ σ':AH}{φ φ' φ'':Phi}{s s' s'':Shared}{sc:Scope}{ren:Ren}{nx:Nat}{env:Env}{loc loc':Loc}
theorem StW.seq (x:StW B W φ s φ' s') (y:StW B W' φ' s' φ'' s'') (h:∀ b∈W',b∈W∨s.heap.objs.size<=b):StW B W φ s φ'' s'':=by
 obtain⟨ψ,rfl,h1⟩:=x.pre
 obtain⟨ψ',rfl,h2⟩:=y.pre
 refine⟨⟨ψ++ψ',by simp,λa ha=>?_⟩,x.keep.trans' y.keep λb hb=>?_,x.safe,y.os.trans x.os,λq=>y.gens (x.gens q)⟩
 ·rw[addrs_append]at ha
  rcases List.mem_append.mp ha with ha|ha
  ·exact h1 a ha
  ·exact nT x.keep.size (h2 a ha)
 ·rcases List.mem_append.mp hb with hb|hb
  ·rcases h b hb with q|q
   ·exact .inl (List.mem_append.mpr (.inl q))
   ·exact .inr q
  ·rw[addrs_append]at hb
   rcases List.mem_append.mp hb with hb|hb
   ·exact .inl (List.mem_append.mpr (.inr hb))
   ·exact .inr (h1 b hb)
theorem StW.size (x:StW B W φ s φ' s'):s.heap.objs.size<=s'.heap.objs.size:=x.keep.size
theorem StW.offφ (x:StW B W φ s φ' s'){a:Addr}(h1:a∉addrs φ) (h2:a<s.heap.objs.size):a∉addrs φ':=λhm=>by
 obtain⟨ψ,rfl,hψ⟩:=x.pre
 rw[addrs_append]at hm
 rcases List.mem_append.mp hm with hm|hm
 ·exact h1 hm
 ·exact absurd (Nat.lt_of_lt_of_le h2 (hψ a hm)) (Nat.lt_irrefl _)
theorem StW.same (x:StW B W φ s φ' s'){a:Addr}{o:Obj}(e:s.heap.get? a=some o) (hc:o.cls ≠ .none) (h1:a∉W) (h2:a∉addrs φ):s'.heap.get? a=some o:=
 x.keep.get e (λhm=>by rcases List.mem_append.mp hm with hm|hm;exact h1 hm;exact h2 hm) hc
theorem ItR.at' {h h':Heap}{it:It}{a:Addr}(I:ItR B φ h it a W) (vk:Vk B.Z φ h φ' h') (k:∀ o,h.get? a=some o->h'.get? a=some o):ItR B φ' h' it a W:=by
 cases I with
 | lst hp q=>obtain⟨o,e,r⟩:=q;exact .lst (vk.pre _ _ hp) ⟨o,k _ e,r⟩
 | rng q=>exact .rng (k _ q)
 | txt hty q=>obtain⟨o,e,r⟩:=q;exact .txt hty ⟨o,k _ e,r⟩
 | tup q hl rs=>obtain⟨o,e,r⟩:=q;exact .tup ⟨o,k _ e,r⟩ (vk.fix _ _ rfl hl) (VRs_mono vk _ rs)
 | dct hp q=>obtain⟨o,e,r⟩:=q;exact .dct (vk.pre _ _ hp) ⟨o,k _ e,r⟩
theorem it_keep (R:Rep B σ φ s.heap){it:It}{a:Addr}(I:ItR B φ s.heap it a W) (S:itSafe B φ s.heap W) (x:StW B W1 φ s φ' s') (hd:∀ b∈W,b∉W1):ItR B φ' s'.heap it a W/\itSafe B φ' s'.heap W:=by
 obtain⟨⟨o,c,e,hc,_⟩,rfl⟩:=I.it
 have m:a∈[a]:=List.mem_singleton.mpr rfl
 refine⟨I.at' (x.vk R) λo' e'=>?_,S.1,λb hb=>⟨x.offφ (S.2 b hb).1 (S.2 b hb).2,Nat.lt_of_lt_of_le (S.2 b hb).2 x.size⟩⟩
 obtain rfl:=oJ (e.symm.trans e')
 exact x.same e (by rw[hc];exact nofun) (hd a m) (S.2 a m).1
theorem iterSelf_ok {it:It}{a:Addr}{Q:Value->Shared->Prop}(I:ItR B φ s.heap it a W) (h:Q (.ref a) s):wpAny (model B.prog B.w) A (pyIter (.ref a)) Q Ex s:=by
 cases I with
 | lst _ q=>exact wpAny_pyIter_listiter q h
 | rng q=>exact wpAny_pyIter_rangeiter q h
 | txt hty q=>
  rcases hty with rfl|rfl
  ·exact wpAny_pyIter_striter_ascii q h
  ·exact wpAny_pyIter_striter_wide q h
 | tup q=>exact wpAny_pyIter_tupleiter q h
 | dct _ q=>exact wpAny_pyIter_keyiter q h
theorem EnvOK.weaken {h:Heap}(V:EnvOK B sc ren nx env loc φ h) (hw:∀ (i:Nat) (v:Mine.V),loc'[i]?=some (some v)->loc[i]?=some (some v)):EnvOK B sc ren nx env loc' φ h:=
 ⟨V.fk,V.kind,V.glob,V.blt,V.base,V.above,V.ns,V.cells,V.inj,V.has,V.rinj,V.rlt,λi v hi e=>V.free i v hi (hw i v e),λx i v e1 e2=>V.vals x i v e1 (hw i v e2),V.lam⟩
theorem setAll_get {is:List Nat}:∀ {vs:List V}{loc:Loc}{i:Nat}{v:V},i∉is->loc[i]?=some (some v)->(setAll is vs loc)[i]?=some (some v):=by
 induction is with
 | nil=>intro vs loc i v _ e;cases vs<;>exact e
 | cons j is ih=>
  intro vs loc i v hi e
  cases vs with
  | nil=>exact e
  | cons u vs=>
   refine ih (λh=>hi (List.mem_cons_of_mem _ h)) ?_
   rw[List.getElem?_set_ne (λq=>hi (by rw[q];exact List.mem_cons_self ..))]
   exact e
theorem unset_keep {t:Tgt}{v:V}(hu:unsetT t loc=true) (e:assignT t v loc σ=some loc'):∀ (i:Nat) (u:V),loc[i]?=some (some u)->loc'[i]?=some (some u):=by
 intro i u h
 have ni:i∉tgtSlots t:=λhm=>by
  have:=List.all_eq_true.mp hu i hm
  simp[h]at this
 cases t with
 | var j=>
  obtain rfl:=oJ e
  rw[List.getElem?_set_ne (λq=>ni (by simp[tgtSlots,q]))]
  exact h
 | vars is=>
  refine bindE e λus _ e=>?_
  obtain rfl:=oJ e
  exact setAll_get ni h
structure AccOK (B:Base) (kd:Option Nat) (D:Addr) (acc:List V) (φ:Phi) (h:Heap):Prop where
 is:kd=none->(∃ items n,h.get? D=some (lstO (List.toArray items) n)/\VRs B.Z φ h acc items)/\D∉addrs φ
 dct:∀ j,kd=some j->∃ p,φ[j]?=some p/\p.1=D
 low:B.N<=D
 lt:D<h.objs.size
theorem AccOK.step {kd:Option Nat}{D:Addr}{acc:List V}(x:AccOK B kd D acc φ s.heap) (R:Rep B σ φ s.heap) (y:StW B W φ s φ' s') (hD:D∉W):AccOK B kd D acc φ' s'.heap:=
 ⟨λhk=>have⟨⟨items,n,e,r⟩,f⟩:=x.is hk;⟨⟨items,n,y.same e nofun hD f,y.vrs R r⟩,y.offφ f x.lt⟩,λj hj=>have⟨p,e,h⟩:=x.dct j hj;⟨p,y.get _ _ e,h⟩,x.low,Nat.lt_of_lt_of_le x.lt y.size⟩
theorem AccOK.safe {kd:Option Nat}{D:Addr}{acc:List V}{h:Heap}(x:AccOK B kd D acc φ h):Safe B.Z [D]:=λa ha=>mS ha▸x.low
structure Off (W:List Addr) (env:Env) (D:Addr):Prop where
 list:D∉W
 locals:env.locals∉W
 cells:∀ y c,env.cells.lookup y=some c->c∉W
theorem Off.own {D:Addr}(x:Off W env D):∀ b∈W,b∉ownW sc env:=λb hb hm=>by
 rcases mC hm with rfl|hm
 ·exact x.locals hb
 ·obtain⟨y,_,hy⟩:=List.mem_filterMap.mp hm
  exact ifE hy λ_ hy=>x.cells _ _ hy hb
structure OffD (env:Env) (D:Addr):Prop where
 locals:env.locals≠D
 cells:∀ y c,env.cells.lookup y=some c->c≠D
theorem OffD.own {D:Addr}(x:OffD env D):D∉ownW sc env:=λhm=>by
 rcases mC hm with h|hm
 ·exact x.locals h.symm
 ·obtain⟨y,_,hy⟩:=List.mem_filterMap.mp hm
  exact ifE hy λ_ hy=>x.cells _ _ hy rfl
theorem Safe.append {N:Zone}(x:Safe N W) (y:Safe N W'):Safe N (W++W'):=λa ha=>(List.mem_append.mp ha).elim (x a) (y a)
theorem compTurn_last {elt:Expr}{gens:List Comprehension}{cs:Scope}{pos:Pos}{dep:Nat}{it acc:Value}{t it0:Expr}{ifs:List Expr}(hg:gens[dep]?=some ⟨t,it0,ifs,0⟩) (hn:gens[dep+1]?=none):
  compTurn (.ListComp elt gens cs pos) dep it acc env=(standAt it0.pos>>=λ_=>pyNext it>>=λr=>match r with
   | none=>pure (.done .next)
   | some v=>letOwnedTupleGo t it v>>=λ_=>assign t env v>>=λ_=>
    (forIn ifs true λc r=>if r=true then do let ok <-isTrue c env (eval c env);pure (ForInStep.yield ok)else pure (ForInStep.yield r))>>=λok=>
    if ok=true then((eval elt env>>=λx=>call (.builtin "list.append") [acc,x]>>=λ_=>pure ())>>=λ_=>
      again (.compLoop (.ListComp elt gens cs pos) dep it acc env))
    else again (.compLoop (.ListComp elt gens cs pos) dep it acc env)):=by
 unfold compTurn
 dsimp only
 rw[hg,hn]
 rfl
end
end Mine
end
section
namespace Mine
open PySem
inductive IR (ren:Ren) (p:Str×NameKind) (r:List (Str×NameKind)) (n:Nat) (ren':Ren):Prop
 | skip:p.2 ≠ .free->ownCount (p::r)=ownCount r->innerRen ren r n=some ren'->IR ren p r n ren'
 | own (l:Ren):p.2 = .local∨p.2 = .cell->ownCount (p::r)=ownCount r+1->innerRen ren r (n+1)=some l->ren'=(p.1,n)::l->IR ren p r n ren'
 | free (i:Nat) (l:Ren):p.2 = .free->ownCount (p::r)=ownCount r->ren.lookup p.1=some i->innerRen ren r n=some l->ren'=(p.1,i)::l->IR ren p r n ren'
theorem innerRen_cons {ren:Ren}{p:Str×NameKind}{r:List (Str×NameKind)}{n:Nat}{ren':Ren}(h:innerRen ren (p::r) n=some ren'):IR ren p r n ren':=by
 obtain⟨x,k⟩:=p
 cases k with
 | «local»=>
  by_cases h0:x=(".0":Str)
  ·rw[innerRen,if_pos h0]at h;exact .skip nofun (by rw[ownCount,if_pos h0]) h
  ·rw[innerRen,if_neg h0]at h;exact bindE h λl h1 h=>.own l (.inl rfl) (by rw[ownCount,if_neg h0]) h1 (oJ h).symm
 | cell=>exact bindE h λl h1 h=>.own l (.inr rfl) rfl h1 (oJ h).symm
 | free=>exact bindE h λi h1 h=>bindE h λl h2 h=>.free i l rfl rfl h1 h2 (oJ h).symm
 | globalImplicit=>exact .skip nofun rfl h
 | globalExplicit=>exact noneE h
theorem lookup_cons_cases {α:Type}{x y:Str}{i j:α}{l:List (Str×α)}(e:((y,i)::l).lookup x=some j):(x=y/\i=j)∨l.lookup x=some j:=by
 rw[List.lookup_cons]at e
 cases hb:x==y with
 | true=>rw[hb]at e;exact .inl ⟨beq_iff_eq.mp hb,oJ e⟩
 | false=>rw[hb]at e;exact .inr e
theorem innerRen_get {ren:Ren}:∀ {names:List (Str×NameKind)}{n:Nat}{ren':Ren},innerRen ren names n=some ren'->∀ x i,ren'.lookup x=some i->
  (n<=i/\i<n+ownCount names/\((x,NameKind.local)∈names∨(x,NameKind.cell)∈names))∨((x,NameKind.free)∈names/\ren.lookup x=some i)
 | [],n,ren',h,x,i,e=>by obtain rfl:=oJ h;exact noneE e
 | p::r,n,ren',h,x,i,e=>by
  have up:∀ {q:Str×NameKind},q∈r->q∈p::r:=λh=>List.mem_cons_of_mem _ h
  cases innerRen_cons h with
  | skip _ hc h1=>rw[hc];exact(innerRen_get h1 x i e).imp (λ⟨a,b,q⟩=>⟨a,b,q.imp up up⟩) λ⟨a,b⟩=>⟨up a,b⟩
  | own l hk hc h1 hl=>
   subst hl
   rw[hc]
   rcases lookup_cons_cases e with⟨rfl,rfl⟩|e
   ·exact .inl ⟨Nat.le_refl _,by omega,hk.imp (λh=>by rw[<-h];exact List.mem_cons_self ..) λh=>by rw[<-h];exact List.mem_cons_self ..⟩
   ·exact(innerRen_get h1 x i e).imp (λ⟨a,b,q⟩=>⟨by omega,by omega,q.imp up up⟩) λ⟨a,b⟩=>⟨up a,b⟩
  | free j l hk hc hj h1 hl=>
   subst hl
   rw[hc]
   rcases lookup_cons_cases e with⟨rfl,rfl⟩|e
   ·exact .inr ⟨by rw[<-hk];exact List.mem_cons_self ..,hj⟩
   ·exact(innerRen_get h1 x i e).imp (λ⟨a,b,q⟩=>⟨a,b,q.imp up up⟩) λ⟨a,b⟩=>⟨up a,b⟩
theorem innerRen_inj {ren:Ren}{nx:Nat}(rinj:∀ x y i,ren.lookup x=some i->ren.lookup y=some i->x=y) (rlt:∀ x i,ren.lookup x=some i->i<nx):
  ∀ {names:List (Str×NameKind)}{n:Nat}{ren':Ren},nx<=n->innerRen ren names n=some ren'->∀ x y i,ren'.lookup x=some i->ren'.lookup y=some i->x=y
 | [],n,ren',_,h,x,y,i,e,_=>by obtain rfl:=oJ h;exact noneE e
 | p::r,n,ren',hn,h,x,y,i,e1,e2=>by
  have two:∀ {z:Str}{j:Nat}{l:Ren},(∀ u,l.lookup u=some j->u=z)->(∀ x y i,l.lookup x=some i->l.lookup y=some i->x=y)->((z,j)::l).lookup x=some i->((z,j)::l).lookup y=some i->x=y:=λ{z} {j} {l} no ih e1 e2=>by
   rcases lookup_cons_cases e1 with⟨rfl,rfl⟩|f1<;>rcases lookup_cons_cases e2 with⟨rfl,h⟩|f2
   ·rfl
   ·exact(no y f2).symm
   ·subst h;exact no x f1
   ·exact ih x y i f1 f2
  cases innerRen_cons h with
  | skip _ _ h1=>exact innerRen_inj rinj rlt hn h1 x y i e1 e2
  | own l _ _ h1 hl=>
   subst hl
   refine two (λu hu=>?_) (innerRen_inj rinj rlt (by omega) h1) e1 e2
   rcases innerRen_get h1 u n hu with⟨a,_⟩|⟨_,b⟩
   ·omega
   ·have:=rlt u n b;omega
  | free j l _ _ hj h1 hl=>
   subst hl
   refine two (λu hu=>?_) (innerRen_inj rinj rlt hn h1) e1 e2
   rcases innerRen_get h1 u j hu with⟨a,_⟩|⟨_,b⟩
   ·have:=rlt p.1 j hj;omega
   ·exact rinj u p.1 j b hj
theorem innerRen_free {ren:Ren}:∀ {names:List (Str×NameKind)}{n:Nat}{r':Ren},innerRen ren names n=some r'->∀ x,(x,NameKind.free)∈names->∃ i,ren.lookup x=some i
 | [],_,_,_,_,hx=>absurd hx List.not_mem_nil
 | p::r,n,r',h,x,hx=>by
  have tail:∀ {l n},innerRen ren r n=some l->p.2 ≠ .free->∃ i,ren.lookup x=some i:=λh1 hk=>(mC hx).elim (λe=>absurd (congrArg Prod.snd e).symm hk) (innerRen_free h1 x)
  cases innerRen_cons h with
  | skip hk _ h1=>exact tail h1 hk
  | own l hk _ h1 _=>exact tail h1 (by rcases hk with hk|hk <;> · rw[hk];exact nofun)
  | free j l _ _ hj h1 _=>exact(mC hx).elim (λe=>⟨j,by rw[show x=p.1 from congrArg Prod.fst e];exact hj⟩) (innerRen_free h1 x)
noncomputable def closeFrom (env:Env):List (Str×NameKind)->List (Str×Addr)->List (Str×Addr)
 | [],acc=>acc
 | (x,k)::r,acc=>if k == .free then(match env.cells.lookup x with
   | some c=>closeFrom env r ((x,c)::acc)
   | none=>closeFrom env r acc)else closeFrom env r acc
theorem closureFor_eq {scope:Scope}{env:Env}(h:∀ x∈scope.names,x.2 = .free->∃ c,env.cells.lookup x.1=some c):closureFor scope env=pure (closeFrom env scope.names []):=by
 have go:∀ (f:Str×NameKind->List (Str×Addr)->Sem (ForInStep (List (Str×Addr)))),(∀ name kind cs,f (name,kind) cs=if (kind==NameKind.free)=true then do let c <-cellOf env name;pure (ForInStep.yield ((name,c)::cs))else pure (ForInStep.yield cs))->
   ∀ (names:List (Str×NameKind)) (acc:List (Str×Addr)),(∀ x∈names,x.2 = .free->∃ c,env.cells.lookup x.1=some c)->(forIn (m:=Sem) names acc f)=pure (closeFrom env names acc):=by
  intro f hf names
  induction names with
  | nil=>intro acc _;rfl
  | cons x r ih=>
   intro acc hx
   obtain⟨x,k⟩:=x
   rw[List.forIn_cons,hf]
   unfold closeFrom
   have hr:=λacc=>ih acc λy hy=>hx y (List.mem_cons_of_mem _ hy)
   by_cases hk:k = .free
   ·subst hk
    obtain⟨c,hc⟩:=hx (x,.free) (List.mem_cons_self ..) rfl
    have hc':env.cells.lookup x=some c:=hc
    have:cellOf env x=pure c:=by unfold cellOf;rw[hc']
    simp only [beq_self_eq_true,if_true,hc',this]
    exact hr _
   ·have:(k==NameKind.free)=false:=by simpa using hk
    simp only [this,Bool.false_eq_true,if_false]
    exact hr _
 simp only [closureFor]
 rw[go _ (λ_ _ _=>rfl) _ _ h]
 rfl
theorem closeFrom_get {env:Env}{x:Str}{c:Addr}:∀ {names:List (Str×NameKind)}{acc:List (Str×Addr)},(closeFrom env names acc).lookup x=some c->env.cells.lookup x=some c∨acc.lookup x=some c
 | [],acc,h=>.inr h
 | (y,k)::r,acc,h=>by
  unfold closeFrom at h
  split at h
  ·split at h
   ·rename_i c' hc
    rcases closeFrom_get h with q|q
    ·exact .inl q
    ·rw[List.lookup_cons]at q
     split at q
     ·rename_i hb;obtain rfl:=oJ q;rw[beq_iff_eq.mp hb];exact .inl hc
     ·exact .inr q
   ·exact closeFrom_get h
  ·exact closeFrom_get h
theorem closeFrom_has {env:Env}{x:Str}{c:Addr}(hc:env.cells.lookup x=some c):∀ {names:List (Str×NameKind)}{acc:List (Str×Addr)},(x,NameKind.free)∈names∨acc.lookup x=some c->(closeFrom env names acc).lookup x=some c
 | [],acc,h=>by
  rcases h with h|h
  ·cases h
  ·exact h
 | (y,k)::r,acc,h=>by
  unfold closeFrom
  split
  ·rename_i hk
   have hk:k = .free:=beq_iff_eq.mp hk
   subst hk
   split
   ·rename_i c' hc'
    refine closeFrom_has hc ?_
    rw[List.lookup_cons]
    by_cases hxy:x=y
    ·subst hxy;rw[hc]at hc';cases hc';simp
    ·have hb:(x==y)=false:=by simpa using hxy
     rw[hb]
     rcases h with h|h
     ·rcases mC h with h|h
      ·cases h;exact absurd rfl hxy
      ·exact .inl h
     ·exact .inr h
   ·rename_i hn
    refine closeFrom_has hc ?_
    rcases h with h|h
    ·rcases mC h with h|h
     ·cases h;rw[hc]at hn;cases hn
     ·exact .inl h
    ·exact .inr h
  ·rename_i hk
   refine closeFrom_has hc ?_
   rcases h with h|h
   ·rcases mC h with h|h
    ·cases h;exact absurd rfl hk
    ·exact .inl h
   ·exact .inr h
theorem cellsFrom_app:∀ (names:List (Str×NameKind)) (n:Nat) (acc:List (Str×Addr)),cellsFrom n names acc=cellsFrom n names []++acc
 | [],_,_=>rfl
 | (x,k)::r,n,acc=>by
  unfold cellsFrom
  split
  ·rw[cellsFrom_app r (n+1) ((x,n)::acc),cellsFrom_app r (n+1) [(x,n)]];simp
  ·exact cellsFrom_app r n acc
theorem cellsFrom_mem:∀ {names:List (Str×NameKind)}{n:Nat}{x:Str}{c:Addr},(x,c)∈cellsFrom n names []->(x,NameKind.cell)∈names
 | [],n,x,c,h=>by cases h
 | (y,k)::r,n,x,c,h=>by
  unfold cellsFrom at h
  split at h
  ·rename_i hk
   rw[cellsFrom_app]at h
   rcases List.mem_append.mp h with h|h
   ·exact List.mem_cons_of_mem _ (cellsFrom_mem h)
   ·simp at h;rw[h.1];rw[<-beq_iff_eq.mp hk];exact List.mem_cons_self ..
  ·exact List.mem_cons_of_mem _ (cellsFrom_mem h)
theorem lookup_of_mem {α:Type}{x:Str}{c:α}:∀ {l:List (Str×α)},(x,c)∈l->∃ c',l.lookup x=some c'
 | (y,d)::r,h=>by
  rw[List.lookup_cons]
  cases hb:x==y with
  | true=>exact⟨_,rfl⟩
  | false=>
   rcases mC h with h|h
   ·cases h;simp at hb
   ·exact lookup_of_mem h
theorem cellsFrom_has:∀ {names:List (Str×NameKind)}{n:Nat}{x:Str},(x,NameKind.cell)∈names->∃ c,(cellsFrom n names []).lookup x=some c
 | (y,k)::r,n,x,h=>by
  have:∃ c,(x,c)∈cellsFrom n ((y,k)::r) []:=by
   unfold cellsFrom
   rcases mC h with h|h
   ·cases h
    simp only [beq_self_eq_true,if_true]
    rw[cellsFrom_app];exact⟨n,List.mem_append.mpr (.inr (List.mem_singleton.mpr rfl))⟩
   ·split
    ·obtain⟨c,hc⟩:=cellsFrom_has (n:=n+1) h
     rw[cellsFrom_app];exact⟨c,List.mem_append.mpr (.inl (mem_of_lookup hc))⟩
    ·obtain⟨c,hc⟩:=cellsFrom_has (n:=n) h
     exact⟨c,mem_of_lookup hc⟩
  obtain⟨c,hc⟩:=this
  exact lookup_of_mem hc
theorem lookup_app {α:Type}(x:Str):∀ (l1 l2:List (Str×α)),(l1++l2).lookup x=(l1.lookup x).or (l2.lookup x)
 | [],_=>by simp
 | (y,c)::r,l2=>by
  rw[List.cons_append,List.lookup_cons,List.lookup_cons]
  split
  ·rfl
  ·exact lookup_app x r l2
theorem newEnv_comp {M:Model}{A:Around}{Ex:Value->Shared->Prop}{s:Shared}{scope:Scope}{globals:Addr}{cl:List (Str×Addr)}{qual:Str}{env:Env}{Q:Env->Shared->Prop}
  (h:Q (newEnv scope s.heap.objs.size globals (cellsFrom (s.heap.objs.size+1) scope.names cl) qual none .none (some env) builtinsNs) {s with heap:=pushCells (s.heap.push {cls:=.type "dict",data:=.dict #[]}) scope.names}):
  wpAny M A (newFunctionEnv scope globals cl [] qual none .none (some env)) Q Ex s:=by
 simp only [newFunctionEnv,Option.isSome_some,if_true]
 refine wpAny_bind (wpAny_alloc ?_)
 refine wpAny_bind (wpAny_layCells _ (λname kind cells=>by cases hkc:kind==NameKind.cell<;>simp[hkc]) _ _ _ _ ?_)
 rw[show({s with heap:=s.heap.push {cls:=.type "dict",data:=.dict #[]}}:Shared).heap.objs.size=s.heap.objs.size+1 from Heap.size_push ..]
 exact wpAny_bind (wpAny_pure (wpAny_pure h))
theorem lookup_nodup {x:Str}{k:NameKind}:∀ {l:List (Str×NameKind)},(l.map (·.1)).Nodup->(x,k)∈l->l.lookup x=some k
 | (y,j)::r,hn,h=>by
  rw[List.map_cons,List.nodup_cons]at hn
  rw[List.lookup_cons]
  rcases mC h with h'|h'
  ·cases h';simp
  ·have:(x==y)=false:=by
    rw[beq_eq_false_iff_ne];intro q;subst q
    exact hn.1 (List.mem_map.mpr ⟨_,h',rfl⟩)
   rw[this]
   exact lookup_nodup hn.2 h'
theorem lookup_relabel {env:Env}{x:Str}:∀ {names:List (Str×NameKind)},(names.map λ(n,k)=>if (k==NameKind.free&&env.scope.kind == .function&&env.kindOf n==some .cell)=true then(n,NameKind.cell)else(n,k)).lookup x=
  (names.lookup x).map λk=>if (k==NameKind.free&&env.scope.kind == .function&&env.kindOf x==some .cell)=true then NameKind.cell else k
 | []=>rfl
 | (y,k)::r=>by
  rw[List.map_cons,List.lookup_cons (k:=y)]
  cases hb:x==y with
  | true=>
   have:=beq_iff_eq.mp hb
   subst this
   simp only
   split<;>simp_all [List.lookup_cons]
  | false=>
   have ih:=@lookup_relabel env x r
   simp only
   rw[<-ih]
   split<;>simp[List.lookup_cons,hb]
theorem pushCells_size:∀ (names:List (Str×NameKind)) (h:Heap),h.objs.size<=(pushCells h names).objs.size
 | [],_=>Nat.le_refl _
 | (_,k)::r,h=>by
  unfold pushCells
  split
  ·refine nT ?_ (pushCells_size r _);rw[Heap.size_push];omega
  ·exact pushCells_size r h
section
variable {B:Base}{σ:AH}{φ:Phi}{s:Shared}{sc cs:Scope}{ren ren':Ren}{nx:Nat}{env:Env}{loc:Loc}
noncomputable def cEnv (cs:Scope) (env:Env) (n:Nat):Env:={newEnv cs n env.globals (cellsFrom (n+1) cs.names (closeFrom env cs.names [])) env.qual none .none (some env) builtinsNs with scope:=relabel cs env}
noncomputable def cHeap (cs:Scope) (h:Heap):Heap:=pushCells (h.push {cls:=.type "dict",data:=.dict #[]}) cs.names
theorem cEnv_cells {n:Nat}{x:Str}{c:Addr}(e:(cEnv cs env n).cells.lookup x=some c):((x,NameKind.cell)∈cs.names/\(cellsFrom (n+1) cs.names []).lookup x=some c)∨((∀ c',(cellsFrom (n+1) cs.names []).lookup x≠some c')/\env.cells.lookup x=some c):=by
 have e:(cellsFrom (n+1) cs.names (closeFrom env cs.names [])).lookup x=some c:=e
 rw[cellsFrom_app,lookup_app]at e
 cases hl:(cellsFrom (n+1) cs.names []).lookup x with
 | some c'=>rw[hl]at e;cases e;exact .inl ⟨cellsFrom_mem (mem_of_lookup hl),rfl⟩
 | none=>
  rw[hl]at e
  refine .inr ⟨(λ_ h=>by cases h),?_⟩
  rcases closeFrom_get (show(closeFrom env cs.names []).lookup x=some c by simpa using e)with q|q
  ·exact q
  ·simp at q
theorem comp_env (R:Rep B σ φ s.heap) (V:EnvOK B sc ren nx env loc φ s.heap) (hl:lamSc cs=false) (hk:cs.kind = .function) (nd:(cs.names.map (·.1)).Nodup)
  (hf:(cs.names.all λp=>p.2 != .free||sc.names.lookup p.1==some .cell||sc.names.lookup p.1==some .free)=true) (hr:innerRen ren cs.names nx=some ren'):
  EnvOK B cs ren' (nx+ownCount cs.names) (cEnv cs env s.heap.objs.size) loc φ (cHeap cs s.heap)/\Kp B.tabs [] s.heap (cHeap cs s.heap)/\
  (∀ b∈ownW cs (cEnv cs env s.heap.objs.size),s.heap.objs.size<=b)/\(∀ y c,(cEnv cs env s.heap.objs.size).cells.lookup y=some c->s.heap.objs.size<=c∨env.cells.lookup y=some c)/\
  (∀ x∈cs.names,x.2 = .free->∃ c,env.cells.lookup x.1=some c):=by
 have keep:∀ b o,s.heap.get? b=some o->(cHeap cs s.heap).get? b=some o:=λb o e=>pushCells_keeps _ _ b o (Heap.get?_push_of_some _ e)
 have size:s.heap.objs.size+1<=(cHeap cs s.heap).objs.size:=by have:=pushCells_size cs.names (s.heap.push {cls:=.type "dict",data:=.dict #[]});rw[Heap.size_push]at this;exact this
 have kp:Kp B.tabs [] s.heap (cHeap cs s.heap):=.keeps keep (by omega)
 have ns:(cHeap cs s.heap).Ns s.heap.objs.size λ_=>none:=(Heap.Ns.new s.heap (.type "dict")).keeps (pushCells_keeps _ _)
 have ok:=cellsFrom_ok cs.names (s.heap.push {cls:=.type "dict",data:=.dict #[]}) (s.heap.objs.size+1) [] ⟨λ_ _ hm=>(absurd hm List.not_mem_nil),List.Pairwise.nil⟩ (by rw[Heap.size_push];exact Nat.le_refl _)
 rw[Heap.size_push]at ok
 have fkind:∀ x,(x,NameKind.free)∈cs.names->env.kindOf x=some .cell∨env.kindOf x=some .free:=λx hx=>by
  have:=List.all_eq_true.mp hf _ hx
  simp at this
  rcases this with h|h
  ·rcases V.kind x _ h with q|⟨q,_⟩
   ·exact .inl q
   ·cases q
  ·rcases V.kind x _ h with q|⟨_,q⟩
   ·exact .inr q
   ·exact .inl q
 have fcell:∀ x∈cs.names,x.2 = .free->∃ c,env.cells.lookup x.1=some c:=λx hx he=>by
  obtain⟨x,k⟩:=x
  have he:k = .free:=he
  subst he
  obtain⟨i,hi⟩:=innerRen_free hr x hx
  exact V.has x i hi (fkind x hx)
 have cells:∀ y c,(cEnv cs env s.heap.objs.size).cells.lookup y=some c->s.heap.objs.size<=c∨env.cells.lookup y=some c:=λy c e=>by
  rcases cEnv_cells e with⟨_,q⟩|⟨_,q⟩
  ·have:=(ok.empty _ _ (mem_of_lookup q)).2;exact .inl (by omega)
  ·exact .inr q
 have kof:∀ x,(cEnv cs env s.heap.objs.size).kindOf x=(cs.names.lookup x).map λk=>if (k==NameKind.free&&env.scope.kind == .function&&env.kindOf x==some .cell)=true then NameKind.cell else k:=λx=>lookup_relabel
 have freeCell:∀ x c,(x,NameKind.free)∈cs.names->env.cells.lookup x=some c->(cEnv cs env s.heap.objs.size).cells.lookup x=some c:=λx c hx hc=>by
  show(cellsFrom (s.heap.objs.size+1) cs.names (closeFrom env cs.names [])).lookup x=some c
  rw[cellsFrom_app,lookup_app]
  cases hl:(cellsFrom (s.heap.objs.size+1) cs.names []).lookup x with
  | some c'=>
   have h1:=lookup_nodup nd (cellsFrom_mem (mem_of_lookup hl))
   rw[lookup_nodup nd hx]at h1;cases h1
  | none=>simpa using closeFrom_has hc (.inl hx)
 refine⟨⟨hk,λx k e=>?_,V.glob,V.blt,λhm=>absurd (R.lt hm) (Nat.lt_irrefl _),R.stat.size,⟨_,ns⟩,λx c e=>?_,λx y c e1 e2=>?_,λx i e h=>?_,innerRen_inj V.rinj V.rlt (Nat.le_refl _) hr,λx i e=>?_,λi v hi=>V.free i v (by omega),λx i v e1 e2=>?_,λh=>absurd (hl.symm.trans h) Bool.false_ne_true⟩,kp,λb hb=>?_,cells,fcell⟩
 ·rw[kof,e]
  simp only [Option.map_some]
  split
  ·rename_i hc
   simp at hc
   exact .inr ⟨hc.1.1,rfl⟩
  ·exact .inl rfl
 ·rcases cEnv_cells e with⟨_,q⟩|⟨_,q⟩
  ·obtain⟨h1,h2⟩:=ok.empty _ _ (mem_of_lookup q)
   have:=R.stat.size
   exact⟨⟨_,h1⟩,λhm=>absurd (Nat.lt_of_lt_of_le (R.lt hm) (Nat.le_of_succ_le h2)) (Nat.lt_irrefl _),by omega⟩
  ·obtain⟨⟨v,h1⟩,h2,h3⟩:=V.cells x c q
   exact⟨⟨v,h1.keeps keep⟩,h2,h3⟩
 ·rcases cEnv_cells e1 with⟨_,q1⟩|⟨_,q1⟩<;>rcases cEnv_cells e2 with⟨_,q2⟩|⟨_,q2⟩
  ·exact name_of_addr ok.apart (mem_of_lookup q1) (mem_of_lookup q2)
  ·have h1:=(ok.empty _ _ (mem_of_lookup q1)).2
   exact absurd (Nat.lt_of_lt_of_le (V.cellsLt q2) (Nat.le_of_succ_le h1)) (Nat.lt_irrefl _)
  ·have h1:=(ok.empty _ _ (mem_of_lookup q2)).2
   exact absurd (Nat.lt_of_lt_of_le (V.cellsLt q1) (Nat.le_of_succ_le h1)) (Nat.lt_irrefl _)
  ·exact V.inj x y c q1 q2
 ·have hk':(x,NameKind.cell)∈cs.names∨(x,NameKind.free)∈cs.names:=by
   rw[kof]at h
   cases hl:cs.names.lookup x with
   | none=>rw[hl]at h;simp at h
   | some k=>
    rw[hl]at h
    have hm:=mem_of_lookup hl
    cases k with
    | cell=>exact .inl hm
    | free=>exact .inr hm
    | «local»=>simp at h
    | globalImplicit=>simp at h
    | globalExplicit=>simp at h
  rcases hk' with hm|hm
  ·obtain⟨c,hc⟩:=cellsFrom_has (n:=s.heap.objs.size+1) hm
   refine⟨c,?_⟩
   show(cellsFrom (s.heap.objs.size+1) cs.names (closeFrom env cs.names [])).lookup x=some c
   rw[cellsFrom_app,lookup_app,hc];rfl
  ·obtain⟨c,hc⟩:=fcell _ hm rfl
   exact⟨c,freeCell x c hm hc⟩
 ·rcases innerRen_get hr x i e with⟨_,q,_⟩|⟨_,q⟩
  ·exact q
  ·have:=V.rlt x i q;omega
 ·rcases innerRen_get hr x i e1 with⟨q,_⟩|⟨hm,q⟩
  ·exact absurd e2 (V.free i v q)
  ·obtain⟨rv,hh,rr⟩:=V.vals x i v q e2
   refine⟨rv,?_,VR_mono (Vk.of kp (Safe.nil B.Z) (pre_refl ..)) v rr⟩
   rcases hh with⟨hl,_⟩|⟨_,c,hc,hv⟩
   ·rcases fkind x hm with z|z <;> · rw[z]at hl;cases hl
   ·refine .inr ⟨?_,c,freeCell x c hm hc,hv.keeps keep⟩
    rw[kof,lookup_nodup nd hm]
    simp only [Option.map_some]
    split
    ·exact .inl rfl
    ·exact .inr rfl
 ·rcases mC hb with rfl|hb
  ·exact Nat.le_refl _
  ·obtain⟨y,hy,hc⟩:=List.mem_filterMap.mp hb
   split at hc
   ·rename_i hk'
    obtain⟨y,k⟩:=y
    have hk':k = .cell:=hk'
    subst hk'
    rcases cEnv_cells hc with⟨_,q⟩|⟨q,_⟩
    ·have:=(ok.empty _ _ (mem_of_lookup q)).2;omega
    ·obtain⟨c',hc'⟩:=cellsFrom_has (n:=s.heap.objs.size+1) hy
     exact absurd hc' (q c')
   ·cases hc
end
end Mine
end
section
namespace Mine
open PySem
section
variable {prog:Program}{w:World}{K:Type}[DecidableEq K]{knd:KeyKind prog w K}{A:Around}{E:Value->Shared->Prop}{s:Shared}
theorem dictSet_at {d:Addr}{kvs:List (K×Value)}{ep:Nat}{k:K}{key v:Value}{Q:Unit->Shared->Prop}(hkey:knd.is k key=true) (hm:s.heap.DictAt knd d kvs ep) (hsz:kvs.length<=sizeLine)
  (hQ:∀ h',h'.DictAt knd d (stored kvs k v) (if kvs.any (λq=>decide (q.1=k))=true then ep else ep+1)->Heap.SameBut d s.heap h'->Q () {s with heap:=h',toks:=s.toks+1}):wpAny (model prog w) A (dictSet d key v) Q E s:=by
 obtain⟨o,es,ho,hc,hd,hk,hp,hn⟩:=hm
 refine wpAny_holding (wpAny_bind (knd.pyHash hkey (wpAny_holding (wpAny_bind (wpAny_dictFind_of (s:={s with toks:=s.toks+1}) hkey ho hd hk ?_)))))
 have hl:=hp.findIdx k
 rw[<-List.findIdx?_toArray,Array.toArray_toList]at hl
 have hok:∀ {f:Obj->Obj}{es':Array DictEntry}{ep':Nat},(f o).data = .dict es' ep'->(s.heap.update d f).get? d=some (f o):=λe=>Heap.get?_update_self _ ho (Obj.isFreed_of_dict e)
 cases hi:es.findIdx? λe=>knd.is k e.key with
 | some i=>
  have any:kvs.any (λq=>decide (q.1=k))=true:=any_of_findIdx_some (hl.symm.trans hi)
  rw[if_pos any]at hQ
  refine wpAny_bind (wpAny_rule (wpAny_bind (wpAny_updateDict (s:={s with toks:=s.toks+1}) ho hd (wpAny_point (hQ _ ⟨_,_,hok (Obj.data_mapDict hd _),hc.mapDict _,Obj.data_mapDict hd _,hk.modify _ _,?_,?_⟩ (Heap.SameBut.update ..))))))
  ·rw[stored,if_pos any,Array.toList_modify]
   exact hp.modify hn (by rw[<-List.findIdx?_toArray,Array.toArray_toList];exact hi) v
  ·rw[stored,if_pos any,keys_map_store];exact hn
 | none=>
  have hnot:k∉kvs.map (·.1):=not_mem_of_findIdx_none (hl.symm.trans hi)
  have any:¬kvs.any (λq=>decide (q.1=k))=true:=λz=>by
   obtain⟨q,hq,e⟩:=List.any_eq_true.mp z
   exact hnot (List.mem_map.mpr ⟨q,hq,of_decide_eq_true e⟩)
  rw[if_neg any]at hQ
  have hes:es.size<=sizeLine:=by rw[<-Array.length_toList,hp.length];exact hsz
  refine wpAny_bind (wpAny_rule (wpAny_updateDictKeys (hz:=hes) (s:={s with toks:=s.toks+1}) ho hd (hQ _ ⟨_,_,hok (Obj.data_mapDictKeys hd _),hc.mapDictKeys _,Obj.data_mapDictKeys hd _,hk.push hkey _,?_,?_⟩ (Heap.SameBut.update ..))))
  ·rw[stored,if_neg any,Array.toList_push];exact hp.append hkey (knd.hash k) v
  ·rw[stored,if_neg any,List.map_append,List.nodup_append]
   exact⟨hn,List.nodup_cons.mpr ⟨nofun,List.nodup_nil⟩,λa ha b hb e=>hnot (by cases mS hb;cases e;exact ha)⟩
end
section
variable {B:Base}{A:Around}{E:Value->Shared->Prop}{σ:AH}{φ:Phi}{s:Shared}
theorem kv_map {N:Zone}{h:Heap}{k:Kx}{v:V}{y:Value}(ry:VR N φ h v y):∀ {kvs:List (Kx×V)}{ps:List (Kx×Value)},ps.map (·.1)=kvs.map (·.1)->VRs N φ h (kvs.map (·.2)) (ps.map (·.2))->
  (ps.map λq=>if q.1=k then(q.1,y)else q).map (·.1)=(kvs.map λp=>if p.1=k then(p.1,v)else p).map (·.1)/\VRs N φ h ((kvs.map λp=>if p.1=k then(p.1,v)else p).map (·.2)) ((ps.map λq=>if q.1=k then(q.1,y)else q).map (·.2))
 | [],[],_,_=>⟨rfl,VRs_nil⟩
 | [],_::_,ks,_=>nomatch ks
 | _::_,[],ks,_=>nomatch ks
 | (x,u)::kvs,(x',z)::ps,ks,vs=>by
  injection ks with k1 k2
  cases (show x'=x from k1)
  rw[List.map_cons,List.map_cons]at vs
  unfold VRs at vs
  obtain⟨h1,h2⟩:=kv_map ry k2 vs.2
  simp only [List.map_cons]
  by_cases hk:x=k
  ·rw[if_pos hk,if_pos hk];exact⟨congrArg (x :: ·) h1,VRs_cons ry h2⟩
  ·rw[if_neg hk,if_neg hk];exact⟨congrArg (x :: ·) h1,VRs_cons vs.1 h2⟩
theorem kv_any {k:Kx}{kvs:List (Kx×V)}{ps:List (Kx×Value)}(ks:ps.map (·.1)=kvs.map (·.1)):ps.any (λq=>decide (q.1=k))=kvs.any λq=>decide (q.1=k):=by
 have e:=congrArg (List.any · λx=>decide (x=k)) ks
 rw[List.any_map,List.any_map]at e
 exact e
theorem kv_put {N:Zone}{h:Heap}{k:Kx}{v:V}{y:Value}(ry:VR N φ h v y){kvs:List (Kx×V)}{ps:List (Kx×Value)}(ks:ps.map (·.1)=kvs.map (·.1)) (vs:VRs N φ h (kvs.map (·.2)) (ps.map (·.2))):
  (stored ps k y).map (·.1)=(putK kvs k v).map (·.1)/\VRs N φ h ((putK kvs k v).map (·.2)) ((stored ps k y).map (·.2))/\(if ps.any (λq=>decide (q.1=k))=true then kvs.length else kvs.length+1)=(putK kvs k v).length:=by
 unfold stored putK
 rw[kv_any ks]
 by_cases h:(kvs.any λp=>decide (p.1=k))=true
 ·rw[if_pos h,if_pos h,if_pos h]
  exact⟨(kv_map ry ks vs).1,(kv_map ry ks vs).2,(List.length_map ..).symm⟩
 ·rw[if_neg h,if_neg h,if_neg h]
  simp only [List.map_append]
  exact⟨by rw[ks];rfl,VRs_append vs (VRs_one ry),by rw[List.length_append];rfl⟩
theorem put_same (Y:Sys B) (R:Rep B σ φ s.heap){i:Nat}{p:Addr×Addr}{h':Heap}{o:O}{tk:Nat}(hp:φ[i]?=some p) (sb:Heap.SameBut p.1 s.heap h') (q:Vk B.Z φ s.heap φ h'->OR B φ h' o p):
  St B φ s φ {s with heap:=h',toks:=tk}/\Rep B (σ.set i o) φ h'/\Vk B.Z φ s.heap φ h':=by
 obtain⟨ob,h1,_,h2⟩:=R.ob (R.mem hp).1
 have kp:Kp B.tabs [p.1,p.2] s.heap h':=.sameBut sb (List.mem_cons_self ..) h1 h2
 have mem:∀ a∈[p.1,p.2],a∈addrs φ:=λa ha=>mem_addrs.mpr ⟨p,List.mem_of_getElem? hp,(mC ha).imp id λha=>mS ha⟩
 have vk:Vk B.Z φ s.heap φ h':=Vk.of kp (λa ha=>R.safe a (mem a ha)) (pre_refl ..)
 exact⟨⟨pre_refl ..,kp.mono (λb hb=>.inl (mem b hb)),rfl,id⟩,R.put Y.ok hp kp (q vk),vk⟩
theorem dict_set (Y:Sys B) (R:Rep B σ φ s.heap){j:Nat}{p:Addr×Addr}{kvs:List (Kx×V)}{k:Kx}{v:V}{key y:Value}(hj:φ[j]?=some p) (ho:σ[j]?=some (.dict kvs)) (hk:(kxKind B.prog B.w).is k key=true) (rv:VR B.Z φ s.heap v y) (hl:kvs.length<LIM){Q:Unit->Shared->Prop}
  (q:∀ s',St B φ s φ s'->Rep B (σ.set j (.dict (putK kvs k v))) φ s'.heap->Q () s'):wpAny (model B.prog B.w) A (dictSet p.1 key y) Q E s:=by
 obtain⟨e2,ps,D⟩:=R.rel _ _ _ ho hj
 have hz:ps.length<=sizeLine:=by rw[<-List.length_map (f:=λq:Kx×Value=>q.1),D.ks,List.length_map];exact lim_line D.z
 refine dictSet_at hk D.d hz λh' hD sb=>?_
 refine(put_same (tk:=s.toks+1) Y R hj sb λvk=>?_).elim λst R'=>q _ st R'.1
 obtain⟨a,b,c⟩:=kv_put (k:=k) (VR_mono vk _ rv) D.ks (VRs_mono vk _ D.vs)
 rw[c]at hD
 refine⟨e2,_,hD,a,b,?_⟩
 rw[<-c]
 split
 ·exact D.z
 ·exact hl
end
end Mine
end
section
namespace Mine
open PySem
inductive SndGs (B:Base) (C:Oracle) (d:Nat) (sc:Scope) (ren:Ren) (nx:Nat):List Comprehension->List G->Prop
 | nil:SndGs B C d sc ren nx [] []
 | cons {t it:Expr}{ifs:List Expr}{t':Tgt}{it':Mine.E}{ifs':List Mine.E}{gs:List Comprehension}{gs':List G}:trTgt sc ren t=some t'->Snd B C d sc ren nx it it'->Snd2 B C d sc ren nx ifs ifs'->
   SndGs B C d sc ren nx gs gs'->SndGs B C d sc ren nx (⟨t,it,ifs,0⟩::gs) (.mk t' it' ifs'::gs')
noncomputable def compF (C:Oracle) (elt:Loc->AH->Option (V×AH)) (t:Tgt) (ifs:List E) (gs:List G) (loc:Loc):V->List V->AH->Option ((List V⊕Empty)×AH):=λv acc s=>
 (assignT t v loc s).bind λl=>(evIfs C ifs l s).bind λb=>cond b.1 ((evGens C elt gs l l acc b.2).bind λr=>some (.inl r.1,r.2)) (some (.inl acc,b.2))
section
variable {B:Base}{C:Oracle}{d:Nat}{A:Around}{Ex:Value->Shared->Prop}{cs:Scope}{ren:Ren}{nx:Nat}
theorem compStart_any {e:Expr}{dep:Nat}{it acc:Value}{t it0:Expr}{ifs:List Expr}{env:Env}{s:Shared}{R:Result->Shared->Prop}(hg:(clausesOf e)[dep]?=some ⟨t,it0,ifs,0⟩)
  (h:codeAny (model B.prog B.w) A (.compLoop e dep it acc env) R s) (hf:(Code.compStart e dep it acc env).isFrame=false) (hq:(Code.compLoop e dep it acc env).quiet=true)
  (hit:∀ A' Ex (Q:Value->Shared->Prop),Q it s->wpAny (model B.prog B.w) A' (pyIter it) Q Ex s):
  codeAny (model B.prog B.w) A (.compStart e dep it acc env) R s:=by
 refine codeAny_of_tree ?_
 show wpAny _ _ (if (Code.compStart e dep it acc env).isFrame=true then _ else(compStart e dep it acc env).onRaise (λx=>do noteFrame x env;standAt theWindowsPlace)) _ _ s
 rw[hf]
 refine wpAny_notedAt ?_
 unfold compStart
 rw[hg]
 show wpAny _ _ (ask>>=_) _ _ s
 refine wpAny_bind (wpAny_askSetting (wpAny_ite ?_))
 split
 ·exact wpAny_bind (wpAny_pure (wpAny_pure (And.intro hq h)))
 ·refine wpAny_bind (wpAny_rule ?_)
  show wpAny _ _ (standAt it0.pos>>=_) _ _ s
  exact wpAny_bind (wpAny_standAt (wpAny_bind (hit _ _ _ (wpAny_pure (And.intro hq h)))))
structure CAt (B:Base) (d:Nat) (cs:Scope) (ren:Ren) (nx:Nat) (A:Around) (cenv:Env) (kd:Option Nat) (D:Addr) (loc:Loc) (acc:List V) (σ:AH) (φ:Phi) (s:Shared):Prop where
 K:At B d cs ren nx A cenv loc σ φ s
 Ac:AccOK B kd D acc φ s.heap
theorem CAt.stepW {cenv:Env}{kd:Option Nat}{D:Addr}{loc:Loc}{acc:List V}{σ σ':AH}{φ φ':Phi}{s s':Shared}{W:List Addr}(X:CAt B d cs ren nx A cenv kd D loc acc σ φ s) (st:StW B W φ s φ' s') (R':Rep B σ' φ' s'.heap) (hoff:Off W cenv D):CAt B d cs ren nx A cenv kd D loc acc σ' φ' s':=
 ⟨⟨X.K.rm,X.K.V.stepW st X.K.R hoff.locals hoff.cells,R'⟩,X.Ac.step X.K.R st hoff.list⟩
theorem Off.nil {env:Env}{D:Addr}:Off [] env D:=⟨nofun,nofun,λ_ _ _=>nofun⟩
theorem CAt.step {cenv:Env}{kd:Option Nat}{D:Addr}{loc:Loc}{acc:List V}{σ σ':AH}{φ φ':Phi}{s s':Shared}(X:CAt B d cs ren nx A cenv kd D loc acc σ φ s) (st:St B φ s φ' s') (R':Rep B σ' φ' s'.heap):CAt B d cs ren nx A cenv kd D loc acc σ' φ' s':=
 X.stepW (StW.of (W:=[]) st (Safe.nil _)) R' Off.nil
theorem it_step {σ:AH}{φ φ':Phi}{s s':Shared}(R:Rep B σ φ s.heap){it:It}{a:Addr}{W:List Addr}(I:ItR B φ s.heap it a W) (S:itSafe B φ s.heap W) (x:St B φ s φ' s'):ItR B φ' s'.heap it a W/\itSafe B φ' s'.heap W:=
 it_keep R I S (StW.of (W:=[]) x (Safe.nil _)) (λ_ _=>nofun)
noncomputable abbrev cW (cs:Scope) (cenv:Env) (D:Addr):List Addr:=D::ownW cs cenv
theorem Off.far {Wi:List Addr}{cenv:Env}{D:Addr}(x:Off Wi cenv D):∀ b∈Wi,b∉cW cs cenv D:=λb hb hm=>(mC hm).elim (λe=>x.list (e▸hb)) (x.own b hb)
theorem CAt.safe {cenv:Env}{kd:Option Nat}{D:Addr}{loc:Loc}{acc:List V}{σ:AH}{φ:Phi}{s:Shared}(X:CAt B d cs ren nx A cenv kd D loc acc σ φ s):Safe B.Z (cW cs cenv D):=X.Ac.safe.append X.K.V.safe
noncomputable def BodyOK (B:Base) (C:Oracle) (d:Nat) (cs:Scope) (ren:Ren) (nx:Nat) (cenv:Env) (kd:Option Nat) (D:Addr) (A:Around) (elt:Loc->AH->Option (V×AH)) (gs:List G) (body:Sem PySem.Fin) (loop:Code):Prop:=
 ∀ {loc:Loc}{acc:List V}{σ:AH}{φ:Phi}{s:Shared}{r:List V×AH}{Ex:Value->Shared->Prop}{Q:PySem.Fin->Shared->Prop},evGens C elt gs loc loc acc σ=some r->CAt B d cs ren nx A cenv kd D loc acc σ φ s->
  (∀ φ' s',StW B (cW cs cenv D) φ s φ' s'->CAt B d cs ren nx A cenv kd D loc r.1 r.2 φ' s'->Q (.again loop) s')->wpAny (model B.prog B.w) A body Q Ex s
noncomputable def LoopOK (B:Base) (C:Oracle) (d:Nat) (cs:Scope) (ren:Ren) (nx:Nat) (cenv:Env) (kd:Option Nat) (D:Addr) (A:Around) (elt:Loc->AH->Option (V×AH)) (t:Expr) (t':Tgt) (ifs':List E) (gs:List G) (loop:Addr->Code):Prop:=
 ∀ (fuel:Nat){it:It}{a:Addr}{Wi:List Addr}{acc:List V}{r:(List V⊕Empty)×AH}{σ:AH}{φ:Phi}{s:Shared}{loc:Loc}{R:Result->Shared->Prop},unsetT t' loc=true->
  loopM (compF C elt t' ifs' gs loc) fuel it acc σ=some r->ItR B φ s.heap it a Wi->itSafe B φ s.heap Wi->Off Wi cenv D->CAt B d cs ren nx A cenv kd D loc acc σ φ s->
  (∀ acc' φ' s',r.1 = .inl acc'->StW B (Wi++cW cs cenv D) φ s φ' s'->CAt B d cs ren nx A cenv kd D loc acc' r.2 φ' s'->R (.ok .next) s')->codeAny (model B.prog B.w) A (loop a) R s
theorem loop_ok (Y:Sys B) (rm:Room A d){cenv:Env}{kd:Option Nat}{D:Addr}(hOD:OffD cenv D){elt:Loc->AH->Option (V×AH)}{t:Expr}{t':Tgt}{ifs:List Expr}{ifs':List E}{gs:List G}{loop:Addr->Code}{body:Addr->Sem PySem.Fin}{p0:Pos}
  (ht:trTgt cs ren t=some t') (hifs:Snd2 B C d cs ren nx ifs ifs') (hb:∀ a,BodyOK B C d cs ren nx cenv kd D A elt gs (body a) (loop a))
  (hl:∀ a R s,(∀ E':Value->Shared->Prop,wpAny (model B.prog B.w) A (standAt p0>>=λ_=>pyNext (.ref a)>>=λr=>match r with
   | none=>pure (.done .next)
   | some v=>letOwnedTupleGo t (.ref a) v>>=λ_=>assign t cenv v>>=λ_=>
    (forIn ifs true λc r=>if r=true then do let ok <-isTrue c cenv (eval c cenv);pure (ForInStep.yield ok)else pure (ForInStep.yield r))>>=λok=>
    if ok=true then body a else again (loop a)) (λfin s'=>match fin with
     | .done f=>R (.ok f) s'
     | .again c'=>c'.quiet=true/\codeAny (model B.prog B.w) A c' R s') E' s)->codeAny (model B.prog B.w) A (loop a) R s) (hq:∀ a,(loop a).quiet=true):
  LoopOK B C d cs ren nx cenv kd D A elt t t' ifs' gs loop:=by
 intro fuel
 induction fuel with
 | zero=>intro it a Wi acc r σ φ s loc R hu h;exact noneE h
 | succ fuel ih=>
  intro it a Wi acc r σ φ s loc R hu h I S hoff X k
  have inW:∀ b∈Wi,b∈Wi++cW cs cenv D:=λb hb=>List.mem_append.mpr (.inl hb)
  have inC:∀ b∈cW cs cenv D,b∈Wi++cW cs cenv D:=λb hb=>List.mem_append.mpr (.inr hb)
  have Sall:Safe B.Z (Wi++cW cs cenv D):=S.1.append X.safe
  refine bindE h λo ho h=>hl a R s λE'=>(wpAny_bind (wpAny_standAt (wpAny_bind (next_ok (t:=t) Y rm.handled ho I S X.K.R ⟨λe s1 st R1=>?_,λq xv s1 e hgo=>?_⟩))))
  ·subst e
   obtain rfl:=oJ h
   exact wpAny_pure (k acc φ s1 rfl (st.widen (λb hb=>.inl (inW b hb)) Sall) (X.stepW st R1 hoff))
  ·subst e
   refine wpAny_bind (wpAny_mono hgo (λ_ s2 hd=>?_) λ_ _ q=>q)
   have W2:StW B (Wi++cW cs cenv D) φ s φ s2:=hd.st.widen (λb hb=>.inl (inW b hb)) Sall
   have X2:=X.stepW hd.st hd.R hoff
   refine bindE (show(compF C elt t' ifs' gs loc q.1 acc σ).bind _=some r from h) λw hF h=>bindE hF λl1 hl1 hF=>bindE hF λb hb1 hF=>wpAny_bind (tgt_ok Y ht hl1 X2.K hd.r λs3 st3 K3=>?_)
   obtain⟨I3,S3⟩:=it_keep X2.K.R hd.I hd.S st3 hoff.own
   have W3:=W2.seq st3 λb hb=>.inl (inC b (List.mem_cons_of_mem _ hb))
   have A3:=X2.Ac.step X2.K.R st3 hOD.own
   refine wpAny_bind (ResB.bind (ifs_ok' hifs hb1 K3) λφ4 s4 st4 R4=>?_)
   obtain⟨I4,S4⟩:=it_step K3.R I3 S3 st4
   have X4:CAt B d cs ren nx A cenv kd D l1 acc b.2 φ4 s4:=CAt.step ⟨K3,A3⟩ st4 R4
   have W4:=W3.seq (StW.of (W:=[]) st4 (Safe.nil _)) λ_=>nofun
   have go:∀ {acc':List V}{σ':AH}{φ5:Phi}{s5:Shared},w=(.inl acc',σ')->StW B (cW cs cenv D) φ4 s4 φ5 s5->CAt B d cs ren nx A cenv kd D l1 acc' σ' φ5 s5->(loop a).quiet=true/\codeAny (model B.prog B.w) A (loop a) R s5:=λew st5 X5=>by
    subst ew
    obtain⟨I5,S5⟩:=it_keep X4.K.R I4 S4 st5 hoff.far
    exact⟨hq a,ih hu h I5 S5 hoff ⟨⟨X5.K.rm,X5.K.V.weaken (unset_keep hu hl1),X5.K.R⟩,X5.Ac⟩ λacc' φ' s' e x X'=>k acc' φ' s' e ((W4.seq st5 λb hb=>.inl (inC b hb)).seq x λb hb=>.inl hb) X'⟩
   cases hbb:b.1 with
   | true=>
    rw[hbb]at hF
    exact bindE hF λg hg hF=>hb a hg X4 λφ5 s5 st5 X5=>go (oJ hF).symm st5 X5
   | false=>
    rw[hbb]at hF
    exact wpAny_pure (go (oJ hF).symm (StW.refl _ _ _ X4.safe) X4)
theorem comp_tree {elt:Expr}{gens:List Comprehension}{pos:Pos}{dep:Nat}{it acc:Value}{cenv:Env}{R:Result->Shared->Prop}{s:Shared}(h:∀ E':Value->Shared->Prop,wpAny (model B.prog B.w) A (compTurn (.ListComp elt gens cs pos) dep it acc cenv) (λfin s'=>match fin with
     | .done f=>R (.ok f) s'
     | .again c'=>c'.quiet=true/\codeAny (model B.prog B.w) A c' R s') E' s):codeAny (model B.prog B.w) A (.compLoop (.ListComp elt gens cs pos) dep it acc cenv) R s:=by
 refine codeAny_of_tree ?_
 show wpAny _ _ ((compTurn (.ListComp elt gens cs pos) dep it acc cenv).onRaise (λx=>do noteFrame x cenv;theTreesLotGoes x)) _ _ s
 exact wpAny_noted (h _)
theorem compTurn_more {elt:Expr}{gens:List Comprehension}{pos:Pos}{dep:Nat}{it acc:Value}{env:Env}{t it0 t2 it2:Expr}{ifs ifs2:List Expr}(hg:gens[dep]?=some ⟨t,it0,ifs,0⟩) (hn:gens[dep+1]?=some ⟨t2,it2,ifs2,0⟩):
  compTurn (.ListComp elt gens cs pos) dep it acc env=(standAt it0.pos>>=λ_=>pyNext it>>=λr=>match r with
   | none=>pure (.done .next)
   | some v=>letOwnedTupleGo t it v>>=λ_=>assign t env v>>=λ_=>
    (forIn ifs true λc r=>if r=true then do let ok <-isTrue c env (eval c env);pure (ForInStep.yield ok)else pure (ForInStep.yield r))>>=λok=>
    if ok=true then(do
      let x <-eval it2 env
      standAt it2.pos
      let x <-foldedSetIterable it2 env x
      let it' <-holding [x] (pyIter x)
      let _ <-runOwn (.compStart (.ListComp elt gens cs pos) (dep+1) it' acc env) env
      again (.compLoop (.ListComp elt gens cs pos) dep it acc env))
    else again (.compLoop (.ListComp elt gens cs pos) dep it acc env)):=by
 unfold compTurn
 dsimp only
 rw[hg,hn]
 rfl
theorem gen_ok (Y:Sys B) (rm:Room A d){elt:Expr}{elt':Mine.E}(He:Snd B C d cs ren nx elt elt'){gens:List Comprehension}{pos:Pos}{cenv:Env}{D:Addr}(hOD:OffD cenv D):
  ∀ {gs:List Comprehension}{gs':List G},SndGs B C d cs ren nx gs gs'->∀ {dep:Nat}{t it0:Expr}{ifs:List Expr}{t':Tgt}{ifs':List Mine.E},gens.drop dep=⟨t,it0,ifs,0⟩::gs->trTgt cs ren t=some t'->Snd2 B C d cs ren nx ifs ifs'->
  LoopOK B C d cs ren nx cenv none D A (λl s=>ev C elt' l s) t t' ifs' gs' λa=>.compLoop (.ListComp elt gens cs pos) dep (.ref a) (.ref D) cenv:=by
 intro gs gs' hgs
 induction hgs with
 | nil=>
  intro dep t it0 ifs t' ifs' hdrop ht hifs
  have hget:gens[dep]?=some ⟨t,it0,ifs,0⟩:=by have:=congrArg (·[0]?) hdrop;simpa using this
  have hnext:gens[dep+1]?=none:=by have:=congrArg (·[1]?) hdrop;simpa using this
  refine loop_ok Y rm hOD (p0:=it0.pos) (body:=λa=>((eval elt cenv>>=λx=>call (.builtin "list.append") [.ref D,x]>>=λ_=>pure ())>>=λ_=>again (.compLoop (.ListComp elt gens cs pos) dep (.ref a) (.ref D) cenv))) ht hifs ?_ (λa R s h=>comp_tree (by rw[compTurn_last hget hnext];exact h)) λ_=>rfl
  intro a loc acc σ φ s r Ex Q hg X k
  refine bindE hg λp h1 hg=>ifE hg λhlen hg=>wpAny_bind (wpAny_bind (He.run h1 X.K λφ5 s5 yv st5 K5 rv=>wpAny_bind ?_))
  have X5:=X.step st5 K5.R
  obtain⟨⟨items,n,hD,rs⟩,hoffD⟩:=X5.Ac.is rfl
  refine wpAny_list_append_plain (items:=items.toArray) ⟨n,hD⟩ (λh' hp sb=>?_) (lim_line (by rw[VRs_length rs]at hlen;exact Nat.le_of_lt hlen))
  obtain⟨n',hp⟩:=hp
  have kp:Kp B.tabs [D] s5.heap h':=.sameBut sb (List.mem_singleton.mpr rfl) hD rfl
  have stA:StW B [D] φ5 s5 φ5 {s5 with heap:=h'}:=⟨pre_refl ..,kp.mono (λb hb=>.inl (List.mem_append.mpr (.inl hb))),X5.Ac.safe,rfl,id⟩
  have V6:=K5.V.stepW stA K5.R (λhm=>hOD.locals (mS hm)) (λy c e hm=>hOD.cells y c e (mS hm))
  refine wpAny_pure (wpAny_pure (k φ5 _ (((StW.refl B φ s X.safe).seq (StW.of (W:=[]) st5 (Safe.nil _)) λ_=>nofun).seq stA λb hb=>.inl (by rw[mS hb];exact List.mem_cons_self ..)) ?_))
  obtain rfl:=oJ hg
  exact⟨⟨rm,V6,K5.R.off Y.ok kp X5.Ac.safe λb hb=>by rw[mS hb];exact hoffD⟩,λ_=>⟨⟨items++[yv],n',by rw[hp];simp,VRs_append (stA.vrs K5.R rs) (VRs_one (stA.vr K5.R rv))⟩,hoffD⟩,nofun,X5.Ac.low,Heap.lt_size hp⟩
 | @cons t2 it2 ifs2 t2' it2' ifs2' gs gs' ht2 hs2 hifs2 hgs2 IH=>
  intro dep t it0 ifs t' ifs' hdrop ht hifs
  have hget:gens[dep]?=some ⟨t,it0,ifs,0⟩:=by have:=congrArg (·[0]?) hdrop;simpa using this
  have hnext:gens[dep+1]?=some ⟨t2,it2,ifs2,0⟩:=by have:=congrArg (·[1]?) hdrop;simpa using this
  have hdrop2:gens.drop (dep+1)=⟨t2,it2,ifs2,0⟩::gs:=by have:=congrArg List.tail hdrop;rwa [List.tail_drop]at this
  refine loop_ok Y rm hOD (p0:=it0.pos) (body:=λa=>(do
      let x <-eval it2 cenv
      standAt it2.pos
      let x <-foldedSetIterable it2 cenv x
      let it' <-holding [x] (pyIter x)
      let _ <-runOwn (.compStart (.ListComp elt gens cs pos) (dep+1) it' (.ref D) cenv) cenv
      again (.compLoop (.ListComp elt gens cs pos) dep (.ref a) (.ref D) cenv))) ht hifs ?_ (λa R s h=>comp_tree (by rw[compTurn_more hget hnext];exact h)) λ_=>rfl
  intro a loc acc σ φ s r Ex Q hg X k
  refine ifE (show(if unsetT t2' loc=true then _ else none)=some r from hg) λhu2 hg=>bindE hg λp h1 hg=>bindE hg λi2 hi2 hg=>bindE hg λw hloop hg=>?_
  refine wpAny_bind (hs2.run h1 X.K λφ5 s5 yv st5 K5 rv=>wpAny_bind (wpAny_standAt (wpAny_bind ?_)))
  rw[folded_no cenv yv hs2.set]
  refine wpAny_pure (wpAny_bind (wpAny_holding (wpAny_mono (iter_ok Y hi2 K5.R rv) (λiv s6 hfr=>?_) λ_ _ q=>q)))
  obtain⟨a2,rfl,hf⟩:=hfr
  have st6:St B φ5 s5 φ5 s6:=St.of_kp hf.kp hf.os hf.gens
  have X5:=X.step st5 K5.R
  have X6:=X5.step st6 (K5.R.grow Y.ok hf.kp)
  have old:∀ {b:Addr},b<s5.heap.objs.size->b∉[a2]:=λhb hm=>by
   rw[mS hm]at hb
   exact absurd (Nat.lt_of_lt_of_le hb hf.ge) (Nat.lt_irrefl _)
  refine wpAny_bind (wpAny_runOwn (h:=none) ?_)
  show codeAny _ A _ _ _
  refine compStart_any hnext (IH hdrop2 ht2 hifs2 FUEL hu2 hloop hf.I hf.S ⟨old X5.Ac.lt,old (K5.V.lt _ (List.mem_cons_self ..)),λy c e=>old (K5.V.cellsLt e)⟩ X6 λacc' φ7 s7 ew st7 X7=>?_) rfl rfl (λA' Ex Q hq=>iterSelf_ok hf.I hq)
  rw[ew]at hg
  obtain rfl:=oJ hg
  refine wpAny_pure (k φ7 s7 ((((StW.refl B φ s X.safe).seq (StW.of (W:=[]) st5 (Safe.nil _)) λ_=>nofun).seq (StW.of (W:=[]) st6 (Safe.nil _)) λ_=>nofun).seq st7 λb hb=>?_) X7)
  rcases List.mem_append.mp hb with hb|hb
  ·rw[mS hb]
   exact .inr (nT st5.keep.size hf.ge)
  ·exact .inl hb
noncomputable def pairF (C:Oracle) (j:Nat) (k v:E) (l:Loc) (s:AH):Option (V×AH):=(ev C k l s).bind λq=>(ev C v l q.2).bind λr=>(setKeyV (.obj j) q.1 r.1 r.2).bind λs'=>some (V.none,s')
theorem dgen_ok (Y:Sys B) (rm:Room A d){k v:Expr}{k' v':Mine.E}(Hk:Snd B C d cs ren nx k k') (Hv:Snd B C d cs ren nx v v'){pos:Pos}{cenv:Env}{D:Addr}{j:Nat}(hOD:OffD cenv D){t it0:Expr}{t':Tgt}(ht:trTgt cs ren t=some t'):
  LoopOK B C d cs ren nx cenv (some j) D A (pairF C j k' v') t t' [] [] λa=>.compLoop (.DictComp k v [⟨t,it0,[],0⟩] cs pos) 0 (.ref a) (.ref D) cenv:=by
 refine loop_ok Y rm hOD (p0:=it0.pos) (body:=λa=>((eval k cenv>>=λkv=>holding [kv] (eval v cenv)>>=λvv=>standAt {k.pos with endLine:=v.pos.endLine,endCol:=v.pos.endCol}>>=λ_=>holding [kv,vv] (dictSet D kv vv))>>=λ_=>again (.compLoop (.DictComp k v [⟨t,it0,[],0⟩] cs pos) 0 (.ref a) (.ref D) cenv))) ht .nil ?_ (λa R s h=>?_) λ_=>rfl
 ·intro a loc acc σ φ s r Ex Q hg X q
  refine bindE hg λp h1 hg=>ifE hg λhlen hg=>bindE h1 λq1 hq1 h1=>bindE h1 λr1 hr1 h1=>bindE h1 λs1 hs1 h1=>?_
  refine wpAny_bind (wpAny_bind (Hk.run hq1 X.K λφ5 s5 kv st5 K5 rk=>wpAny_bind (wpAny_holding (Hv.run hr1 K5 λφ6 s6 vv st6 K6 rv=>wpAny_bind (wpAny_standAt (wpAny_holding ?_))))))
  have st:=st5.trans st6
  have X6:=X.step st K6.R
  obtain⟨p2,hp2,rfl⟩:=X6.Ac.dct j rfl
  refine bindE hs1 λa ha e=>bindE e λx hx e=>bindE e λkvs hd e=>ifE e λhl e=>?_
  obtain rfl:=oJ ha
  refine bindE (show(r1.2[j]?).bind asD=some kvs from hd) λob ho hd=>?_
  cases ob with
  | dict us=>
   obtain rfl:=oJ hd
   refine dict_set Y K6.R hp2 ho (vKx hx (st6.vr K5.R rk)) rv hl λs7 st7 R7=>wpAny_pure (q φ6 s7 ((StW.of (W:=cW cs cenv p2.1) (st.trans st7) X.safe)) ?_)
   obtain rfl:=oJ e
   obtain rfl:=oJ h1
   obtain rfl:=oJ hg
   exact⟨⟨rm,K6.V.step st7 K6.R,R7⟩,nofun,λi hi=>X6.Ac.dct i hi,X6.Ac.low,Nat.lt_of_lt_of_le X6.Ac.lt st7.keep.size⟩
  | _=>exact noneE hd
 ·refine codeAny_of_tree ?_
  show wpAny _ _ ((compTurn (.DictComp k v [⟨t,it0,[],0⟩] cs pos) 0 (.ref a) (.ref D) cenv).onRaise (λx=>do noteFrame x cenv;theTreesLotGoes x)) _ _ s
  exact wpAny_noted (h _)
end
end Mine
end
section
namespace Mine
open PySem PyProof.Rows
theorem layNew_led (t:SetTable) (es:Array (Int×Value)) (h:Int) (x:Value):(layNew t es h x).2.1.led=t.led:=by
 unfold layNew
 split
 ·rename_i slot wd _
  show(SetTable.orStandIn (t.put slot).1 _).led=t.led
  unfold SetTable.orStandIn
  split<;>rfl
 ·rfl
theorem relayAll_keeps (t:SetTable) (es:Array (Int×Value)) (wanted:Nat):(relayAll t es wanted).2.1.led=t.led/\(t.plain=false->(relayAll t es wanted).2.1.plain=false):=by
 unfold relayAll
 split
 ·rename_i t' order h
  have ht:t'.led=t.led/\t'.plain=t.plain:=by
   unfold SetTable.relaid SetTable.laid at h
   cases hc:SetTable.layClean (SetTable.sizeAbove wanted-1) (es.map (·.1))with
   | none=>rw[hc]at h;exact noneE h
   | some o=>rw[hc]at h;obtain⟨rfl,rfl⟩:=Prod.mk.inj (oJ h);exact⟨rfl,rfl⟩
  dsimp only
  split
  ·exact⟨ht.1,λe=>ht.2.trans e⟩
  ·exact⟨rfl,λ_=>rfl⟩
 ·exact⟨rfl,λ_=>rfl⟩
section
variable {prog:Program}{w:World}{es es':Array (Int×Value)}{t:SetTable}{l:List Cs}
theorem strsAre_perm {vs vs':List Value}{xs:List Cs}(h:StrsAre vs (xs.map λx=>(⟨x.toArray⟩:Str))) (p:vs'.Perm vs):∃ xs':List Cs,xs'.Perm xs/\StrsAre vs' (xs'.map λx=>(⟨x.toArray⟩:Str)):=by
 induction p generalizing xs with
 | nil=>exact⟨xs,.refl _,h⟩
 | cons a _ ih=>
  cases xs with
  | nil=>exact nomatch h
  | cons x xs=>
   generalize hg:(x::xs).map (λx=>(⟨x.toArray⟩:Str))=ys at h
   cases h with
   | cons y t r=>
    cases hg
    obtain⟨xs',p',r'⟩:=ih r
    exact⟨x::xs',p'.cons x,.cons _ _ r'⟩
 | swap a b rest=>
  match xs,h with
  | x::y::xs,h=>
   generalize hg:(x::y::xs).map (λx=>(⟨x.toArray⟩:Str))=ys at h
   cases h with
   | cons _ t r=>
    cases r with
    | cons _ t' r'=>cases hg;exact⟨y::x::xs,.swap ..,.cons _ _ (.cons _ _ r')⟩
  | [x],h=>exact nomatch h
  | [],h=>exact nomatch h
 | trans _ _ ih1 ih2=>
  obtain⟨x1,p1,h1⟩:=ih2 h
  obtain⟨x2,p2,h2⟩:=ih1 h1
  exact⟨x2,p2.trans p1,h2⟩
theorem strsAre_app {vs us:List Value}{xs ys:List Str}(h:StrsAre vs xs) (k:StrsAre us ys):StrsAre (vs++us) (xs++ys):=by
 induction h with
 | nil=>exact k
 | cons y t _ ih=>exact .cons y t ih
theorem strsAre_mem {vs:List Value}{xs:List Cs}(h:StrsAre vs (xs.map λx=>(⟨x.toArray⟩:Str))){c:Cs}:(∃ v∈vs,Value.isStrOf ⟨c.toArray⟩ v=true)↔c∈xs:=by
 induction xs generalizing vs with
 | nil=>cases h;exact⟨λ⟨_,h,_⟩=>(absurd h List.not_mem_nil),λh=>(nomatch h)⟩
 | cons x xs ih=>
  generalize hg:(x::xs).map (λx=>(⟨x.toArray⟩:Str))=ys at h
  cases h with
  | nil=>exact nomatch hg
  | cons y t r=>
   cases hg
   constructor
   ·rintro ⟨v,hv,hs⟩
    rcases mC hv with rfl|hv
    ·have:(⟨c.toArray⟩:Str)=⟨x.toArray⟩:=by
      obtain⟨t',e⟩:=Value.isStrOf_shape hs
      injection e with e
      exact e.symm
     rw[cs_inj this];exact .head _
    ·exact .tail _ ((ih r).mp ⟨v,hv,hs⟩)
   ·intro hm
    rcases mC hm with rfl|hm
    ·exact⟨_,.head _,beq_self_eq_true (⟨c.toArray⟩:Str)⟩
    ·obtain⟨v,hv,hs⟩:=(ih r).mpr hm
     exact⟨v,.tail _ hv,hs⟩
end
section
variable {prog:Program}{w:World}{A:Around}{Ex:Value->Shared->Prop}{s:Shared}
theorem get_putSet {h:Heap}{a:Addr}{es es':Array (Int×Value)}{ep:Nat}{t t':SetTable}(ho:h.get? a=some (setO es ep t)):(h.update a (Obj.putSet es' t')).get? a=some (setO es' (ep+1) t'):=by
 have:=Heap.get?_update_self (Obj.putSet es' t') ho (by rw[putSet_of es' t' rfl];rfl)
 rw[putSet_of es' t' rfl]at this;exact this
theorem set_tail {g:Bool->Sem Unit}(hg:∀ (b:Bool) (s₁:Shared) (Q':Unit->Shared->Prop),Q' () s₁->wpAny (model prog w) A (g b) Q' Ex s₁){a:Addr}{es es1:Array (Int×Value)}{ep:Nat}{t t2:SetTable}{l:List Cs}
  (ho:s.heap.get? a=some (setO es ep t)) (I:SetIn prog w es1 t2 l) (hp:t2.plain=false){wasDummy:Bool}{R:Option Bool->Shared->Prop}
  (h:∀ h' es' ep' t',Heap.SameBut a s.heap h'->h'.get? a=some (setO es' ep' t')->SetIn prog w es' t' l->R (some true) {s with heap:=h'}):
  wpAny (model prog w) A (do
    storeSet a es1 t2
    if (!wasDummy&&t2.tooFull)=true then do
      g (relayAll t2 es1 (SetTable.grown es1.size)).2.2
      storeSet a (relayAll t2 es1 (SetTable.grown es1.size)).1 (relayAll t2 es1 (SetTable.grown es1.size)).2.1
      pure (some true)
     else pure (some true)) R Ex s:=by
 have sz:∀ {e:Array (Int×Value)} {t},SetIn prog w e t l->e.size<64:=λ{e t} I=>by
  obtain⟨xs,p,q⟩:=I.txt
  have:=q.length
  rw[List.length_map,List.length_map,p.length_eq,Array.length_toList]at this
  rw[this];exact I.len
 have fit:∀ {e:Array (Int×Value)} {t},SetIn prog w e t l->e.size<=sizeLine:=λI=>by have:=sz I;rw[sizeLine_eq];omega
 refine wpAny_bind (wpAny_storeSet_of ho rfl ?_ (fit I))
 have ho1:=get_putSet (es':=es1) (t':=t2) ho
 have sb1:=Heap.SameBut.update s.heap a (Obj.putSet es1 t2)
 split
 ·have k1:=relayAll_perm t2 es1 (SetTable.grown es1.size)
  have k2:=relayAll_fits t2 es1 (SetTable.grown es1.size)
  have k3:=relayAll_keeps t2 es1 (SetTable.grown es1.size)
  generalize relayAll t2 es1 (SetTable.grown es1.size)=Rl at k1 k2 k3⊢
  obtain⟨es2,t3,gave⟩:=Rl
  have I2:SetIn prog w es2 t3 l:=⟨I.led.imp (λe=>k3.1.trans e) id,.inl (k3.2 hp),k2,I.el.perm k1,I.nd,I.len,by
   obtain⟨xs,p,q⟩:=I.txt
   obtain⟨xs',p',q'⟩:=strsAre_perm q (k1.map (·.2))
   exact⟨xs',p'.trans p,q'⟩⟩
  refine wpAny_bind (hg _ _ _ (wpAny_bind (wpAny_storeSet_of ho1 rfl (wpAny_pure ?_) (fit I2))))
  exact h _ _ _ _ (sb1.trans (Heap.SameBut.update _ a _)) (get_putSet ho1) I2
 ·exact wpAny_pure (h _ _ _ _ sb1 ho1 I)
theorem set_addH {a:Addr}{es:Array (Int×Value)}{ep:Nat}{t:SetTable}{l:List Cs}{c:Cs}{x:Value}{Q:Bool->Shared->Prop}(ho:s.heap.get? a=some (setO es ep t)) (I:SetIn prog w es t l) (hl:l.length+1<64) (hx:Value.isStrOf ⟨c.toArray⟩ x=true)
  (h:∀ b h' es' ep' t',Heap.SameBut a s.heap h'->h'.get? a=some (setO es' ep' t')->SetIn prog w es' t' (if l.any (· == c)then l else l++[c])->Q b {s with heap:=h'}):
  wpAny (model prog w) A (setAddHashed a x ((strKind prog w).hash ⟨c.toArray⟩)) Q Ex s:=by
 have hkey:(strKind prog w).is ⟨c.toArray⟩ x=true:=hx
 obtain⟨tk,rfl⟩:=Value.isStrOf_shape hx
 obtain⟨xs,p,q⟩:=I.txt
 have hsz:es.size=l.length:=by
  have:=q.length
  rw[List.length_map,List.length_map,p.length_eq,Array.length_toList]at this
  exact this
 have hb:es.size<scanBound:=by rw[hsz];have:=I.len;unfold scanBound;omega
 have hmem:(∃ e∈es.toList,(strKind prog w).is ⟨c.toArray⟩ e.2=true)↔c∈l:=by
  rw[<-p.mem_iff,<-strsAre_mem q]
  constructor
  ·rintro ⟨e,he,hs⟩;exact⟨e.2,List.mem_map.mpr ⟨e,he,rfl⟩,hs⟩
  ·rintro ⟨v,hv,hs⟩;obtain⟨e,he,rfl⟩:=List.mem_map.mp hv;exact⟨e,he,hs⟩
 unfold setAddHashed setAddHashedIn
 refine wpAny_holding (wpAny_bind (wpAny_setState_of ho rfl I.fits ?_))
 dsimp only
 rw[byScan_of rfl hb I.el,if_pos rfl]
 unfold setAddByScan
 refine wpAny_bind (wpAny_bind (wpAny_rule (wpAny_bind (wpAny_setScan_of hkey ho rfl I.fits I.el ?_))))
 cases hr:List.findIdx? (λe=>(strKind prog w).is ⟨c.toArray⟩ e.2) es.toList with
 | some j=>
  dsimp only
  obtain⟨hj,hpj,_⟩:=List.findIdx?_eq_some_iff_getElem.mp hr
  have hm:c∈l:=hmem.mp ⟨es.toList[j],List.getElem_mem hj,hpj⟩
  have hany:(l.any (· == c))=true:=List.any_eq_true.mpr ⟨c,hm,beq_self_eq_true c⟩
  refine wpAny_pure (wpAny_pure ?_)
  have:=h false s.heap es ep t (Heap.SameBut.refl ..) ho (by rw[if_pos hany];exact I)
  exact this
 | none=>
  dsimp only
  have hm:c∉l:=λhm=>by
   obtain⟨e,he,hp⟩:=hmem.mpr hm
   have:=List.findIdx?_eq_none_iff.mp hr e he
   rw[hp]at this;exact Bool.noConfusion this
  have hany:¬(l.any (· == c))=true:=λhany=>by
   obtain⟨y,hy,e⟩:=List.any_eq_true.mp hany
   exact hm (beq_iff_eq.mp e▸hy)
  rw[if_neg hany]at h
  have k1:=layNew_perm t es ((strKind prog w).hash ⟨c.toArray⟩) (.str ⟨c.toArray⟩ tk)
  have k2:=layNew_fits t es ((strKind prog w).hash ⟨c.toArray⟩) (.str ⟨c.toArray⟩ tk)
  have k3:=layNew_led t es ((strKind prog w).hash ⟨c.toArray⟩) (.str ⟨c.toArray⟩ tk)
  generalize layNew t es ((strKind prog w).hash ⟨c.toArray⟩) (.str ⟨c.toArray⟩ tk)=L at k1 k2 k3⊢
  obtain⟨es1,t1,wasDummy,gave⟩:=L
  dsimp only at k1 k2 k3⊢
  rw[Array.toList_push]at k1
  have mk:∀ t2:SetTable,t2.led=t1.led->t2.plain=false->t2.fits es1.size=true->SetIn prog w es1 t2 (l++[c]):=λt2 e1 e2 e3=>
   ⟨I.led.imp (λe=>e1.trans (k3.trans e)) id,.inl e2,e3,(I.el.push hkey rfl).perm k1,
    List.nodup_append.mpr ⟨I.nd,List.nodup_cons.mpr ⟨nofun,List.nodup_nil⟩,λu hu v hv e=>hm (by rw[mS hv]at e;exact e▸hu)⟩,by rw[List.length_append];exact hl,by
    have q2:StrsAre ((es.toList++[((strKind prog w).hash ⟨c.toArray⟩,Value.str ⟨c.toArray⟩ tk)]).map (·.2)) ((xs++[c]).map λx=>(⟨x.toArray⟩:Str)):=by
     rw[List.map_append,List.map_append]
     exact strsAre_app q (.cons _ _ .nil)
    obtain⟨xs',p',q'⟩:=strsAre_perm q2 (k1.map (·.2))
    exact⟨xs',p'.trans (p.append_right [c]),q'⟩⟩
  have hgw:∀ (b:Bool) (s₁:Shared) (Q':Unit->Shared->Prop),Q' () s₁->wpAny (model prog w) A (match b with|true=>rule "set.scan.the-table-gave-way"|false=>pure ()) Q' Ex s₁:=
   λb s₁ Q' hq=>by cases b<;>first|exact wpAny_pure hq|exact wpAny_rule hq
  refine wpAny_bind (hgw _ _ _ ?_)
  split
  ·refine wpAny_bind ?_
   rw[hashByValue_scannable 8 rfl]
   refine wpAny_pure (set_tail (l:=l++[c]) ?_ ho (mk _ ?_ ?_ ?_) ?_ λh' es' ep' t' sb hg I'=>?_)
   ·intro b s₁ Q' hq;cases b<;>first|exact wpAny_pure hq|exact wpAny_rule hq
   ·rfl
   ·rfl
   ·exact SetTable.fits_plain_off k2
   ·rfl
   ·exact wpAny_pure (h true h' es' ep' t' sb hg I')
  ·rename_i hpl
   refine wpAny_bind (wpAny_pure ?_)
   rw[if_pos rfl]
   refine set_tail (l:=l++[c]) ?_ ho (mk _ rfl (by simpa using hpl) k2) (by simpa using hpl) λh' es' ep' t' sb hg I'=>?_
   ·intro b s₁ Q' hq;cases b<;>first|exact wpAny_pure hq|exact wpAny_rule hq
   ·exact wpAny_pure (h true h' es' ep' t' sb hg I')
theorem set_add {a:Addr}{es:Array (Int×Value)}{ep:Nat}{t:SetTable}{l:List Cs}{c:Cs}{x:Value}{Q:Bool->Shared->Prop}(ho:s.heap.get? a=some (setO es ep t)) (I:SetIn prog w es t l) (hl:l.length+1<64) (hx:Value.isStrOf ⟨c.toArray⟩ x=true)
  (h:∀ b h' es' ep' t' tk,s.toks<=tk->Heap.SameBut a s.heap h'->h'.get? a=some (setO es' ep' t')->SetIn prog w es' t' (if l.any (· == c)then l else l++[c])->Q b {s with heap:=h',toks:=tk}):
  wpAny (model prog w) A (setAdd a x) Q Ex s:=by
 unfold setAdd
 exact wpAny_holding (wpAny_bind ((strKind prog w).pyHash (k:=⟨c.toArray⟩) hx (set_addH (s:={s with toks:=s.toks+1}) ho I hl hx λb h' es' ep' t' sb hg I'=>h b h' es' ep' t' _ (Nat.le_succ _) sb hg I')))
end
end Mine
end
section
namespace Mine
open PySem PyProof.Rows
theorem dedupS_app:∀ (a b acc:List Cs),dedupS (a++b) acc=dedupS b (dedupS a acc)
 | [],_,_=>rfl
 | c::a,b,acc=>dedupS_app a b _
theorem dedupS_len:∀ (a acc:List Cs),(dedupS a acc).length<=acc.length+a.length
 | [],_=>Nat.le_refl _
 | c::a,acc=>by
  refine nT (dedupS_len a _) ?_
  by_cases h:(acc.any (· == c))=true
  ·rw[if_pos h,List.length_cons];omega
  ·rw[if_neg h,List.length_append,List.length_cons,List.length_cons,List.length_nil];omega
section
variable {prog:Program}{w:World}{A:Around}{R:Result->Shared->Prop}{I:Addr}{fp wr:List Addr}{G:Array GenState->Array GenState->Prop}{P:Nat->Value->Prop}{St:Nat->Shared->Prop}
theorem set_loop {l:List Cs}(W:WalksS prog w A.in1 I fp wr G l.length P St) (S:Addr) (hSf:S∉fp) (hval:∀ i v,P i v->∃ c,l[i]?=some c/\Value.isStrOf ⟨c.toArray⟩ v=true) (hb:l.length<64):
  ∀ (k i:Nat) (s:Shared),l.length-i=k->i<=l.length->St i s->SetHas prog w s.heap S (dedupS (l.take i) [])->
   (∀ s',Moved (S::wr) G s s'->SetHas prog w s'.heap S (dedupS l [])->R (.ok (.ret .none)) s')->
   codeAny (model prog w) A (.builtin "set.update.loop" ⟨[.ref S,.ref I],[]⟩) R s:=by
 have hSw:S∉wr:=λh=>hSf (W.sub _ h)
 have hsub:∀ b∈wr,b∈S::wr:=λb hb=>List.mem_cons_of_mem _ hb
 have keep:∀ {s s':Shared} {m},Moved wr G s s'->SetHas prog w s.heap S m->SetHas prog w s'.heap S m:=λhm ⟨es,ep,t,ho,q⟩=>⟨es,ep,t,hm.heap S _ hSw ho,q⟩
 intro k
 induction k with
 | zero=>
  intro i s hk hi hst hS hR
  have hin:i=l.length:=Nat.le_antisymm hi (Nat.le_of_sub_eq_zero hk)
  subst hin
  refine codeAny_builtin F.entry_set_update_loop ?_
  rw[Around.under_plainId F.plain_set_update_loop _]
  show wpAny _ A.in1 (pyNext (.ref I)>>=_) _ _ s
  refine wpAny_bind (W.done s _ _ hst λs' hm=>?_)
  show wpAny _ A.in1 (ret Value.none) _ _ s'
  rw[List.take_length]at hS
  exact wpAny_pure (hR s' (hm.mono hsub) (keep hm hS))
 | succ k ih=>
  intro i s hk hi hst hS hR
  have hlt:i<l.length:=Nat.lt_of_sub_eq_succ hk
  refine codeAny_builtin F.entry_set_update_loop ?_
  rw[Around.under_plainId F.plain_set_update_loop _]
  show wpAny _ A.in1 (pyNext (.ref I)>>=_) _ _ s
  refine wpAny_bind (W.item i s _ _ hlt hst λv s' hP hst' hm=>?_)
  obtain⟨c,hc,hx⟩:=hval i v hP
  obtain⟨es,ep,t,ho,hI⟩:=keep hm hS
  show wpAny _ A.in1 (holding [v] (setAdd S v)>>=_) _ _ s'
  have hl:(dedupS (l.take i) []).length+1<64:=by
   have:=dedupS_len (l.take i) []
   rw[List.length_take,List.length_nil,Nat.zero_add]at this
   exact Nat.lt_of_le_of_lt (nT (Nat.succ_le_succ (nT this (Nat.min_le_left ..))) hlt) hb
  refine wpAny_bind (wpAny_holding (set_add ho hI hl hx λb h' es' ep' t' tk htk hsb hg hI'=>?_))
  have hnx:dedupS (l.take (i+1)) []=if (dedupS (l.take i) []).any (· == c)then dedupS (l.take i) []else dedupS (l.take i) []++[c]:=by
   rw[List.take_add_one,hc,dedupS_app];rfl
  rw[<-hnx]at hI'
  refine wpAny_pure ⟨plainId_quiet F.plain_set_update_loop _,ih (i+1) _ (congrArg Nat.pred hk) hlt (W.frame _ s' _ _ hst' htk λb hb o e=>?_) ⟨es',ep',t',hg,hI'⟩ λs'' hm'' hS''=>?_⟩
  ·rw[hsb.2 b (λh:b=S=>hSf (by rw[<-h];exact hb))];exact e
  ·refine hR s'' (Moved.trans W.gtrans ((hm.mono hsub).then_heap htk λb o hb e=>?_) hm'') hS''
   rw[hsb.2 b (λh:b=S=>hb (by rw[h];exact List.mem_cons_self))];exact e
end
section
variable {prog:Program}{w:World}{A:Around}{E:Value->Shared->Prop}{s:Shared}
theorem strs_at {xs:List Value}{l:List Cs}(h:StrsAre xs (l.map λx=>(⟨x.toArray⟩:Str))){i:Nat}{v:Value}(hv:xs[i]?=some v):∃ c,l[i]?=some c/\Value.isStrOf ⟨c.toArray⟩ v=true:=by
 induction l generalizing xs i with
 | nil=>cases h;exact noneE hv
 | cons c l ih=>
  generalize hg:(c::l).map (λx=>(⟨x.toArray⟩:Str))=ys at h
  cases h with
  | nil=>exact nomatch hg
  | cons y t r=>
   cases hg
   cases i with
   | zero=>cases hv;exact⟨c,rfl,beq_self_eq_true (⟨c.toArray⟩:Str)⟩
   | succ i=>exact ih r hv
theorem set_new (a:Value){Q₁:Value->Shared->Prop}(h:Q₁ (.ref s.heap.objs.size) {s with heap:=s.heap.push (setO #[] 0 (.fresh 0 0 (!(w.params.followText "set-order"))))}):
  codeAny (model prog w) A (.call (.builtin "set.__new__") ⟨[.type "set",a],[]⟩) (wants Q₁ E) s:=by
 refine codeAny_of_tree ?_
 show wpAny _ A.in1 (do checkBuiltinCall "set.__new__" ⟨[.type "set",a],[]⟩;again (.builtin "set.__new__" ⟨[.type "set",a],[]⟩)) _ _ s
 refine wpAny_bind (wpAny_of_eq (F.newCall_set_1 a) (wpAny_pure ⟨plainId_quiet F.plain_set_new _,codeAny_builtin F.entry_set_new ?_⟩))
 rw[Around.under_plainId F.plain_set_new _]
 unfold Builtin.«set.__new__» Builtin.Frozenset.newClass
 have hsub:=sub_set_self
 obtain⟨hp,g,d,tk,os⟩:=s
 dsimp only
 wp_walk
 refine wpAny_askSetting (wpAny_pure ?_)
 dsimp only
 simp only [newObj]
 refine wpAny_bind (wpAny_alloc (wpAny_pure ?_))
 exact wpAny_pure h
theorem set_fresh:SetIn prog w #[] (.fresh 0 0 (!(w.params.followText "set-order"))) []:=by
 refine⟨?_,.inr rfl,rfl,λe he=>by simp at he,.nil,by decide,[],.refl _,.nil⟩
 cases w.params.followText "set-order"
 ·exact .inl rfl
 ·exact .inr rfl
theorem tn_set:typeName (.type "set")=pure ((Manifest.find? "set").elim "set" (·.tpName)):=rfl
theorem cut_set {S:Addr}{n:Nat}{Q:String->Shared->Prop}(hT:s.TypeIs (.ref S) "set") (h:∀ n,Q n s):wpAny (model prog w) A (typeNameOfCut n (.ref S)) Q E s:=by
 unfold typeNameOfCut shownTypeOf
 exact wpAny_bind (wpAny_bind (wpAny_typeOf hT (wp_no (by decide) (wpAny_pure (wpAny_of_eq (show typeNameCut n (.type "set")=_ from tn_set) (h _))))))
theorem init_set {S a:Addr}{led:Bool}{xs:Array Value}{nl:Nat}{Q:PySem.Fin->Shared->Prop}(hfin:s.heap.get? S=some (setO #[] 0 (.fresh 0 0 led))) (hl:s.heap.get? a=some (lstO xs nl))
  (h:codeAny (model prog w) A (.builtin "set.update.loop" ⟨[.ref S,.ref s.heap.objs.size],[]⟩) (λr s'=>r = .ok (.ret .none)/\Q (.done (.ret .none)) s') {s with heap:=s.heap.push {cls:=.type "list_iterator",data:=.fields #[.ref a,.int 0 0]}}):
  wpAny (model prog w) A (Builtin.«set.__init__» ⟨[.ref S,.ref a],[]⟩) Q E s:=by
 have hT:s.TypeIs (.ref S) "set":=⟨_,hfin,rfl⟩
 have hTa:s.TypeIs (.ref a) "list":=⟨_,hl,rfl⟩
 have no:¬(false=true):=Bool.false_ne_true
 unfold Builtin.«set.__init__» noKeywords Builtin.Frozenset.updateFrom
 refine wpAny_bind (wp_yes rfl (wpAny_pure (wpAny_bind (cut_set hT λnm=>?_))))
 unfold checkCount
 refine wpAny_bind (wp_no no (wp_no (Nat.not_lt_zero _) (wp_no (Nat.lt_irrefl 1) (wpAny_pure ?_))))
 refine wpAny_bind (m:=pure S) (wpAny_pure (wpAny_bind (wpAny_bind (wpAny_setState_of hfin rfl rfl (wpAny_pure (wp_no no (wpAny_bind ?_)))))))
 refine wpAny_bind (wpAny_bind (wpAny_isInstance hTa F.sub_list_set (wpAny_isInstance hTa F.sub_list_frozenset (wp_no no ?_))))
 refine wpAny_bind (wpAny_typeOf hTa (wp_no (by decide) ?_))
 refine wpAny_bind (wpAny_pyIter_list ⟨_,hl,rfl,nl,rfl⟩ (wpAny_bind (wpAny_runValue ?_)))
 refine codeAny_mono h λr s' hr=>?_
 obtain⟨rfl,hq⟩:=hr
 exact wpAny_pure (wpAny_pure hq)
theorem call_set {a:Addr}{xs:List Value}{nl:Nat}{l:List Cs}{Q:Value->Shared->Prop}(hh:A.handled=none) (hl:s.heap.get? a=some (lstO xs.toArray nl)) (hi:StrsAre xs (l.map λx=>(⟨x.toArray⟩:Str))) (hb:l.length<64)
  (h:∀ (h':Heap) (tk:Nat),SetHas prog w h' s.heap.objs.size (dedupS l [])->(∀ b o,b<s.heap.objs.size->s.heap.get? b=some o->h'.get? b=some o)->Q (.ref s.heap.objs.size) {s with heap:=h',toks:=tk}):
  wpAny (model prog w) A (call (.type "set") [.ref a]) Q E s:=by
 obtain⟨c,tl,hmro⟩:=F.called_set.mro
 refine wpAny_call (codeAny_of_tree ?_)
 show wpAny _ _ (callAny (.type "set") _) _ _ _
 refine wpAny_pure ⟨Code.quiet_builtin _ (by decide +kernel),codeAny_builtin F.entry_type_call ?_⟩
 rw[Around.under_plain (weight_type_call_type "set" [.ref a] []) rfl]
 unfold Builtin.«type.__call__»
 refine wp_no (ne_true_of_eq_false F.called_set.notType) (wp_no (ne_true_of_eq_false F.called_set.canCreate) ?_)
 refine wpAny_bind (wpAny_of_eq (F.typeCall_set_1 (.ref a)) (wpAny_bind (wpAny_of_eq hmro (wp_no Bool.false_ne_true ?_))))
 refine wpAny_bind (wpAny_of_eq F.called_set.made (wpAny_bind (m:=pure (Value.builtin "set.__new__")) (wpAny_pure ?_)))
 refine wpAny_bind (wpAny_holding (wpAny_call (set_new (.ref a) ?_)))
 have fresh:=set_fresh (prog:=prog) (w:=w)
 have hfin:=Heap.get?_push_size s.heap (o:=setO #[] 0 (.fresh 0 0 (!(w.params.followText "set-order")))) rfl
 have hk:∀ b o,s.heap.get? b=some o->(s.heap.push (setO #[] 0 (.fresh 0 0 (!(w.params.followText "set-order"))))).get? b=some o:=λb o e=>Heap.get?_push_of_some _ e
 have hsz:(s.heap.push (setO #[] 0 (.fresh 0 0 (!(w.params.followText "set-order"))))).objs.size=s.heap.objs.size+1:=Heap.size_push ..
 show wpAny _ _ _ _ _ {s with heap:=s.heap.push (setO #[] 0 (.fresh 0 0 (!(w.params.followText "set-order"))))}
 generalize (!(w.params.followText "set-order"))=led at fresh hfin hk hsz⊢
 generalize s.heap.push (setO #[] 0 (.fresh 0 0 led))=h1 at hfin hk hsz⊢
 have hT:Shared.TypeIs {s with heap:=h1} (.ref s.heap.objs.size) "set":=⟨_,hfin,rfl⟩
 refine wpAny_bind (wpAny_isInstance hT F.called_set.sub (wp_no Bool.false_ne_true ?_))
 refine wpAny_bind (wpAny_holding (wpAny_bind (wpAny_specialOf hT F.called_set.init.lookup ?_)))
 refine wpAny_holding (wpAny_bind (wpAny_of_eq (F.called_set.init.bind _) (wpAny_bind (wpAny_call ?_))))
 have haS:a<s.heap.objs.size:=Heap.lt_size hl
 have hneI:a≠h1.objs.size:=by rw[hsz];exact Nat.ne_of_lt (Nat.lt_succ_of_lt haS)
 have hSf:s.heap.objs.size∉[h1.objs.size,a]:=λhm=>(mC hm).elim (λe=>absurd (e.trans hsz) (Nat.ne_of_lt (Nat.lt_succ_self _))) λhm=>absurd (mS hm) (Nat.ne_of_gt haS)
 have hlen:xs.toArray.size=l.length:=by rw[List.size_toArray,hi.length,List.length_map]
 refine codeAny_call_builtin F.called_set.init.plain F.entry_set_init (check_set_init_1 hT (init_set (led:=led) hfin (hk _ _ hl) ?_))
 have W:=(Walks.list (prog:=prog) (w:=w) (A:=A.in1.in1.in1) hh h1.objs.size a hneI xs.toArray).toS
 rw[hlen]at W
 refine set_loop W s.heap.objs.size hSf (λi v hv=>strs_at hi (by rw[List.getElem?_toArray]at hv;exact hv)) hb (l.length-0) 0 _ rfl (Nat.zero_le _) ⟨⟨_,Heap.get?_push_size _ rfl,rfl,rfl⟩,⟨_,Heap.get?_push_of_some _ (hk _ _ hl),rfl,nl,rfl⟩⟩ ⟨_,_,_,Heap.get?_push_of_some _ hfin,fresh⟩ λs' hm hS'=>⟨rfl,?_⟩
 obtain⟨h',g',d',tk',os'⟩:=s'
 have eg:g'=s.gens:=hm.gens
 have ed:d'=s.drawn:=hm.drawn
 have eo:os'=s.os:=hm.os
 subst eg;subst ed;subst eo
 refine wpAny_pure (wpAny_pure (h h' tk' hS' λb o hb e=>hm.heap b o (λhb'=>?_) (Heap.get?_push_of_some _ (hk b o e))))
 rcases mC hb' with e|hb'
 ·exact absurd e (Nat.ne_of_lt hb)
 ·rw[mS hb',hsz]at hb;exact absurd hb (Nat.not_lt.mpr (Nat.le_succ _))
end
end Mine
end
section
namespace PySem.F
theorem entry_set_iter':entryFor table "set.__iter__"=some Builtin.«frozenset.__iter__»:=entryFor_alias (id':="frozenset.__iter__") (by kernel_rfl) rfl (by decide +kernel) (by kernel_rfl)
theorem entry_si_next:entryFor table "set_iterator.__next__"=some Builtin.«set_iterator.__next__»:=entryFor_of_tree (by kernel_rfl)
theorem entry_si_iter:entryFor table "set_iterator.__iter__"=some Builtin.«dict_keyiterator.__iter__»:=entryFor_alias (id':="dict_keyiterator.__iter__") (by kernel_rfl) rfl (by decide +kernel) (by kernel_rfl)
theorem slot_si_next:Slot "set_iterator" "__next__" "set_iterator.__next__":=
 .of (owner:="set_iterator") (n:="__next__") (by rw[typeLookup_type,builtinLookup_eq_fast];kernel_rfl) (by decide +kernel) (by decide +kernel) (by decide +kernel)
  (by first|exact .inl (by decide +kernel)|exact .inr (by decide +kernel)) (by rw[isSubtype_type];kernel_rfl)
theorem slot_si_iter:Slot "set_iterator" "__iter__" "set_iterator.__iter__":=
 .of (owner:="set_iterator") (n:="__iter__") (by rw[typeLookup_type,builtinLookup_eq_fast];kernel_rfl) (by decide +kernel) (by decide +kernel) (by decide +kernel)
  (by first|exact .inl (by decide +kernel)|exact .inr (by decide +kernel)) (by rw[isSubtype_type];kernel_rfl)
theorem args_si_next (a:Value):argsOk "set_iterator.__next__" ⟨[a],[]⟩:=by unfold argsOk;kernel_rfl
theorem args_si_iter (a:Value):argsOk "set_iterator.__iter__" ⟨[a],[]⟩:=by unfold argsOk;kernel_rfl
end PySem.F
namespace Mine
open PySem PyProof.Rows
theorem wpAny_choose {M:Model}{A:Around}{Ex:Value->Shared->Prop}{s:Shared}{src:Source}{n:Nat}{Q:Nat->Shared->Prop}(hn:n≠0) (h:∀ i,i<n->∀ d,Q i {s with drawn:=d}):wpAny M A (choose src n) Q Ex s:=λΓ p _=>by
 unfold choose
 rw[Sem.wp_choose]
 exact⟨hn,h _ (Nat.mod_lt _ (Nat.pos_of_ne_zero hn)) _⟩
theorem pick_one {α:Type}:∀ (l:List α) (i:Nat) (h:i<l.length),(l[i]::l.eraseIdx i).Perm l
 | _::_,0,_=>.refl _
 | x::xs,i+1,h=>(List.Perm.swap ..).trans ((pick_one xs i (Nat.lt_of_succ_lt_succ h)).cons x)
theorem drawOrder_ok {α:Type}{M:Model}{A:Around}{Ex:Value->Shared->Prop}:∀ (n:Nat) (xs:List α) (s:Shared){Q:List α->Shared->Prop},xs.length=n->(∀ ys:List α,ys.Perm xs->∀ d,Q ys {s with drawn:=d})->wpAny M A (drawOrder n xs) Q Ex s
 | 0,xs,s,Q,hl,k=>by
  cases List.eq_nil_of_length_eq_zero hl
  exact wpAny_pure (k [] (.refl _) s.drawn)
 | n+1,xs,s,Q,hl,k=>by
  cases xs with
  | nil=>exact nomatch hl
  | cons y ys=>
   refine wpAny_bind (m:=choose .order _) (wpAny_choose (by rw[hl];exact Nat.succ_ne_zero n) λi hi d=>?_)
   rw[List.getElem?_eq_getElem hi]
   have hp:((y::ys)[i]::(y::ys).eraseIdx i).Perm (y::ys):=pick_one _ _ hi
   refine wpAny_bind (drawOrder_ok n _ _ (by rw[List.length_eraseIdx_of_lt hi,hl];rfl) λzs hz d'=>wpAny_pure (k _ ((hz.cons _).trans hp) d'))
set_option smartUnfolding false in
theorem pick_step {α:Type}(next:Nat->Nat) (fuel k:Nat) (left:List α) (out:Array α):pickOrder.go next (fuel+1) k left out=(left[next k % left.length]?).casesOn out λx=>pickOrder.go next fuel (k+1) (left.eraseIdx (next k % left.length)) (out.push x):=rfl
theorem pick_go {α:Type}(next:Nat->Nat):∀ (fuel k:Nat) (left:List α) (out:Array α),left.length<=fuel->(pickOrder.go next fuel k left out).toList.Perm (out.toList++left)
 | 0,k,left,out,h=>by
  cases List.eq_nil_of_length_eq_zero (Nat.le_zero.mp h)
  show out.toList.Perm _
  rw[List.append_nil]
 | fuel+1,k,left,out,h=>by
  cases left with
  | nil=>rw[List.append_nil];exact .refl _
  | cons y ys=>
   have hi:next k % (y::ys).length<(y::ys).length:=Nat.mod_lt _ (Nat.succ_pos _)
   rw[pick_step,List.getElem?_eq_getElem hi]
   have hp:((y::ys)[next k % (y::ys).length]::(y::ys).eraseIdx (next k % (y::ys).length)).Perm (y::ys):=pick_one _ _ hi
   refine(pick_go next fuel (k+1) _ _ (by rw[List.length_eraseIdx_of_lt hi];exact Nat.pred_le_pred h)).trans ?_
   rw[Array.toList_push,List.append_assoc]
   exact hp.append_left _
theorem pick_perm {α:Type}(next:Nat->Nat) (xs:Array α):(pickOrder next xs).toList.Perm xs.toList:=by
 have:=pick_go next xs.size 0 xs.toList #[] (by rw[Array.length_toList];exact Nat.le_refl _)
 exact this
noncomputable abbrev itO (first:Value) (i:Nat) (a:Addr) (n ep:Nat):Obj:={cls:=.type "set_iterator",dict:=none,data:=.fields #[first,.int i 0,.ref a,.int n 0,.int ep 0],slots:=#[]}
section
variable {prog:Program}{w:World}{A:Around}{Ex:Value->Shared->Prop}{s:Shared}{I a:Addr}{es:Array (Int×Value)}{ep i n:Nat}{t:SetTable}{first:Value}
theorem it_type (ho:s.heap.get? I=some (itO first i a n ep)):s.TypeIs (.ref I) "set_iterator":=⟨_,ho,rfl⟩
theorem it_self {Q:Value->Shared->Prop}(ho:s.heap.get? I=some (itO first i a n ep)) (h:Q (.ref I) s):wpAny (model prog w) A (pyIter (.ref I)) Q Ex s:=by
 refine wpAny_pyIter_slot (it_type ho) F.slot_si_iter (wpAny_call_entry F.slot_si_iter (it_type ho) F.entry_si_iter ?_ (F.args_si_iter _))
 show wpAny _ _ (ret (.ref I)) _ _ s
 exact wpAny_pure ⟨_,rfl,"set_iterator",_,it_type ho,F.slot_si_next.lookup,h⟩
theorem it_field {h:Heap}{vs:Array Value}(ho:h.get? I=some {cls:=.type "set_iterator",dict:=none,data:=.fields vs,slots:=#[]}) (f:Array Value->Array Value):(h.update I (Obj.mapFields f)).get? I=some {cls:=.type "set_iterator",dict:=none,data:=.fields (f vs),slots:=#[]}:=
 Heap.get?_update_self (Obj.mapFields f) ho rfl
theorem it_item_slot {slot nx:Nat}{x:Value}{Q:Option Value->Shared->Prop}(ho:s.heap.get? I=some (itO (.int slot 0) i a n ep)) (hs:s.heap.get? a=some (setO es ep t)) (hf:t.fits es.size=true) (hn:es.size=n)
  (hset:∀ (A:Around) (E:Value->Shared->Prop) (Q:Option (Value×Nat)->Shared->Prop),Q (some (x,nx)) s->wpAny (model prog w) A (setNext a slot i ep) Q E s)
  (hQ:∀ h',h'.get? I=some (itO (.int nx 0) (i+1) a n ep)->Heap.SameBut I s.heap h'->Q (some x) {s with heap:=h'}):wpAny (model prog w) A (pyNext (.ref I)) Q Ex s:=by
 unfold pyNext
 refine wpAny_bind (wpAny_attempt (wpAny_callSpecial?_slot (name:=Str.ofString "__next__") (it_type ho) F.slot_si_next (wpAny_call_entry F.slot_si_next (it_type ho) F.entry_si_next ?_ (F.args_si_next _))))
 unfold Builtin.«set_iterator.__next__»
 refine wpAny_bind (wpAny_pure ?_)
 refine wpAny_bind (wpAny_fieldsOf ho rfl ?_)
 show wpAny _ _ (setEntries a>>=λes=>if ((es.size:Int) != (n:Int))=true then _ else(setNext a slot i ep>>=_)) _ _ s
 refine wpAny_bind (wpAny_setEntries_of hs rfl hf ?_)
 rw[if_neg (by rw[hn];simp)]
 refine wpAny_bind (hset _ _ _ ?_)
 show wpAny _ _ (setField (.ref I) 0 (rawInt nx)>>=λ_=>setField (.ref I) 1 (rawInt ((i:Int)+1))>>=λ_=>ret x) _ _ s
 refine wpAny_bind (wpAny_setField ho rfl (by simp) ?_)
 have h1:=it_field ho (·.setIfInBounds 0 (rawInt nx))
 refine wpAny_bind (wpAny_setField (s:={s with heap:=s.heap.update I (Obj.mapFields (·.setIfInBounds 0 (rawInt nx)))}) h1 rfl (by simp) ?_)
 have h2:=it_field h1 (·.setIfInBounds 1 (rawInt ((i:Int)+1)))
 exact wpAny_pure ⟨_,rfl,wpAny_pure (hQ _ h2 ((Heap.SameBut.update ..).trans (Heap.SameBut.update ..)))⟩
theorem it_stop {h0:Heap}{Q:Option Value->Shared->Prop}(hh:A.handled=none) (hx:Heap.ExtBut I s.heap h0) (hsz:s.heap.objs.size<=h0.objs.size) (hQ:∀ h',Heap.ExtBut I s.heap h'->s.heap.objs.size<=h'.objs.size->Q none {s with heap:=h'}){P:Fin->Shared->Prop}{E':Value->Shared->Prop}
  (hE:∀ e s',wpAny (model prog w) A (do if <-isInstance e (.type "StopIteration")then pure none else throw e) Q Ex s'->E' e s'):
  wpAny (model prog w) A.in1 (newExc (.type "StopIteration") []>>=λe=>raiseNew e) P E' {s with heap:=h0}:=by
 refine wpAny_bind ?_
 simp only [newExc,newTuple]
 refine wpAny_bind (wpAny_newObj_type ?_ (by size_fits))
 refine wpAny_bind (m:=firstArgMember _ _) (wpAny_of_eq (a:=Value.none) (by first|rfl|(simp only [firstArgMember];rfl)) ?_)
 refine wpAny_newObj_type ?_ (by size_fits)
 refine wpAny_bind (m:=handled) (wpAny_handled ?_)
 rw[show A.in1.handled=none from hh]
 refine wpAny_throw (hE _ _ ?_)
 refine wpAny_bind (wpAny_isInstance (T:="StopIteration") (b:=true) ⟨_,Heap.get?_push_size _ rfl,rfl⟩ isSubtype_stop ?_)
 exact wpAny_pure (hQ _ ((hx.push _).push _) (by rw[Heap.size_push,Heap.size_push];exact Nat.le_succ_of_le (Nat.le_succ_of_le hsz)))
end
end Mine
end
section
namespace Mine
open PySem PyProof.Rows
section
variable {prog:Program}{w:World}{A:Around}{Ex:Value->Shared->Prop}{s:Shared}{I a:Addr}{es:Array (Int×Value)}{ep i n:Nat}{t:SetTable}{first:Value}
theorem it_done_slot {slot:Nat}{Q:Option Value->Shared->Prop}(hh:A.handled=none) (ho:s.heap.get? I=some (itO (.int slot 0) i a n ep)) (hs:s.heap.get? a=some (setO es ep t)) (hf:t.fits es.size=true) (hn:es.size=n)
  (hset:∀ (A:Around) (E:Value->Shared->Prop) (Q:Option (Value×Nat)->Shared->Prop),Q none s->wpAny (model prog w) A (setNext a slot i ep) Q E s)
  (hQ:∀ h',Heap.ExtBut I s.heap h'->Q none {s with heap:=h'}):wpAny (model prog w) A (pyNext (.ref I)) Q Ex s:=by
 unfold pyNext
 refine wpAny_bind (wpAny_attempt (wpAny_callSpecial?_slot (name:=Str.ofString "__next__") (it_type ho) F.slot_si_next (wpAny_call_entry F.slot_si_next (it_type ho) F.entry_si_next ?_ (F.args_si_next _))))
 unfold Builtin.«set_iterator.__next__»
 refine wpAny_bind (wpAny_pure ?_)
 refine wpAny_bind (wpAny_fieldsOf ho rfl ?_)
 show wpAny _ _ (setEntries a>>=λes=>if ((es.size:Int) != (n:Int))=true then _ else(setNext a slot i ep>>=_)) _ _ s
 refine wpAny_bind (wpAny_setEntries_of hs rfl hf ?_)
 rw[if_neg (by rw[hn];simp)]
 refine wpAny_bind (hset _ _ _ ?_)
 show wpAny _ _ (setField (.ref I) 2 .none>>=λ_=>newExc (.type "StopIteration") []>>=λe=>raiseNew e) _ _ s
 refine wpAny_bind (wpAny_setField ho rfl (by simp) ?_)
 exact it_stop (Ex:=Ex) hh ((Heap.SameBut.update ..).extBut) (by rw[Heap.size_update];exact Nat.le_refl _) (λh' x _=>hQ h' x) λe s' q=>q
theorem it_item_drawn {p:Addr}{places:Array Value}{k j:Nat}{hx:Int}{x:Value}{Q:Option Value->Shared->Prop}(ho:s.heap.get? I=some (itO (.ref p) i a n ep)) (hs:s.heap.get? a=some (setO es ep t)) (hf:t.fits es.size=true) (hn:es.size=n)
  (hp:s.heap.get? p=some (tupO places k)) (hj:places[i]?=some (.int j 0)) (he:es[j]?=some (hx,x))
  (hQ:∀ h',h'.get? I=some (itO (.ref p) (i+1) a n ep)->Heap.SameBut I s.heap h'->Q (some x) {s with heap:=h'}):wpAny (model prog w) A (pyNext (.ref I)) Q Ex s:=by
 unfold pyNext
 refine wpAny_bind (wpAny_attempt (wpAny_callSpecial?_slot (name:=Str.ofString "__next__") (it_type ho) F.slot_si_next (wpAny_call_entry F.slot_si_next (it_type ho) F.entry_si_next ?_ (F.args_si_next _))))
 unfold Builtin.«set_iterator.__next__»
 refine wpAny_bind (wpAny_pure ?_)
 refine wpAny_bind (wpAny_fieldsOf ho rfl ?_)
 show wpAny _ _ (setEntries a>>=λes=>if ((es.size:Int) != (n:Int))=true then _ else(seqItems? (.ref p)>>=_)) _ _ s
 refine wpAny_bind (wpAny_setEntries_of hs rfl hf ?_)
 rw[if_neg (by rw[hn];simp)]
 refine wpAny_bind (wpAny_seqItems hp rfl ?_)
 have hj':places[(i:Int).toNat]?=some (.int j 0):=hj
 dsimp only
 rw[hj']
 show wpAny _ _ (setNextDrawn a j ep>>=λx=>setField (.ref I) 1 (rawInt ((i:Int)+1))>>=λ_=>ret x) _ _ s
 unfold setNextDrawn
 refine wpAny_bind (wpAny_bind (wpAny_setState_of hs rfl hf ?_))
 dsimp only
 rw[if_neg (by simp),he]
 refine wpAny_pure (wpAny_bind (wpAny_setField ho rfl (by simp) ?_))
 exact wpAny_pure ⟨_,rfl,wpAny_pure (hQ _ (it_field ho (·.setIfInBounds 1 (rawInt ((i:Int)+1)))) (Heap.SameBut.update ..))⟩
theorem it_done_drawn {p:Addr}{places:Array Value}{k:Nat}{Q:Option Value->Shared->Prop}(hh:A.handled=none) (ho:s.heap.get? I=some (itO (.ref p) i a n ep)) (hs:s.heap.get? a=some (setO es ep t)) (hf:t.fits es.size=true) (hn:es.size=n)
  (hp:s.heap.get? p=some (tupO places k)) (hj:places[i]?=none) (hQ:∀ h',Heap.ExtBut I s.heap h'->Q none {s with heap:=h'}):wpAny (model prog w) A (pyNext (.ref I)) Q Ex s:=by
 unfold pyNext
 refine wpAny_bind (wpAny_attempt (wpAny_callSpecial?_slot (name:=Str.ofString "__next__") (it_type ho) F.slot_si_next (wpAny_call_entry F.slot_si_next (it_type ho) F.entry_si_next ?_ (F.args_si_next _))))
 unfold Builtin.«set_iterator.__next__»
 refine wpAny_bind (wpAny_pure ?_)
 refine wpAny_bind (wpAny_fieldsOf ho rfl ?_)
 show wpAny _ _ (setEntries a>>=λes=>if ((es.size:Int) != (n:Int))=true then _ else(seqItems? (.ref p)>>=_)) _ _ s
 refine wpAny_bind (wpAny_setEntries_of hs rfl hf ?_)
 rw[if_neg (by rw[hn];simp)]
 refine wpAny_bind (wpAny_seqItems hp rfl ?_)
 have hj':places[(i:Int).toNat]?=none:=hj
 dsimp only
 rw[hj']
 show wpAny _ _ (setField (.ref I) 0 (rawInt 0)>>=λ_=>setField (.ref I) 2 .none>>=λ_=>newExc (.type "StopIteration") []>>=λe=>raiseNew e) _ _ s
 refine wpAny_bind (wpAny_setField ho rfl (by simp) ?_)
 have h1:=it_field ho (·.setIfInBounds 0 (rawInt 0))
 refine wpAny_bind (wpAny_setField (s:={s with heap:=s.heap.update I (Obj.mapFields (·.setIfInBounds 0 (rawInt 0)))}) h1 rfl (by simp) ?_)
 exact it_stop (Ex:=Ex) hh ((Heap.SameBut.update ..).trans (Heap.SameBut.update ..)).extBut (by rw[Heap.size_update,Heap.size_update];exact Nat.le_refl _) (λh' x _=>hQ h' x) λe s' q=>q
theorem walks_slot (hh:A.handled=none) (hne:a≠I) (hf:t.fits es.size=true) (hn:es.size=n){slot:Nat->Nat}{ord:List Value}(hl:ord.length=n)
  (hitem:∀ (A:Around) (E:Value->Shared->Prop) (s:Shared) (i:Nat) (x:Value) (Q:Option (Value×Nat)->Shared->Prop),ord[i]?=some x->s.heap.get? a=some (setO es ep t)->Q (some (x,slot (i+1))) s->wpAny (model prog w) A (setNext a (slot i) i ep) Q E s)
  (hdone:∀ (A:Around) (E:Value->Shared->Prop) (s:Shared) (Q:Option (Value×Nat)->Shared->Prop),s.heap.get? a=some (setO es ep t)->Q none s->wpAny (model prog w) A (setNext a (slot n) n ep) Q E s):
  WalksS prog w A I [I,a] [I] (λx y=>y=x) n (λi v=>ord[i]?=some v) (λi s=>s.heap.get? I=some (itO (.int (slot i) 0) i a n ep)/\s.heap.get? a=some (setO es ep t)) where
 sub:=λb hb=>mS hb ▸ .head _
 grefl:=λ_=>rfl
 gtrans:=λ_ _ _ x y=>y.trans x
 frame:=λi s h' tk st _ hk=>⟨hk I (.head _) _ st.1,hk a (.tail _ (.head _)) _ st.2⟩
 item:=λi s Q E hi st hQ=>it_item_slot st.1 st.2 hf hn (x:=ord[i]'(hl▸hi)) (λA E Q q=>hitem A E s i _ Q (List.getElem?_eq_getElem _) st.2 q) λh' g sb=>
  hQ _ _ (List.getElem?_eq_getElem _) ⟨g,(sb.2 a hne).trans st.2⟩ ⟨λb o hb e=>(sb.2 b λz=>hb (List.mem_singleton.mpr z)).trans e,rfl,rfl,rfl,Nat.le_refl _⟩
 done:=λs Q E st hQ=>it_done_slot hh st.1 st.2 hf hn (λA E Q q=>hdone A E s Q st.2 q) λh' x=>hQ _ ⟨λb o hb e=>x b o (λz=>hb (List.mem_singleton.mpr z)) e,rfl,rfl,rfl,Nat.le_refl _⟩
 self:=λi s Q E st hQ=>it_self st.1 hQ
theorem walks_drawn (hh:A.handled=none){p:Addr}{places:Array Value}{k:Nat}(hne:a≠I) (hne2:p≠I) (hf:t.fits es.size=true) (hn:es.size=n){ord:List Value}(hl:ord.length=n) (hpl:places.size=n)
  (hitem:∀ (i:Nat) (x:Value),ord[i]?=some x->∃ j hx,places[i]?=some (.int (j:Nat) 0)/\es[j]?=some (hx,x)):
  WalksS prog w A I [I,a,p] [I] (λx y=>y=x) n (λi v=>ord[i]?=some v) (λi s=>s.heap.get? I=some (itO (.ref p) i a n ep)/\s.heap.get? a=some (setO es ep t)/\s.heap.get? p=some (tupO places k)) where
 sub:=λb hb=>mS hb ▸ .head _
 grefl:=λ_=>rfl
 gtrans:=λ_ _ _ x y=>y.trans x
 frame:=λi s h' tk st _ hk=>⟨hk I (.head _) _ st.1,hk a (.tail _ (.head _)) _ st.2.1,hk p (.tail _ (.tail _ (.head _))) _ st.2.2⟩
 item:=λi s Q E hi st hQ=>by
  obtain⟨j,hx,h1,h2⟩:=hitem i _ (List.getElem?_eq_getElem (hl▸hi))
  exact it_item_drawn st.1 st.2.1 hf hn st.2.2 h1 h2 λh' g sb=>
   hQ _ _ (List.getElem?_eq_getElem (hl▸hi)) ⟨g,(sb.2 a hne).trans st.2.1,(sb.2 p hne2).trans st.2.2⟩ ⟨λb o hb e=>(sb.2 b λz=>hb (List.mem_singleton.mpr z)).trans e,rfl,rfl,rfl,Nat.le_refl _⟩
 done:=λs Q E st hQ=>it_done_drawn hh st.1 st.2.1 hf hn st.2.2 (Array.getElem?_eq_none (Nat.le_of_eq hpl)) λh' x=>hQ _ ⟨λb o hb e=>x b o (λz=>hb (List.mem_singleton.mpr z)) e,rfl,rfl,rfl,Nat.le_refl _⟩
 self:=λi s Q E st hQ=>it_self st.1 hQ
end
end Mine
end
section
namespace Mine
open PySem PyProof.Rows
section
variable {prog:Program}{w:World}{A:Around}{Ex:Value->Shared->Prop}{s:Shared}{I a:Addr}{es:Array (Int×Value)}{ep i n:Nat}{t:SetTable}{first:Value}
theorem by_text {Q:Bool->Shared->Prop}(h:Q (w.params.followText "set-order") s):wpAny (model prog w) A setsByText Q Ex s:=by
 unfold setsByText
 exact wpAny_bind (wpAny_askSetting (wpAny_pure h))
theorem next_text {Q:Option (Value×Nat)->Shared->Prop}(hb:w.params.followText "set-order"=true) (hs:s.heap.get? a=some (setO es ep t)) (hf:t.fits es.size=true) (h:Q (((pickOrder (w.params.setOrder a ep) es)[i]?).map λe=>(e.2,0)) s):wpAny (model prog w) A (setNext a 0 i ep) Q Ex s:=by
 unfold setNext
 refine wpAny_bind (wpAny_setState_of hs rfl hf ?_)
 dsimp only
 refine wpAny_bind (by_text ?_)
 rw[hb,if_pos rfl,if_neg (by simp)]
 unfold setWalk
 refine wpAny_bind (wpAny_bind (wpAny_setState_of hs rfl hf ?_))
 dsimp only
 refine wpAny_bind (by_text ?_)
 rw[hb,if_pos rfl]
 exact wpAny_bind (wpAny_askSetting (wpAny_pure (wpAny_pure h)))
theorem next_led {slot:Nat}{Q:Option (Value×Nat)->Shared->Prop}(hb:w.params.followText "set-order"=false) (hl:t.led=true) (hn:es.size<=1) (hs:s.heap.get? a=some (setO es ep t)) (hf:t.fits es.size=true)
  (h:Q (match es[SetTable.below t.place slot]?,t.place[SetTable.below t.place slot]? with|some (_,x),some j=>some (x,j+1)|_,_=>none) s):wpAny (model prog w) A (setNext a slot i ep) Q Ex s:=by
 unfold setNext
 refine wpAny_bind (wpAny_setState_of hs rfl hf ?_)
 dsimp only
 refine wpAny_bind (by_text ?_)
 rw[hb,if_neg Bool.false_ne_true]
 refine wpAny_ite_split (λhd=>absurd (show(!t.plain&&decide (es.size>1))=true from hd) (by simp;omega)) λ_=>?_
 refine wpAny_bind (m:=if (!t.led && !es.isEmpty)=true then unsupported "set:maker-not-led" else pure ()) ?_
 rw[if_neg (by rw[hl];simp)]
 exact wpAny_pure (wpAny_pure h)
structure SetWalk (prog:Program) (w:World) (A:Around) (s:Shared) (a:Addr) (vs:List Value) (I:Addr) (fp:List Addr) (St:Nat->Shared->Prop) (ord:List Value) (s':Shared):Prop where
 W:WalksS prog w A I fp [I] (λx y=>y=x) ord.length (λi v=>ord[i]?=some v) St
 st:St 0 s'
 perm:ord.Perm vs
 at':∀ b∈fp,b=a∨s.heap.objs.size<=b
 new:s.heap.objs.size<=I
 keep:∀ b o,s.heap.get? b=some o->s'.heap.get? b=some o
 size:s.heap.objs.size<=s'.heap.objs.size
 gens:s'.gens=s.gens
 os:s'.os=s.os
noncomputable def siEnd (a:Addr) (n:Nat) (first:Value):Sem PySem.Fin:=setEpoch a>>=λep=>newFields "set_iterator" [first,rawInt 0,.ref a,rawInt n,rawInt ep]>>=λv=>ret v
theorem si_end {Q:Value->Shared->Prop}(hs:s.heap.get? a=some (setO es ep t)) (hf:t.fits es.size=true) (h:Q (.ref s.heap.objs.size) {s with heap:=s.heap.push (itO first 0 a es.size ep)}):
  wpAny (model prog w) A (siEnd a es.size first) (λfin s'=>∃ v,fin = .done (.ret v)/\∃ T' r,s'.TypeIs v T'/\typeLookup (.type T') (Str.ofString "__next__")=pure (some r)/\Q v s') Ex s:=by
 unfold siEnd
 refine wpAny_bind (wpAny_setEpoch_of hs rfl hf (wpAny_bind (wpAny_newObj_type (wpAny_pure ⟨_,rfl,"set_iterator",_,⟨_,Heap.get?_push_size _ rfl,rfl⟩,F.slot_si_next.lookup,?_⟩) (by size_fits))))
 exact h
set_option smartUnfolding false in
theorem below_step (xs:Array Nat) (j fuel lo hi:Nat):SetTable.below.go xs j (fuel+1) lo hi=if lo<hi then(if xs.getD ((lo+hi) / 2) j<j then SetTable.below.go xs j fuel ((lo+hi) / 2+1) hi else SetTable.below.go xs j fuel lo ((lo+hi) / 2))else lo:=rfl
inductive SetWalks (prog:Program) (w:World) (A:Around) (s:Shared) (a:Addr) (vs:List Value):Value->Shared->Prop
 | mk (I:Addr) (fp:List Addr) (St:Nat->Shared->Prop) (ord:List Value) (s':Shared) (W:SetWalk prog w A s a vs I fp St ord s'):SetWalks prog w A s a vs (.ref I) s'
theorem slots_walk {slot:Nat->Nat}{ord:List Value}(hh:A.handled=none) (hs:s.heap.get? a=some (setO es ep t)) (hf:t.fits es.size=true) (h0:slot 0=0) (p:ord.Perm (es.toList.map (·.2)))
  (hi:∀ (A:Around) (E:Value->Shared->Prop) (s:Shared) (i:Nat) (x:Value) (Q:Option (Value×Nat)->Shared->Prop),ord[i]?=some x->s.heap.get? a=some (setO es ep t)->Q (some (x,slot (i+1))) s->wpAny (model prog w) A (setNext a (slot i) i ep) Q E s)
  (hd:∀ (A:Around) (E:Value->Shared->Prop) (s:Shared) (Q:Option (Value×Nat)->Shared->Prop),s.heap.get? a=some (setO es ep t)->Q none s->wpAny (model prog w) A (setNext a (slot ord.length) ord.length ep) Q E s):
  SetWalks prog w A s a (es.toList.map (·.2)) (.ref s.heap.objs.size) {s with heap:=s.heap.push (itO (rawInt 0) 0 a es.size ep)}:=by
 have hl:es.size=ord.length:=by rw[p.length_eq,List.length_map,Array.length_toList]
 refine⟨_,_,_,_,_,walks_slot hh (Nat.ne_of_lt (Heap.lt_size hs)) hf hl rfl hi hd,⟨?_,Heap.get?_push_of_some _ hs⟩,p,λb hb=>(mC hb).elim (λe=>.inr (Nat.le_of_eq e.symm)) λhb=>.inl (mS hb),Nat.le_refl _,λb o e=>Heap.get?_push_of_some _ e,by rw[Heap.size_push];exact Nat.le_succ _,rfl,rfl⟩
 rw[h0,<-hl]
 exact Heap.get?_push_size _ rfl
theorem snd_at {es:Array (Int×Value)}{i:Nat}{x:Value}(hx:(es.toList.map (·.2))[i]?=some x):∃ h,es[i]?=some (h,x):=by
 rw[List.getElem?_map,Array.getElem?_toList]at hx
 cases hg:es[i]? with
 | none=>rw[hg]at hx;exact noneE hx
 | some e=>rw[hg]at hx;obtain rfl:=oJ hx;exact⟨e.1,rfl⟩
theorem snd_len {es:Array (Int×Value)}:(es.toList.map (·.2)).length=es.size:=by rw[List.length_map,Array.length_toList]
theorem text_walk (hh:A.handled=none) (hs:s.heap.get? a=some (setO es ep t)) (hf:t.fits es.size=true) (hb:w.params.followText "set-order"=true):
  SetWalks prog w A s a (es.toList.map (·.2)) (.ref s.heap.objs.size) {s with heap:=s.heap.push (itO (rawInt 0) 0 a es.size ep)}:=by
 refine slots_walk (slot:=λ_=>0) (ord:=(pickOrder (w.params.setOrder a ep) es).toList.map (·.2)) hh hs hf rfl ((pick_perm _ _).map _) (λA E s i x Q hx hs' q=>?_) λA E s Q hs' q=>?_
 ·obtain⟨h,hx⟩:=snd_at hx
  refine next_text hb hs' hf ?_
  rw[hx];exact q
 ·refine next_text hb hs' hf ?_
  rw[Array.getElem?_eq_none (Nat.le_of_eq snd_len.symm)]
  exact q
theorem led_walk (hh:A.handled=none) (hs:s.heap.get? a=some (setO es ep t)) (hf:t.fits es.size=true) (hb:w.params.followText "set-order"=false) (hled:t.led=true) (hn:es.size<=1):
  SetWalks prog w A s a (es.toList.map (·.2)) (.ref s.heap.objs.size) {s with heap:=s.heap.push (itO (rawInt 0) 0 a es.size ep)}:=by
 rcases Nat.eq_zero_or_pos es.size with h0|h1
 ·refine slots_walk (slot:=λ_=>0) hh hs hf rfl (.refl _) (λA E s i x Q hx hs' q=>?_) λA E s Q hs' q=>?_
  ·obtain⟨h,hx⟩:=snd_at hx
   exact absurd (Array.getElem?_eq_some_iff.mp hx).1 (h0▸Nat.not_lt_zero i)
  ·refine next_led hb hled hn hs' hf ?_
   rw[Array.getElem?_eq_none (by rw[h0];exact Nat.zero_le _)]
   exact q
 ·have h1:=Nat.le_antisymm hn h1
  obtain⟨j,hj⟩:=Array.size_eq_one_iff.mp ((beq_iff_eq.mp ((Bool.and_eq_true_iff.mp hf).1):t.place.size=es.size).trans h1)
  refine slots_walk (slot:=λi=>Nat.casesOn i 0 λ_=>j+1) hh hs hf rfl (.refl _) (λA E s i x Q hx hs' q=>?_) λA E s Q hs' q=>?_
  ·obtain⟨h,hx⟩:=snd_at hx
   cases Nat.lt_one_iff.mp (h1▸(Array.getElem?_eq_some_iff.mp hx).1)
   refine next_led hb hled hn hs' hf ?_
   rw[hj]
   show Q (match es[0]?,some j with|some (_,x),some j=>some (x,j+1)|_,_=>none) s
   rw[hx]
   exact q
  ·rw[snd_len,h1]
   refine next_led hb hled hn hs' hf ?_
   rw[hj]
   show Q (match es[SetTable.below #[j] (j+1)]?,_ with|some (_,x),some j=>some (x,j+1)|_,_=>none) s
   rw[show SetTable.below #[j] (j+1)=1 from (below_step #[j] (j+1) 0 0 1).trans ((if_pos Nat.zero_lt_one).trans (if_pos (Nat.lt_succ_self j))),Array.getElem?_eq_none (Nat.le_of_eq h1)]
   exact q
theorem fm_at {α:Type}{vs:List α}{ys:List Nat}(h:∀ j∈ys,j<vs.length) (i:Nat):(ys.filterMap λi=>vs[i]?)[i]?=ys[i]?.bind λj=>vs[j]?:=by
 induction ys generalizing i with
 | nil=>rfl
 | cons j ys ih=>
  have hj:=List.getElem?_eq_getElem (h j (.head _))
  rw[List.filterMap_cons_some hj]
  cases i with
  | zero=>exact hj.symm
  | succ i=>exact ih (λk hk=>h k (.tail _ hk)) i
theorem drawn_walk {ys:List Nat}{h1:Heap}{k:Nat}{d:PySem.Drawn}{tk:Nat}(hh:A.handled=none) (hs:s.heap.get? a=some (setO es ep t)) (hf:t.fits es.size=true) (hp:ys.Perm (List.range es.size))
  (kp:∀ b o,s.heap.get? b=some o->h1.get? b=some o) (hp1:h1.get? s.heap.objs.size=some (tupO (ys.map λ(i:Nat)=>rawInt i).toArray k)) (hz:s.heap.objs.size<h1.objs.size):
  SetWalks prog w A s a (es.toList.map (·.2)) (.ref h1.objs.size) {s with heap:=h1.push (itO (.ref s.heap.objs.size) 0 a es.size ep),drawn:=d,toks:=tk}:=by
 have hs1:=kp _ _ hs
 have hyl:ys.length=es.size:=by rw[hp.length_eq,List.length_range]
 have hord:(ys.filterMap λi=>(es.toList.map (·.2))[i]?).Perm (es.toList.map (·.2)):=(hp.filterMap _).trans (.of_eq (snd_len▸List.filterMap_getElem?_range_length (es.toList.map (·.2))))
 have hol:(ys.filterMap λi=>(es.toList.map (·.2))[i]?).length=es.size:=hord.length_eq.trans snd_len
 refine⟨_,_,_,ys.filterMap λi=>(es.toList.map (·.2))[i]?,_,walks_drawn (p:=s.heap.objs.size) (places:=(ys.map λ(i:Nat)=>rawInt i).toArray) (k:=k) hh (Nat.ne_of_lt (Heap.lt_size hs1)) (Nat.ne_of_lt hz) hf hol.symm rfl (by rw[List.size_toArray,List.length_map,hyl,hol]) (λi x hx=>?_),
  ⟨?_,Heap.get?_push_of_some _ hs1,Heap.get?_push_of_some _ hp1⟩,hord,λb hb=>?_,Nat.le_of_lt hz,λb o e=>Heap.get?_push_of_some _ (kp b o e),?_,rfl,rfl⟩
 ·rw[fm_at λj hj=>snd_len▸List.mem_range.mp (hp.mem_iff.mp hj)]at hx
  obtain⟨j,hy,hx⟩:=Option.bind_eq_some_iff.mp hx
  obtain⟨h,hx⟩:=snd_at hx
  exact⟨j,h,by rw[List.getElem?_toArray,List.getElem?_map,hy];rfl,hx⟩
 ·rcases mC hb with e|hb
  ·exact .inr (e▸Nat.le_of_lt hz)
  ·exact(mC hb).imp id λhb=>Nat.le_of_eq (mS hb).symm
 ·show s.heap.objs.size<=(h1.push _).objs.size
  rw[Heap.size_push];exact Nat.le_succ_of_le (Nat.le_of_lt hz)
 ·rw[hol];exact Heap.get?_push_size _ rfl
theorem set_iter {l:List Cs}(hh:A.handled=none) (hs:s.heap.get? a=some (setO es ep t)) (SI:SetIn prog w es t l):wpAny (model prog w) A (pyIter (.ref a)) (SetWalks prog w A s a (es.toList.map (·.2))) Ex s:=by
 have hT:s.TypeIs (.ref a) "set":=⟨_,hs,rfl⟩
 refine wpAny_pyIter_slot hT F.slot_set_iter (wpAny_call_entry F.slot_set_iter hT F.entry_set_iter' ?_ (F.args_set_iter_1 _))
 show wpAny _ _ ((setEntries a>>=λes=>pure es.size)>>=λn=>setDrawn a>>=λb=>if b=true then(drawOrder n (List.range n)>>=λl=>newTuple (l.map λ(i:Nat)=>rawInt i)>>=λfirst=>siEnd a n first)else(pure (rawInt 0)>>=λfirst=>siEnd a n first)) _ _ s
 refine wpAny_bind (wpAny_bind (wpAny_setEntries_of hs rfl SI.fits (wpAny_pure ?_)))
 unfold setDrawn
 refine wpAny_bind (wpAny_bind (wpAny_setState_of hs rfl SI.fits ?_))
 dsimp only
 refine wpAny_bind (by_text (wpAny_pure ?_))
 show wpAny _ _ (if (!w.params.followText "set-order"&&(!t.plain&&decide (es.size>1)))=true then _ else _) _ _ s
 cases hb:w.params.followText "set-order" with
 | true=>exact wp_no Bool.false_ne_true (wpAny_bind (wpAny_pure (si_end hs SI.fits (text_walk hh hs SI.fits hb))))
 | false=>
  by_cases hd:(!t.plain&&decide (es.size>1))=true
  ·refine wp_yes hd (wpAny_bind (drawOrder_ok es.size (List.range es.size) s (List.length_range ..) λys hp d=>?_))
   refine wpAny_bind (wpAny_newTuple ?_ ?_)
   ·exact si_end (s:={s with heap:=s.heap.push (tupO (ys.map λ(i:Nat)=>rawInt i).toArray 0),drawn:=d}) (Heap.get?_push_of_some _ hs) SI.fits (drawn_walk hh hs SI.fits hp (λb o e=>Heap.get?_push_of_some _ e) (Heap.get?_push_size _ rfl) (by rw[Heap.size_push];exact Nat.lt_succ_self _))
   ·obtain⟨xs,p,q⟩:=SI.txt
    rw[List.length_map,hp.length_eq,List.length_range,<-snd_len,q.length,List.length_map,p.length_eq,sizeLine_eq]
    exact nT (Nat.le_of_lt SI.len) (by decide)
  ·refine wp_no hd (wpAny_bind (wpAny_pure (si_end hs SI.fits (led_walk hh hs SI.fits hb (SI.led.resolve_right (by rw[hb];exact Bool.false_ne_true)) ?_))))
   exact SI.plain.elim (λe=>Nat.le_of_not_lt λh=>hd (by rw[e,decide_eq_true h];rfl)) λe=>e▸Nat.zero_le _
end
end Mine
end
section
namespace Mine
open PySem PyProof.Rows
section
variable {prog:Program}{w:World}{A:Around}{Ex:Value->Shared->Prop}{s:Shared}{a:Addr}{es:Array (Int×Value)}{ep:Nat}{t:SetTable}{l:List Cs}
theorem hint_set {Q:Bool->Shared->Prop}(hT:s.TypeIs (.ref a) "set") (h:Q false s):wpAny (model prog w) A (Builtin.List.listLengthHint (.ref a)) Q Ex s:=by
 unfold Builtin.List.listLengthHint
 refine wpAny_bind (wpAny_specialOf hT PySem.F.slot_set_len.lookup ?_)
 generalize hid:("set.__len__":String)=id0
 wp_delta
 rw[show splitId id0=some ("set","__len__")from by subst hid;decide +kernel]
 subst hid
 refine wpAny_bind (wpAny_isInstance (T:="set") (b:=true) hT (by rw[isSubtype_type];kernel_rfl) ?_)
 refine wpAny_ite_split (λhab=>absurd hab (by decide)) (λ_=>?_)
 refine wpAny_ite_split (λ_=>?_) (λhab=>absurd (by decide +kernel) hab)
 refine wpAny_bind (wpAny_typeOf hT ?_)
 exact wpAny_pure h
structure SetGot (s:Shared) (vs:List Value) (xs:List Value) (s':Shared):Prop where
 perm:xs.Perm vs
 keep:∀ b o,s.heap.get? b=some o->s'.heap.get? b=some o
 size:s.heap.objs.size<=s'.heap.objs.size
 gens:s'.gens=s.gens
 os:s'.os=s.os
theorem items_all {ord:List Value}{acc:Array Value}(h:ItemsOf (λi v=>ord[i]?=some v) acc ord.length):acc.toList=ord:=by
 apply List.ext_getElem?
 intro i
 rw[Array.getElem?_toList]
 by_cases hi:i<ord.length
 ·have:i<acc.size:=h.1▸hi
  rw[Array.getElem?_eq_getElem this]
  exact(h.2 i _ (Array.getElem?_eq_getElem this)).symm
 ·rw[List.getElem?_eq_none (Nat.le_of_not_lt hi),Array.getElem?_eq_none (by rw[h.1];exact Nat.le_of_not_lt hi)]
theorem collect_set (hh:A.handled=none) (hs:s.heap.get? a=some (setO es ep t)) (SI:SetIn prog w es t l){Q:List Value->Shared->Prop}(hQ:∀ xs s',SetGot s (es.toList.map (·.2)) xs s'->Q xs s'):wpAny (model prog w) A (collect (.ref a)) Q Ex s:=by
 have ha:a<s.heap.objs.size:=Heap.lt_size hs
 unfold collect
 refine wpAny_bind (wpAny_runValue (codeAny_builtin F.entry_proto_collect ?_))
 rw[Around.under_plainId F.plain_proto_collect _]
 show wpAny _ A.in1 (newList []>>=λl=>again (.builtin "list.__iadd__" ⟨[l,.ref a],[]⟩)) _ _ s
 refine wpAny_bind (wpAny_newObj_type ?_)
 refine wpAny_pure ⟨plainId_quiet F.plain_list_iadd _,codeAny_builtin F.entry_list_iadd ?_⟩
 rw[Around.under_plainId F.plain_list_iadd _]
 have hs1:(s.heap.push {cls:=.type "list",data:=.seq ([]:List Value).toArray}).get? a=some (setO es ep t):=Heap.get?_push_of_some _ hs
 have hS1:(s.heap.push {cls:=.type "list",data:=.seq ([]:List Value).toArray}).get? s.heap.objs.size=some {cls:=.type "list",data:=.seq ([]:List Value).toArray}:=Heap.get?_push_size _ rfl
 have hz1:(s.heap.push {cls:=.type "list",data:=.seq ([]:List Value).toArray}).objs.size=s.heap.objs.size+1:=Heap.size_push ..
 have kp1:∀ b o,s.heap.get? b=some o->(s.heap.push {cls:=.type "list",data:=.seq ([]:List Value).toArray}).get? b=some o:=λb o e=>Heap.get?_push_of_some _ e
 generalize s.heap.push {cls:=.type "list",data:=.seq ([]:List Value).toArray}=h1 at hs1 hS1 hz1 kp1⊢
 have hT:Shared.TypeIs {s with heap:=h1} (.ref a) "set":=⟨_,hs1,rfl⟩
 show wpAny _ A.in1 (Builtin.List.listExtendWith (.ref s.heap.objs.size) (.ref a) (.ref s.heap.objs.size)) _ _ _
 unfold Builtin.List.listExtendWith
 refine wpAny_bind (wpAny_typeOf hT ?_)
 have h1:Builtin.List.listSameRef (.ref s.heap.objs.size) (.ref a)=false:=by show(s.heap.objs.size==a)=false;exact beq_false_of_ne (Nat.ne_of_gt ha)
 rw[if_neg (by rw[h1];decide)]
 refine wpAny_bind (wpAny_mono (set_iter (Ex:=λ_ _=>False) (A:=A.in1) hh hs1 SI) (λv s2 hw=>?_) λ_ _ q=>q.elim)
 obtain⟨I,fp,St,ord,_,SW⟩:=hw
 refine wpAny_bind (wpAny_holding ?_)
 obtain⟨o2,ho2,hc2⟩:s2.TypeIs (.ref a) "set":=⟨_,SW.keep _ _ hs1,rfl⟩
 refine hint_set ⟨o2,ho2,hc2⟩ ?_
 show wpAny _ A.in1 (rule "list.extend.makes-room">>=λ_=>Builtin.List.listTouch (.ref s.heap.objs.size)>>=λ_=>
  again (.builtin "list.extend.loop" ⟨[.ref s.heap.objs.size,.ref I,.ref s.heap.objs.size],[]⟩)) _ _ _
 refine wpAny_bind (wpAny_rule ?_)
 have hSf:s.heap.objs.size∉fp:=λhm=>(SW.at' _ hm).elim (λe=>absurd e (Nat.ne_of_gt ha)) λh=>absurd h (by rw[hz1];exact Nat.not_succ_le_self _)
 have hS2:=SW.keep _ _ hS1
 refine wpAny_bind ?_
 show wpAny _ A.in1 (updateSeq s.heap.objs.size (·.push .none)>>=λ_=>updateSeq s.heap.objs.size (·.pop)) _ _ _
 refine wpAny_bind (wpAny_updateSeq hS2 rfl ?_)
 have hS3:=Heap.get?_update_self (Obj.mapSeq (·.push Value.none)) hS2 rfl
 refine wpAny_updateSeq (s:={s2 with heap:=s2.heap.update s.heap.objs.size (Obj.mapSeq (·.push Value.none))}) hS3 rfl ?_
 have hS4:=Heap.get?_update_self (Obj.mapSeq (·.pop)) hS3 rfl
 have oth:∀ b o,b≠s.heap.objs.size->s2.heap.get? b=some o->((s2.heap.update s.heap.objs.size (Obj.mapSeq (·.push Value.none))).update s.heap.objs.size (Obj.mapSeq (·.pop))).get? b=some o:=
  λb o hb e=>(Heap.get?_update_other _ _ (Ne.symm hb)).trans ((Heap.get?_update_other _ _ (Ne.symm hb)).trans e)
 generalize (s2.heap.update s.heap.objs.size (Obj.mapSeq (·.push Value.none))).update s.heap.objs.size (Obj.mapSeq (·.pop))=h4 at hS4 oth⊢
 have hn:ord.length<=sizeLine:=by
  obtain⟨xs,p,q⟩:=SI.txt
  rw[SW.perm.length_eq,q.length,List.length_map,p.length_eq,sizeLine_eq]
  exact nT (Nat.le_of_lt SI.len) (by decide)
 refine wpAny_pure ⟨plainId_quiet F.plain_extend_loop _,codeAny_extend_loopS SW.W hn _ hSf _ ord.length 0 _ _ _ rfl (Nat.zero_le _)
  (SW.W.frame 0 s2 _ s2.toks SW.st (Nat.le_refl _) λb hb o e=>oth b o (λh=>hSf (h▸hb)) e) hS4 (ItemsOf.nil _) λs' acc' c' hm hS' hacc=>?_⟩
 show wpAny _ A (load s.heap.objs.size>>=_) _ _ s'
 refine wpAny_bind (wpAny_load hS' ?_)
 refine wpAny_pure (hQ _ s' ?_)
 rw[items_all hacc]
 refine⟨SW.perm,λb o e=>?_,?_,hm.gens.trans SW.gens,hm.os.trans SW.os⟩
 ·have hb:=Heap.lt_size e
  refine hm.heap b o (λhm'=>?_) (oth b o (Nat.ne_of_lt hb) (SW.keep b o (kp1 b o e)))
  rcases mC hm' with e|hm'
  ·exact absurd e (Nat.ne_of_lt hb)
  ·exact absurd hb (Nat.not_lt.mpr (Nat.le_of_succ_le (nT (Nat.le_of_eq hz1.symm) (mS hm'▸SW.new))))
 ·exact Nat.le_of_lt (Heap.lt_size hS')
end
end Mine
end
section
namespace Mine
open PySem
theorem lt_iff (a b:Cs):ltL a b=true↔a<b:=by rw[<-lt_ltL];exact decide_eq_true_iff
theorem lt_no (a b:Cs):ltL a b=false↔b<=a:=by rw[<-Bool.not_eq_true,lt_iff,List.not_lt]
theorem insS_perm (x:Cs):∀ l:List Cs,(insS x l).Perm (x::l)
 | []=>.refl _
 | y::r=>by
  unfold insS
  by_cases h:ltL y x=true
  ·rw[if_pos h];exact((insS_perm x r).cons y).trans (.swap x y r)
  ·rw[if_neg h]
theorem sortS_perm:∀ l:List Cs,(sortS l).Perm l
 | []=>.refl _
 | x::r=>(insS_perm x _).trans ((sortS_perm r).cons x)
theorem insS_sorted (x:Cs):∀ {l:List Cs},l.Pairwise (· <= ·)->(insS x l).Pairwise (· <= ·)
 | [],_=>List.pairwise_singleton ..
 | y::r,h=>by
  rw[List.pairwise_cons]at h
  unfold insS
  by_cases e:ltL y x=true
  ·rw[if_pos e,List.pairwise_cons]
   refine⟨λz hz=>?_,insS_sorted x h.2⟩
   rcases mC ((insS_perm x r).mem_iff.mp hz)with rfl|hz
   ·exact List.le_of_lt ((lt_iff _ _).mp e)
   ·exact h.1 z hz
  ·rw[if_neg e,List.pairwise_cons,List.pairwise_cons]
   have hx:x<=y:=(lt_no _ _).mp (Bool.not_eq_true _▸e)
   exact⟨λz hz=>(mC hz).elim (λq=>q▸hx) λhz=>List.le_trans hx (h.1 z hz),h⟩
theorem sortS_sorted:∀ l:List Cs,(sortS l).Pairwise (· <= ·)
 | []=>.nil
 | x::r=>insS_sorted x (sortS_sorted r)
theorem sort_one {a l:List Cs}(p:a.Perm l) (h:a.Pairwise (· <= ·)):a=sortS l:=
 (p.trans (sortS_perm l).symm).eq_of_pairwise (λ_ _ _ _ h1 h2=>List.le_antisymm h1 h2) h (sortS_sorted l)
theorem sortedS_le:∀ {ss:List Str},PyProof.Rows.sortedS ss=true->(ss.map λs:Str=>s.cps.toList).Pairwise (· <= ·)
 | [],_=>.nil
 | x::r,h=>by
  have:∀ (r:List Str) (p:Str),PyProof.Rows.risingS p r=true->((p::r).map λs:Str=>s.cps.toList).Pairwise (· <= ·):=by
   intro r
   induction r with
   | nil=>intro p _;exact List.pairwise_singleton ..
   | cons x r ih=>
    intro p h
    have h:(!Spec.ltCps x.cps.toList p.cps.toList&&PyProof.Rows.risingS x r)=true:=h
    rw[Bool.and_eq_true,Bool.not_eq_true',PyProof.Rows.ltCps_eq]at h
    have q:=ih x h.2
    have hx:p.cps.toList<=x.cps.toList:=List.not_lt.mp (of_decide_eq_false h.1)
    rw[List.map_cons,List.pairwise_cons]
    refine⟨λz hz=>?_,q⟩
    rw[List.map_cons]at hz
    rcases mC hz with rfl|hz
    ·exact hx
    ·exact List.le_trans hx ((List.pairwise_cons.mp q).1 z hz)
  exact this r x h
theorem sort_strs {ss':List Str}{l:List Cs}(p:ss'.Perm (l.map λc=>(⟨c.toArray⟩:Str))) (h:PyProof.Rows.sortedS ss'=true):ss'=(sortS l).map λc=>(⟨c.toArray⟩:Str):=by
 have p2:=p.map λs:Str=>s.cps.toList
 rw[List.map_map,show((λs:Str=>s.cps.toList) ∘ λc:Cs=>(⟨c.toArray⟩:Str))=id from rfl,List.map_id]at p2
 rw[<-sort_one p2 (sortedS_le h),List.map_map,show((λc:Cs=>(⟨c.toArray⟩:Str)) ∘ λs:Str=>s.cps.toList)=id from rfl,List.map_id]
section
variable {B:Base}{A:Around}{Ex:Value->Shared->Prop}{s:Shared}
theorem strs_vrs {N:Zone}{φ:Phi}{h:Heap}:∀ {l:List Cs}{xs:List Value},PyProof.Rows.StrsAre xs (l.map λc=>(⟨c.toArray⟩:Str))->VRs N φ h (l.map V.str) xs
 | [],_,q=>by cases q;exact VRs_nil
 | c::l,_,q=>by cases q with|cons _ t r=>exact VRs_cons (vr_str c t) (strs_vrs r)
noncomputable def Sorted (s:Shared) (l:List Cs) (x:Value) (s':Shared):Prop:=∃ D xs c,x = .ref D/\(∀ b o,s.heap.get? b=some o->s'.heap.get? b=some o)/\s.heap.objs.size<=s'.heap.objs.size/\s'.gens=s.gens/\s'.os=s.os/\s.heap.objs.size<=D/\s'.heap.get? D=some (lstO (List.toArray xs) c)/\PyProof.Rows.StrsAre xs (l.map λc=>(⟨c.toArray⟩:Str))
theorem sorted_list {a:Addr}{xs:List Value}{n:Nat}{l:List Cs}(g:s.heap.get? a=some (lstO xs.toArray n)) (q:PyProof.Rows.StrsAre xs (l.map λc=>(⟨c.toArray⟩:Str))) (h64:l.length<64):wpAny (model B.prog B.w) A (call (.builtin "sorted") [.ref a]) (Sorted s (sortS l)) Ex s:=by
 have hl:xs.length=l.length:=by rw[q.length,List.length_map]
 refine PyProof.Rows.sorted_strs ⟨_,g,rfl,n,rfl⟩ q (hl▸h64) λout ss' h1 h2 h3=>?_
 obtain⟨c,hc⟩:=PyProof.Rows.sortedAll_at s.heap xs out
 exact⟨_,out.toList,c,rfl,λb o e=>PyProof.Rows.sortedAll_old e,Nat.le_of_lt (Nat.lt_of_succ_lt (Heap.lt_size hc)),rfl,rfl,Nat.le_succ _,hc,sort_strs h2 h3▸h1⟩
theorem set_list (hh:A.handled=none){a:Addr}{xs:List Value}{n:Nat}{l:List Cs}(g:s.heap.get? a=some (lstO xs.toArray n)) (q:PyProof.Rows.StrsAre xs (l.map λc=>(⟨c.toArray⟩:Str))) (h64:l.length<64){Q:Value->Shared->Prop}
  (k:∀ D h' tk,(∀ b o,s.heap.get? b=some o->h'.get? b=some o)->s.heap.objs.size<=D->SetAt B h' (dedupS l []) D->Q (.ref D) {s with heap:=h',toks:=tk}):wpAny (model B.prog B.w) A (call (.type "set") [.ref a]) Q Ex s:=
 call_set hh g q h64 λh' tk S hk=>k _ h' tk (λb o e=>hk b o (Heap.lt_size e) e) (Nat.le_refl _) S
theorem sorted_set (hh:A.handled=none){a:Addr}{l:List Cs}(g:SetAt B s.heap l a):wpAny (model B.prog B.w) A (call (.builtin "sorted") [.ref a]) (Sorted s (sortS l)) Ex s:=by
 obtain⟨es,ep,t,hs,SI⟩:=g
 obtain⟨zs,pz,qz⟩:=SI.txt
 refine PySem.Calls.call_function_entry PyProof.Rows.kind_sorted PyProof.Rows.plain_sorted PyProof.Rows.entry_sorted (PyProof.Rows.args_sorted1 _) ?_
 unfold Builtin.«sorted»
 refine wpAny_bind (m:=checkCount "sorted" 1 1 _) (wpAny_pure ?_)
 refine wpAny_bind (collect_set (A:=A.in1) hh hs SI λvs s1 G=>?_)
 obtain⟨ys,py,qy⟩:=strsAre_perm qz G.perm
 have hyl:vs.length<64:=by rw[qy.length,List.length_map,py.length_eq,pz.length_eq];exact SI.len
 refine wpAny_bind (wpAny_newList ?_ (by rw[sizeLine_eq];omega))
 have hoL:(s1.heap.push (PyProof.Rows.seqObj "list" vs.toArray 0)).get? s1.heap.objs.size=some (PyProof.Rows.seqObj "list" vs.toArray 0):=Heap.get?_push_size _ rfl
 refine wpAny_bind (wpAny_holding (wpAny_call_entry PyProof.Rows.slot_list_sort ⟨_,hoL,rfl⟩ PyProof.Rows.entry_list_sort (PyProof.Rows.list_sort_treeK PyProof.Rows.strKind_oneLt hoL qy.keysOf (λv₁ v₂ rest e=>PyProof.Rows.keyKind_strs (by rw[<-e];exact qy)) hyl λst' hp hs'=>⟨_,rfl,?_⟩) (PyProof.Rows.args_list_sort _)))
 refine wpAny_pure ⟨_,rfl,?_⟩
 obtain⟨ss',h1,h2,h3⟩:=PyProof.Rows.sorted_out_str qy hp hs'
 have e0:ss'=(sortS l).map λc=>(⟨c.toArray⟩:Str):=sort_strs (h2.trans ((py.trans pz).map _)) h3
 have o1:=PyProof.Rows.get?_update_seq hoL λ_=>#[]
 have o2:∀ o1 o2:Obj,∀ b o,(((s1.heap.push (PyProof.Rows.seqObj "list" vs.toArray 0)).update s1.heap.objs.size (Obj.mapSeq λ_=>#[]))).get? b=some o->((((s1.heap.push (PyProof.Rows.seqObj "list" vs.toArray 0)).update s1.heap.objs.size (Obj.mapSeq λ_=>#[])).push o1).push o2).get? b=some o:=λo1 o2 b o e=>Heap.get?_push_of_some _ (Heap.get?_push_of_some _ e)
 have o3:=PyProof.Rows.get?_update_seq (o2 (PyProof.Rows.seqObj "tuple" vs.toArray 0) (PyProof.Rows.seqObj "list" #[] 0) _ _ o1) λ_=>(PyProof.Rows.arrOf st').map (λx:PyProof.Rows.Keyed=>x.2)
 refine⟨s1.heap.objs.size,((PyProof.Rows.arrOf st').map (λx:PyProof.Rows.Keyed=>x.2)).toList,_,rfl,λb o e=>?_,?_,G.gens,G.os,G.size,o3,e0▸h1⟩
 ·have hb:=G.keep b o e
  have ne:=Nat.ne_of_gt (Heap.lt_size hb)
  exact(Heap.get?_update_other _ _ ne).trans (o2 _ _ b o ((Heap.get?_update_other _ _ ne).trans (Heap.get?_push_of_some _ hb)))
 ·exact nT G.size (Nat.le_of_lt (Heap.lt_size o3))
end
end Mine
end
section
namespace Mine
open PySem
section
variable {B:Base}{C:Oracle}{d:Nat}{A:Around}{Ex:Value->Shared->Prop}{σ σ':AH}{φ φ':Phi}{s s':Shared}
theorem res_objS (Y:Sys B) (R:Rep B σ φ s.heap){s':Shared}{D:Addr}{o:O}(keep:∀ b o,s.heap.get? b=some o->s'.heap.get? b=some o) (hs:s.heap.objs.size<=s'.heap.objs.size) (hD:s.heap.objs.size<=D) (r:Vk B.Z φ s.heap φ s'.heap->OR B φ s'.heap o (D,D)) (hos:s'.os=s.os) (hgn:s'.gens=s.gens):
  Res B φ s (σ++[o]) (.obj σ.length) (.ref D) s':=by
 have k:Kp B.tabs [] s.heap s'.heap:=.keeps keep hs
 have fr:D∉addrs φ:=λhm=>absurd (R.lt hm) (Nat.not_lt.mpr hD)
 refine⟨φ++[(D,D)],⟨⟨_,rfl,λa ha=>?_⟩,k.mono (λ_ h=>absurd h List.not_mem_nil),hos,λq=>hgn▸q⟩,(R.grow Y.ok k).add fr fr (nT R.stat.size hD) (nT R.stat.size hD) (r (Vk.of k (Safe.nil B.Z) (pre_refl ..))),?_⟩
 ·rcases mem_addrs.mp ha with⟨q,hq,e|e⟩<;>rw[e,mS hq]<;>exact hD
 ·unfold VR
  exact⟨(D,D),by rw[<-R.len];simp,rfl⟩
theorem res_obj (Y:Sys B) (R:Rep B σ φ s.heap){h':Heap}{D:Addr}{o:O}(keep:∀ b o,s.heap.get? b=some o->h'.get? b=some o) (hs:s.heap.objs.size<=h'.objs.size) (hD:s.heap.objs.size<=D) (r:Vk B.Z φ s.heap φ h'->OR B φ h' o (D,D)) (tk:Nat):
  Res B φ s (σ++[o]) (.obj σ.length) (.ref D) {s with heap:=h',toks:=tk}:=
 res_objS (s':={s with heap:=h',toks:=tk}) Y R keep hs hD r rfl rfl
theorem res_grow (Y:Sys B) (R:Rep B σ φ s.heap){h':Heap}{v:V}{x:Value}(keep:∀ b o,s.heap.get? b=some o->h'.get? b=some o) (hs:s.heap.objs.size<=h'.objs.size) (r:VR B.Z φ h' v x) (tk:Nat):
  Res B φ s σ v x {s with heap:=h',toks:=tk}:=by
 have k:Kp B.tabs [] s.heap h':=.keeps keep hs
 exact⟨φ,St.of_kp k rfl rfl,R.grow Y.ok k,r⟩
theorem minI_app:∀ (a:List Int) (m x:Int),minI (a++[x]) m=if x<minI a m then x else minI a m
 | [],m,x=>rfl
 | c::a,m,x=>minI_app a _ x
theorem argBest_min (c:Int) (r:List Int) (k:Nat) (h:k<=r.length):(c::r)[argBest (λi j=>decide ((c::r).getD i 0<(c::r).getD j 0)) k]?=some (minI (r.take k) c):=by
 induction k with
 | zero=>rfl
 | succ k ih=>
  have ih:=ih (Nat.le_of_succ_le h)
  have hk:(c::r)[k+1]?=some (r[k]'h):=List.getElem?_eq_getElem (l:=r) h
  have ht:r.take (k+1)=r.take k++[r[k]'h]:=by rw[List.take_add_one,List.getElem?_eq_getElem h];rfl
  rw[ht,minI_app]
  unfold argBest
  have e1:(c::r).getD (k+1) 0=r[k]'h:=by rw[List.getD_eq_getElem?_getD,hk];rfl
  have e2:(c::r).getD (argBest (λi j=>decide ((c::r).getD i 0<(c::r).getD j 0)) k) 0=minI (r.take k) c:=by rw[List.getD_eq_getElem?_getD,ih];rfl
  simp only [e1,e2]
  by_cases hlt:r[k]'h<minI (r.take k) c
  ·rw[if_pos (decide_eq_true hlt),if_pos hlt];exact hk
  ·rw[if_neg (λz=>hlt (of_decide_eq_true z)),if_neg hlt];exact ih
theorem min_ok {l:Addr}{c:Int}{r:List Int}{xs:List Value}{n:Nat}{Q:Value->Shared->Prop}(hh:A.handled=none) (g:s.heap.get? l=some (lstO xs.toArray n)) (ia:PyProof.Rows.IntsAre xs (c::r))
  (h:∀ h' tk u,(∀ b o,s.heap.get? b=some o->h'.get? b=some o)->Q (.int (minI r c) u) {s with heap:=h',toks:=tk}):
  wpAny (model B.prog B.w) A (call (.builtin "min") [.ref l]) Q Ex s:=by
 obtain⟨ys,hy⟩:=ia.allInts.items
 have e1:c::r=ys.toList.map (·.1):=by
  rw[<-PySem.nums_intItems,<-hy]
  exact(show PySem.numsOf xs.toArray.toList=c::r from ia.numsOf).symm
 have hz:ys.size=r.length+1:=by rw[<-Array.length_toList,<-List.length_map (f:=λq:Int×Tok=>q.1),<-e1];rfl
 refine PySem.min_intList hh ⟨_,g,rfl,n,by rw[<-hy]⟩ (by rw[hz];exact Nat.succ_pos _) λv h' tk hv hk=>?_
 obtain⟨t,rfl⟩:=PySem.intItems_at hv
 have en:numAt ys=λi=>(c::r).getD i 0:=by funext i;rw[e1,numAt_eq]
 rw[en,hz,Nat.add_sub_cancel]
 show Q (.int ((c::r).getD (argBest (λi j=>decide ((c::r).getD i 0<(c::r).getD j 0)) r.length) 0) t) _
 rw[List.getD_eq_getElem?_getD,argBest_min c r r.length (Nat.le_refl _),List.take_length]
 exact h h' tk t hk
structure StrAcc (B:Base):Prop where
 str:∀ (A:Around) (Ex:Value->Shared->Prop) (σ:AH) (φ:Phi) (s:Shared) (i:Nat) (n:Int) (vs:List V) (x:Cs) (xv:Value),Room A 0->Rep B σ φ s.heap->σ[i]?=some (.acc n vs)->strOfAcc vs=some x->x.length<=LIM->vs.length<=LIM->
  VR B.Z φ s.heap (.obj i) xv->wpAny (model B.prog B.w) A (call (.type "str") [xv]) (Res B φ s σ (.str x)) Ex s
 len:∀ (A:Around) (Ex:Value->Shared->Prop) (σ:AH) (φ:Phi) (s:Shared) (i:Nat) (n:Int) (vs:List V) (x:Cs) (xv:Value),Room A 0->Rep B σ φ s.heap->σ[i]?=some (.acc n vs)->strOfAcc vs=some x->x.length<=LIM->vs.length<=LIM->0<=n->n<=1000->
  VR B.Z φ s.heap (.obj i) xv->wpAny (model B.prog B.w) A (call (.builtin "len") [xv]) (Res B φ s σ (.int (x.length+n))) Ex s
theorem vA0 {N:Zone}{h:Heap}{xs:List Value}{P:List Value->Prop}(r:VRs N φ h [] xs) (k:P []):P xs:=by
 cases xs with
 | nil=>exact k
 | cons x xs=>unfold VRs at r;exact r.elim
theorem vCons {N:Zone}{h:Heap}{v:V}{vs:List V}{xs:List Value}{P:List Value->Prop}(r:VRs N φ h (v::vs) xs) (k:∀ x ys,VR N φ h v x->VRs N φ h vs ys->P (x::ys)):P xs:=by
 cases xs with
 | nil=>unfold VRs at r;exact r.elim
 | cons x xs=>unfold VRs at r;exact k x xs r.1 r.2
theorem vA1 {N:Zone}{h:Heap}{v:V}{vs:List V}{xs:List Value}{P:List Value->Prop}(e:a1 vs=some v) (r:VRs N φ h vs xs) (k:∀ x,VR N φ h v x->P [x]):P xs:=by
 match vs,e with
 | [u],e=>obtain rfl:=oJ e;exact vCons r λx ys rx ry=>vA0 (P:=λys=>P (x::ys)) ry (k x rx)
theorem vA2 {N:Zone}{h:Heap}{v:V×V}{vs:List V}{xs:List Value}{P:List Value->Prop}(e:a2 vs=some v) (r:VRs N φ h vs xs) (k:∀ x y,VR N φ h v.1 x->VR N φ h v.2 y->P [x,y]):P xs:=by
 match vs,e with
 | [u,w],e=>obtain rfl:=oJ e;exact vCons r λx ys rx ry=>vA1 (P:=λys=>P (x::ys)) rfl ry λy ry=>k x y rx ry
theorem vA3 {N:Zone}{h:Heap}{v:V×V×V}{vs:List V}{xs:List Value}{P:List Value->Prop}(e:a3 vs=some v) (r:VRs N φ h vs xs) (k:∀ x y z,VR N φ h v.1 x->VR N φ h v.2.1 y->VR N φ h v.2.2 z->P [x,y,z]):P xs:=by
 match vs,e with
 | [u,w,o],e=>obtain rfl:=oJ e;exact vCons r λx ys rx ry=>vA2 (P:=λys=>P (x::ys)) rfl ry λy z ry rz=>k x y z rx ry rz
theorem vC {x:Cs}{c:Nat}{P:Cs->Prop}(e:oneC x=some c) (k:P [c]):P x:=by
 match x,e with
 | [d],e=>obtain rfl:=oJ e;exact k
theorem vHd {x:Cs}{p:Nat×Cs}{P:Cs->Prop}(e:headC x=some p) (k:P (p.1::p.2)):P x:=by
 match x,e with
 | c::r,e=>obtain rfl:=oJ e;exact k
theorem len_ok {x:Value}{l:Addr}{xs:List Value}{n:Nat}{vs:List V}{r:V×AH}(R:Rep B σ φ s.heap) (e:some (V.int vs.length,σ)=some r) (g:s.heap.get? l=some (lstO xs.toArray n)) (rs:VRs B.Z φ s.heap vs xs) (hz:vs.length<=LIM):wpAny (model B.prog B.w) A (call (.builtin "len") [.ref l] []) (Res B φ s r.2 r.1) Ex s:=by
 have hl:=VRs_length rs
 simp only [LIM]at hz
 refine leafE e (Calls.call_len_list (items:=xs.toArray) ⟨_,g,rfl,n,rfl⟩ (by simp;omega) ?_)
 rw[show(xs.toArray.size:Int)=vs.length from by simp[hl]];exact res_here R (vr_int _ _) _
theorem rng_ok (Y:Sys B) (R:Rep B σ φ s.heap){a b c:Int}{tk:Nat}{x:Value}{t u y:Tok}{o:Obj}(ho:o.isFreed=false) (h:IsRange (s.heap.push o) s.heap.objs.size a b c t u y):Res B φ s σ (.rng a b c) (.ref s.heap.objs.size) {s with heap:=s.heap.push o,toks:=tk}:=
 res_grow Y R (λb o e=>Heap.get?_push_of_some _ e) (by rw[Heap.size_push];omega) (by unfold VR;exact⟨_,_,_,_,rfl,h⟩) _
theorem headI_eq {l:List Int}{p:Int×List Int}(e:headI l=some p):l=p.1::p.2:=by
 match l,e with
 | c::r,e=>obtain rfl:=oJ e;rfl
theorem lenO_acc {v:V}{r:V×AH}{G:Prop}(e:lenO v σ=some r) (k:∀ i n us x,v = .obj i->σ[i]?=some (.acc n us)->strOfAcc us=some x->(x.length<=LIM/\us.length<=LIM/\0<=n/\n<=1000)->some (V.int (x.length+n),σ)=some r->G) (k2:(seqAt v σ).bind (λvs=>some (V.int vs.length,σ))=some r->G):G:=by
 unfold lenO at e
 cases ha:accAt v σ with
 | none=>rw[ha]at e;exact k2 e
 | some p=>
  rw[ha]at e
  refine bindE e λx hx e=>ifE e λhz hfin=>bindE ha λi h1 ha=>bindE ha λo h2 h3=>?_
  cases v with
  | obj j=>obtain rfl:=oJ h1;cases o with
   | acc n us=>obtain rfl:=oJ h3;exact k _ _ _ _ rfl h2 hx hz hfin
   | _=>exact noneE h3
  | _=>exact noneE h1
theorem callB_ok (Y:Sys B) (SA:StrAcc B) (rm:Room A 0){b:Bi}{vs:List V}{r:V×AH}{xs:List Value}(e:callB b vs σ=some r) (R:Rep B σ φ s.heap) (rs:VRs B.Z φ s.heap vs xs):
  wpAny (model B.prog B.w) A (call (biVal b) xs []) (Res B φ s r.2 r.1) Ex s:=by
 have hh:=rm.handled
 refine absG2 (T:=λf xs=>wpAny (model B.prog B.w) A (call f xs []) (Res B φ s r.2 r.1) Ex s) λG hG=>?_
 cases b with
 | len=>
  refine bindE e λv h1 e=>vA1 (P:=λxs=>G _ xs) h1 rs λx rx=>?_
  have seq:(seqAt v σ).bind (λvs=>some (V.int vs.length,σ))=some r->G (biVal .len) [x]:=λe=>bindE e λus h2 e=>vSeq (P:=λx=>G _ [x]) h2 R rx λp ys n g ry hz=>hG _ _ (len_ok (x:=x) R e g ry hz)
  have acc:lenO v σ=some r->G (biVal .len) [x]:=λe=>lenO_acc e (λi n us z hv hi hx hz e=>hG _ _ (leafE e (SA.len A Ex σ φ s i n us z x rm R hi hx hz.1 hz.2.1 hz.2.2.1 hz.2.2.2 (hv▸rx)))) seq
  cases v with
  | str z=>
   refine ifE e λhz e=>vStr (P:=λx=>G _ [x]) (a:=.str z) rfl rx λt=>hG _ _ (leafE e ?_)
   simp only [LIM]at hz
   have hl:((⟨z.toArray⟩:Str).length:Int)=z.length:=by simp[Str.length]
   refine P.len_str (by rw[hl];omega) ?_
   rw[hl];exact res_here R (vr_int _ _) _
  | _=>exact acc e
 | chr=>exact bindE e λv h1 e=>bindE e λi h2 e=>ifE e λhi e=>vA1 (P:=λxs=>G _ xs) h1 rs λx rx=>vInt (P:=λx=>G _ [x]) h2 rx λt=>hG _ _ (leafE e (P.chr_of_int (by simp;omega) (res_here R (vr_str' _ _ (by simp) _) _)))
 | range=>
  match vs,e with
  | [v],e=>exact bindE e λn h2 e=>vA1 (P:=λxs=>G _ xs) rfl rs λx rx=>vInt (P:=λx=>G _ [x]) h2 rx λt=>hG _ _ (leafE e (call_range_1 (rng_ok (x:=x) Y R rfl (Heap.get?_push_size _ rfl))))
  | [v,u,w],e=>exact vA3 (P:=λxs=>G _ xs) rfl rs λx y z rx ry rz=>int2_ok (P:=λx y=>G _ [x,y,z]) e rx ry λi j t u e=>bindE e λc h3 e=>ifE e λhc e=>vInt (P:=λz=>G _ [_,_,z]) h3 rz λt3=>hG _ _ (leafE e (by rw[hc.1];exact call_range_3 (by decide) (rng_ok (x:=x) Y R rfl (Heap.get?_push_size _ rfl)) (.inl (PyProof.noPylong_of_log2 (by decide +kernel)))))
  | [],e=>exact noneE e
  | [_,_],e=>exact noneE e
  | _::_::_::_::_,e=>exact noneE e
 | ord=>exact bindE e λv h1 e=>bindE e λw h2 e=>bindE e λc h3 e=>vA1 (P:=λxs=>G _ xs) h1 rs λx rx=>vStr (P:=λx=>G _ [x]) h2 rx λt=>vC (P:=λw=>G _ [.str ⟨w.toArray⟩ t]) h3 (hG _ _ (leafE e (P.ord_of_char (res_here R (vr_int _ _) _))))
 | sum=>
  refine bindE e λv h1 e=>bindE e λus h2 e=>bindE e λl hl e=>vA1 (P:=λxs=>G _ xs) h1 rs λx rx=>vLst (P:=λx=>G _ [x]) h2 R rx λp items n g ry _=>hG _ _ (leafE e ?_)
  have ia:=intsOf_ok hl ry
  obtain⟨ys,hy⟩:=ia.allInts.items
  refine wpAny_size (PySem.sum_intListG hh (xs:=ys) ⟨_,g,rfl,n,by rw[<-hy]⟩ λh' tk t' hk hs=>?_)
  refine res_grow Y R hk hs ?_ tk
  have e1:l=ys.toList.map (·.1):=by
   rw[<-PySem.nums_intItems,<-hy]
   exact(show PySem.numsOf items.toArray.toList=l from ia.numsOf).symm
  have e2:preSum (numAt ys) ys.size=l.foldl (· + ·) 0:=by
   rw[preSum_eq,List.take_of_length_le (by simp),<-e1,List.sum_eq_foldl]
  rw[e2];exact vr_int _ _
 | min=>exact bindE e λv h1 e=>bindE e λus h2 e=>bindE e λl hl e=>bindE e λp hp e=>vA1 (P:=λxs=>G _ xs) h1 rs λx rx=>vLst (P:=λx=>G _ [x]) h2 R rx λa items n g ry _=>hG _ _ (leafE e (wpAny_size (min_ok hh g (headI_eq hp▸intsOf_ok hl ry) λh' tk u hk hs=>res_grow Y R hk hs (vr_int _ _) tk)))
 | set=>exact bindE e λv h1 e=>bindE e λus h2 e=>bindE e λl hl e=>ifE e λh64 e=>vA1 (P:=λxs=>G _ xs) h1 rs λx rx=>vLst (P:=λx=>G _ [x]) h2 R rx λa items n g ry _=>hG _ _ (leafE e (wpAny_size (set_list hh g (strsOf_ok hl ry) (by have:=(strsOf_ok hl ry).length;rw[List.length_map,<-VRs_length ry]at this;rw[<-this];exact h64) λD h' tk hk hD hS hs=>res_obj (o:=.set (dedupS l [])) Y R hk hs hD (λ_=>⟨rfl,hS⟩) tk)))
 | sorted=>
  refine bindE e λv h1 e=>bindE e λl hl e=>ifE e λh64 e=>ifE e λhz e=>vA1 (P:=λxs=>G _ xs) h1 rs λx rx=>hG _ _ (leafE e ?_)
  have fin:∀ {t:Sem Value},wpAny (model B.prog B.w) A t (Sorted s (sortS l)) Ex s->wpAny (model B.prog B.w) A t (Res B φ s (σ++[.list ((sortS l).map V.str)]) (.obj σ.length)) Ex s:=λh=>wpAny_mono h (λx s' q=>by
   obtain⟨D,ys,c,rfl,hk,hs,hg,ho,hD,g,q⟩:=q
   exact res_objS (o:=.list ((sortS l).map V.str)) Y R hk hs hD (λvk=>⟨rfl,ys,c,g,strs_vrs q,hz⟩) ho hg) λ_ _ z=>z
  refine absG2 (T:=λf xs=>wpAny (model B.prog B.w) A (call f xs []) (Res B φ s (σ++[.list ((sortS l).map V.str)]) (.obj σ.length)) Ex s) λG hG=>?_
  unfold textsAt at hl
  cases hs:(asObj v).bind λi=>(σ[i]?).bind asSet with
  | some l'=>
   rw[hs]at hl
   obtain rfl:=oJ hl
   refine bindE hs λi hi hs=>bindE hs λo ho hs=>vObj (P:=λx=>G _ [x]) hi rx λp hp=>?_
   have q:=R.rel _ _ _ ho hp
   cases o with
   | set l2=>obtain rfl:=oJ hs;exact hG _ _ (fin (sorted_set hh q.2))
   | _=>exact noneE hs
  | none=>
   rw[hs]at hl
   exact bindE hl λus h2 hl=>vLst (P:=λx=>G _ [x]) h2 R rx λa items n g ry _=>hG _ _ (fin (sorted_list g (strsOf_ok hl ry) h64))
 | str=>
  refine bindE e λv h1 e=>bindE e λq h2 e=>bindE e λx hx e=>ifE e λhz e=>bindE h2 λi h3 h2=>bindE h2 λo h4 h2=>vA1 (P:=λxs=>G _ xs) h1 rs λxv rv=>hG _ _ (leafE e ?_)
  cases v with
  | obj j=>obtain rfl:=oJ h3;cases o with
   | acc n us=>obtain rfl:=oJ h2;exact SA.str A Ex σ φ s _ n us x xv rm R h4 hx hz.1 hz.2 rv
   | _=>exact noneE h2
  | _=>exact noneE h3
end
end Mine
end
section
namespace Mine
open PySem Builtin Builtin.Str
theorem gives_find4 (x y:Str) (i j:Int) (t u v q:Tok):Gives («str.find» ⟨[.str x t,.str y u,.int i v,.int j q],[]⟩) (.int (match occurrences x y (fromIndex x.length i) (min (fromIndex x.length j) x.length) 1 with|k::_=>(k:Int)|[]=>-1)):=by
 show Gives (match occurrences x y (fromIndex x.length i) (min (fromIndex x.length j) x.length) 1 with|k::_=>retInt k|[]=>(do rule "str.find.not-found";retInt (-1))) _
 cases occurrences x y (fromIndex x.length i) (min (fromIndex x.length j) x.length) 1 with
 | nil=>exact .rule (.of_eq rfl)
 | cons k _=>exact .of_eq rfl
section
variable {prog:Program}{w:World}{A:Around}{E:Value->Shared->Prop}{s:Shared}{Q:Value->Shared->Prop}
theorem find4_call {x p:Cs}{a b:Int}{t u v q:Tok}(ha:0<=a) (hb:0<=b) (hb2:b<=x.length) (hq:Q (.int (findS p x a.toNat b.toNat) s.toks) {s with toks:=s.toks+1}):
  wpAny (model prog w) A (call (.builtin "str.find") [.str ⟨x.toArray⟩ t,.str ⟨p.toArray⟩ u,.int a v,.int b q]) Q E s:=by
 have hf:∀ {i:Int},0<=i->fromIndex (⟨x.toArray⟩:Str).length i=i.toNat:=λh=>by unfold fromIndex;rw[if_neg (Int.not_lt.mpr h),Int.max_eq_right h]
 have h3:min b.toNat (⟨x.toArray⟩:Str).length=b.toNat:=Nat.min_eq_left (show b.toNat<=x.length from Int.toNat_le.mpr hb2)
 refine call_gives F.slot_str_find (typeIs_str _ _ _) F.entry_str_find (F.args_str_find_4 _ _ _ _) (gives_find4 ⟨x.toArray⟩ ⟨p.toArray⟩ a b t u v q) ?_
 rw[hf ha,hf hb,h3]
 unfold findS at hq
 cases h:occurrences ⟨x.toArray⟩ ⟨p.toArray⟩ a.toNat b.toNat 1 with
 | nil=>rw[h]at hq;exact hq
 | cons k r=>rw[h]at hq;exact hq
theorem split_call {x:Cs}{c:Nat}{sep:Cs}{t u:Tok}(hl:x.length<=LIM) (hq:∀ (l:List (Str×Tok)) tk,l.map (·.1)=Txt.split ⟨x.toArray⟩ ⟨(c::sep).toArray⟩->Q (.ref s.heap.objs.size) {s with heap:=s.heap.push (lstO (strValues l).toArray 0),toks:=tk}):
  wpAny (model prog w) A (call (.builtin "str.split") [.str ⟨x.toArray⟩ t,.str ⟨(c::sep).toArray⟩ u]) Q E s:=by
 have hy:((⟨(c::sep).toArray⟩:Str).length==0)=false:=by simp[Str.length]
 have hsz:(⟨x.toArray⟩:Str).length+2<=sizeLine:=by
  have:x.length<=1000000:=hl
  rw[sizeLine_eq];simp[Str.length];omega
 have hn:(partsBetween ⟨x.toArray⟩ (occurrences ⟨x.toArray⟩ ⟨(c::sep).toArray⟩ 0 (⟨x.toArray⟩:Str).length ((⟨x.toArray⟩:Str).length+1)) (⟨(c::sep).toArray⟩:Str).length).length<=sizeLine:=by
  have e1:=StrLaws.occ_length_le ⟨x.toArray⟩ ⟨(c::sep).toArray⟩ 0 (⟨x.toArray⟩:Str).length ((⟨x.toArray⟩:Str).length+1)
  rw[length_partsBetween];omega
 cases h1:(decide ((⟨x.toArray⟩:Str).length<(⟨(c::sep).toArray⟩:Str).length)||decide (strKind ⟨x.toArray⟩<strKind ⟨(c::sep).toArray⟩))
 ·cases hf:(occurrences ⟨x.toArray⟩ ⟨(c::sep).toArray⟩ 0 (⟨x.toArray⟩:Str).length ((⟨x.toArray⟩:Str).length+1)).isEmpty
  ·refine call_meets F.slot_str_split (typeIs_str _ _ _) F.entry_str_split (F.args_str_split_2 _ _) (meets_str_split_sep _ _ t u h1 hy hf (by omega) hn) ?_
   show wants Q E _ {s with toks:=_,heap:=s.heap.push {cls:=.type "list",data:=.seq (strsFrom s.toks (partsBetween ⟨x.toArray⟩ (occurrences ⟨x.toArray⟩ ⟨(c::sep).toArray⟩ 0 (⟨x.toArray⟩:Str).length ((⟨x.toArray⟩:Str).length+1)) (⟨(c::sep).toArray⟩:Str).length)).toArray}}
   rw[strsFrom_eq]
   exact hq (numbered s.toks _) _ ((numbered_texts _ _).trans ((if_neg (ne_true_of_eq_false h1)).trans (if_neg (ne_true_of_eq_false hf))).symm)
  ·exact call_meets F.slot_str_split (typeIs_str _ _ _) F.entry_str_split (F.args_str_split_2 _ _) (meets_str_split_not_found _ _ t u h1 hy hf)
    (hq [(⟨x.toArray⟩,t)] s.toks ((if_neg (ne_true_of_eq_false h1)).trans (if_pos hf)).symm)
 ·exact call_meets F.slot_str_split (typeIs_str _ _ _) F.entry_str_split (F.args_str_split_2 _ _) (meets_str_split_cannot_occur _ _ t u h1)
   (hq [(⟨x.toArray⟩,t)] s.toks (if_pos h1).symm)
end
theorem vrs_texts {N:Zone}{φ:Phi}{h:Heap}:∀ l:List (Str×Tok),VRs N φ h (((l.map (·.1)).map λz=>z.cps.toList).map V.str) (strValues l)
 | []=>VRs_nil
 | _::l=>VRs_cons (vr_str' _ _ rfl _) (vrs_texts l)
end Mine
end
section
namespace Mine
open PySem
theorem methOf_name {n:Str}{m:Mt}(h:methOf n=some m):n=nameOf m:=beq_iff_eq.mp (List.find?_some (p:=λm=>n==nameOf m) h)
theorem joinL_len (sep:Cs):∀ l:List Cs,(l.map List.length).sum+l.length*sep.length<=(joinL sep l).length+sep.length
 | []=>by simp[joinL]
 | [x]=>by simp[joinL]
 | x::y::r=>by
  have ih:=joinL_len sep (y::r)
  simp only [joinL,List.length_append,List.map_cons,List.sum_cons,List.length_cons]at ih⊢
  simp only [Nat.add_mul,Nat.one_mul]at ih⊢
  omega
section
variable {B:Base}{C:Oracle}{d:Nat}{A:Around}{Ex:Value->Shared->Prop}{σ σ' σ1:AH}{φ φ':Phi}{s s':Shared}
structure AccOps (B:Base) where
 fn:Mt->Option Addr
 get:∀ {m f},fn m=some f->∀ (A:Around) (Ex:Value->Shared->Prop) (s:Shared) (pl:Sem Bool) (Q:Value×List Value->Shared->Prop) (σ:AH) (φ:Phi) (i:Nat) (n:Int) (vs:List V) (p:Addr×Addr),A.handled=none->Rep B σ φ s.heap->σ[i]?=some (.acc n vs)->φ[i]?=some p->
  Q (.ref f,[.ref p.1]) s->wpAny (model B.prog B.w) A (getMethod (.ref p.1) (nameOf m) pl) Q Ex s
 keeper:∀ {m f},fn m=some f->∀ h,(∀ a o,B.K.lookup a=some o->h.get? a=some o)->∃ k,(k=Keeper.frame∨k=Keeper.machine∨k=Keeper.boundFrame)/\PySem.W.Looks (model B.prog B.w) h (keeperOf (.ref f)) k
 has:∀ {m}{i:Nat}{n:Int}{vs args:List V}{σ:AH}{r:V×AH},accM i n vs m args σ=some r->∃ f,fn m=some f
 call:∀ {m f},fn m=some f->∀ (A:Around) (Ex:Value->Shared->Prop) (s:Shared) (σ:AH) (r:V×AH) (φ:Phi) (i:Nat) (n:Int) (vs args:List V) (p:Addr×Addr) (xs:List Value),Room A 0->Rep B σ φ s.heap->σ[i]?=some (.acc n vs)->φ[i]?=some p->
  accM i n vs m args σ=some r->VRs B.Z φ s.heap args xs->wpAny (model B.prog B.w) A (PySem.call (.ref f) (.ref p.1::xs) []) (Res B φ s r.2 r.1) Ex s
 str:StrAcc B
noncomputable def strFn (m:Mt):Option Value:=match m with
 | .join=>some (.builtin "str.join")
 | .split=>some (.builtin "str.split")
 | .startswith=>some (.builtin "str.startswith")
 | .endswith=>some (.builtin "str.endswith")
 | .find=>some (.builtin "str.find")
 | _=>none
noncomputable def lstFn (m:Mt):Option Value:=match m with
 | .append=>some (.builtin "list.append")
 | .pop=>some (.builtin "list.pop")
 | .extend=>some (.builtin "list.extend")
 | _=>none
noncomputable def methFn (AO:AccOps B) (k:Nat) (m:Mt):Option Value:=match k with
 | 1=>strFn m
 | 2=>lstFn m
 | 3=>(AO.fn m).bind λf=>some (.ref f)
 | _=>none
theorem kind_at {i:Nat}{o:O}(h:σ[i]?=some o):kindV (.obj i) σ=kindO o:=by show(match σ[i]? with|some o=>kindO o|none=>0)=_;rw[h]
theorem str_fn {z:Cs}{m:Mt}{args:List V}{r:V×AH}(e:strM z m args σ=some r):∃ f,strFn m=some f:=by
 cases m<;>first|exact⟨_,rfl⟩|exact noneE e
theorem lst_fn {i:Nat}{vs:List V}{m:Mt}{args:List V}{r:V×AH}(e:lstM i vs m args σ=some r):∃ f,lstFn m=some f:=by
 cases m<;>first|exact⟨_,rfl⟩|exact noneE e
theorem meth_fn (AO:AccOps B){o:V}{m:Mt}{args:List V}{r:V×AH}(e:callM o m args σ=some r):∃ f,methFn AO (kindV o σ) m=some f:=by
 cases o with
 | str x=>exact str_fn e
 | obj i=>
  refine bindE e λob h e=>?_
  rw[kind_at h]
  cases ob with
  | list vs=>exact lst_fn e
  | acc n vs=>exact(AO.has e).elim λf hf=>⟨.ref f,by show(AO.fn m).bind _=_;rw[hf];rfl⟩
  | _=>exact noneE e
 | _=>exact noneE e
theorem get_str {z:Cs}{t:Tok}{m:Mt}{f:Value}{pl:Sem Bool}{Q:Value×List Value->Shared->Prop}(hf:strFn m=some f) (k:Q (f,[.str ⟨z.toArray⟩ t]) s):wpAny (model B.prog B.w) A (getMethod (.str ⟨z.toArray⟩ t) (nameOf m) pl) Q Ex s:=by
 cases m with
 | join=>obtain rfl:=oJ hf;show wpAny _ _ (getMethod _ ("join":Str) pl) _ _ _;with_reducible exact getMethod_builtin (typeIs_str _ _ _) F.plainAttrs_str F.slot_str_join F.type_str_join GM.noRef k
 | split=>obtain rfl:=oJ hf;show wpAny _ _ (getMethod _ ("split":Str) pl) _ _ _;with_reducible exact getMethod_builtin (typeIs_str _ _ _) F.plainAttrs_str F.slot_str_split F.type_str_split GM.noRef k
 | startswith=>obtain rfl:=oJ hf;show wpAny _ _ (getMethod _ ("startswith":Str) pl) _ _ _;with_reducible exact getMethod_builtin (typeIs_str _ _ _) F.plainAttrs_str F.slot_str_startswith F.type_str_startswith GM.noRef k
 | endswith=>obtain rfl:=oJ hf;show wpAny _ _ (getMethod _ ("endswith":Str) pl) _ _ _;with_reducible exact getMethod_builtin (typeIs_str _ _ _) F.plainAttrs_str F.slot_str_endswith F.type_str_endswith GM.noRef k
 | find=>obtain rfl:=oJ hf;show wpAny _ _ (getMethod _ ("find":Str) pl) _ _ _;with_reducible exact getMethod_builtin (typeIs_str _ _ _) F.plainAttrs_str F.slot_str_find F.type_str_find GM.noRef k
 | _=>exact noneE hf
theorem get_lst {p:Addr}{xs:List Value}{n:Nat}{m:Mt}{f:Value}{pl:Sem Bool}{Q:Value×List Value->Shared->Prop}(h1:s.heap.get? p=some (lstO xs.toArray n)) (hf:lstFn m=some f) (k:Q (f,[.ref p]) s):wpAny (model B.prog B.w) A (getMethod (.ref p) (nameOf m) pl) Q Ex s:=by
 have ty:s.TypeIs (.ref p) "list":=⟨_,h1,rfl⟩
 have hd:∀ a,Value.ref p = .ref a->∃ o,s.heap.get? a=some o/\o.dict=Option.none:=λa e=>by cases e;exact⟨_,h1,rfl⟩
 cases m with
 | append=>cases hf;show wpAny _ _ (getMethod _ ("append":Str) pl) _ _ _;with_reducible exact getMethod_builtin ty F.plainAttrs_list F.slot_list_append F.type_list_append hd k
 | pop=>cases hf;show wpAny _ _ (getMethod _ ("pop":Str) pl) _ _ _;with_reducible exact getMethod_builtin ty F.plainAttrs_list F.slot_list_pop F.type_list_pop hd k
 | extend=>cases hf;show wpAny _ _ (getMethod _ ("extend":Str) pl) _ _ _;with_reducible exact getMethod_builtin ty F.plainAttrs_list F.slot_list_extend F.type_list_extend hd k
 | _=>exact noneE hf
theorem get_ok (AO:AccOps B) (hh:A.handled=none){o:V}{m:Mt}{x f:Value}{pl:Sem Bool}{Q:Value×List Value->Shared->Prop}(hf:methFn AO (kindV o σ) m=some f) (R:Rep B σ φ s.heap) (r:VR B.Z φ s.heap o x)
  (k:Q (f,[x]) s):wpAny (model B.prog B.w) A (getMethod x (nameOf m) pl) Q Ex s:=by
 cases o with
 | str z=>unfold VR at r;obtain⟨t,rfl⟩:=r;exact get_str hf k
 | obj i=>
  unfold VR at r;obtain⟨p,hp,rfl⟩:=r
  obtain⟨ob,hi,q⟩:=R.back hp
  rw[kind_at hi]at hf
  cases ob with
  | list vs=>exact lE (o:=.list vs) rfl q λxs n _ g _ _=>get_lst g hf k
  | acc n vs=>exact bindE hf λg hg e=>AO.get hg A Ex s pl Q σ φ i n vs p hh R hi hp (by obtain rfl:=oJ e;exact k)
  | _=>exact noneE hf
 | _=>exact noneE hf
theorem lim_index {k:Int}{n j:Nat}(h:place k n=some j) (hn:n<=LIM):Builtin.List.listFitsIndex k=true:=by
 have:=place_lim h hn
 unfold Builtin.List.listFitsIndex
 simp
 omega
theorem mapSeq_lst (f:Array Value->Array Value) (xs:Array Value) (n:Nat):∃ n',Obj.mapSeq f (lstO xs n)=lstO (f xs) n':=⟨_,rfl⟩
theorem erase_arr (xs:List Value) (k:Nat):xs.toArray.eraseIdxIfInBounds k=(xs.eraseIdx k).toArray:=by
 simp[Array.eraseIdxIfInBounds]
 intro h;exact(List.eraseIdx_of_length_le h).symm
theorem erase_last {α:Type}(xs:List α):xs.eraseIdx (xs.length-1)=xs.dropLast:=by
 rw[List.eraseIdx_eq_take_drop_succ,List.dropLast_eq_take]
 cases xs with
 | nil=>rfl
 | cons x xs=>simp
theorem list_put (Y:Sys B) (R:Rep B σ φ s.heap){i:Nat}{p:Addr×Addr}{h':Heap}{us:List V}{ys:List Value}{c:Nat}{v:V}{x:Value}{vs0:List V}(hi:σ[i]?=some (.list vs0)) (hp:φ[i]?=some p)
  (sb:Heap.SameBut p.1 s.heap h') (hg:h'.get? p.1=some (lstO ys.toArray c)) (r:VRs B.Z φ s.heap us ys) (hz:us.length<=LIM) (rv:VR B.Z φ s.heap v x):
  Res B φ s (σ.set i (.list us)) v x {s with heap:=h'}:=by
 obtain⟨e2,_⟩:=R.rel _ _ _ hi hp
 obtain⟨st,R',vk⟩:=put_same (tk:=s.toks) (o:=.list us) Y R hp sb λvk=>⟨e2,ys,c,hg,VRs_mono vk _ r,hz⟩
 exact⟨φ,st,R',VR_mono vk _ rv⟩
theorem lstM_ok (Y:Sys B){i:Nat}{vs:List V}{m:Mt}{args:List V}{r:V×AH}{f:Value}{p:Addr×Addr}{xs items:List Value}{n:Nat}(e:lstM i vs m args σ=some r) (hf:lstFn m=some f) (R:Rep B σ φ s.heap) (hi:σ[i]?=some (.list vs)) (hp:φ[i]?=some p) (h1:s.heap.get? p.1=some (lstO items.toArray n)) (r1:VRs B.Z φ s.heap vs items) (hz:vs.length<=LIM) (rs:VRs B.Z φ s.heap args xs):
  wpAny (model B.prog B.w) A (call f (.ref p.1::xs) []) (Res B φ s r.2 r.1) Ex s:=by
 have hl:=VRs_length r1
 have hs:items.toArray.size<=sizeLine:=lim_line (by rw[hl]at hz;exact hz)
 have pop:∀ {j:Nat}{v:V}{y:Value},VR B.Z φ s.heap v y->some (v,σ.set i (.list (vs.eraseIdx j)))=some r->Res B φ s r.2 r.1 y {s with heap:=s.heap.update p.1 (Obj.mapSeq λxs=>xs.eraseIdxIfInBounds j)}:=λ{j} {v} {y} ry e=>by
  obtain rfl:=oJ e
  obtain⟨n',hn'⟩:=mapSeq_lst (λxs=>xs.eraseIdxIfInBounds j) items.toArray n
  refine list_put Y R hi hp (Heap.SameBut.update ..) (ys:=items.eraseIdx j) (c:=n') ?_ (VRs_erase _ r1) (nT (List.length_eraseIdx_le ..) hz) ry
  rw[Heap.get?_update_self _ h1 (by rw[hn'];rfl),hn',erase_arr]
 cases m with
 | append=>
  obtain rfl:=oJ hf
  refine bindE e λv ha e=>ifE e λhlt e=>vA1 (P:=λxs=>wpAny _ _ (call _ (_::xs) []) _ Ex s) ha rs λy ry=>leafE e ?_
  refine wpAny_list_append_plain (items:=items.toArray) ⟨n,h1⟩ (λh' hp' sb=>?_) hs
  obtain⟨n',hp'⟩:=hp'
  exact list_put Y R hi hp sb (ys:=items++[y]) (c:=n') (by rw[hp'];simp) (VRs_append r1 (VRs_one ry)) (by simp;omega) vr_none
 | pop=>
  obtain rfl:=oJ hf
  cases args with
  | nil=>
   refine bindE e λu hu e=>vA0 (P:=λxs=>wpAny _ _ (call _ (_::xs) []) _ Ex s) rs ?_
   rw[List.getLast?_eq_getElem?]at hu
   obtain⟨y,hy,ry⟩:=VRs_get r1 hu
   rw[hl]at hy
   refine call_meets F.slot_list_pop ⟨_,h1,rfl⟩ F.entry_list_pop (F.args_list_pop_1 _) (MeetsSeq.list_pop_last p.1 items.toArray n y (by simpa using hy) hs) ⟨h1,pop ry ?_⟩
   rw[show items.toArray.size=vs.length from hl.symm,erase_last];exact e
  | cons w ws=>exact noneE e
 | extend=>
  obtain rfl:=oJ hf
  refine bindE e λv ha e=>bindE e λj hj e=>nifE e λhij e=>bindE e λus hu e=>ifE e λhlen e=>vA1 (P:=λxs=>wpAny _ _ (call _ (_::xs) []) _ Ex s) ha rs λy ry=>vObj (P:=λy=>wpAny _ _ (call _ [_,y] []) _ Ex s) hj ry λq hq=>list_at R hq hu λitems2 n2 _ g1 g2 gz=>leafE e ?_
  have hl2:=VRs_length g2
  have hd:¬(!items.toArray.isEmpty&&Builtin.List.listTooLong (items.toArray.size+items2.toArray.size))=true:=by
   have:=lim_line hlen
   unfold Builtin.List.listTooLong
   simp;omega
  refine call_meets F.slot_list_extend ⟨_,h1,rfl⟩ F.entry_list_extend (F.args_list_extend_2 _ _) (AutoSeq1.list_extend_list_list_0 p.1 items.toArray n q.1 items2.toArray n2 hd hs (by have:=lim_line hlen;simp;omega)) ⟨h1,g1,?_⟩
  obtain⟨n',hn'⟩:=mapSeq_lst (λxs=>xs++items2.toArray) items.toArray n
  refine list_put Y R hi hp (Heap.SameBut.update ..) (ys:=items++items2) (c:=n') ?_ (VRs_append r1 g2) (by simp;omega) vr_none
  rw[Heap.get?_update_self _ h1 (by rw[hn'];rfl),hn'];simp
 | _=>exact noneE hf
theorem lens_map (l:List Cs):(l.map λc=>(⟨c.toArray⟩:Str)).map (·.length)=l.map List.length:=by
 rw[List.map_map];exact List.map_congr_left λa _=>by simp[Str.length]
theorem strM_ok (Y:Sys B) (hh:A.handled=none){z:Cs}{t:Tok}{m:Mt}{args:List V}{r:V×AH}{f:Value}{xs:List Value}(e:strM z m args σ=some r) (hf:strFn m=some f) (R:Rep B σ φ s.heap) (rs:VRs B.Z φ s.heap args xs):
  wpAny (model B.prog B.w) A (call f (.str ⟨z.toArray⟩ t::xs) []) (Res B φ s r.2 r.1) Ex s:=by
 cases m with
 | join=>
  obtain rfl:=oJ hf
  refine bindE e λv ha e=>bindE e λvs hv e=>bindE e λl hl e=>ifE e λhlen e=>vA1 (P:=λxs=>wpAny _ _ (call _ (_::xs) []) _ Ex s) ha rs λy ry=>vLst (P:=λy=>wpAny _ _ (call _ [_,y] []) _ Ex s) hv R ry λp items n g r1 hz=>leafE e ?_
  have hb:=joinL_len z l
  exact PyProof.Rows.join_list (items:=items.toArray) ⟨_,g,rfl,n,rfl⟩ (strsOf_ok hl r1) (by rw[lens_map,List.length_map];simp only [LIM]at hlen;simp only [Str.length,List.size_toArray];omega) λt' k=>by rw[join_ok];exact res_here R (vr_str _ _) _
 | split=>obtain rfl:=oJ hf;exact bindE e λv ha e=>bindE e λw hw e=>bindE e λq hq e=>ifE e λhlen e=>vA1 (P:=λxs=>wpAny _ _ (call _ (_::xs) []) _ Ex s) ha rs λy ry=>vStr (P:=λy=>wpAny _ _ (call _ [_,y] []) _ Ex s) hw ry λu=>vHd (P:=λw=>wpAny _ _ (call _ [_,.str ⟨w.toArray⟩ u] []) _ Ex s) hq (ifE e λhz e=>leafE e (split_call hlen λl tk hl=>res_new Y R (by unfold splitS;rw[<-hl];exact vrs_texts l) hz tk))
 | startswith=>obtain rfl:=oJ hf;exact bindE e λv ha e=>bindE e λw hw e=>vA1 (P:=λxs=>wpAny _ _ (call _ (_::xs) []) _ Ex s) ha rs λy ry=>vStr (P:=λy=>wpAny _ _ (call _ [_,y] []) _ Ex s) hw ry λu=>leafE e (SC.startswith (by rw[starts_ok];exact res_here' R (vr_bool _)))
 | endswith=>obtain rfl:=oJ hf;exact bindE e λv ha e=>bindE e λw hw e=>vA1 (P:=λxs=>wpAny _ _ (call _ (_::xs) []) _ Ex s) ha rs λy ry=>vStr (P:=λy=>wpAny _ _ (call _ [_,y] []) _ Ex s) hw ry λu=>leafE e (SC.endswith (by rw[ends_ok];exact res_here' R (vr_bool _)))
 | find=>obtain rfl:=oJ hf;exact bindE e λv ha e=>bindE e λw hw e=>vA3 (P:=λxs=>wpAny _ _ (call _ (_::xs) []) _ Ex s) ha rs λy y1 y2 ry r1 r2=>vStr (P:=λy=>wpAny _ _ (call _ [_,y,y1,y2] []) _ Ex s) hw ry λu=>int2_ok (P:=λy1 y2=>wpAny _ _ (call _ [_,_,y1,y2] []) _ Ex s) e r1 r2 λa b u1 u2 e=>ifE e λhab e=>leafE e (find4_call hab.1 hab.2.1 hab.2.2 (res_here R (vr_int _ _) _))
 | _=>exact noneE hf
theorem callM_ok (Y:Sys B) (AO:AccOps B) (rm:Room A 0){o:V}{m:Mt}{args:List V}{r:V×AH}{x f:Value}{xs:List Value}(e:callM o m args σ=some r) (hf:methFn AO (kindV o σ) m=some f) (R:Rep B σ φ s.heap) (ro:VR B.Z φ s.heap o x) (rs:VRs B.Z φ s.heap args xs):
  wpAny (model B.prog B.w) A (call f (x::xs) []) (Res B φ s r.2 r.1) Ex s:=by
 cases o with
 | str z=>unfold VR at ro;obtain⟨t,rfl⟩:=ro;exact strM_ok Y rm.handled e hf R rs
 | obj i=>
  refine bindE e λob hi e=>?_
  unfold VR at ro;obtain⟨p,hp,rfl⟩:=ro
  rw[kind_at hi]at hf
  cases ob with
  | list vs=>
   have q:=R.rel _ _ _ hi hp
   exact lE (o:=.list vs) rfl q λitems n _ g r1 hz=>lstM_ok Y e hf R hi hp g r1 hz rs
  | acc n vs=>exact bindE hf λg hg hf=>by obtain rfl:=oJ hf;exact AO.call hg A Ex s σ r φ i n vs args p xs rm R hi hp e rs
  | _=>exact noneE e
 | _=>exact noneE e
end
end Mine
end
section
namespace Mine
open PySem
section
variable {B:Base}{C:Oracle}{d:Nat}{A:Around}{Ex:Value->Shared->Prop}{σ σ' σ1:AH}{φ φ':Phi}{s s':Shared}{sc cs:Scope}{ren ren':Ren}{nx nx':Nat}{env:Env}{loc:Loc}
theorem plainArgs {es:List Expr}{es':List Mine.E}(pos:Pos) (q:Snd2 B C d sc ren nx es es'):(backTo pos (starEach es env)).any (·.1)=false:=by
 induction q with
 | nil=>rfl
 | cons q1 _ ih=>rw[starEach_cons q1.star];simpa[backTo] using ih
theorem callWith_ok {f:Value}{first:List Value}{pos:Pos}{es:List Expr}{es':List Mine.E}{P:Heap->Prop}{r:List Mine.V×AH}(q:Snd2 B C d sc ren nx es es')
  (hk:∀ h,P h->∃ k,(k=Keeper.frame∨k=Keeper.machine∨k=Keeper.boundFrame)/\PySem.W.Looks (model B.prog B.w) h (keeperOf f) k)
  (h:evs C es' loc σ=some r) (K:At B d sc ren nx A env loc σ φ s){Q:Value->Shared->Prop}
  (k:∀ φ' s' xs,St B φ s φ' s'->At B d sc ren nx A env loc r.2 φ' s'->VRs B.Z φ' s'.heap r.1 xs->P s'.heap/\wpAny (model B.prog B.w) A (call f (first++xs) []) Q Ex s'):
  wpAny (model B.prog B.w) A (callWith pos f first (backTo pos (starEach es env)) (backToKw pos (keywordEach [] env))) Q Ex s:=by
 refine PySem.W.callWith_of (P:=P) (by rw[plainArgs pos q];rfl) hk ?_
 show wpAny _ _ (evalArgs f true (backTo pos (starEach es env)) []) _ _ _
 cases q with
 | nil=>
  obtain rfl:=oJ h
  exact PyProof.Rows.evalArgs_nil3 (k φ s [] (St.refl ..) K VRs_nil)
 | cons q1 q2=>
  have main:wpAny (model B.prog B.w) A (spliced (backTo pos (starEach _ env))) (λxs s'=>P s'.heap/\wpAny (model B.prog B.w) A (call f (first++xs) []) Q Ex s') Ex s:=
   ResL.bind (args_ok pos (.cons q1 q2) h K) λφ' s' xs st R' r=>k φ' s' xs st (K.step st R') r
  rw[starEach_cons q1.star]at main⊢
  exact Calls.evalArgs_plain main
structure CScope (sc cs:Scope) (ren:Ren) (nx:Nat) (ren':Ren):Prop where
 hl:lamSc cs=false
 hk:cs.kind = .function
 nd:(cs.names.map (·.1)).Nodup
 hf:(cs.names.all λp=>p.2 != .free||sc.names.lookup p.1==some .cell||sc.names.lookup p.1==some .free)=true
 hr:innerRen ren cs.names nx=some ren'
theorem CScope.of (h:compScope sc cs=true) (hr:innerRen ren cs.names nx=some ren'):CScope sc cs ren nx ren':=by
 unfold compScope at h
 rw[Bool.and_eq_true,Bool.and_eq_true,Bool.and_eq_true]at h
 exact⟨by simpa using h.1.1.1,of_decide_eq_true h.1.1.2,of_decide_eq_true h.1.2,h.2,hr⟩
structure CEnd (φ':Phi) (s s':Shared) (Cc:Addr):Prop where
 off:Cc∉addrs φ'
 ge:s.heap.objs.size<=Cc
 ns:∃ m,s'.heap.Ns Cc m
theorem comp_mid (Y:Sys B){e:Expr}{o0:Obj}{σ3:AH}{φ3:Phi}{kd:Option Nat}{elt:Loc->AH->Option (V×AH)}{t it0:Expr}{ifs:List Expr}{t':Tgt}{ifs':List Mine.E}{gs':List G}
  (hcl:(clausesOf e)[0]?=some ⟨t,it0,ifs,0⟩) (hfr:∀ it acc ce,(Code.compStart e 0 it acc ce).isFrame=false) (hqu:∀ it acc ce,(Code.compLoop e 0 it acc ce).quiet=true)
  (L:∀ {cenv:Env},OffD cenv s.heap.objs.size->LoopOK B C d cs ren' (nx+ownCount cs.names) cenv kd s.heap.objs.size A elt t t' ifs' gs' λa=>.compLoop e 0 (.ref a) (.ref s.heap.objs.size) cenv) (CS:CScope sc cs ren nx ren')
  (K:At B d sc ren nx A env loc σ φ s) (st3:St B φ s φ3 {s with heap:=s.heap.push o0}) (R3:Rep B σ3 φ3 (s.heap.push o0)) (A3:AccOK B kd s.heap.objs.size [] φ3 (s.heap.push o0)){it:It}{a:Addr}{Wi:List Addr}(I:ItR B φ s.heap it a Wi) (S:itSafe B φ s.heap Wi) (hcell:∀ y c,env.cells.lookup y=some c->c∉Wi)
  (hu:unsetT t' loc=true){r:(List Mine.V⊕Empty)×AH}(hloop:loopM (compF C elt t' ifs' gs' loc) FUEL it [] σ3=some r)
  {use:Option (Value->Sem Unit)}{Q:Value->Shared->Prop}
  (k:∀ acc φ' s' Cc,r.1 = .inl acc->StW B Wi φ s φ' s'->Rep B r.2 φ' s'.heap->AccOK B kd s.heap.objs.size acc φ' s'.heap->Cc∉addrs φ'->s.heap.objs.size<Cc->(∃ m,s'.heap.Ns Cc m)->compPost (model B.prog B.w) A Ex use Q (.ref s.heap.objs.size) Cc (.ok .next) s'):
  wpAny (model B.prog B.w) A (newFunctionEnv cs env.globals (closeFrom env cs.names []) [] env.qual none .none (some env)) (λcenv s₄=>
   codeAny (model B.prog B.w) A (.compStart e 0 (.ref a) (.ref s.heap.objs.size) {cenv with scope:=relabel cs env}) (compPost (model B.prog B.w) A Ex use Q (.ref s.heap.objs.size) cenv.locals) s₄) Ex {s with heap:=s.heap.push o0}:=by
 refine newEnv_comp ?_
 have V3:=K.V.step st3 K.R
 obtain⟨V4,kp2,hown,hcells,_⟩:=comp_env (s:={s with heap:=s.heap.push o0}) R3 V3 CS.hl CS.hk CS.nd CS.hf CS.hr
 have sz:(s.heap.push o0).objs.size=s.heap.objs.size+1:=Heap.size_push ..
 generalize hs4:({s with heap:=cHeap cs (s.heap.push o0)}:Shared)=s4
 have hh4:s4.heap=cHeap cs (s.heap.push o0):=by rw[<-hs4]
 have kp4:Kp B.tabs [] (s.heap.push o0) s4.heap:=hh4▸kp2
 have s34:St B φ3 {s with heap:=s.heap.push o0} φ3 s4:=St.of_kp kp4 (by rw[<-hs4]) (by rw[<-hs4])
 have st4:St B φ s φ3 s4:=st3.trans s34
 obtain⟨I4,S4⟩:=it_step K.R I S st4
 have old:∀ {c:Addr},(s.heap.push o0).objs.size<=c->s.heap.objs.size<c:=λ{c} h=>by rw[sz]at h;exact h
 have hOD:OffD (cEnv cs env (s.heap.push o0).objs.size) s.heap.objs.size:=⟨Nat.ne_of_gt (old (Nat.le_refl _)),λy c e=>(hcells y c e).elim (λq=>Nat.ne_of_gt (old q)) λq=>Nat.ne_of_lt (K.V.cellsLt q)⟩
 have hOff:Off Wi (cEnv cs env (s.heap.push o0).objs.size) s.heap.objs.size:=⟨λhm=>Nat.lt_irrefl _ (S.2 _ hm).2,λhm=>Nat.lt_asymm (S.2 _ hm).2 (old (Nat.le_refl _)),λy c e hm=>(hcells y c e).elim (λq=>Nat.lt_asymm (S.2 _ hm).2 (old q)) λq=>hcell y c q hm⟩
 have key:codeAny (model B.prog B.w) A (.compStart e 0 (.ref a) (.ref s.heap.objs.size) (cEnv cs env (s.heap.push o0).objs.size))
   (compPost (model B.prog B.w) A Ex use Q (.ref s.heap.objs.size) (s.heap.push o0).objs.size) s4:=by
  refine compStart_any hcl (L hOD FUEL hu hloop I4 S4 hOff ⟨⟨K.rm,by rw[hh4];exact V4,R3.grow Y.ok kp4⟩,A3.step R3 (StW.of (W:=[]) s34 (Safe.nil _)) nofun⟩ λacc φ' s' ea st X=>?_) (hfr ..) (hqu ..) (λA' Ex Q hq=>iterSelf_ok I4 hq)
  refine k acc φ' s' _ ea ((StW.of st4 S.1).seq st λb hb=>?_) X.K.R X.Ac X.K.V.base (old (Nat.le_refl _)) X.K.V.ns
  rcases List.mem_append.mp hb with hb|hb
  ·exact .inl hb
  ·rcases mC hb with rfl|hb
   ·exact .inr (Nat.le_refl _)
   ·exact .inr (Nat.le_of_lt (old (hown b hb)))
 rw[<-hs4]at key
 exact key
theorem mem_one {n:Addr}:∀ b∈addrs [(n,n)],b=n:=λb hb=>by
 rcases mem_addrs.mp hb with⟨q,hq,e|e⟩<;>rw[e,mS hq]
theorem comp_tail (Y:Sys B){elt:Expr}{elt':Mine.E}(He:Snd B C d cs ren' (nx+ownCount cs.names) elt elt'){t it0:Expr}{ifs:List Expr}{t':Tgt}{ifs':List Mine.E}{gs:List Comprehension}{gs':List G}{pos:Pos}
  (hgs:SndGs B C d cs ren' (nx+ownCount cs.names) gs gs') (ht:trTgt cs ren' t=some t') (hifs:Snd2 B C d cs ren' (nx+ownCount cs.names) ifs ifs') (CS:CScope sc cs ren nx ren')
  (K:At B d sc ren nx A env loc σ φ s){it:It}{a:Addr}{Wi:List Addr}(I:ItR B φ s.heap it a Wi) (S:itSafe B φ s.heap Wi) (hcell:∀ y c,env.cells.lookup y=some c->c∉Wi)
  (hu:unsetT t' loc=true){r:(List Mine.V⊕Empty)×AH}(hloop:loopM (compF C (λl s=>ev C elt' l s) t' ifs' gs' loc) FUEL it [] σ=some r) (hlen:∀ acc,r.1 = .inl acc->acc.length<=LIM)
  {use:Option (Value->Sem Unit)}{Q:Value->Shared->Prop}
  (k:∀ acc φ' s' x Cc,r.1 = .inl acc->StW B Wi φ s φ' s'->Rep B (r.2++[.list acc]) φ' s'.heap->VR B.Z φ' s'.heap (.obj r.2.length) x->CEnd φ' s s' Cc->compPost (model B.prog B.w) A Ex use Q x Cc (.ok .next) s'):
  wpAny (model B.prog B.w) A (newList []) (λacc s₃=>wpAny (model B.prog B.w) A (newFunctionEnv cs env.globals (closeFrom env cs.names []) [] env.qual none .none (some env)) (λcenv s₄=>
   codeAny (model B.prog B.w) A (.compStart (.ListComp elt (⟨t,it0,ifs,0⟩::gs) cs pos) 0 (.ref a) acc {cenv with scope:=relabel cs env}) (compPost (model B.prog B.w) A Ex use Q acc cenv.locals) s₄) Ex s₃) Ex s:=by
 have kp1:Kp B.tabs [] s.heap (s.heap.push (lstO #[] 0)):=.push ..
 have fr:s.heap.objs.size∉addrs φ:=λhm=>absurd (K.R.lt hm) (Nat.lt_irrefl _)
 have hD:(s.heap.push (lstO #[] 0)).get? s.heap.objs.size=some (lstO #[] 0):=Heap.get?_push_size _ rfl
 refine wpAny_newObj_type (hd:=by size_fits) (comp_mid (kd:=none) (φ3:=φ) Y rfl (λ_ _ _=>rfl) (λ_ _ _=>rfl) (λhOD=>gen_ok Y K.rm He hOD hgs (dep:=0) rfl ht hifs) CS K (St.of_kp kp1 rfl rfl) (K.R.grow Y.ok kp1) ⟨λ_=>⟨⟨[],0,hD,VRs_nil⟩,fr⟩,nofun,K.R.stat.size,Heap.lt_size hD⟩ I S hcell hu hloop λacc φ' s' Cc ea st R' Ac c1 c2 c3=>?_)
 obtain⟨⟨items,n,hDg,rs⟩,fo⟩:=Ac.is rfl
 refine k acc (φ'++[(s.heap.objs.size,s.heap.objs.size)]) s' _ _ ea ?_ (R'.add (p:=(s.heap.objs.size,s.heap.objs.size)) fo fo Ac.low Ac.low (o:=.list acc) ⟨rfl,items,n,hDg,rs,hlen acc ea⟩) ?_ ⟨λhm=>?_,Nat.le_of_lt c2,c3⟩
 ·obtain⟨ψ,rfl,hψ⟩:=st.pre
  refine⟨⟨ψ++[(s.heap.objs.size,s.heap.objs.size)],by simp,λb hb=>?_⟩,st.keep,st.safe,st.os,st.gens⟩
  rw[addrs_append]at hb
  exact(List.mem_append.mp hb).elim (hψ b) λhb=>Nat.le_of_eq (mem_one b hb).symm
 ·unfold VR
  exact⟨(s.heap.objs.size,s.heap.objs.size),by rw[<-R'.len];simp,rfl⟩
 ·rw[addrs_append]at hm
  exact(List.mem_append.mp hm).elim c1 λhm=>absurd (mem_one _ hm) (Nat.ne_of_gt c2)
theorem dict_new (Y:Sys B) (R:Rep B σ φ s.heap):St B φ s (φ++[(s.heap.objs.size,s.heap.objs.size)]) {s with heap:=s.heap.push {cls:=.type "dict",data:=.dict #[]}}/\Rep B (σ++[.dict []]) (φ++[(s.heap.objs.size,s.heap.objs.size)]) (s.heap.push {cls:=.type "dict",data:=.dict #[]}):=by
 have kp:Kp B.tabs [] s.heap (s.heap.push {cls:=.type "dict",data:=.dict #[]}):=.push ..
 have fr:s.heap.objs.size∉addrs φ:=λhm=>absurd (R.lt hm) (Nat.lt_irrefl _)
 exact⟨⟨⟨_,rfl,λb hb=>Nat.le_of_eq (mem_one b hb).symm⟩,kp.mono nofun,rfl,id⟩,(R.grow Y.ok kp).add (p:=(s.heap.objs.size,s.heap.objs.size)) fr fr R.stat.size R.stat.size ⟨rfl,[],⟨_,_,Heap.get?_push_size _ rfl,⟨rfl,rfl,rfl⟩,rfl,λ_ h=>by simp at h,.nil,.nil⟩,rfl,VRs_nil,Nat.zero_le _⟩⟩
theorem dcomp_tail (Y:Sys B){kx vx:Expr}{kx' vx':Mine.E}(Hk:Snd B C d cs ren' (nx+ownCount cs.names) kx kx') (Hv:Snd B C d cs ren' (nx+ownCount cs.names) vx vx'){t it0:Expr}{t':Tgt}{pos:Pos}
  (ht:trTgt cs ren' t=some t') (CS:CScope sc cs ren nx ren')
  (K:At B d sc ren nx A env loc σ φ s){it:It}{a:Addr}{Wi:List Addr}(I:ItR B φ s.heap it a Wi) (S:itSafe B φ s.heap Wi) (hcell:∀ y c,env.cells.lookup y=some c->c∉Wi)
  (hu:unsetT t' loc=true){r:(List Mine.V⊕Empty)×AH}(hloop:loopM (compF C (pairF C σ.length kx' vx') t' [] [] loc) FUEL it [] (σ++[.dict []])=some r)
  {use:Option (Value->Sem Unit)}{Q:Value->Shared->Prop}
  (k:∀ φ' s' x Cc,StW B Wi φ s φ' s'->Rep B r.2 φ' s'.heap->VR B.Z φ' s'.heap (.obj σ.length) x->CEnd φ' s s' Cc->compPost (model B.prog B.w) A Ex use Q x Cc (.ok .next) s'):
  wpAny (model B.prog B.w) A newDict (λacc s₃=>wpAny (model B.prog B.w) A (newFunctionEnv cs env.globals (closeFrom env cs.names []) [] env.qual none .none (some env)) (λcenv s₄=>
   codeAny (model B.prog B.w) A (.compStart (.DictComp kx vx [⟨t,it0,[],0⟩] cs pos) 0 (.ref a) acc {cenv with scope:=relabel cs env}) (compPost (model B.prog B.w) A Ex use Q acc cenv.locals) s₄) Ex s₃) Ex s:=by
 obtain⟨st3,R3⟩:=dict_new Y K.R
 have hp:(φ++[(s.heap.objs.size,s.heap.objs.size)])[σ.length]?=some (s.heap.objs.size,s.heap.objs.size):=by rw[<-K.R.len];simp
 refine wpAny_newObj_type (hd:=by size_fits) (comp_mid (kd:=some σ.length) Y rfl (λ_ _ _=>rfl) (λ_ _ _=>rfl) (λhOD=>dgen_ok Y K.rm Hk Hv hOD ht) CS K st3 R3 ⟨nofun,λj hj=>by obtain rfl:=oJ hj;exact⟨_,hp,rfl⟩,K.R.stat.size,Heap.lt_size (Heap.get?_push_size _ rfl)⟩ I S hcell hu hloop λacc φ' s' Cc ea st R' Ac c1 c2 c3=>?_)
 obtain⟨p,e1,e2⟩:=Ac.dct _ rfl
 exact k φ' s' _ Cc st R' (by unfold VR;exact⟨p,e1,congrArg Value.ref e2.symm⟩) ⟨c1,Nat.le_of_lt c2,c3⟩
end
end Mine
end
section
namespace Mine
open PySem
section
variable {B:Base}{C:Oracle}{d:Nat}{A:Around}{Ex:Value->Shared->Prop}{σ σ' σ1:AH}{φ φ':Phi}{s s':Shared}{sc cs:Scope}{ren ren':Ren}{nx nx':Nat}{env:Env}{loc:Loc}
theorem comp_free (R:Rep B σ φ s.heap) (V:EnvOK B sc ren nx env loc φ s.heap) (CS:CScope sc cs ren nx ren'):closureFor cs env=pure (closeFrom env cs.names []):=
 closureFor_eq (comp_env R V CS.hl CS.hk CS.nd CS.hf CS.hr).2.2.2.2
theorem comp_mk (Y:Sys B){elt it0 t:Expr}{elt' it':Mine.E}{ifs:List Expr}{t':Tgt}{ifs':List Mine.E}{gs:List Comprehension}{gs':List G}{pos:Pos}(hit:Snd B C d sc ren nx it0 it')
  (He:Snd B C d cs ren' (nx+ownCount cs.names) elt elt') (hgs:SndGs B C d cs ren' (nx+ownCount cs.names) gs gs') (ht:trTgt cs ren' t=some t') (hifs:Snd2 B C d cs ren' (nx+ownCount cs.names) ifs ifs')
  (CS:CScope sc cs ren nx ren'){r:V×AH}(h:ev C (.comp elt' (.mk t' it' ifs'::gs')) loc σ=some r) (K:At B d sc ren nx A env loc σ φ s){use:Option (Value->Sem Unit)}{Q:Value->Shared->Prop}
  (k:∀ φ' s' x Cc,St B φ s φ' s'->Rep B r.2 φ' s'.heap->VR B.Z φ' s'.heap r.1 x->CEnd φ' s s' Cc->compPost (model B.prog B.w) A Ex use Q x Cc (.ok .next) s'):
  wpAny (model B.prog B.w) A (comprehension (.ListComp elt (⟨t,it0,ifs,0⟩::gs) cs pos) cs env (firstIterPos (⟨t,it0,ifs,0⟩::gs) pos) (newList []) (firstAsync (⟨t,it0,ifs,0⟩::gs)) (firstIter (⟨t,it0,ifs,0⟩::gs) env) use) Q Ex s:=by
 refine bindE h λw hg h=>ifE h λhlen h=>ifE (show(if unsetT t' loc=true then _ else none)=some w from hg) λhu hg=>bindE hg λp h1 hg=>bindE hg λi1 hi1 hg=>bindE hg λr0 hloop hg=>?_
 obtain rfl:=oJ h
 show wpAny _ _ (comprehension _ _ _ _ _ false _ _) _ _ _
 refine wpAny_comprehension_free (cl:=closeFrom env cs.names []) rfl (λx=>folded_no env x hit.set) (comp_free K.R K.V CS) CS.hk (λx hx hl=>hl▸lookup_nodup CS.nd hx) ?_
 show wpAny _ _ (eval it0 env) _ _ _
 refine hit.run h1 K λφ1 s1 xv st1 K1 r1=>wpAny_mono (iter_ok Y hi1 K1.R r1) (λiv s2 hfr=>?_) λ_ _ q=>q
 obtain⟨a,rfl,hf⟩:=hfr
 have st2:St B φ1 s1 φ1 s2:=St.of_kp hf.kp hf.os hf.gens
 have end_:∀ acc,r0.1 = .inl acc->acc=w.1/\r0.2=w.2:=λacc e=>by rw[e]at hg;obtain rfl:=oJ hg;exact⟨rfl,rfl⟩
 refine comp_tail Y He hgs ht hifs CS (K1.step st2 (K1.R.grow Y.ok hf.kp)) hf.I hf.S (λy c e hm=>?_) hu hloop (λacc e=>(end_ acc e).1▸hlen) λacc φ' s' x Cc ea st R' rv hc=>?_
 ·rw[mS hm]at e
  exact absurd (Nat.lt_of_lt_of_le (K1.V.cellsLt e) hf.ge) (Nat.lt_irrefl _)
 ·have hsz:=st1.keep.size
  rw[(end_ acc ea).1,(end_ acc ea).2]at R'
  rw[(end_ acc ea).2]at rv
  exact k φ' s' x Cc ((st1.trans st2).close st λb hb=>by rw[mS hb];exact nT hsz hf.ge) R' rv ⟨hc.off,nT (nT hsz hf.kp.size) hc.ge,hc.ns⟩
theorem dcomp_mk (Y:Sys B){kx vx it0 t:Expr}{kx' vx' it':Mine.E}{t':Tgt}{pos:Pos}(hit:Snd B C d sc ren nx it0 it')
  (Hk:Snd B C d cs ren' (nx+ownCount cs.names) kx kx') (Hv:Snd B C d cs ren' (nx+ownCount cs.names) vx vx') (ht:trTgt cs ren' t=some t')
  (CS:CScope sc cs ren nx ren'){r:V×AH}(h:ev C (.dcomp kx' vx' t' it') loc σ=some r) (K:At B d sc ren nx A env loc σ φ s){use:Option (Value->Sem Unit)}{Q:Value->Shared->Prop}
  (k:∀ φ' s' x Cc,St B φ s φ' s'->Rep B r.2 φ' s'.heap->VR B.Z φ' s'.heap r.1 x->CEnd φ' s s' Cc->compPost (model B.prog B.w) A Ex use Q x Cc (.ok .next) s'):
  wpAny (model B.prog B.w) A (comprehension (.DictComp kx vx [⟨t,it0,[],0⟩] cs pos) cs env (firstIterPos [⟨t,it0,[],0⟩] pos) newDict (firstAsync [⟨t,it0,[],0⟩]) (firstIter [⟨t,it0,[],0⟩] env) use) Q Ex s:=by
 refine ifE h λhu h=>bindE h λp h1 h=>bindE h λi1 hi1 h=>bindE h λr0 hloop h=>?_
 obtain rfl:=oJ h
 show wpAny _ _ (comprehension _ _ _ _ _ false _ _) _ _ _
 refine wpAny_comprehension_free (cl:=closeFrom env cs.names []) rfl (λx=>folded_no env x hit.set) (comp_free K.R K.V CS) CS.hk (λx hx hl=>hl▸lookup_nodup CS.nd hx) ?_
 show wpAny _ _ (eval it0 env) _ _ _
 refine hit.run h1 K λφ1 s1 xv st1 K1 r1=>wpAny_mono (iter_ok Y hi1 K1.R r1) (λiv s2 hfr=>?_) λ_ _ q=>q
 obtain⟨a,rfl,hf⟩:=hfr
 have st2:St B φ1 s1 φ1 s2:=St.of_kp hf.kp hf.os hf.gens
 refine dcomp_tail Y Hk Hv ht CS (K1.step st2 (K1.R.grow Y.ok hf.kp)) hf.I hf.S (λy c e hm=>?_) hu (r:=r0) hloop λφ' s' x Cc st R' rv hc=>?_
 ·rw[mS hm]at e
  exact absurd (Nat.lt_of_lt_of_le (K1.V.cellsLt e) hf.ge) (Nat.lt_irrefl _)
 ·have hsz:=st1.keep.size
  exact k φ' s' x Cc ((st1.trans st2).close st λb hb=>by rw[mS hb];exact nT hsz hf.ge) R' rv ⟨hc.off,nT (nT hsz hf.kp.size) hc.ge,hc.ns⟩
end
end Mine
end
section
namespace Mine
open PySem
structure Env0 (B:Base) (C:Oracle) (d:Nat):Prop where
 Y:Sys B
 HO:OrOK B C d
 AO:Nonempty (AccOps B)
 sup:B.GT "super"=none
section
variable {B:Base}{C:Oracle}{d:Nat}{A:Around}{Ex:Value->Shared->Prop}{σ σ' σ1:AH}{φ φ':Phi}{s s':Shared}{sc cs:Scope}{ren ren':Ren}{nx nx':Nat}{env:Env}{loc:Loc}
theorem Room.mono {d d':Nat}(r:Room A d) (h:d'<=d):Room A d':=⟨r.handled,nT (Nat.add_le_add_right (Nat.add_le_add_left h _) _) r.depth,nT (Nat.add_le_add_right (Nat.add_le_add_left (Nat.mul_le_mul_left 40 h) _) _) r.units,r.frames⟩
theorem Snd.mk' {e:Expr}{e':Mine.E}(h1:plainE e=true) (hp:∀ env,isTrue e env (eval e env)=(do let v <-eval e env;standAt e.pos;holding [v] (truthy v)))
  (h:∀ {loc:Loc}{σ:AH}{r:V×AH}{A:Around}{Ex:Value->Shared->Prop}{φ:Phi}{s:Shared}{env:Env},ev C e' loc σ=some r->At B d sc ren nx A env loc σ φ s->wpAny (model B.prog B.w) A (eval e env) (Res B φ s r.2 r.1) Ex s):Snd B C d sc ren nx e e':=
 ⟨h1,h,λhe hb K=>true_plain (hp _) (h he K) hb⟩
noncomputable def SndO (B:Base) (C:Oracle) (d:Nat) (sc:Scope) (ren:Ren) (nx:Nat) (o:Option Expr) (e':Mine.E):Prop:=
 ∀ {loc:Loc}{σ:AH}{r:V×AH}{A:Around}{Ex:Value->Shared->Prop}{φ:Phi}{s:Shared}{env:Env},ev C e' loc σ=some r->At B d sc ren nx A env loc σ φ s->wpAny (model B.prog B.w) A (valueOrNone (evalOpt o env)) (Res B φ s r.2 r.1) Ex s
theorem attrBase_plain {o:Expr}{attr:Str}{w:Sem Value}{Q:Value->Shared->Prop}{M:Model}(ho:∀ p q,o ≠ .Call (.Name "super" p) [] [] q) (h:wpAny M A w Q Ex s):wpAny M A (attributeBase o attr env w) Q Ex s:=by
 cases o with
 | Call f as kw q=>cases as with
  | cons _ _=>cases f<;>exact h
  | nil=>cases kw with
   | cons _ _=>cases f<;>exact h
   | nil=>cases f with
    | Name id p=>
     show wpAny M A (if (id != "super"||_||_||_)=true then _ else _) Q Ex s
     rw[if_pos (by rw[show(id != "super")=true from bne_iff_ne.mpr λe=>ho p q (by rw[e])];rfl)]
     exact h
    | _=>exact h
 | _=>exact h
theorem lit_ok {c:Const}{k:Nat}{p:Pos}{v:V}(h:litOf c=some v) (R:Rep B σ φ s.heap):wpAny (model B.prog B.w) A (eval (.Constant c k p) env) (Res B φ s σ v) Ex s:=by
 cases c with
 | none=>exact leafV h (wpAny_Constant_none (res_here' R vr_none))
 | bool b=>exact leafV h (wpAny_Constant_bool (res_here' R (vr_bool _)))
 | int i=>exact leafV h (wpAny_Constant_int (res_here R (vr_int _ _) _))
 | str z=>exact leafV h (wpAny_Constant_str (res_here R (vr_str' _ _ (by simp[chars]) _) _))
 | _=>exact noneE h
theorem tuple_ok (Y:Sys B){vs:List Mine.V}{xs:List Value}(R:Rep B σ φ s.heap) (r:VRs B.Z φ s.heap vs xs) (hl:vs.length<=LIM):wpAny (model B.prog B.w) A (newTuple xs) (Res B φ s σ (.tup vs)) Ex s:=by
 refine wpAny_newTuple ?_ (lim_line (by rw[VRs_length r]at hl;exact hl))
 have kp:Kp B.tabs [] s.heap (s.heap.push (tupO xs.toArray 0)):=.push ..
 refine res_grow Y R (λb o e=>Heap.get?_push_of_some _ e) kp.size ?_ s.toks
 unfold VR
 exact⟨_,xs,0,rfl,Heap.get?_push_size _ rfl,VRs_mono (Vk.of kp (Safe.nil B.Z) (pre_refl ..)) _ r⟩
theorem list_ok (Y:Sys B){r:V×AH}{vs:List Mine.V}{xs:List Value}(R:Rep B σ φ s.heap) (rs:VRs B.Z φ s.heap vs xs) (e:newL vs σ=some r):wpAny (model B.prog B.w) A (newList xs) (Res B φ s r.2 r.1) Ex s:=
 newL_ok Y R e rs λhl z=>wpAny_newObj_type (z _) (by show xs.toArray.size<=sizeLine;exact lim_line (by rw[VRs_length rs]at hl;exact hl))
theorem slice_made {l u st:Mine.V}{vl vu vs:Value}(Y:Sys B) (R:Rep B σ φ s.heap){Q:Value->Shared->Prop}
  (k:∀ s',St B φ s φ s'->Rep B σ φ s'.heap->s'.heap.IsSliceOf s.heap.objs.size vl vu vs->Q (.ref s.heap.objs.size) s'):wpAny (model B.prog B.w) A (newFields "slice" [vl,vu,vs]) Q Ex s:=by
 refine wpAny_newObj_type (k _ (St.of_kp (.push ..) rfl rfl) (R.grow Y.ok (.push ..)) ⟨_,Heap.get?_push_size _ rfl,rfl,rfl⟩) (by size_fits)
structure TrOK (C:Oracle) (d n:Nat):Prop where
 e:∀ {B:Base},Env0 B C d->∀ {sc:Scope}{ren:Ren}{nx:Nat}{x:Expr}{x':Mine.E},tr B.GT n sc ren nx x=some x'->Snd B C d sc ren nx x x'
 es:∀ {B:Base},Env0 B C d->∀ {sc:Scope}{ren:Ren}{nx:Nat}{x:List Expr}{x':List Mine.E},trs B.GT n sc ren nx x=some x'->Snd2 B C d sc ren nx x x'
 o:∀ {B:Base},Env0 B C d->∀ {sc:Scope}{ren:Ren}{nx:Nat}{x:Option Expr}{x':Mine.E},trO B.GT n sc ren nx x=some x'->SndO B C d sc ren nx x x'
 gs:∀ {B:Base},Env0 B C d->∀ {sc:Scope}{ren:Ren}{nx:Nat}{x:List Comprehension}{x':List G},trGs B.GT n sc ren nx x=some x'->SndGs B C d sc ren nx x x'
theorem tr_es {n:Nat}(ih:TrOK C d n) (E:Env0 B C d){x:List Expr}{x':List Mine.E}(h:trs B.GT (n+1) sc ren nx x=some x'):Snd2 B C d sc ren nx x x':=by
 cases x with
 | nil=>obtain rfl:=oJ h;exact .nil
 | cons e es=>exact bindE h λa h1 h=>bindE h λas h2 h=>by obtain rfl:=oJ h;exact .cons (ih.e E h1) (ih.es E h2)
theorem tr_o {n:Nat}(ih:TrOK C d n) (E:Env0 B C d){x:Option Expr}{x':Mine.E}(h:trO B.GT (n+1) sc ren nx x=some x'):SndO B C d sc ren nx x x':=by
 cases x with
 | none=>obtain rfl:=oJ h;intro _ _ _ _ _ _ _ _ he K;obtain rfl:=oJ he;exact wpAny_pure (res_here' K.R vr_none)
 | some e=>exact λhe K=>(ih.e E h).val he K
theorem tr_gs {n:Nat}(ih:TrOK C d n) (E:Env0 B C d){x:List Comprehension}{x':List G}(h:trGs B.GT (n+1) sc ren nx x=some x'):SndGs B C d sc ren nx x x':=by
 cases x with
 | nil=>cases h;exact .nil
 | cons g gs=>
  obtain⟨t,it,ifs,as⟩:=g
  exact ifE h λh0 h=>bindE h λt' h1 h=>bindE h λit' h2 h=>bindE h λifs' h3 h=>bindE h λgs' h4 hfin=>by
   cases h0
   cases hfin
   exact .cons h1 (ih.e E h2) (ih.es E h3) (ih.gs E h4)
theorem eAttr_eq {e:Expr}{x:Expr×Str×Pos}(h:eAttr e=some x):e = .Attribute x.1 x.2.1 x.2.2:=by
 cases e with
 | Attribute f as p=>exact someE (P:=λx:Expr×Str×Pos=>Expr.Attribute f as p = .Attribute x.1 x.2.1 x.2.2) h rfl
 | _=>exact noneE h
theorem eSlc_eq {e:Expr}{x:Option Expr×Option Expr×Option Expr×Pos}(h:eSlc e=some x):e = .Slice x.1 x.2.1 x.2.2.1 x.2.2.2:=by
 cases e with
 | Slice l u st p=>exact someE (P:=λx:Option Expr×Option Expr×Option Expr×Pos=>Expr.Slice l u st p = .Slice x.1 x.2.1 x.2.2.1 x.2.2.2) h rfl
 | _=>exact noneE h
theorem l0_eq {α:Type}{l:List α}{u:Unit}(h:l0 l=some u):l=[]:=by
 cases l with
 | nil=>rfl
 | cons _ _=>exact noneE h
theorem l1_eq {α:Type}{l:List α}{a:α}(h:l1 l=some a):l=[a]:=by
 match l,h with
 | [b],h=>rw[oJ h]
theorem l2_eq {α:Type}{l:List α}{p:α×α}(h:l2 l=some p):l=[p.1,p.2]:=by
 match l,h with
 | [b,c],h=>rw[<-oJ h]
theorem gName_eq {GT:Str->Option GV}{x:Str}{g:GV}(h:gName GT sc x=some g):sc.names.lookup x=some .globalImplicit/\GT x=some g:=ifE h λa b=>⟨a,b⟩
theorem comp_any {n:Nat}(ih:TrOK C d n) (E:Env0 B C d){elt:Expr}{gens:List Comprehension}{pos:Pos}{e':Mine.E}
  (h:tr B.GT (n+1) sc ren nx (.ListComp elt gens cs pos)=some e'){r:V×AH}(hev:ev C e' loc σ=some r) (K:At B d sc ren nx A env loc σ φ s){use:Option (Value->Sem Unit)}{Q:Value->Shared->Prop}
  (k:∀ φ' s' x Cc,St B φ s φ' s'->Rep B r.2 φ' s'.heap->VR B.Z φ' s'.heap r.1 x->CEnd φ' s s' Cc->compPost (model B.prog B.w) A Ex use Q x Cc (.ok .next) s'):
  wpAny (model B.prog B.w) A (comprehension (.ListComp elt gens cs pos) cs env (firstIterPos gens pos) (newList []) (firstAsync gens) (firstIter gens env) use) Q Ex s:=by
 refine ifE h λhs h=>bindE h λren' hr h=>?_
 have CS:CScope sc cs ren nx ren':=.of hs hr
 cases gens with
 | nil=>exact noneE h
 | cons g gs=>
  obtain⟨t,it,ifs,as⟩:=g
  refine ifE h λh0 h=>bindE h λt' h1 h=>bindE h λifs' h2 h=>bindE h λgs' h3 h=>bindE h λelt' h4 h=>bindE h λx hx hf=>?_
  cases h0
  cases hf
  exact comp_mk E.Y (ih.e E hx) (ih.e E h4) (ih.gs E h3) h1 (ih.es E h2) CS hev K k
theorem dcomp_any {n:Nat}(ih:TrOK C d n) (E:Env0 B C d){kx vx:Expr}{gens:List Comprehension}{pos:Pos}{e':Mine.E}
  (h:tr B.GT (n+1) sc ren nx (.DictComp kx vx gens cs pos)=some e'){r:V×AH}(hev:ev C e' loc σ=some r) (K:At B d sc ren nx A env loc σ φ s){use:Option (Value->Sem Unit)}{Q:Value->Shared->Prop}
  (k:∀ φ' s' x Cc,St B φ s φ' s'->Rep B r.2 φ' s'.heap->VR B.Z φ' s'.heap r.1 x->CEnd φ' s s' Cc->compPost (model B.prog B.w) A Ex use Q x Cc (.ok .next) s'):
  wpAny (model B.prog B.w) A (comprehension (.DictComp kx vx gens cs pos) cs env (firstIterPos gens pos) newDict (firstAsync gens) (firstIter gens env) use) Q Ex s:=by
 refine ifE h λhs h=>bindE h λren' hr h=>bindE h λg hg h=>ifE h λh0 h=>bindE h λt' h1 h=>bindE h λ_ h2 h=>bindE h λkx' h3 h=>bindE h λvx' h4 h=>bindE h λx hx hf=>?_
 cases hf
 obtain⟨t,it,ifs,as⟩:=g
 cases h0
 rw[l1_eq hg,show ifs=[]from l0_eq h2]
 exact dcomp_mk E.Y (ih.e E hx) (ih.e E h3) (ih.e E h4) h1 (.of hs hr) hev K k
theorem post_none {φ':Phi}{s':Shared}{x:Value}{Cc:Addr}{v:Mine.V}(Y:Sys B) (st:St B φ s φ' s') (R':Rep B σ' φ' s'.heap) (rv:VR B.Z φ' s'.heap v x) (hc:CEnd φ' s s' Cc) (hN:B.N<=s.heap.objs.size):
  compPost (model B.prog B.w) A Ex none (Res B φ s σ' v) x Cc (.ok .next) s':=by
 obtain⟨m,hn⟩:=hc.ns
 refine⟨m,hn,λh' sb=>?_⟩
 have kp:Kp B.tabs [Cc] s'.heap h':=.nsBut sb hn
 have S:Safe B.Z [Cc]:=λa ha=>mS ha▸nT hN hc.ge
 have stw:StW B [Cc] φ' s' φ' {s' with heap:=h'}:=⟨pre_refl ..,kp.mono (λb hb=>.inl (List.mem_append.mpr (.inl hb))),S,rfl,id⟩
 exact⟨φ',st.close stw λb hb=>by rw[mS hb];exact hc.ge,R'.off Y.ok kp S (λb hb=>by rw[mS hb];exact hc.off),VR_mono (Vk.of kp S (pre_refl ..)) _ rv⟩
end
end Mine
end
section
namespace Mine
open PySem
section
variable {B:Base}{C:Oracle}{d:Nat}{A:Around}{Ex:Value->Shared->Prop}{σ σ' σ1:AH}{φ φ':Phi}{s s':Shared}{sc cs:Scope}{ren ren':Ren}{nx nx':Nat}{env:Env}{loc:Loc}
theorem inTurn_ok:∀ {ks:List (Option Expr)}{vs l:List Expr},inTurn ks vs=some l->ks.all (·.isSome)=true/\ks.length=vs.length
 | [],[],_,_=>⟨rfl,rfl⟩
 | [],_::_,_,h=>noneE h
 | _::_,[],_,h=>noneE h
 | k::ks,v::vs,l,h=>bindE h λk' hk h=>bindE h λl' hl _=>by
  obtain⟨a,b⟩:=inTurn_ok hl
  rw[hk]
  exact⟨a,congrArg (· + 1) b⟩
noncomputable abbrev flatP (prs:List (Value×Value)):List Value:=prs.flatMap λp=>[p.1,p.2]
theorem pairs_ok (pos:Pos):∀ {ks:List (Option Expr)}{vs l:List Expr}{es':List Mine.E},inTurn ks vs=some l->Snd2 B C d sc ren nx l es'->∀ {r:List V×AH}{σ:AH}{φ:Phi}{s:Shared},evs C es' loc σ=some r->At B d sc ren nx A env loc σ φ s->
  ∀ {Q:List (Value×Value)->Shared->Prop},(∀ φ' s' prs,St B φ s φ' s'->At B d sc ren nx A env loc r.2 φ' s'->VRs B.Z φ' s'.heap r.1 (flatP prs)->Q prs s')->wpAny (model B.prog B.w) A (evalPairs (pairTrees ks vs env pos)) Q Ex s
 | [],[],l,es',h,q,r,σ,φ,s,he,K,Q,k=>by
  cases h
  cases q
  cases he
  exact wpAny_pure (k φ s [] (St.refl ..) K VRs_nil)
 | [],_::_,_,_,h,_,_,_,_,_,_,_,_,_=>noneE h
 | _::_,[],_,_,h,_,_,_,_,_,_,_,_,_=>noneE h
 | k0::ks,v::vs,l,es',h,q,r,σ,φ,s,he,K,Q,k=>bindE h λkx hk h=>bindE h λl' hl h=>by
  cases h
  cases hk
  cases q with
  | cons q1 q=>cases q with
   | cons q2 q=>
    refine bindE he λp1 e1 he=>bindE he λw1 he1 he=>bindE he1 λp2 e2 he1=>bindE he1 λw2 e3 he1=>?_
    obtain rfl:=oJ he1
    cases he
    refine evalPairs_cons (q1.run e1 K λφ1 s1 x st1 K1 r1=>wpAny_bind (q2.run e2 K1 λφ2 s2 y st2 K2 r2=>wpAny_bind (wpAny_standAt (wpAny_pure ?_))))
    exact pairs_ok pos hl q e3 K2 λφ3 s3 prs st3 K3 r3=>k φ3 s3 ((x,y)::prs) ((st1.trans st2).trans st3) K3 (VRs_cons ((st2.trans st3).vr K1.R r1) (VRs_cons (st3.vr K2.R r2) r3))
theorem fill_ok (Y:Sys B){j:Nat}{p:Addr×Addr}:∀ {prs:List (Value×Value)}{l:List V}{σ σ':AH}{φ:Phi}{s:Shared},fillK (.obj j) l σ=some σ'->VRs B.Z φ s.heap l (flatP prs)->φ[j]?=some p->Rep B σ φ s.heap->
  ∀ {Q:PUnit->Shared->Prop},(∀ s',St B φ s φ s'->Rep B σ' φ s'.heap->Q PUnit.unit s')->
  wpAny (model B.prog B.w) A (forIn prs PUnit.unit λ(x:Value×Value) (_:PUnit)=>(do dictSet p.1 x.1 x.2;pure (ForInStep.yield PUnit.unit):Sem (ForInStep PUnit))) Q Ex s
 | [],l,σ,σ',φ,s,h,r,hj,R,Q,k=>by
  cases l with
  | nil=>obtain rfl:=oJ h;rw[List.forIn_nil];exact wpAny_pure (k s (St.refl ..) R)
  | cons _ _=>unfold VRs at r;exact r.elim
 | (key,y)::prs,l,σ,σ',φ,s,h,r,hj,R,Q,k=>by
  match l,r with
  | kv::v::l,r=>
   have r:VRs B.Z φ s.heap (kv::v::l) (key::y::flatP prs):=r
   unfold VRs at r
   have r2:=r.2
   unfold VRs at r2
   refine bindE h λσ2 h1 h2=>bindE h1 λa ha h1=>bindE h1 λx hx h1=>bindE h1 λkvs hd h1=>ifE h1 λhlt h1=>?_
   obtain rfl:=oJ ha
   obtain rfl:=oJ h1
   rw[List.forIn_cons]
   have ho:σ[j]?=some (.dict kvs):=bindE hd λi hi hd=>bindE hd λo ho hd=>by
    obtain rfl:=oJ hi
    cases o with
    | dict kvs'=>obtain rfl:=oJ hd;exact ho
    | _=>exact noneE hd
   refine wpAny_bind (wpAny_bind (dict_set Y R hj ho (vKx hx r.1) r2.1 hlt λs1 st1 R1=>wpAny_pure ?_))
   exact fill_ok Y h2 (st1.vrs R r2.2) hj R1 λs2 st2 R2=>k s2 (st1.trans st2) R2
  | [_],r=>
   have r:VRs B.Z φ s.heap [_] (key::y::flatP prs):=r
   unfold VRs at r
   have r2:=r.2
   unfold VRs at r2
   exact r2.elim
  | [],r=>
   have r:VRs B.Z φ s.heap [] (key::y::flatP prs):=r
   unfold VRs at r
   exact r.elim
theorem snd_dict (Y:Sys B){ks:List (Option Expr)}{vs l:List Expr}{es':List Mine.E}{pos:Pos}(hc:ks≠[]/\ks.length<=15) (ht:inTurn ks vs=some l) (q:Snd2 B C d sc ren nx l es'):Snd B C d sc ren nx (.Dict ks vs pos) (.dict es'):=
 .mk' rfl (λ_=>rfl) λ{loc σ r A Ex φ s env} he K=>bindE he λp e1 he=>bindE he λσ2 e2 he=>by
  obtain rfl:=oJ he
  obtain⟨hall,hl⟩:=inTurn_ok ht
  have hlen:=pairTrees_length ks vs env pos hall hl
  obtain⟨st1,R1⟩:=dict_new Y K.R
  have hp:(φ++[(s.heap.objs.size,s.heap.objs.size)])[σ.length]?=some (s.heap.objs.size,s.heap.objs.size):=by rw[<-K.R.len];simp
  rw[arm_eval_Dict,zip_pairTrees ks vs env pos hall hl,dictDisplay_pairs _ (λe=>hc.1 (List.length_eq_zero_iff.mp (by rw[<-hlen,e];rfl))) (by omega)]
  unfold subDict
  refine wpAny_bind (wpAny_standAt (wpAny_bind (wpAny_bind (wpAny_alloc (wpAny_bind (wpAny_holding ?_))))))
  rw[if_pos (by omega)]
  refine wpAny_bind (pairs_ok pos ht q e1 (K.step st1 R1) λφ2 s2 prs st2 K2 r2=>wpAny_holding (wpAny_bind ?_))
  refine fill_ok (p:=(s.heap.objs.size,s.heap.objs.size)) Y e2 r2 (st2.get _ _ hp) K2.R λs3 st3 R3=>wpAny_pure (wpAny_pure (wpAny_pure ?_))
  refine⟨φ2,(st1.trans st2).trans st3,R3,?_⟩
  unfold VR
  exact⟨_,st2.get _ _ hp,rfl⟩
end
end Mine
end
section
namespace Mine
open PySem
structure LamSc (args:Arguments) (sc:Scope) (r:Ren) (p q:Str):Prop where
 ags:∃ x y,args.args=[x,y]/\x.arg=p/\y.arg=q
 po:args.posonlyargs=[]
 ko:args.kwonlyargs=[]
 df:args.defaults=[]
 kd:args.kw_defaults=[]
 no:lamSc sc=false
 kind:sc.kind = .function
 va:args.vararg.isNone=true
 kw:args.kwarg.isNone=true
 gen:sc.isGenerator=false
 co:sc.isCoroutine=false
 ne:p≠q
 two:sc.names.take 2=[(p,.local),(q,.local)]
 more:((sc.names.drop 2).all λq=>q.2 == .globalImplicit)=true
 ren:r=[(p,0),(q,1)]
theorem LamSc.of {args:Arguments}{sc:Scope}{r:Ren}(h:lamScope args sc=some r):∃ p q,LamSc args sc r p q:=by
 refine bindE h λp h1 h=>bindE h λ_ h2 h=>bindE h λ_ h3 h=>bindE h λ_ h4 h=>bindE h λ_ h5 h=>ifE h λc h=>?_
 obtain rfl:=oJ h
 obtain⟨c1,c2,c3,c4,c5,c6,c7,c8,c9⟩:=c
 exact⟨_,_,⟨_,_,l2_eq h1,rfl,rfl⟩,l0_eq h2,l0_eq h3,l0_eq h4,l0_eq h5,c1,c2,c3,c4,c5,c6,c7,c8,c9,rfl⟩
theorem LamSc.name {args:Arguments}{sc:Scope}{r:Ren}{p q:Str}(L:LamSc args sc r p q){x:Str×NameKind}(h:x∈sc.names):x=(p,.local)∨x=(q,.local)∨x.2 = .globalImplicit:=by
 rw[<-List.take_append_drop 2 sc.names,L.two]at h
 rcases List.mem_append.mp h with h|h
 ·rcases mC h with h|h
  ·exact .inl h
  ·exact .inr (.inl (mS h))
 ·exact .inr (.inr (beq_iff_eq.mp (List.all_eq_true.mp L.more x h)))
theorem closeFrom_none {env:Env}{acc:List (Str×Addr)}:∀ {names:List (Str×NameKind)},(∀ p∈names,p.2 ≠ .free)->closeFrom env names acc=acc
 | [],_=>rfl
 | (x,k)::r,h=>by
  unfold closeFrom
  rw[if_neg (by simpa using h _ (.head _))]
  exact closeFrom_none λp hp=>h p (.tail _ hp)
theorem LamSc.closure {args:Arguments}{sc:Scope}{r:Ren}{p q:Str}(L:LamSc args sc r p q) (env:Env):closureFor sc env=pure []:=by
 have nf:∀ x∈sc.names,x.2 ≠ .free:=λx hx=>by
  rcases L.name hx with e|e|e
  ·rw[e];exact nofun
  ·rw[e];exact nofun
  ·rw[e];exact nofun
 rw[closureFor_eq (λx hx e=>absurd e (nf x hx)),closeFrom_none nf]
theorem codeAmong_more {pos pos':Pos}{c v:Value}(l:List Value) (h:TriplesOk l):codeAmong pos' (l++[rawInt pos.line,rawInt pos.col,c])=some v->codeAmong pos' l=some v∨v=c:=by
 fun_induction TriplesOk l with
 | case1=>
  intro e
  refine ifE (show(if _ then some c else none)=some v from e) λ_ e=>?_
  obtain rfl:=oJ e
  exact .inr rfl
 | case2 a t b u x rest ih=>
  intro e
  have e:(if _ then some x else codeAmong pos' (rest++[rawInt pos.line,rawInt pos.col,c]))=some v:=e
  show(if _ then some x else codeAmong pos' rest)=some v∨_
  split at e
  ·rename_i hc;rw[if_pos hc];exact .inl e
  ·rename_i hc;rw[if_neg hc];exact ih h e
 | case3 l h1 h2=>exact h.elim
theorem Kp.tabUp {tabs:Tabs}{h h':Heap}{P:Addr}{q:Option Str}{ps more:Array Value}(ht:tabs.lookup P=some q) (hP:h.get? P=some (tabO ps)) (hx:Heap.ExtBut P h h') (hP':h'.get? P=some (tabO (ps++more)))
  (hsz:h.objs.size<=h'.objs.size) (hT:TabOk h q ps.toList->TabOk h' q (ps++more).toList):Kp tabs [] h h':=by
 refine⟨λb o e _=>?_,λb o f e=>hx b o (λz=>?_) e,hsz⟩
 ·by_cases hb:b=P
  ·subst hb
   obtain rfl:=oJ (hP.symm.trans e)
   exact .inr ⟨q,ps,more,ht,rfl,hP',hT⟩
  ·exact .inl (hx b o hb e)
 ·subst z
  obtain rfl:=oJ (hP.symm.trans e)
  exact absurd (show false=true from f) Bool.false_ne_true
section
variable {B:Base}{C:Oracle}{d:Nat}{A:Around}{Ex:Value->Shared->Prop}{σ σ' σ1:AH}{φ φ':Phi}{s s':Shared}{sc cs:Scope}{ren ren':Ren}{nx nx':Nat}{env:Env}{loc:Loc}
theorem lam_done (Y:Sys B) (R:Rep B σ φ s.heap){h':Heap}{q:Str}{c:Addr}{params:Arguments}{body:Expr}{ls:Scope}{r:Ren}{n:Nat}{e:Mine.E}{name:Str}{pm ct:Value}{tk:Tok}(kp:Kp B.tabs [] s.heap h') (hc:CodeQ h' q (.ref c))
  (hs:lamScope params ls=some r) (ht:tr B.GT n ls r 2 body=some e):Res B φ s (σ++[.lam e]) (.obj σ.length) (.ref h'.objs.size) {s with heap:=h'.push (PySem.W.kla_obj name q params body ls [] pm c ct),toks:=tk}:=by
 have kp2:Kp B.tabs [] s.heap (h'.push (PySem.W.kla_obj name q params body ls [] pm c ct)):=kp.trans (.push ..)
 have fr:h'.objs.size∉addrs φ:=λhm=>absurd (Nat.lt_of_lt_of_le (R.lt hm) kp.size) (Nat.lt_irrefl _)
 have lo:B.N<=h'.objs.size:=nT R.stat.size kp.size
 refine⟨φ++[(h'.objs.size,h'.objs.size)],⟨⟨_,rfl,λb hb=>mem_one b hb▸kp.size⟩,kp2.mono nofun,rfl,id⟩,(R.grow Y.ok kp2).add (p:=(h'.objs.size,h'.objs.size)) fr fr lo lo ⟨rfl,name,q,params,body,ls,pm,c,ct,n,r,Heap.get?_push_size _ rfl,hc.at' (Kp.push B.tabs [] h' _).fix,hs,ht⟩,?_⟩
 unfold VR
 exact⟨(h'.objs.size,h'.objs.size),by rw[<-R.len];simp,rfl⟩
theorem CodeQ.of {h:Heap}{c P:Addr}{q:Str}{ps:Array Value}(x:h.CodeRec (.ref c) q) (t:h.TableAt c P ps):CodeQ h q (.ref c):=by
 obtain⟨c',o,vs,tk,e,g,hd,hv⟩:=x
 cases e
 obtain⟨⟨o',vs',g',hc,_⟩,_⟩:=t
 cases g.symm.trans g'
 exact⟨c,o,vs,tk,g,hc,hd,hv⟩
theorem lam_make (Y:Sys B) (K:At B d sc ren nx A env loc σ φ s) (hl:lamSc sc=true){params:Arguments}{body:Expr}{ls:Scope}{r:Ren}{n:Nat}{e:Mine.E}{pos:Pos}(hs:lamScope params ls=some r) (ht:tr B.GT n ls r 2 body=some e):
  wpAny (model B.prog B.w) A (makeFunction "<lambda>" (env.qual++"<lambda>") params (.expr body) ls env [] [] [] pos pos.line) (Res B φ s (σ++[.lam e]) (.obj σ.length)) Ex s:=by
 obtain⟨p,q,L⟩:=LamSc.of hs
 obtain⟨hcode,hq⟩:=K.V.lam hl
 obtain⟨oc,vs,file,tf,flags,tg,inF,text,tt,k1,k2,k3,k4,k5,k6,k7,k8⟩:=Y.lam
 obtain⟨ps,hP,hT⟩:=K.R.stat.tab _ _ Y.lamT
 have hc:=K.R.stat.K _ _ k1
 have ne:B.lc≠B.lP:=λz=>by
  rw[z]at hc
  obtain rfl:=oJ (hc.symm.trans hP)
  exact nomatch k2
 have CH:PySem.W.CodeHd s.heap B.lc B.lP:=⟨oc,vs,file,tf,flags,tg,inF,text,tt,hc,k2,k3,k4,by rw[Array.getD_eq_getD_getElem?,k4];rfl,k5,k6,k7,k8,ne⟩
 obtain⟨bm,ob,hbm,hn1,hn2,b1,b2,b3,b4⟩:=Y.bm
 have hbo:=K.R.stat.K _ _ b1
 have hgP:mainGlobals≠B.lP:=λz=>by
  obtain⟨o,es,ep,e1,hd,_⟩:=K.R.stat.g
  rw[z]at e1
  obtain rfl:=oJ (e1.symm.trans hP)
  exact nomatch hd
 have hbP:bm≠B.lP:=λz=>by
  rw[z]at hbo
  obtain rfl:=oJ (hbo.symm.trans hP)
  exact nomatch b2
 rw[makeFunction_eq,hq,L.ko]
 show wpAny _ _ (makeTail "<lambda>" B.lq params (.expr body) ls env .none .none none pos pos.line) _ _ _
 unfold makeTail
 rw[L.closure env,K.V.glob]
 refine wpAny_bind (wpAny_pure (wpAny_bind (wpAny_pure ?_)))
 cases hf:codeAmong pos ps.toList with
 | none=>
  refine wpAny_bind (wpAny_functionCodeX hcode (CH.code hP hT.1) (CH.tab hP) hf λc' h' tk hx hge hlt _ hrec htb hnew=>?_)
  obtain⟨P',_,_,ht'⟩:=hnew
  have cq:CodeQ h' B.lq (.ref c'):=.of hrec ht'
  have kp:Kp B.tabs [] s.heap h':=by
   refine .tabUp Y.lamT hP hx htb.2 (nT hge (Nat.le_of_lt hlt)) λT=>?_
   rw[Array.toList_append]
   refine⟨TriplesOk_snoc _ _ _ _ T.1,λx ex pos' cv hcv=>?_⟩
   obtain rfl:=oJ ex
   rcases codeAmong_more _ T.1 hcv with z|rfl
   ·exact(T.2 _ rfl _ _ z).at' λb o f e=>hx b o (λz=>by subst z;obtain rfl:=oJ (hP.symm.trans e);exact absurd (show false=true from f) Bool.false_ne_true) e
   ·exact cq
  have hg':=K.R.stat.g.extBut hx hgP
  exact wpAny_bind (wpAny_builtinsFor hg' hbm hn1 (hx _ _ hbP hbo) b2 b3 b4 (wpAny_bind (wpAny_nsGet hg' (wpAny_bind (wpAny_pure (wpAny_newObj_type (lam_done Y K.R kp cq hs ht) (by size_fits)))))))
 | some cv=>
  have cq:=hT.2 _ rfl _ _ hf
  obtain⟨c,o,vs',t,_,_,_,_⟩:=id cq
  exact wpAny_bind (wpAny_functionCode_hit hcode (CH.code hP hT.1) hf (wpAny_bind (wpAny_builtinsFor K.R.stat.g hbm hn1 hbo b2 b3 b4 (wpAny_bind (wpAny_nsGet K.R.stat.g (wpAny_bind (wpAny_pure (wpAny_newObj_type (lam_done Y K.R (.refl ..) cq hs ht) (by size_fits)))))))))
theorem snd_lam (Y:Sys B){params:Arguments}{body:Expr}{ls:Scope}{r:Ren}{n:Nat}{e:Mine.E}{pos:Pos}(hl:lamSc sc=true) (hs:lamScope params ls=some r) (ht:tr B.GT n ls r 2 body=some e):Snd B C d sc ren nx (.Lambda params body ls pos) (.lam e):=
 .mk' rfl (λ_=>rfl) λ{loc σ r A Ex φ s env} he K=>by
  cases he
  obtain⟨p,q,L⟩:=LamSc.of hs
  have hd:defaultsOf params env=([],[]):=by
   have h1:=L.df
   have h2:=L.kd
   cases params
   cases h1
   cases h2
   rfl
  exact PySem.W.kla_eval hd (lam_make Y K hl hs ht)
end
end Mine
end
section
namespace Mine
open PySem
section
variable {B:Base}{C:Oracle}{d:Nat}{A:Around}{Ex:Value->Shared->Prop}{σ σ' σ1:AH}{φ φ':Phi}{s s':Shared}{sc cs:Scope}{ren ren':Ren}{nx nx':Nat}{env:Env}{loc:Loc}
theorem super_no {GT:Str->Option GV}(hs:GT "super"=none){n:Nat}{o:Expr}{o':Mine.E}(h:tr GT n sc ren nx o=some o'):∀ p q,o ≠ .Call (.Name "super" p) [] [] q:=by
 intro p q e
 subst e
 cases n with
 | zero=>exact noneE h
 | succ n=>
  refine bindE h λas' h1 h=>?_
  have h:(match gName GT sc ("super":Str)with|some g=>callE g as'|none=>(trName GT sc ren ("super":Str)).bind λf=>(l2 as').bind λ_=>some (.vcall f as'))=some o':=h
  have e1:as'=[]:=by
   cases n with
   | zero=>exact noneE h1
   | succ n=>exact(oJ h1).symm
  subst e1
  cases hg:gName GT sc ("super":Str)with
  | some g=>exact noneE (hs.symm.trans (gName_eq hg).2)
  | none=>rw[hg]at h;exact bindE h λ_ _ h=>noneE h
theorem meth_keeper (AO:AccOps B){k:Nat}{m:Mt}{f:Value}(h:methFn AO k m=some f) (hp:Heap) (hK:∀ a o,B.K.lookup a=some o->hp.get? a=some o):∃ k,(k=Keeper.frame∨k=Keeper.machine∨k=Keeper.boundFrame)/\PySem.W.Looks (model B.prog B.w) hp (keeperOf f) k:=by
 match k,h with
 | 1,h=>cases m<;>first|exact noneE h|(cases h;exact⟨.machine,.inr (.inl rfl),PySem.W.Looks.now⟩)
 | 2,h=>cases m<;>first|exact noneE h|(cases h;exact⟨.machine,.inr (.inl rfl),PySem.W.Looks.now⟩)
 | 3,h=>exact bindE h λg hg h=>by cases h;exact AO.keeper hg hp hK
 | 0,h=>exact noneE h
 | _+4,h=>exact noneE h
theorem few_ok {es:List Expr}{es':List Mine.E}(pos:Pos) (q:Snd2 B C d sc ren nx es es') (hn:es.length<20):methodCallForm (es.length+0) (backTo pos (starEach es env)) []=true:=by
 have:=plainArgs (env:=env) pos q
 rw[List.any_eq_false]at this
 unfold methodCallForm
 simp only [Bool.and_eq_true,List.all_eq_true,List.all_nil,decide_eq_true_eq]
 refine⟨⟨λx hx=>?_,trivial⟩,?_⟩
 ·have:=this x hx
  simpa using this
 ·simp;omega
theorem snd_lit {c:Const}{k:Nat}{p:Pos}{v:V}(h:litOf c=some v):Snd B C d sc ren nx (.Constant c k p) (.lit v):=
 .mk' rfl (λ_=>rfl) λhe K=>by obtain rfl:=oJ he;exact lit_ok h K.R
theorem snd_var {x:Str}{p:Pos}{i:Nat}(hn:¬(x=("__debug__":Str)∨x=("__classdict__":Str))) (hi:ren.lookup x=some i):Snd B C d sc ren nx (.Name x p) (.var i):=
 .mk' rfl (λ_=>rfl) λhe K=>bindE he λo ho he=>by
  cases o with
  | none=>exact noneE he
  | some v=>obtain rfl:=oJ he;exact wpAny_Name (load_ok K hi ho (beq_eq_false_iff_ne.mpr λe=>hn (.inr e))) (beq_eq_false_iff_ne.mpr λe=>hn (.inl e))
theorem snd_name (E:Env0 B C d){x:Str}{p:Pos}{x':Mine.E}(h:trName B.GT sc ren x=some x'):Snd B C d sc ren nx (.Name x p) x':=by
 refine bindE h λk hk h=>?_
 have var:(if x=("__debug__":Str)∨x=("__classdict__":Str)then none else(ren.lookup x).bind λi=>some (Mine.E.var i))=some x'->Snd B C d sc ren nx (.Name x p) x':=λh=>nifE h λhn h=>bindE h λi hi h=>by obtain rfl:=oJ h;exact snd_var hn hi
 cases k with
 | globalImplicit=>
   refine bindE h λg hg h=>bindE h λv hv h=>?_
   obtain rfl:=oJ h
   cases g with
   | cst _=>
    obtain rfl:=oJ hv
    obtain⟨hd,rv,hm,hv⟩:=E.Y.cst x _ hg
    exact .mk' rfl (λ_=>rfl) λhe K=>by obtain rfl:=oJ he;exact wpAny_Name (global_ok K hk (.inl hm) (res_here' K.R (hv _ _ _))) hd
   | _=>exact noneE hv
 | globalExplicit=>exact noneE h
 | _=>exact var h
theorem snd_bool {op:BoolOp}{vs:List Expr}{es':List Mine.E}{pos:Pos}(q:Snd2 B C d sc ren nx vs es'):Snd B C d sc ren nx (.BoolOp op vs pos) (boolE op es'):=by
 have ev_:∀ {loc σ r},ev C (boolE op es') loc σ=some r->evLog C (opW op) es' loc σ=some r:=λh=>by cases op<;>exact h
 exact⟨rfl,λhe K=>(boolOp_ok pos op q (ev_ he) K).1,λhe hb K=>(boolOp_ok pos op q (ev_ he) K).2 _ hb⟩
theorem snd_bin (Y:Sys B){l r:Expr}{a b:Mine.E}{op:Operator}{pos:Pos}(q1:Snd B C d sc ren nx l a) (q2:Snd B C d sc ren nx r b):Snd B C d sc ren nx (.BinOp l op r pos) (.bin op a b):=
 .mk' rfl (λ_=>rfl) λhe K=>bindE he λ_ e1 he=>bindE he λ_ e2 he=>wpAny_bind (q1.run e1 K λφ1 s1 xa st1 K1 r1=>wpAny_bind (wpAny_holding (q2.run e2 K1 λφ2 s2 xb st2 K2 r2=>wpAny_bind (wpAny_standAt (wp_operate (wp_after (st1.trans st2) (bin_ok Y he K2.R (st2.vr K1.R r1) r2)))))))
theorem snd_neg {l:Expr}{a:Mine.E}{pos:Pos}(q1:Snd B C d sc ren nx l a):Snd B C d sc ren nx (.UnaryOp .USub l pos) (.neg a):=
 .mk' rfl (λ_=>rfl) λhe K=>bindE he λ_ e1 he=>bindE he λ_ e2 he=>wpAny_bind (q1.run e1 K λφ1 s1 xa st1 K1 r1=>wpAny_bind (wpAny_standAt (wpAny_holding (wp_after st1 (leafE he (vInt (P:=λxa=>wpAny _ _ (unaryOp .USub xa) _ _ s1) e2 r1 λt=>PyProof.Rows.neg_int (res_here K1.R (vr_int _ _) _)))))))
theorem snd_not {l:Expr}{a:Mine.E}{pos:Pos}(q1:Snd B C d sc ren nx l a):Snd B C d sc ren nx (.UnaryOp .Not l pos) (.notE a):=
 ⟨rfl,λhe K=>bindE he λ_ e1 he=>bindE he λb hb he=>wpAny_bind (q1.run e1 K λφ1 s1 xa st1 K1 r1=>wpAny_bind (wpAny_standAt (wpAny_holding (wp_after st1 (leafE he (not_ok hb K1.R r1)))))),
  λ{_ _ _ _ _ _ _ env _} he hb' K=>bindE he λ_ e1 he=>bindE he λb hb he=>by
   obtain rfl:=oJ he
   obtain rfl:=oJ hb'
   show wpAny _ _ (isTrue _ env (eval _ env)>>=λb=>pure !b) _ _ _
   exact wpAny_bind (q1.test e1 hb K λφ1 s1 st1 K1=>wpAny_pure ⟨φ1,st1,K1.R,rfl⟩)⟩
theorem snd_ite {c l r:Expr}{c' a b:Mine.E}{pos:Pos}(q1:Snd B C d sc ren nx c c') (q2:Snd B C d sc ren nx l a) (q3:Snd B C d sc ren nx r b):Snd B C d sc ren nx (.IfExp c l r pos) (.ite c' a b):=
 ⟨rfl,λ{_ _ _ _ _ _ _ env} he K=>bindE he λ_ e1 he=>bindE he λt ht he=>by
  show wpAny _ _ (isTrue _ env (eval _ env)>>=λb=>if b=true then _ else _) _ _ _
  cases t with
  | true=>exact wpAny_bind (q1.test e1 ht K λφ1 s1 st1 K1=>wp_after st1 (q2.val he K1))
  | false=>exact wpAny_bind (q1.test e1 ht K λφ1 s1 st1 K1=>wp_after st1 (q3.val he K1)),
  λ{_ _ _ _ _ _ _ env _} he hb K=>bindE he λ_ e1 he=>bindE he λt ht he=>by
  show wpAny _ _ (isTrue _ env (eval _ env)>>=λb=>if b=true then _ else _) _ _ _
  cases t with
  | true=>exact wpAny_bind (q1.test e1 ht K λφ1 s1 st1 K1=>wp_afterB st1 (q2.tst he hb K1))
  | false=>exact wpAny_bind (q1.test e1 ht K λφ1 s1 st1 K1=>wp_afterB st1 (q3.tst he hb K1))⟩
theorem snd_cmp {a:Expr}{a':Mine.E}{ops:List CmpOp}{es:List Expr}{es':List Mine.E}{pos:Pos}(q1:Snd B C d sc ren nx a a') (q2:Snd2 B C d sc ren nx es es'):Snd B C d sc ren nx (.Compare a ops es pos) (.cmp a' ops es'):=
 ⟨rfl,λ{_ _ _ _ _ _ _ env} he K=>bindE he λ_ e1 he=>bindE he λb e2 he=>by
  obtain rfl:=oJ he
  show wpAny _ _ (eval a env>>=λv=>compareChain pos v ops (markedEach ops es (evalEach es env))) _ _ _
  exact wpAny_bind (q1.run e1 K λφ1 s1 xa st1 K1 r1=>wp_after st1 (chain_ok pos q2 e2 K1 r1).1),
  λ{_ _ _ _ _ _ _ env _} he hb K=>bindE he λ_ e1 he=>bindE he λb e2 he=>by
  obtain rfl:=oJ he
  obtain rfl:=oJ hb
  show wpAny _ _ (eval a env>>=λv=>testChain pos v ops (markedEach ops es (evalEach es env))) _ _ _
  exact wpAny_bind (q1.run e1 K λφ1 s1 xa st1 K1 r1=>wp_afterB st1 (chain_ok pos q2 e2 K1 r1).2)⟩
theorem snd_list (Y:Sys B){es:List Expr}{es':List Mine.E}{pos:Pos}(q:Snd2 B C d sc ren nx es es'):Snd B C d sc ren nx (.List es pos) (.list es'):=
 .mk' rfl (λ_=>rfl) λ{_ _ _ _ _ _ _ env} he K=>bindE he λ_ e1 he=>by
  show wpAny _ _ (standAt pos>>=λ_=>spliced (backTo pos (starEach es env))>>=λxs=>newList xs) _ _ _
  exact wpAny_bind (wpAny_standAt (wpAny_bind (ResL.bind (args_ok pos q e1 K) λφ1 s1 xs st1 R1 r1=>wp_after st1 (list_ok Y R1 r1 he))))
theorem snd_tup (Y:Sys B){es:List Expr}{es':List Mine.E}{k:Nat}{pos:Pos}(q:Snd2 B C d sc ren nx es es'):Snd B C d sc ren nx (.Tuple es k pos) (.tup es'):=
 .mk' rfl (λ_=>rfl) λ{_ _ _ _ _ _ _ env} he K=>bindE he λ_ e1 he=>ifE he λhl he=>by
  show wpAny _ _ (standAt pos>>=λ_=>spliced (backTo pos (starEach es env))>>=λxs=>newTuple xs) _ _ _
  exact wpAny_bind (wpAny_standAt (wpAny_bind (ResL.bind (args_ok pos q e1 K) λφ1 s1 xs st1 R1 r1=>wp_after st1 (leafE he (tuple_ok Y R1 r1 hl)))))
theorem snd_slc (Y:Sys B){o:Expr}{l u st:Option Expr}{o' l' u' st':Mine.E}{p pos:Pos}(q1:Snd B C d sc ren nx o o') (q2:SndO B C d sc ren nx l l') (q3:SndO B C d sc ren nx u u') (q4:SndO B C d sc ren nx st st'):Snd B C d sc ren nx (.Subscript o (.Slice l u st p) pos) (.slc o' l' u' st'):=
 .mk' rfl (λ_=>rfl) λhe K=>bindE he λ_ e1 he=>bindE he λ_ e2 he=>bindE he λ_ e3 he=>bindE he λ_ e4 he=>by
  refine wpAny_bind (q1.run e1 K λφ1 s1 xo st1 K1 r1=>wpAny_bind (wpAny_holding ?_))
  refine wpAny_bind (Res.bind (q2 e2 K1) λφ2 s2 xl st2 R2 r2=>wpAny_bind (wpAny_holding (Res.bind (q3 e3 (K1.step st2 R2)) λφ3 s3 xu st3 R3 r3=>wpAny_bind (wpAny_holding
   (Res.bind (q4 e4 ((K1.step st2 R2).step st3 R3)) λφ4 s4 xs st4 R4 r4=>slice_made (l:=.none) (u:=.none) (st:=.none) Y R4 λs5 st5 R5 hsl=>wpAny_bind (wpAny_standAt ?_))))))
  have t34:=st3.trans (st4.trans st5)
  exact wp_after ((st1.trans st2).trans t34) (slc_ok Y _ _ he R5 ((st2.trans t34).vr K1.R r1) (t34.vr R2 r2) ((st4.trans st5).vr R3 r3) (st5.vr R4 r4) hsl)
theorem snd_idx {o i:Expr}{o' i':Mine.E}{pos:Pos}(q1:Snd B C d sc ren nx o o') (q2:Snd B C d sc ren nx i i'):Snd B C d sc ren nx (.Subscript o i pos) (.idx o' i'):=
 .mk' rfl (λ_=>rfl) λhe K=>bindE he λ_ e1 he=>bindE he λ_ e2 he=>bindE he λ_ e3 he=>wpAny_bind (q1.run e1 K λφ1 s1 xo st1 K1 r1=>wpAny_bind (wpAny_holding (q2.run e2 K1 λφ2 s2 xi st2 K2 r2=>wpAny_bind (wpAny_standAt (wp_after (st1.trans st2) (leafE he (idx_ok _ _ e3 K2.R (st2.vr K1.R r1) r2)))))))
theorem snd_call (E:Env0 B C d){x:Str}{fp cp:Pos}{g:GV}{as:List Expr}{as':List Mine.E}{x':Mine.E}(hg:gName B.GT sc x=some g) (q:Snd2 B C d sc ren nx as as') (h:callE g as'=some x'):Snd B C d sc ren nx (.Call (.Name x fp) as [] cp) x':=by
 obtain⟨h1,h2⟩:=gName_eq hg
 cases g with
 | fn a=>
  cases h
  obtain⟨hd,hm,h0⟩:=E.Y.fn x a h2
  refine .mk' rfl (λ_=>rfl) λ{_ _ _ _ Ex _ _ env} he K=>bindE he λ_ e1 he=>?_
  show wpAny _ _ (eval (.Name x fp) env>>=λg=>callWith cp g [] (backTo cp (starEach as env)) (backToKw cp (keywordEach [] env))) _ _ _
  exact wpAny_bind (wpAny_Name (global_ok K h1 (.inl hm) (callWith_ok (P:=λh=>∀ a o,B.K.lookup a=some o->h.get? a=some o) q (E.Y.keeper x a h2) e1 K λφ1 s1 xs st1 K1 r1=>⟨K1.R.stat.K,wp_after st1 (by have q:=E.HO _ _ _ _ _ he _ Ex _ _ _ K.rm K1.R r1;rw[if_neg h0]at q;exact q)⟩)) hd)
 | bi b=>
  cases h
  obtain⟨hd,hm,hb⟩:=E.Y.bi x b h2
  refine .mk' rfl (λ_=>rfl) λ{_ _ _ _ _ _ _ env} he K=>bindE he λ_ e1 he=>?_
  show wpAny _ _ (eval (.Name x fp) env>>=λg=>callWith cp g [] (backTo cp (starEach as env)) (backToKw cp (keywordEach [] env))) _ _ _
  exact wpAny_bind (wpAny_Name (global_ok K h1 (.inr ⟨hm,hb⟩) (callWith_ok (P:=λ_=>True) q (λh _=>⟨.machine,.inr (.inl rfl),by cases b<;>exact PySem.W.Looks.now⟩) e1 K λφ1 s1 xs st1 K1 r1=>⟨trivial,wp_after st1 (callB_ok E.Y (Classical.choice E.AO).str (K.rm.mono (Nat.zero_le _)) he K1.R r1)⟩)) hd)
 | cst _=>exact noneE h
theorem snd_meth (E:Env0 B C d){o:Expr}{o':Mine.E}{n:Nat}{m:Mt}{ap cp:Pos}{as:List Expr}{as':List Mine.E}(hl:ap.endLine=cp.line/\as.length<20) (ho:tr B.GT n sc ren nx o=some o') (q1:Snd B C d sc ren nx o o') (q2:Snd2 B C d sc ren nx as as'):Snd B C d sc ren nx (.Call (.Attribute o (nameOf m) ap) as [] cp) (.mcall o' m as'):=by
 have AB:AccOps B:=Classical.choice E.AO
 refine .mk' rfl (λ_=>rfl) λ{_ _ _ _ _ _ _ env} he K=>bindE he λ_ e1 he=>bindE he λ_ e2 he=>ifE he λhk he=>?_
 obtain⟨f,hf⟩:=meth_fn AB he
 show wpAny _ _ (attributeBase o (nameOf m) env (eval o env)>>=λov=>standAt ap.atName>>=λ_=>methodCall o (nameOf m) ap cp env ov (as.length+0) (backTo cp (starEach as env)) []) _ _ _
 refine wpAny_bind (attrBase_plain (super_no E.sup ho) (q1.run e1 K λφ1 s1 xo st1 K1 r1=>wpAny_bind (wpAny_standAt ?_)))
 unfold methodCall
 rw[few_ok (env:=env) cp q2 hl.2]
 refine wpAny_bind (wpAny_holding ?_)
 show wpAny _ _ (getMethod xo (nameOf m) _) _ _ _
 refine get_ok AB K.rm.handled (hk▸hf) K1.R r1 ?_
 have hpos:methodCallPos true o env ap cp=pure cp:=by unfold methodCallPos;simp[hl.1]
 show wpAny _ _ (methodCallPos true o env ap cp>>=λcallPos=>callWith callPos f [xo] (backTo cp (starEach as env)) []) _ _ _
 rw[hpos]
 exact wpAny_bind (wpAny_pure (callWith_ok (P:=λh=>∀ a o,B.K.lookup a=some o->h.get? a=some o) q2 (meth_keeper AB hf) e2 K1 λφ2 s2 xs st2 K2 r2=>⟨K2.R.stat.K,wp_after (st1.trans st2) (callM_ok E.Y AB (K.rm.mono (Nat.zero_le _)) he hf K2.R (st2.vr K1.R r1) r2)⟩))
theorem vLam {a:V}{x:Value}{P:Value->Prop}{e:Mine.E}(h:lamAt a σ=some e) (R:Rep B σ φ s.heap) (r:VR B.Z φ s.heap a x) (k:∀ p,LamAt B s.heap e p.1->(∃ i,asObj a=some i/\φ[i]?=some p)->P (.ref p.1)):P x:=
 bindE h λi h1 h=>bindE h λo h2 h=>vObj h1 r λp hp=>by
  have q:=R.rel _ _ _ h2 hp
  cases o with
  | lam e'=>obtain rfl:=oJ h;exact k p q.2 ⟨i,h1,hp⟩
  | _=>exact noneE h
theorem snd_vcall (E:Env0 B C d){x:Str}{fp cp:Pos}{f':Mine.E}{as:List Expr}{as':List Mine.E}(hv:Snd B C d sc ren nx (.Name x fp) f') (q:Snd2 B C d sc ren nx as as'):Snd B C d sc ren nx (.Call (.Name x fp) as [] cp) (.vcall f' as'):=by
 refine .mk' rfl (λ_=>rfl) λ{loc σ r A Ex φ s env} he K=>bindE he λp e1 he=>bindE he λw e2 he=>bindE he λe hl he=>?_
 show wpAny _ _ (eval (.Name x fp) env>>=λg=>callWith cp g [] (backTo cp (starEach as env)) (backToKw cp (keywordEach [] env))) _ _ _
 refine wpAny_bind (hv.run e1 K λφ1 s1 xf st1 K1 r1=>?_)
 have hobj:∃ i,asObj p.1=some i:=bindE hl λi h1 _=>⟨i,h1⟩
 obtain⟨i,hi⟩:=hobj
 refine vObj (P:=λxf=>wpAny _ _ (callWith cp xf [] (backTo cp (starEach as env)) (backToKw cp (keywordEach [] env))) _ _ s1) hi r1 λpr hp=>?_
 have r1':VR B.Z φ1 s1.heap p.1 (.ref pr.1):=by
  obtain⟨v,_⟩:=p
  cases v with
  | obj j=>obtain rfl:=oJ hi;unfold VR;exact⟨pr,hp,rfl⟩
  | _=>exact noneE hi
 refine callWith_ok (P:=PySem.W.FnAt pr.1) q PySem.W.keeps_F e2 K1 λφ2 s2 xs st2 K2 r2=>⟨?_,wp_after (st1.trans st2) ?_⟩
 ·have r3:=st2.vr K1.R r1'
  refine vLam (P:=λy=>y = .ref pr.1->PySem.W.FnAt pr.1 s2.heap) hl K2.R r3 (λp' L _ e=>?_) rfl
  injection e with e
  obtain⟨name,qual,params,body,scope,pm,c,ct,n,r,ho,_⟩:=L
  rw[e]at ho
  exact⟨_,_,_,_,ho⟩
 ·have q:=E.HO _ _ _ _ _ he A Ex _ _ _ K.rm K2.R (VRs_cons (st2.vr K1.R r1') r2)
  rw[if_pos rfl]at q
  exact q _ _ rfl
theorem tr_e {n:Nat}(ih:TrOK C d n) (E:Env0 B C d){x:Expr}{x':Mine.E}(h:tr B.GT (n+1) sc ren nx x=some x'):Snd B C d sc ren nx x x':=by
 cases x with
 | Constant c k p=>exact bindE h λv hv h=>by obtain rfl:=oJ h;exact snd_lit hv
 | Name x p=>exact snd_name E h
 | BoolOp op vs p=>exact bindE h λes h1 h=>by obtain rfl:=oJ h;exact snd_bool (ih.es E h1)
 | BinOp l op r p=>exact bindE h λa h1 h=>bindE h λb h2 h=>by obtain rfl:=oJ h;exact snd_bin E.Y (ih.e E h1) (ih.e E h2)
 | UnaryOp op a p=>
   refine bindE h λa' h1 h=>?_
   cases op with
   | USub=>obtain rfl:=oJ h;exact snd_neg (ih.e E h1)
   | Not=>obtain rfl:=oJ h;exact snd_not (ih.e E h1)
   | _=>exact noneE h
 | IfExp c a b p=>exact bindE h λa' h1 h=>bindE h λb' h2 h=>bindE h λc' h3 h=>by obtain rfl:=oJ h;exact snd_ite (ih.e E h1) (ih.e E h2) (ih.e E h3)
 | Compare a ops es p=>exact bindE h λa' h1 h=>bindE h λb' h2 h=>by obtain rfl:=oJ h;exact snd_cmp (ih.e E h1) (ih.es E h2)
 | List es p=>exact bindE h λa' h1 h=>by obtain rfl:=oJ h;exact snd_list E.Y (ih.es E h1)
 | Tuple es k p=>exact bindE h λa' h1 h=>by obtain rfl:=oJ h;exact snd_tup E.Y (ih.es E h1)
 | Subscript o i p=>
  refine bindE h λo' h1 h=>?_
  cases hs:eSlc i with
  | some w=>
   rw[hs]at h
   exact bindE h λl h2 h=>bindE h λu h3 h=>bindE h λst h4 h=>by obtain rfl:=oJ h;rw[eSlc_eq hs];exact snd_slc E.Y (ih.e E h1) (ih.o E h2) (ih.o E h3) (ih.o E h4)
  | none=>
   rw[hs]at h
   exact bindE h λi' h2 h=>by obtain rfl:=oJ h;exact snd_idx (ih.e E h1) (ih.e E h2)
 | Call f as kw cp=>
  refine bindE h λ_ h0 h=>?_
  rw[l0_eq h0]
  cases hn:eName f with
  | some y=>
   rw[hn]at h
   rw[eName_eq hn]
   refine bindE h λas' h2 h=>?_
   have h:(match gName B.GT sc y.1 with|some g=>callE g as'|none=>(trName B.GT sc ren y.1).bind λf=>(l2 as').bind λ_=>some (.vcall f as'))=some x':=h
   cases hg:gName B.GT sc y.1 with
   | some g=>rw[hg]at h;exact snd_call E hg (ih.es E h2) h
   | none=>
    rw[hg]at h
    exact bindE h λf' hf h=>bindE h λ_ _ h=>by obtain rfl:=oJ h;exact snd_vcall E (snd_name E hf) (ih.es E h2)
  | none=>
   rw[hn]at h
   exact bindE h λa ha h=>ifE h λhl h=>bindE h λo' h1 h=>bindE h λm hm h=>bindE h λas' h2 h=>by
    obtain rfl:=oJ h
    rw[eAttr_eq ha,methOf_name hm]
    exact snd_meth E hl h1 (ih.e E h1) (ih.es E h2)
 | Dict ks vs p=>exact ifE h λhc h=>bindE h λl h1 h=>bindE h λes h2 h=>by obtain rfl:=oJ h;exact snd_dict E.Y hc h1 (ih.es E h2)
 | Lambda args body ls p=>exact ifE h λhl h=>bindE h λr h1 h=>bindE h λe h2 h=>by obtain rfl:=oJ h;exact snd_lam E.Y hl h1 h2
 | ListComp elt gens cs p=>
  refine .mk' rfl (λ_=>rfl) λhe K=>?_
  rw[eval_ListComp]
  exact comp_any (use:=none) ih E h he K λφ' s' x Cc st R' rv hc=>post_none E.Y st R' rv hc K.R.stat.size
 | DictComp kx vx gens cs p=>
  refine .mk' rfl (λ_=>rfl) λhe K=>?_
  rw[arm_eval_DictComp]
  exact dcomp_any (use:=none) ih E h he K λφ' s' x Cc st R' rv hc=>post_none E.Y st R' rv hc K.R.stat.size
 | _=>exact noneE h
end
theorem tr_ok (C:Oracle) (d:Nat):∀ n,TrOK C d n
 | 0=>⟨λ{_} _ {_ _ _ _ _} h=>noneE h,λ{_} _ {_ _ _ _ _} h=>noneE h,λ{_} _ {_ _ _ _ _} h=>noneE h,λ{_} _ {_ _ _ _ _} h=>noneE h⟩
 | n+1=>⟨λ{_} E {_ _ _ _ _} h=>tr_e (tr_ok C d n) E h,λ{_} E {_ _ _ _ _} h=>tr_es (tr_ok C d n) E h,λ{_} E {_ _ _ _ _} h=>tr_o (tr_ok C d n) E h,λ{_} E {_ _ _ _ _} h=>tr_gs (tr_ok C d n) E h⟩
end Mine
end
section
namespace Mine
open PySem
section
variable {B:Base}{C:Oracle}{d:Nat}{A:Around}{Ex:Value->Shared->Prop}{σ σ' σ1:AH}{φ φ' φ'':Phi}{s s' s'':Shared}{sc:Scope}{ren:Ren}{nx:Nat}{env:Env}{loc loc' loc'':Loc}
inductive FlOK (B:Base) (sc:Scope) (ren:Ren) (nx:Nat) (env:Env) (φ':Phi) (s':Shared):Fl->Loc->Flow->Prop
 | next {loc:Loc}:EnvOK B sc ren nx env loc φ' s'.heap->FlOK B sc ren nx env φ' s' .next loc .next
 | ret {v:V}{x:Value}{loc:Loc}:VR B.Z φ' s'.heap v x->FlOK B sc ren nx env φ' s' (.ret v) loc (.ret x)
structure ResSt (B:Base) (sc:Scope) (ren:Ren) (nx:Nat) (env:Env) (φ:Phi) (s:Shared) (r:Fl×Loc×AH) (f:Flow) (s':Shared) (φ':Phi):Prop where
 st:StW B (ownW sc env) φ s φ' s'
 R:Rep B r.2.2 φ' s'.heap
 fl:FlOK B sc ren nx env φ' s' r.1 r.2.1 f
noncomputable def ResS (B:Base) (sc:Scope) (ren:Ren) (nx:Nat) (env:Env) (φ:Phi) (s:Shared) (r:Fl×Loc×AH):Flow->Shared->Prop:=λf s'=>∃ φ',ResSt B sc ren nx env φ s r f s' φ'
noncomputable def SndS (B:Base) (C:Oracle) (d:Nat) (sc:Scope) (ren:Ren) (nx:Nat) (st:Stmt) (st':S):Prop:=
 ∀ {loc:Loc}{σ:AH}{r:Fl×Loc×AH}{A:Around}{Ex:Value->Shared->Prop}{φ:Phi}{s:Shared}{env:Env},ex C st' loc σ=some r->At B d sc ren nx A env loc σ φ s->wpAny (model B.prog B.w) A (exec st env) (ResS B sc ren nx env φ s r) Ex s
noncomputable def SndSs (B:Base) (C:Oracle) (d:Nat) (sc:Scope) (ren:Ren) (nx:Nat) (st:List Stmt) (st':List S):Prop:=
 ∀ {loc:Loc}{σ:AH}{r:Fl×Loc×AH}{A:Around}{Ex:Value->Shared->Prop}{φ:Phi}{s:Shared}{env:Env},exs C st' loc σ=some r->At B d sc ren nx A env loc σ φ s->wpAny (model B.prog B.w) A (execs st env) (ResS B sc ren nx env φ s r) Ex s
theorem ResS.after {r:Fl×Loc×AH}{f:Flow}(st:StW B (ownW sc env) φ s φ' s') (h:ResS B sc ren nx env φ' s' r f s''):ResS B sc ren nx env φ s r f s'':=h.elim λφ'' h=>⟨φ'',st.seq h.st λb hb=>.inl hb,h.R,h.fl⟩
theorem wp_afterS {t:Sem Flow}{r:Fl×Loc×AH}(st:StW B (ownW sc env) φ s φ' s') (h:wpAny (model B.prog B.w) A t (ResS B sc ren nx env φ' s' r) Ex s'):wpAny (model B.prog B.w) A t (ResS B sc ren nx env φ s r) Ex s':=
 wpAny_mono h (λ_ _ q=>q.after st) λ_ _ q=>q
theorem ResS.bind {t:Sem Flow}{r:Fl×Loc×AH}{Q:Flow->Shared->Prop}(rm:Room A d) (h:wpAny (model B.prog B.w) A t (ResS B sc ren nx env φ s r) Ex s)
  (kn:r.1 = .next->∀ φ' s',StW B (ownW sc env) φ s φ' s'->At B d sc ren nx A env r.2.1 r.2.2 φ' s'->Q .next s')
  (kr:∀ v,r.1 = .ret v->∀ φ' s' x,StW B (ownW sc env) φ s φ' s'->Rep B r.2.2 φ' s'.heap->VR B.Z φ' s'.heap v x->Q (.ret x) s'):wpAny (model B.prog B.w) A t Q Ex s:=by
 obtain⟨fl,l,σ2⟩:=r
 refine wpAny_mono h (λf s' h=>?_) λ_ _ q=>q
 obtain⟨φ',st,R,fl⟩:=h
 cases fl with
 | next V=>exact kn rfl φ' s' st ⟨rm,V,R⟩
 | ret v=>exact kr _ rfl φ' s' _ st R v
theorem StW.ofSt (st:St B φ s φ' s') (V:EnvOK B sc ren nx env loc φ s.heap):StW B (ownW sc env) φ s φ' s':=StW.of st V.safe
theorem res_nextW {r:Fl×Loc×AH}(e:some (.next,loc',σ')=some r) (st:StW B (ownW sc env) φ s φ' s') (K:At B d sc ren nx A env loc' σ' φ' s'):ResS B sc ren nx env φ s r .next s':=by obtain rfl:=oJ e;exact⟨φ',st,K.R,.next K.V⟩
theorem res_next {r:Fl×Loc×AH}(e:some (.next,loc,σ')=some r) (K:At B d sc ren nx A env loc σ φ s) (st:St B φ s φ' s') (R':Rep B σ' φ' s'.heap):ResS B sc ren nx env φ s r .next s':=res_nextW e (StW.ofSt st K.V) (K.step st R')
theorem res_ret {v:V}{x:Value}{r:Fl×Loc×AH}(e:some (.ret v,loc',σ')=some r) (st:StW B (ownW sc env) φ s φ' s') (R':Rep B σ' φ' s'.heap) (rx:VR B.Z φ' s'.heap v x):ResS B sc ren nx env φ s r (.ret x) s':=by obtain rfl:=oJ e;exact⟨φ',st,R',.ret rx⟩
theorem stmts_cons {st:Stmt}{rest:List Stmt}{st':S}{rest':List S}(q:SndS B C d sc ren nx st st') (qs:SndSs B C d sc ren nx rest rest'):SndSs B C d sc ren nx (st::rest) (st'::rest'):=λh K=>
 bindE h λp h1 h=>wpAny_execs_cons (ResS.bind K.rm (q h1 K)
  (λe φ1 s1 st1 K1=>by rw[e]at h;exact wp_afterS st1 (qs h K1))
  λv e φ1 s1 x st1 R1 rx=>by rw[e]at h;exact res_ret h st1 R1 rx)
theorem stmts_nil:SndSs B C d sc ren nx [] []:=λh K=>wpAny_execs_nil (res_next h K (St.refl ..) K.R)
theorem aug_ok {op:Operator}{a b v:Mine.V}{x y:Value}(e:augV op a b=some v) (R:Rep B σ φ s.heap) (ra:VR B.Z φ s.heap a x) (rb:VR B.Z φ s.heap b y):wpAny (model B.prog B.w) A (inplaceOp op x y) (Res B φ s σ v) Ex s:=by
 cases op with
 | Add=>cases a with
  | int i=>exact bindE e λ_ h2 e=>vInt (P:=λx=>wpAny _ _ (inplaceOp _ x y) _ Ex s) (a:=.int i) rfl ra λt=>vInt (P:=λy=>wpAny _ _ (inplaceOp _ _ y) _ Ex s) h2 rb λu=>leafV e (PyProof.Rows.iadd_int (res_here R (vr_int _ _) _))
  | str z=>exact bindE e λw h2 e=>ifE e λh e=>vStr (P:=λx=>wpAny _ _ (inplaceOp _ x y) _ Ex s) (a:=.str z) rfl ra λt=>vStr (P:=λy=>wpAny _ _ (inplaceOp _ _ y) _ Ex s) h2 rb λu=>leafV e (PyProof.Rows.iadd_str (λt' tk=>res_here R (vr_str' _ _ (add_txt ..) _) _) (add_len h))
  | _=>exact noneE e
 | Sub=>exact int2_ok (P:=λx y=>wpAny _ _ (inplaceOp _ x y) _ Ex s) e ra rb λi j t u e=>leafV e (PyProof.Rows.isub_int (res_here R (vr_int _ _) _))
 | _=>exact noneE e
theorem setLst_ok (Y:Sys B){o i v:Mine.V}{x y z:Value}(e:setLstV o i v σ=some σ') (R:Rep B σ φ s.heap) (ro:VR B.Z φ s.heap o x) (ri:VR B.Z φ s.heap i y) (rv:VR B.Z φ s.heap v z){Q:Unit->Shared->Prop}
  (k:∀ φ' s',St B φ s φ' s'->Rep B σ' φ' s'.heap->Q () s'):wpAny (model B.prog B.w) A (setItem x y z) Q Ex s:=by
 refine bindE e λa ha e=>bindE e λn hn e=>bindE e λvs hv e=>bindE e λj hj e=>vObj (P:=λx=>wpAny _ _ (setItem x y z) Q Ex s) ha ro λp hp=>vInt (P:=λy=>wpAny _ _ (setItem _ y z) Q Ex s) hn ri λt=>list_at R hp hv λitems c _ g r1 hz=>?_
 obtain rfl:=oJ e
 have hl:=VRs_length r1
 have fin:Q () {s with heap:=s.heap.update p.1 (Obj.mapSeq (·.setIfInBounds j z))}:=by
  obtain⟨c',hc'⟩:=mapSeq_lst (·.setIfInBounds j z) items.toArray c
  refine bindE (show(σ[a]?).bind asL=some vs from hv) λo ho hv=>?_
  cases o with
  | list us=>
   obtain rfl:=oJ hv
   obtain⟨φ',h2,h3,_⟩:=list_put Y R (h':=s.heap.update p.1 (Obj.mapSeq (·.setIfInBounds j z))) ho hp (Heap.SameBut.update ..) (ys:=items.set j z) (c:=c') (v:=.none) (x:=.none) (by rw[Heap.get?_update_self _ g (by rw[hc'];rfl),hc'];simp) (VRs_set rv j r1) (by simpa using hz) vr_none
   exact k φ' _ h2 h3
  | _=>exact noneE hv
 have hz':vs.length<=1000000:=hz
 exact place_cases hj (λh0 h1 e=>PySem.W.ki_setAt g h0 (by omega) (by simp;omega) (e▸fin)) λh0 h1 e=>PySem.W.ki_setBack g h0 (by simp;omega) (by omega) (by rw[show(n+(items.toArray.size:Int)).toNat=j from by rw[e,hl];simp];exact fin)
theorem setKey_ok (Y:Sys B){o i v:Mine.V}{x y z:Value}(e:setKeyV o i v σ=some σ') (R:Rep B σ φ s.heap) (ro:VR B.Z φ s.heap o x) (ri:VR B.Z φ s.heap i y) (rv:VR B.Z φ s.heap v z){Q:Unit->Shared->Prop}
  (k:∀ φ' s',St B φ s φ' s'->Rep B σ' φ' s'.heap->Q () s'):wpAny (model B.prog B.w) A (setItem x y z) Q Ex s:=by
 refine bindE e λa ha e=>bindE e λn hn e=>bindE e λkvs hv e=>ifE e λhlt e=>vDict (P:=λx=>wpAny _ _ (setItem x y z) Q Ex s) (a:=.obj a) hv R (by cases o with|obj b=>obtain rfl:=oJ ha;exact ro|_=>exact noneE ha) λp ps _ D hp=>?_
 obtain rfl:=oJ e
 refine bindE (show(σ[a]?).bind asD=some kvs from hv) λob ho hv=>?_
 cases ob with
 | dict us=>
  obtain rfl:=oJ hv
  have ty:=(Heap.DictAt.dictOf D.d).typeIs
  unfold setItem
  refine wpAny_holding ?_
  refine wpAny_bind (wpAny_sequenceKey ty (by decide) ?_)
  refine wpAny_bind (wpAny_callSpecial?_slot (name:=Str.ofString "__setitem__") ty slot_dict_setitem (wpAny_call_entry slot_dict_setitem ty entry_dict_setitem ?_ (args_dict_setitem _ _ _)))
  show wpAny _ _ (Builtin.Dict.notOrdered "__setitem__" ⟨[.ref p.1,y,z],[]⟩>>=_) _ _ s
  refine wpAny_bind (wpAny_notOrdered_dict ty ?_)
  show wpAny _ _ (dictSet p.1 y z>>=_) _ _ s
  exact wpAny_bind (dict_set Y R (hp a rfl) ho (vKx hn ri) rv hlt λs1 st1 R1=>wpAny_pure ⟨.none,rfl,wpAny_pure (k φ s1 st1 R1)⟩)
 | _=>exact noneE hv
theorem setIdx_ok (Y:Sys B){o i v:Mine.V}{x y z:Value}(e:setIdxV o i v σ=some σ') (R:Rep B σ φ s.heap) (ro:VR B.Z φ s.heap o x) (ri:VR B.Z φ s.heap i y) (rv:VR B.Z φ s.heap v z){Q:Unit->Shared->Prop}
  (k:∀ φ' s',St B φ s φ' s'->Rep B σ' φ' s'.heap->Q () s'):wpAny (model B.prog B.w) A (setItem x y z) Q Ex s:=by
 unfold setIdxV at e
 cases hd:dictAt o σ with
 | some kvs=>rw[hd]at e;exact setKey_ok Y e R ro ri rv k
 | none=>rw[hd]at e;exact setLst_ok Y e R ro ri rv k
theorem delIdx_ok (Y:Sys B){o i:Mine.V}{x y:Value}(e:delIdxV o i σ=some σ') (R:Rep B σ φ s.heap) (ro:VR B.Z φ s.heap o x) (ri:VR B.Z φ s.heap i y){Q:Unit->Shared->Prop}
  (k:∀ φ' s',St B φ s φ' s'->Rep B σ' φ' s'.heap->Q () s'):wpAny (model B.prog B.w) A (delItem x y) Q Ex s:=by
 refine bindE e λa ha e=>bindE e λn hn e=>bindE e λvs hv e=>bindE e λj hj e=>vObj (P:=λx=>wpAny _ _ (delItem x y) Q Ex s) ha ro λp hp=>vInt (P:=λy=>wpAny _ _ (delItem _ y) Q Ex s) hn ri λt=>list_at R hp hv λitems c _ g r1 hz=>?_
 obtain rfl:=oJ e
 have hl:=VRs_length r1
 have hj':=hj
 rw[place_eq,hl]at hj'
 refine bindE (show(σ[a]?).bind asL=some vs from hv) λo ho hv=>?_
 cases o with
 | list us=>
  obtain rfl:=oJ hv
  refine wpAny_delItem_plain (items:=items.toArray) ⟨c,g⟩ (lim_index hj hz) (by simpa using hj') (λh' hp' sb=>?_) (lim_line (by rw[hl]at hz;exact hz))
  obtain⟨c',hg⟩:=hp'
  obtain⟨φ',h2,h3,_⟩:=list_put Y R ho hp sb (ys:=items.eraseIdx j) (c:=c') (v:=.none) (x:=.none) (by rw[hg,erase_arr]) (VRs_erase j r1) (nT (List.length_eraseIdx_le ..) hz) vr_none
  exact k φ' _ h2 h3
 | _=>exact noneE hv
theorem while_ok {test:Expr}{body:List Stmt}{c':Mine.E}{body':List S}(qt:Snd B C d sc ren nx test c') (qb:SndSs B C d sc ren nx body body'):∀ (fuel:Nat){loc:Loc}{σ:AH}{r:Fl×Loc×AH}{φ:Phi}{s:Shared}{Rr:Result->Shared->Prop},
  whileM (λl s=>(ev C c' l s).bind λp=>(truth p.1 p.2).bind λt=>some (t,p.2)) (λl s=>exs C body' l s) fuel loc σ=some r->At B d sc ren nx A env loc σ φ s->
  (∀ f s',ResS B sc ren nx env φ s r f s'->Rr (.ok f) s')->codeAny (model B.prog B.w) A (.whileLoop test body [] env) Rr s:=by
 intro fuel
 induction fuel with
 | zero=>intro loc σ r φ s Rr h;exact noneE h
 | succ fuel ih=>
  intro loc σ r φ s Rr h K k
  refine bindE h λb hb h=>bindE hb λp he hb=>bindE hb λt ht hb=>?_
  obtain rfl:=oJ hb
  refine codeAny_of_tree ?_
  show wpAny _ A ((whileTurn test body [] env).onRaise (λx=>do noteFrame x env;theTreesLotGoes x)) _ _ s
  refine wpAny_noted ?_
  show wpAny _ _ (isTrue test env (eval test env)>>=λb=>_) _ _ s
  refine wpAny_bind (qt.test he ht K λφ1 s1 st1 K1=>?_)
  cases t with
  | false=>exact wpAny_bind (wpAny_execs_nil (wpAny_pure (k .next s1 (res_next h K st1 K1.R))))
  | true=>
   refine bindE (show(exs C body' loc p.2).bind (λr=>match r.1 with | .ret v=>some (.ret v,r.2.1,r.2.2) | .next=>whileM _ _ fuel r.2.1 r.2.2)=some r from h) λw hb h=>?_
   refine wpAny_bind (ResS.bind K1.rm (qb hb K1) (λe φ2 s2 st2 K2=>?_) λv e φ2 s2 x st2 R2 rx=>?_)
   ·rw[e]at h
    exact wpAny_pure ⟨rfl,ih h K2 λf s' hr=>k f s' (hr.after ((StW.ofSt st1 K.V).seq st2 λb hb=>.inl hb))⟩
   ·rw[e]at h
    exact wpAny_pure (k _ s2 (res_ret h ((StW.ofSt st1 K.V).seq st2 λb hb=>.inl hb) R2 rx))
noncomputable def forF (C:Oracle) (t':Tgt) (body':List S):V->Loc->AH->Option ((Loc⊕(V×Loc))×AH):=λv l s=>(assignT t' v l s).bind λl1=>(exs C body' l1 s).bind λr=>match r.1 with
 | .next=>some (.inl r.2.1,r.2.2)
 | .ret x=>some (.inr (x,r.2.1),r.2.2)
theorem for_ok (Y:Sys B) (rm:Room A d){t:Expr}{t':Tgt}(ht:trTgt sc ren t=some t'){body:List Stmt}{body':List S}(qb:SndSs B C d sc ren nx body body'):∀ (fuel:Nat){it:It}{a:Addr}{Wi:List Addr}{loc:Loc}{r:(Loc⊕(Mine.V×Loc))×AH}{σ:AH}{φ:Phi}{s:Shared}{Rr:Result->Shared->Prop},
  loopM (forF C t' body') fuel it loc σ=some r->ItR B φ s.heap it a Wi->itSafe B φ s.heap Wi->Off Wi env env.locals->At B d sc ren nx A env loc σ φ s->
  (∀ l φ' s',r.1 = .inl l->StW B (Wi++ownW sc env) φ s φ' s'->At B d sc ren nx A env l r.2 φ' s'->Rr (.ok .next) s')->
  (∀ v l φ' s' x,r.1 = .inr (v,l)->StW B (Wi++ownW sc env) φ s φ' s'->Rep B r.2 φ' s'.heap->VR B.Z φ' s'.heap v x->Rr (.ok (.ret x)) s')->codeAny (model B.prog B.w) A (.forLoop t (.ref a) body [] env) Rr s:=by
 intro fuel
 induction fuel with
 | zero=>intro it a Wi loc r σ φ s Rr h;exact noneE h
 | succ fuel ih=>
  intro it a Wi loc r σ φ s Rr h I S hoff K kn kr
  have inW:∀ b∈Wi,b∈Wi++ownW sc env:=λb hb=>List.mem_append.mpr (.inl hb)
  have inO:∀ b∈ownW sc env,b∈Wi++ownW sc env:=λb hb=>List.mem_append.mpr (.inr hb)
  have Sall:Safe B.Z (Wi++ownW sc env):=S.1.append K.V.safe
  refine bindE h λo ho h=>codeAny_of_tree ?_
  show wpAny _ A ((forTurn t (.ref a) body [] env).onRaise (λx=>do noteFrame x env;theTreesLotGoes x)) _ _ s
  refine wpAny_noted ?_
  unfold forTurn
  refine wpAny_bind (wpAny_standAt (wpAny_bind (wpAny_onRaise (wpAny_mono (next_ok (Ex:=λ_ _=>False) (t:=t) Y rm.handled ho I S K.R ⟨λe s1 st R1=>?_,λq xv s1 e hgo=>?_⟩) (λ_ _ q=>q) λ_ _ q=>q.elim))))
  ·subst e
   obtain rfl:=oJ h
   refine wpAny_pure ⟨rfl,codeAny_of_tree ?_⟩
   show wpAny _ _ ((execs [] env).onRaise (λx=>do noteFrame x env;theTreesLotGoes x)>>=λf=>(pure (Fin.done f):Sem PySem.Fin)) _ _ s1
   exact wpAny_bind (wpAny_onRaise (wpAny_execs_nil (wpAny_pure (kn loc φ s1 rfl (st.widen (λb hb=>.inl (inW b hb)) Sall) ⟨rm,K.V.stepW st K.R hoff.locals hoff.cells,R1⟩))))
  ·subst e
   refine wpAny_bind (wpAny_mono hgo (λ_ s2 hd=>?_) λ_ _ q=>q.elim)
   have W2:StW B (Wi++ownW sc env) φ s φ s2:=hd.st.widen (λb hb=>.inl (inW b hb)) Sall
   have K2:At B d sc ren nx A env loc σ φ s2:=⟨rm,K.V.stepW hd.st K.R hoff.locals hoff.cells,hd.R⟩
   refine bindE (show(forF C t' body' q.1 loc σ).bind _=some r from h) λw hF h=>bindE hF λl1 hl1 hF=>bindE hF λp hb hF=>wpAny_bind (tgt_ok Y ht hl1 K2 hd.r λs3 st3 K3=>?_)
   obtain⟨I3,S3⟩:=it_keep K2.R hd.I hd.S st3 hoff.own
   have W3:=W2.seq st3 λb hb=>.inl (inO b hb)
   refine wpAny_bind (ResS.bind rm (qb hb K3) (λe φ4 s4 st4 K4=>?_) λv e φ4 s4 x st4 R4 rx=>?_)
   ·rw[e]at hF
    obtain rfl:=oJ hF
    obtain⟨I4,S4⟩:=it_keep K3.R I3 S3 st4 hoff.own
    have W4:=W3.seq st4 λb hb=>.inl (inO b hb)
    exact wpAny_pure ⟨rfl,ih h I4 S4 hoff K4 (λl φ' s' e x K'=>kn l φ' s' e (W4.seq x λb hb=>.inl hb) K') λv l φ' s' y e x R' ry=>kr v l φ' s' y e (W4.seq x λb hb=>.inl hb) R' ry⟩
   ·rw[e]at hF
    obtain rfl:=oJ hF
    obtain rfl:=oJ h
    exact wpAny_pure (kr v _ φ4 s4 x rfl (W3.seq st4 λb hb=>.inl (inO b hb)) R4 rx)
end
end Mine
end
section
namespace Mine
open PySem
theorem setAll_mem:∀ {is:List Nat}{vs:List V}{loc:Loc}{j:Nat}{v:V},(setAll is vs loc)[j]?=some (some v)->(∃ k:Nat,is[k]?=some j/\vs[k]?=some v/\j<loc.length)∨(loc[j]?=some (some v)/\(is.length=vs.length->j∉is))
 | [],_,_,_,_,h=>.inr ⟨h,λ_ h=>absurd h List.not_mem_nil⟩
 | _::_,[],_,_,_,h=>.inr ⟨h,λh=>by simp at h⟩
 | i::is,u::vs,loc,j,v,h=>by
  simp only [setAll]at h
  rcases setAll_mem h with⟨k,h1,h2,h3⟩|⟨h1,h2⟩
  ·exact .inl ⟨k+1,by simpa using h1,by simpa using h2,by simpa using h3⟩
  ·by_cases hij:i=j
   ·subst hij
    have hl:i<loc.length:=by
     have:=(List.getElem?_eq_some_iff.mp h1).1
     simpa using this
    rw[List.getElem?_set_self hl]at h1
    cases h1
    exact .inl ⟨0,rfl,rfl,hl⟩
   ·rw[List.getElem?_set_ne hij]at h1
    refine .inr ⟨h1,λhl hm=>?_⟩
    rcases mC hm with e|hm
    ·exact hij e.symm
    ·exact h2 (by simpa using hl) hm
theorem setAll_intro:∀ {is:List Nat}{vs:List V}{loc:Loc}{j k:Nat}{v:V},is.Nodup->is[k]?=some j->vs[k]?=some v->j<loc.length->(setAll is vs loc)[j]?=some (some v)
 | [],_,_,_,_,_,_,h,_,_=>by simp at h
 | _::_,[],_,_,_,_,_,_,h,_=>by simp at h
 | i::is,u::vs,loc,j,0,v,hn,h1,h2,hl=>by
  simp at h1 h2
  subst h1 h2
  simp only [setAll]
  exact setAll_get (List.nodup_cons.mp hn).1 (by rw[List.getElem?_set_self hl])
 | i::is,u::vs,loc,j,k+1,v,hn,h1,h2,hl=>by
  simp only [setAll]
  exact setAll_intro (List.nodup_cons.mp hn).2 (by simpa using h1) (by simpa using h2) (by simpa using hl)
theorem setAll_rev {is:List Nat}{vs:List V}{loc:Loc}(hn:is.Nodup) (hl:is.length=vs.length){j:Nat}{v:V}(h:(setAll is vs loc)[j]?=some (some v)):(setAll is.reverse vs.reverse loc)[j]?=some (some v):=by
 rcases setAll_mem h with⟨k,h1,h2,h3⟩|⟨h1,h2⟩
 ·have hk:k<is.length:=(List.getElem?_eq_some_iff.mp h1).1
  refine setAll_intro (k:=is.length-1-k) (List.pairwise_reverse.mpr (List.Pairwise.imp (λh=>Ne.symm h) hn)) ?_ ?_ h3
  ·rw[List.getElem?_reverse (Nat.lt_of_le_of_lt (Nat.sub_le ..) (Nat.sub_lt (Nat.zero_lt_of_lt hk) Nat.one_pos)),Nat.sub_sub_self (Nat.le_sub_one_of_lt hk)];exact h1
  ·rw[List.getElem?_reverse (Nat.lt_of_lt_of_eq (Nat.lt_of_le_of_lt (Nat.sub_le ..) (Nat.sub_lt (Nat.zero_lt_of_lt hk) Nat.one_pos)) hl),<-hl,Nat.sub_sub_self (Nat.le_sub_one_of_lt hk)];exact h2
 ·exact setAll_get (λhm=>h2 hl (List.mem_reverse.mp hm)) h1
section
variable {B:Base}{C:Oracle}{d:Nat}{A:Around}{Ex:Value->Shared->Prop}{σ σ' σ1:AH}{φ φ' φ'':Phi}{s s' s'':Shared}{sc:Scope}{ren:Ren}{nx:Nat}{env:Env}{loc loc' loc'':Loc}
theorem binds_ok (Y:Sys B):∀ {names:List Str}{is:List Nat}{vs:List V}{xs:List Value}{loc:Loc}{s:Shared}{Q:Unit->Shared->Prop},names.map (nameSlot sc ren)=is.map some->vs.length=is.length->VRs B.Z φ s.heap vs xs->At B d sc ren nx A env loc σ φ s->
  (∀ s',StW B (ownW sc env) φ s φ s'->At B d sc ren nx A env (setAll is vs loc) σ φ s'->Q () s')->wpAny (model B.prog B.w) A (assignInOrder (names.map λn=>bindName env n) xs) Q Ex s
 | [],is,vs,xs,loc,s,Q,h,hl,r,K,k=>by
  cases is with
  | cons _ _=>exact nomatch h
  | nil=>exact wpAny_pure (k s (StW.refl _ _ _ K.V.safe) (by cases vs<;>exact K))
 | x::names,is,vs,xs,loc,s,Q,h,hl,r,K,k=>by
  cases is with
  | nil=>exact nomatch h
  | cons i is=>
   rw[List.map_cons,List.map_cons,List.cons.injEq]at h
   cases vs with
   | nil=>exact nomatch hl
   | cons v vs=>
    refine vCons (P:=λxs=>wpAny (model B.prog B.w) A (assignInOrder ((x::names).map λn=>bindName env n) xs) Q Ex s) r λxv xs r1 r2=>?_
    show wpAny _ _ (do holding xs (bindName env x xv);assignInOrder (names.map λn=>bindName env n) xs) _ _ _
    exact wpAny_bind (wpAny_holding (wpAny_bindName (store_ok Y K h.1 r1 λs1 st1 K1=>binds_ok Y h.2 (Nat.succ.inj hl) (st1.vrs K.R r2) K1 λs2 st2 K2=>k s2 (st1.trans st2) K2)))
theorem swaps_none {GT:Str->Option GV}{n:Nat}{e:Expr}{t:Option Expr}{e':Mine.E}{line:Nat}{u:Unit}(h:tr GT n sc ren nx e=some e') (hc:eComp e=some u):swapsWith e t line env=pure false:=by
 cases n with
 | zero=>exact noneE h
 | succ n=>
  cases e with
  | ListComp _ _ _ _=>exact noneE hc
  | SetComp _ _ _ _=>exact noneE h
  | DictComp _ _ _ _ _=>exact noneE hc
  | _=>rfl
noncomputable def isComp (e:Expr):Prop:=(∃ elt gens cs p,e = .ListComp elt gens cs p)∨∃ k v gens cs p,e = .DictComp k v gens cs p
theorem eComp_eq {e:Expr}(h:eComp e=none):isComp e:=by
 cases e with
 | ListComp elt gens cs p=>exact .inl ⟨elt,gens,cs,p,rfl⟩
 | DictComp k v gens cs p=>exact .inr ⟨k,v,gens,cs,p,rfl⟩
 | _=>exact noneE h.symm
theorem fm_cons {f:Expr->Option Str}{e:Expr}{es:List Expr}{names:List Str}(h:(e::es).filterMap f=names):(∃ b,f e=some b/\b::es.filterMap f=names)∨es.filterMap f=names:=by
 cases hf:f e with
 | some b=>rw[List.filterMap_cons_some hf]at h;exact .inl ⟨b,rfl,h⟩
 | none=>rw[List.filterMap_cons_none hf]at h;exact .inr h
theorem names_filter (hk:env.scope.kind = .function) (line:Nat):∀ {ts:List Expr}{is:List Nat},nameSlots sc ren ts=some is->∀ {names:List Str},(ts.filterMap fun
   | .Name id pos=>if env.kindOf id==some .local&&pos.line==line then some id else none
   | _=>none)=names->names.length=ts.length->names.map (nameSlot sc ren)=is.map some
 | [],is,h,names,hf,_=>by obtain rfl:=oJ h;subst hf;rfl
 | e::es,is,h,names,hf,hl=>bindE h λx h1 h=>bindE h λi h2 h=>bindE h λis' h3 h=>by
  obtain rfl:=oJ h
  rw[eName_eq h1]at hf
  rcases fm_cons hf with⟨b,hb,hf⟩|hf
  ·refine ifE (c:=(env.kindOf x.1==some .local&&x.2.line==line)=true) hb λ_ hb=>?_
   obtain rfl:=oJ hb
   subst hf
   rw[List.map_cons,List.map_cons,h2,names_filter hk line h3 rfl (Nat.succ.inj hl)]
  ·subst hf
   exact absurd (nT (Nat.le_of_eq hl.symm) (List.length_filterMap_le _ es)) (Nat.not_succ_le_self _)
theorem iteI {α:Type}{c:Prop}[Decidable c]{P:α->Prop}{a b:α}(h1:c->P a) (h2:¬c->P b):P (if c then a else b):=by
 by_cases h:c
 ·rw[if_pos h];exact h1 h
 ·rw[if_neg h];exact h2 h
theorem sw_none {e:Expr}{ts:List Expr}{k:Nat}{p:Pos}(h:eTup e=none):swappedStores [.Tuple ts k p] e env=pure none:=by
 cases e with
 | Tuple _ _ _=>exact noneE h.symm
 | _=>rfl
theorem swapped_eq {t e:Expr}{t':Tgt}(ht:trTgt sc ren t=some t') (hok:storesOK t e=true) (hk:env.scope.kind = .function):
  swappedStores [t] e env=pure none∨∃ names is,swappedStores [t] e env=pure (some names)/\t' = .vars is/\is.Nodup/\names.map (nameSlot sc ren)=is.map some:=by
 unfold trTgt at ht
 cases hn:eName t with
 | some x=>rw[eName_eq hn];exact .inl rfl
 | none=>
  rw[hn]at ht
  refine bindE ht λw hw ht=>bindE ht λis his ht=>ifE ht λhnd ht=>?_
  obtain rfl:=oJ ht
  rw[eTup_eq hw]at hok⊢
  cases he:eTup e with
  | none=>exact .inl (sw_none he)
  | some v=>
   rw[eTup_eq he]at hok⊢
   unfold swappedStores
   refine iteI (P:=λt:Sem (Option (List Str))=>t=pure none∨∃ names is',t=pure (some names)/\Tgt.vars is = .vars is'/\is'.Nodup/\names.map (nameSlot sc ren)=is'.map some) (λ_=>.inl rfl) λ_=>?_
   refine iteI (P:=λt:Sem (Option (List Str))=>t=pure none∨∃ names is',t=pure (some names)/\Tgt.vars is = .vars is'/\is'.Nodup/\names.map (nameSlot sc ren)=is'.map some) (λ_=>.inl rfl) λ_=>?_
   refine iteI (P:=λt:Sem (Option (List Str))=>t=pure none∨∃ names is',t=pure (some names)/\Tgt.vars is = .vars is'/\is'.Nodup/\names.map (nameSlot sc ren)=is'.map some) (λ_=>.inl rfl) λh3=>?_
   refine iteI (P:=λt:Sem (Option (List Str))=>t=pure none∨∃ names is',t=pure (some names)/\Tgt.vars is = .vars is'/\is'.Nodup/\names.map (nameSlot sc ren)=is'.map some) (λ_=>.inl rfl) λh4=>?_
   refine iteI (P:=λt:Sem (Option (List Str))=>t=pure none∨∃ names is',t=pure (some names)/\Tgt.vars is = .vars is'/\is'.Nodup/\names.map (nameSlot sc ren)=is'.map some) (λh5=>?_) λ_=>?_
   ·have hok:(v.1.all (foldedForSure 8) || !(v.1.all (constantsAlone 8)))=true:=hok
    rw[h5,Bool.not_true,Bool.or_false]at hok
    exact absurd hok h4
   ·refine .inr ⟨_,is,rfl,rfl,hnd,names_filter hk _ his rfl ?_⟩
    rw[Bool.or_eq_true,not_or,bne_iff_ne,Decidable.not_not]at h3
    exact h3.1
end
end Mine
end
section
namespace Mine
open PySem
section
variable {B:Base}{C:Oracle}{d:Nat}{A:Around}{Ex:Value->Shared->Prop}{σ σ' σ1:AH}{φ φ' φ'':Phi}{s s' s'':Shared}{sc:Scope}{ren:Ren}{nx:Nat}{env:Env}{loc loc' loc'':Loc}
theorem swaps_no {GT:Str->Option GV}{n:Nat}{e t:Expr}{e':Mine.E}{line:Nat}(h:tr GT n sc ren nx e=some e') (hn:eName t=none):swapsWith e (some t) line env=pure false:=by
 cases hc:eComp e with
 | some u=>exact swaps_none h hc
 | none=>
  rcases eComp_eq hc with⟨elt,gens,cs,p,rfl⟩|⟨kx,vx,gens,cs,p,rfl⟩
  ·cases t with
   | Name _ _=>exact noneE hn.symm
   | _=>rfl
  ·cases t with
   | Name _ _=>exact noneE hn.symm
   | _=>rfl
theorem swaps_any {GT:Str->Option GV}{n:Nat}{e t:Expr}{e':Mine.E}{line:Nat}(h:tr GT n sc ren nx e=some e'):∃ b,swapsWith e (some t) line env=pure b/\(b=true->isComp e/\∃ x p,t = .Name x p):=by
 cases hn:eName t with
 | none=>exact⟨false,swaps_no h hn,nofun⟩
 | some x=>
  cases hc:eComp e with
  | some u=>exact⟨false,swaps_none h hc,nofun⟩
  | none=>
   rw[eName_eq hn]
   rcases eComp_eq hc with⟨elt,gens,cs,p,rfl⟩|⟨kx,vx,gens,cs,p,rfl⟩
   ·exact⟨_,rfl,λ_=>⟨.inl ⟨_,_,_,_,rfl⟩,_,_,rfl⟩⟩
   ·exact⟨_,rfl,λ_=>⟨.inr ⟨_,_,_,_,_,rfl⟩,_,_,rfl⟩⟩
theorem tgt_each {t:Expr}{t':Tgt}(ht:trTgt sc ren t=some t'):(assignEach [t] env).map (·.2)=[assign t env]:=by
 unfold trTgt at ht
 cases hn:eName t with
 | some x=>rw[eName_eq hn];rfl
 | none=>
  rw[hn]at ht
  exact bindE ht λw hw _=>by rw[eTup_eq hw];rfl
theorem assign_run {e t:Expr}{pos:Pos}(hb:swapsWith e (some t) pos.line env=pure false){Q:Flow->Shared->Prop}
  (h:wpAny (model B.prog B.w) A (eval e env>>=λv=>swappedStores [t] e env>>=λw=>assignStores env v w ((assignEach [t] env).map (·.2))) Q Ex s):wpAny (model B.prog B.w) A (exec (.Assign [t] e pos) env) Q Ex s:=by
 show wpAny _ _ (standAt pos>>=λ_=>swapsWith e (some t) pos.line env>>=λb=>if b=true then _ else(eval e env>>=λv=>swappedStores [t] e env>>=λw=>assignStores env v w ((assignEach [t] env).map (·.2)))) _ _ _
 refine wpAny_bind (wpAny_standAt ?_)
 rw[hb]
 refine wpAny_bind (wpAny_pure ?_)
 rw[if_neg Bool.false_ne_true]
 exact h
theorem assign_post (E0:Env0 B C d){p:Pos}{x:Str}{t':Tgt}{q:Mine.V×AH}{l:Loc}(ht:trTgt sc ren (.Name x p)=some t') (hl:assignT t' q.1 loc q.2=some l){r:Fl×Loc×AH}(h:some (.next,l,q.2)=some r)
  (K:At B d sc ren nx A env loc σ φ s){φ1:Phi}{s1:Shared}{xv:Value}{Cc:Addr}(st1:St B φ s φ1 s1) (R1:Rep B q.2 φ1 s1.heap) (rv:VR B.Z φ1 s1.heap q.1 xv) (hC:CEnd φ1 s s1 Cc):
  compPost (model B.prog B.w) A Ex (some (assign (.Name x p) env)) (λ_ s'=>wpAny (model B.prog B.w) A (pure ():Sem Unit) (λ_ s''=>wpAny (model B.prog B.w) A (pure .next:Sem Flow) (ResS B sc ren nx env φ s r) Ex s'') Ex s') xv Cc (.ok .next) s1:=by
 show wpAny _ _ (assign (.Name x p) env xv) _ _ _
 refine tgt_ok E0.Y ht hl (K.step st1 R1) rv λs2 st2 K2=>?_
 obtain⟨mm,hn⟩:=hC.ns
 have own:∀ {a:Addr},a<s.heap.objs.size->a≠Cc:=λh e=>Nat.lt_irrefl _ (Nat.lt_of_lt_of_le (e▸h) hC.ge)
 have hn2:s2.heap.Ns Cc mm:=st2.keep.ns hn λhm=>(List.mem_append.mp hm).elim (λhm=>own (K.V.lt _ hm) rfl) hC.off
 refine⟨mm,hn2,λh' sb=>?_⟩
 have kp:Kp B.tabs [Cc] s2.heap h':=.nsBut sb hn2
 have S:Safe B.Z [Cc]:=λa ha=>mS ha▸nT K.R.stat.size hC.ge
 have stw:StW B [Cc] φ1 s2 φ1 {s2 with heap:=h'}:=⟨pre_refl ..,kp.mono (λb hb=>.inl (List.mem_append.mpr (.inl hb))),S,rfl,id⟩
 exact wpAny_pure (wpAny_pure (res_nextW h (((StW.ofSt st1 K.V).seq st2 λb hb=>.inl hb).seq stw λb hb=>.inr (by rw[mS hb];exact hC.ge))
  ⟨K.rm,K2.V.stepW stw K2.R (λhm=>own (K.V.lt _ (List.mem_cons_self ..)) (mS hm)) λy c ec hm=>own (K.V.cellsLt ec) (mS hm),K2.R.off E0.Y.ok kp S (λb hb=>by rw[mS hb];exact hC.off)⟩))
theorem assign_comp (E0:Env0 B C d){n:Nat}{e:Expr}{p pos:Pos}{x:Str}{t':Tgt}{e':Mine.E}(hc:isComp e) (ht:trTgt sc ren (.Name x p)=some t') (he:tr B.GT n sc ren nx e=some e')
  (hb:swapsWith e (some (.Name x p)) pos.line env=pure true){r:Fl×Loc×AH}(h:ex C (.assign t' e') loc σ=some r) (K:At B d sc ren nx A env loc σ φ s):wpAny (model B.prog B.w) A (exec (.Assign [.Name x p] e pos) env) (ResS B sc ren nx env φ s r) Ex s:=by
 refine bindE h λq h1 h=>bindE h λl hl h=>?_
 rw[exec_Assign_Name_used _ _ _ _ hb]
 refine wpAny_bind (wpAny_standAt (wpAny_bind ?_))
 cases n with
 | zero=>exact noneE he
 | succ n=>
  rcases hc with⟨elt,gens,cs,cp,rfl⟩|⟨kx,vx,gens,cs,cp,rfl⟩
  ·show wpAny _ _ (comprehension (.ListComp elt gens cs cp) cs env (firstIterPos gens cp) (newList []) (firstAsync gens) (firstIter gens env) (some (assign (.Name x p) env))>>=λ_=>pure ()) _ _ _
   exact wpAny_bind (comp_any (use:=some (assign (.Name x p) env)) (Ex:=Ex) (tr_ok C d n) E0 he h1 K λφ1 s1 xv Cc st1 R1 rv hC=>assign_post E0 ht hl h K st1 R1 rv hC)
  ·show wpAny _ _ (comprehension (.DictComp kx vx gens cs cp) cs env (firstIterPos gens cp) newDict (firstAsync gens) (firstIter gens env) (some (assign (.Name x p) env))>>=λ_=>pure ()) _ _ _
   exact wpAny_bind (dcomp_any (use:=some (assign (.Name x p) env)) (Ex:=Ex) (tr_ok C d n) E0 he h1 K λφ1 s1 xv Cc st1 R1 rv hC=>assign_post E0 ht hl h K st1 R1 rv hC)
theorem assign_stmt (E0:Env0 B C d){n:Nat}{t e:Expr}{t':Tgt}{e':Mine.E}{pos:Pos}(ht:trTgt sc ren t=some t') (he:tr B.GT n sc ren nx e=some e') (hok:storesOK t e=true):SndS B C d sc ren nx (.Assign [t] e pos) (.assign t' e'):=by
 intro loc σ r A Ex φ s env h K
 obtain⟨b,hb,hc⟩:=swaps_any (t:=t) (line:=pos.line) (env:=env) he
 cases b with
 | true=>
  obtain⟨hc2,x,p,rfl⟩:=hc rfl
  exact assign_comp E0 hc2 ht he hb h K
 | false=>
  refine bindE h λq h1 h=>bindE h λl hl h=>assign_run hb (wpAny_bind (((tr_ok C d n).e E0 he).run h1 K λφ1 s1 x st1 K1 r1=>?_))
  have W1:=StW.ofSt st1 K.V
  rcases swapped_eq (env:=env) ht hok K.V.fk with hsw|⟨names,is,hsw,rfl,hnd,hmap⟩
  ·rw[hsw,tgt_each ht]
   refine wpAny_bind (wpAny_pure ?_)
   show wpAny _ _ (assign t env x>>=λ_=>(pure Flow.next:Sem Flow)) _ _ _
   exact wpAny_bind (tgt_ok E0.Y ht hl K1 r1 λs2 st2 K2=>wpAny_pure (res_nextW h (W1.seq st2 λb hb=>.inl hb) K2))
  ·rw[hsw]
   refine wpAny_bind (wpAny_pure (bindE hl λus hu hl=>?_))
   obtain rfl:=oJ hl
   have hlen:names.length=is.length:=by simpa using congrArg List.length hmap
   show wpAny _ _ (rule "assign.swapped-stores">>=λ_=>unpackItems x names.length none>>=λitems=>assignInOrder (names.reverse.map λn=>bindName env n) items.reverse>>=λ_=>(pure Flow.next:Sem Flow)) _ _ _
   rw[hlen]
   refine wpAny_bind (wpAny_rule (wpAny_bind (wpAny_mono (unpack_ok (Ex:=Ex) K.rm.handled hu K1.R r1) (λxs s2 u=>?_) λ_ _ q=>q)))
   refine wpAny_bind (binds_ok E0.Y (is:=is.reverse) (vs:=us.reverse) (by rw[List.map_reverse,List.map_reverse,hmap]) (by rw[List.length_reverse,List.length_reverse,u.len]) (VRs_reverse u.rs) (K1.step u.st (K1.R.grow E0.Y.ok u.kp)) λs3 st3 K3=>wpAny_pure (res_nextW h ((StW.ofSt (st1.trans u.st) K.V).seq st3 λb hb=>.inl hb) ⟨K.rm,?_,K3.R⟩))
   exact K3.V.weaken λi v hi=>setAll_rev hnd u.len.symm hi
theorem load_own {x:Str}{i:Nat}{v:Mine.V}(K:At B d sc ren nx A env loc σ φ s) (hx:nameSlot sc ren x=some i) (hl:loc[i]?=some (some v)):wpAny (model B.prog B.w) A (loadName env x) (Res B φ s σ v) Ex s:=
 bindE hx λkd hk hx=>ifE hx λhkd hr=>by
  obtain⟨rv,q,r⟩:=K.V.vals x i v hr hl
  have hk':env.kindOf x=some kd:=K.V.kindE hk (by rcases hkd with rfl|rfl<;>decide)
  rcases q with⟨hk1,m,hn,hm⟩|⟨hk1|hk1,c,hcell,hv⟩
  ·exact wpAny_loadName_local K.V.fk hk1 hn hm (res_here' K.R r)
  ·exact wpAny_loadName_cell K.V.fk hk1 hcell hv (res_here' K.R r)
  ·obtain rfl:=oJ (hk'.symm.trans hk1)
   exact absurd hkd (by decide)
theorem augVar_stmt (E0:Env0 B C d){n:Nat}{x:Str}{p:Pos}{i:Nat}{op:Operator}{e:Expr}{e':Mine.E}{pos:Pos}(hx:nameSlot sc ren x=some i) (he:tr B.GT n sc ren nx e=some e'):SndS B C d sc ren nx (.AugAssign (.Name x p) op e pos) (.augVar i op e'):=by
 intro loc σ r A Ex φ s env h K
 refine bindE h λo ho h=>bindE h λold hold h=>bindE h λq h1 h=>bindE h λw hr hfin=>?_
 subst hold
 show wpAny _ _ (standAt p>>=λ_=>loadName env x>>=λold=>holding [old] (eval e env)>>=λv=>standAt pos>>=λ_=>operate [old,v] (inplaceOp op old v)>>=λnew=>standAt p>>=λ_=>bindName env x new>>=λ_=>(pure Flow.next:Sem Flow)) _ _ _
 refine wpAny_bind (wpAny_standAt (wpAny_bind (Res.bind (load_own K hx ho) λφ1 s1 xo st1 R1 r1=>wpAny_bind (wpAny_holding (((tr_ok C d n).e E0 he).run h1 (K.step st1 R1) λφ2 s2 xv st2 K2 r2=>wpAny_bind (wpAny_standAt (wpAny_bind (wp_operate ?_))))))))
 exact Res.bind (aug_ok hr K2.R (st2.vr R1 r1) r2) λφ3 s3 xr st3 R3 r3=>wpAny_bind (wpAny_standAt (wpAny_bind (wpAny_bindName
  (store_ok E0.Y (K2.step st3 R3) hx r3 λs4 st4 K4=>wpAny_pure (res_nextW hfin ((StW.ofSt ((st1.trans st2).trans st3) K.V).seq st4 λb hb=>.inl hb) K4)))))
end
end Mine
end
section
namespace Mine
open PySem
section
variable {B:Base}{C:Oracle}{d:Nat}{A:Around}{Ex:Value->Shared->Prop}{σ σ' σ1:AH}{φ φ' φ'':Phi}{s s' s'':Shared}{sc:Scope}{ren:Ren}{nx:Nat}{env:Env}{loc loc' loc'':Loc}
theorem wp_rel {xs ys:List Value}{Q:Unit->Shared->Prop}{M:Model}(h:Q () s):wpAny M A (release xs ys) Q Ex s:=λΓ p hΓ=>by rw[Sem.wp_release];exact h
theorem assign_sub (Y:Sys B){o i:Expr}{o' i':Mine.E}{p:Pos}(qo:Snd B C d sc ren nx o o') (qi:Snd B C d sc ren nx i i'){v:Mine.V}{p1 p2:V×AH}{xv:Value}(h1:ev C o' loc σ=some p1) (h2:ev C i' loc p1.2=some p2) (h3:setIdxV p1.1 p2.1 v p2.2=some σ')
  (K:At B d sc ren nx A env loc σ φ s) (r:VR B.Z φ s.heap v xv){Q:Unit->Shared->Prop}(k:∀ φ' s',St B φ s φ' s'->Rep B σ' φ' s'.heap->Q () s'):wpAny (model B.prog B.w) A (assign (.Subscript o i p) env xv) Q Ex s:=by
 show wpAny _ _ (holding [xv] (eval o env)>>=λov=>holding [xv,ov] (eval i env)>>=λiv=>standAt p>>=λ_=>holding [xv,ov,iv] (setItem ov iv xv)>>=λ_=>release (match (generalizing:=false) i with | .Slice _ _ none _=>[iv,xv,ov]|_=>[xv,ov,iv]) []) _ _ _
 refine wpAny_bind (wpAny_holding (qo.run h1 K λφ1 s1 xo st1 K1 r1=>wpAny_bind (wpAny_holding (qi.run h2 K1 λφ2 s2 xi st2 K2 r2=>wpAny_bind (wpAny_standAt (wpAny_bind (wpAny_holding ?_)))))))
 exact setIdx_ok Y h3 K2.R (st2.vr K1.R r1) r2 (st2.vr K1.R (st1.vr K.R r)) λφ3 s3 st3 R3=>wp_rel (k φ3 s3 ((st1.trans st2).trans st3) R3)
theorem setIdx_stmt (E0:Env0 B C d){n:Nat}{o i e:Expr}{o' i' e':Mine.E}{p pos:Pos}(ho:tr B.GT n sc ren nx o=some o') (hi:tr B.GT n sc ren nx i=some i') (he:tr B.GT n sc ren nx e=some e'):SndS B C d sc ren nx (.Assign [.Subscript o i p] e pos) (.setIdx o' i' e'):=by
 intro loc σ r A Ex φ s env h K
 refine bindE h λq h1 h=>bindE h λx h2 h=>bindE h λk h3 h=>bindE h λw h4 h=>assign_run (swaps_no he rfl) (wpAny_bind (((tr_ok C d n).e E0 he).run h1 K λφ1 s1 xv st1 K1 r1=>?_))
 rw[show swappedStores [.Subscript o i p] e env=pure none from rfl]
 refine wpAny_bind (wpAny_pure ?_)
 show wpAny _ _ (assign (.Subscript o i p) env xv>>=λ_=>(pure Flow.next:Sem Flow)) _ _ _
 exact wpAny_bind (assign_sub E0.Y ((tr_ok C d n).e E0 ho) ((tr_ok C d n).e E0 hi) h2 h3 h4 K1 r1 λφ2 s2 st2 R2=>wpAny_pure (res_next h K (st1.trans st2) R2))
theorem item_ok {o i v:Mine.V}{x y:Value}{a:Nat}(ho:asObj o=some a) (e:idxL o i σ=some v) (R:Rep B σ φ s.heap) (ra:VR B.Z φ s.heap o x) (rb:VR B.Z φ s.heap i y):wpAny (model B.prog B.w) A (getItem x y) (Res B φ s σ v) Ex s:=
 vObj (P:=λx=>wpAny _ _ (getItem x y) (Res B φ s σ v) Ex s) ho ra λp hp=>by
  cases o with
  | obj b=>
   cases (oJ ho:b=a)
   refine bindE (show(lstAt (.obj a) σ).bind (λvs=>(asInt i).bind λk=>(place k vs.length).bind λn=>vs[n]?)=some v from e) λvs hv e=>bindE e λk hk e=>bindE e λj hj e=>vInt (P:=λy=>wpAny _ _ (getItem _ y) (Res B φ s σ v) Ex s) hk rb λt=>list_at R hp hv λitems c _ g r1 hz=>?_
   obtain⟨z,hx,rx⟩:=VRs_get r1 e
   rw[VRs_length r1]at hj hz
   exact item_list g hz hj hx (res_here' R rx)
  | _=>exact noneE ho
theorem aug_store {i:Expr}{ov iv new:Value}{Q:Flow->Shared->Prop}{GT:Str->Option GV}{n:Nat}{i':Mine.E}(hi:tr GT n sc ren nx i=some i') (h:wpAny (model B.prog B.w) A (setItem ov iv new) (λ_ s'=>Q .next s') Ex s):wpAny (model B.prog B.w) A (augStore i ov iv new) Q Ex s:=by
 have fin:wpAny (model B.prog B.w) A (holding [new,ov,iv] (setItem ov iv new)>>=λ_=>release [new,ov,iv] []>>=λ_=>(pure Flow.next:Sem Flow)) Q Ex s:=
  wpAny_bind (wpAny_holding (wpAny_mono h (λ_ _ q=>wpAny_bind (wp_rel (wpAny_pure q))) λ_ _ q=>q))
 cases hs:eSlc i with
 | some w=>
  rw[eSlc_eq hs]at hi
  cases n with
  | zero=>exact noneE hi
  | succ n=>exact noneE hi
 | none=>
  cases i with
  | Slice _ _ _ _=>exact noneE hs.symm
  | _=>exact fin
theorem augIdx_stmt (E0:Env0 B C d){n:Nat}{o i e:Expr}{o' i' e':Mine.E}{op:Operator}{p pos:Pos}(ho:tr B.GT n sc ren nx o=some o') (hi:tr B.GT n sc ren nx i=some i') (he:tr B.GT n sc ren nx e=some e'):SndS B C d sc ren nx (.AugAssign (.Subscript o i p) op e pos) (.augIdx o' i' op e'):=by
 intro loc σ r A Ex φ s env h K
 refine bindE h λpo h1 h=>bindE h λpi h2 h=>bindE h λold h3 h=>bindE h λpv h4 h=>bindE h λw h5 h=>bindE h λσ6 h6 h=>bindE h6 λa ha _=>?_
 show wpAny _ _ (standAt pos>>=λ_=>eval o env>>=λov=>holding [ov] (eval i env)>>=λiv=>holding [ov,iv] (standAt p>>=λ_=>getItem ov iv>>=λold=>holding [old] (eval e env)>>=λv=>standAt pos>>=λ_=>operate [old,v] (inplaceOp op old v))>>=λnew=>standAt p>>=λ_=>augStore i ov iv new) _ _ _
 refine wpAny_bind (wpAny_standAt (wpAny_bind (((tr_ok C d n).e E0 ho).run h1 K λφ1 s1 xo st1 K1 r1=>wpAny_bind (wpAny_holding (((tr_ok C d n).e E0 hi).run h2 K1 λφ2 s2 xi st2 K2 r2=>wpAny_bind (wpAny_holding (wpAny_bind (wpAny_standAt (wpAny_bind ?_)))))))))
 refine Res.bind (item_ok ha h3 K2.R (st2.vr K1.R r1) r2) λφ3 s3 xold st3 R3 r3=>wpAny_bind (wpAny_holding (((tr_ok C d n).e E0 he).run h4 (K2.step st3 R3) λφ4 s4 xv st4 K4 r4=>wpAny_bind (wpAny_standAt (wp_operate ?_))))
 refine Res.bind (aug_ok h5 K4.R (st4.vr R3 r3) r4) λφ5 s5 xr st5 R5 r5=>wpAny_bind (wpAny_standAt (aug_store hi ?_))
 have s25:=(st3.trans st4).trans st5
 exact setLst_ok E0.Y h6 R5 ((st2.trans s25).vr K1.R r1) (s25.vr K2.R r2) r5 λφ6 s6 st6 R6=>res_next h K (((st1.trans st2).trans s25).trans st6) R6
theorem drop_eq (e:Expr) (pos:Pos) (v:Value):(∃ x p,e = .Name x p)∨dropValue e pos v=dropValue (.Constant .none 0 pos) pos v:=by
 cases e with
 | Name _ _=>exact .inl ⟨_,_,rfl⟩
 | _=>exact .inr (by kernel_rfl)
theorem drop_ok {e:Expr}{pos:Pos}{v:Value}{Q:Flow->Shared->Prop}{M:Model}(h1:wpAny M A (pure .next) Q Ex s) (h2:wpAny M A (do standAt pos;let _ <-runValue (.builtin "proto.let_go" {});pure .next) Q Ex s):wpAny M A (dropValue e pos v) Q Ex s:=by
 rcases drop_eq e pos v with⟨x,p,rfl⟩|q
 ·exact h1
 ·rw[q]
  cases v with
  | ref _=>exact h2
  | _=>exact h1
theorem expr_stmt (E0:Env0 B C d){n:Nat}{e:Expr}{e':Mine.E}{pos:Pos}{u:Unit}(he:tr B.GT n sc ren nx e=some e') (hn:eComp e=some u):SndS B C d sc ren nx (.Expr e pos) (.expr e'):=by
 intro loc σ r A Ex φ s env h K
 refine bindE h λq h1 h=>?_
 have hint:interactive env=false:=by unfold interactive;rw[K.V.fk];rfl
 show wpAny _ _ (standAt pos>>=λ_=>if interactive env=true then _ else(swapsWith e none pos.line env>>=λb=>if b=true then _ else(eval e env>>=λv=>dropValue e pos v))) _ _ _
 refine wpAny_bind (wpAny_standAt ?_)
 rw[hint,if_neg Bool.false_ne_true,swaps_none he hn]
 refine wpAny_bind (wpAny_pure ?_)
 rw[if_neg Bool.false_ne_true]
 refine wpAny_bind (((tr_ok C d n).e E0 he).run h1 K λφ1 s1 xv st1 K1 r1=>?_)
 have fin:=res_next h K st1 K1.R
 exact drop_ok (wpAny_pure fin) (wpAny_bind (wpAny_standAt (wpAny_bind (wpAny_runValue (codeAny_builtin PySem.entry_let_go (show wpAny _ _ (ret .none) _ _ s1 from wpAny_pure (wpAny_pure fin)))))))
theorem ret_stmt (E0:Env0 B C d){n:Nat}{e:Expr}{e':Mine.E}{pos:Pos}(he:tr B.GT n sc ren nx e=some e'):SndS B C d sc ren nx (.Return (some e) pos) (.ret e'):=λh K=>
 bindE h λ_ h1 h=>wpAny_Return_some (((tr_ok C d n).e E0 he).run h1 K λ_ _ _ st1 K1 r1=>res_ret h (StW.ofSt st1 K.V) K1.R r1)
theorem if_stmt (E0:Env0 B C d){n:Nat}{c:Expr}{c':Mine.E}{a b:List Stmt}{a' b':List S}{pos:Pos}(hc:tr B.GT n sc ren nx c=some c') (qa:SndSs B C d sc ren nx a a') (qb:SndSs B C d sc ren nx b b'):SndS B C d sc ren nx (.If c a b pos) (.ifS c' a' b'):=λh K=>
 bindE h λ_ h1 h=>bindE h λt ht h=>wpAny_If (((tr_ok C d n).e E0 hc).test h1 ht K λ_ _ st1 K1=>by
  cases t with
  | true=>exact wp_afterS (StW.ofSt st1 K.V) (qa h K1)
  | false=>exact wp_afterS (StW.ofSt st1 K.V) (qb h K1))
theorem while_stmt (E0:Env0 B C d){n:Nat}{c:Expr}{c':Mine.E}{a:List Stmt}{a':List S}{pos:Pos}(hc:tr B.GT n sc ren nx c=some c') (qa:SndSs B C d sc ren nx a a'):SndS B C d sc ren nx (.While c a [] pos) (.whileS c' a'):=λh K=>
 wpAny_While (while_ok ((tr_ok C d n).e E0 hc) qa FUEL h K λ_ _ hr=>hr)
theorem for_stmt (E0:Env0 B C d){n:Nat}{t it:Expr}{t':Tgt}{it':Mine.E}{a:List Stmt}{a':List S}{pos:Pos}(ht:trTgt sc ren t=some t') (hi:tr B.GT n sc ren nx it=some it') (qa:SndSs B C d sc ren nx a a'):SndS B C d sc ren nx (.For t it a [] pos) (.forS t' it' a'):=by
 have qi:=(tr_ok C d n).e E0 hi
 intro loc σ r A Ex φ s env h K
 refine bindE h λp h1 h=>bindE h λi hio h=>bindE h λw hl h=>wpAny_For ?_ λx=>folded_no env x qi.set
 refine qi.run h1 K λφ1 s1 xv st1 K1 r1=>wpAny_mono (iter_ok E0.Y hio K1.R r1) (λiv s2 hfr=>?_) λ_ _ q=>q
 obtain⟨a2,rfl,F⟩:=hfr
 have Fs:St B φ1 s1 φ1 s2:=St.of_kp F.kp F.os F.gens
 have own:∀ {a:Addr},a<s1.heap.objs.size->a∉[a2]:=λh hm=>Nat.lt_irrefl _ (Nat.lt_of_lt_of_le (mS hm▸h) F.ge)
 have hoff:Off [a2] env env.locals:=⟨own (K1.V.lt _ (List.mem_cons_self ..)),own (K1.V.lt _ (List.mem_cons_self ..)),λy c e=>own (K1.V.cellsLt e)⟩
 have glue:∀ {φ' s'},StW B ([a2]++ownW sc env) φ1 s2 φ' s'->StW B (ownW sc env) φ s φ' s':=λ{φ' s'} x=>(StW.ofSt (st1.trans Fs) K.V).seq x λb hb=>(List.mem_append.mp hb).elim (λhb=>.inr (by rw[mS hb];exact nT st1.keep.size F.ge)) .inl
 exact for_ok E0.Y K.rm ht qa FUEL hl F.I F.S hoff (K1.step Fs (K1.R.grow E0.Y.ok F.kp))
  (λl φ' s' e x K'=>by rw[e]at h;exact res_nextW h (glue x) K') λv l φ' s' y e x R' ry=>by rw[e]at h;exact res_ret h (glue x) R' ry
theorem assert_stmt (E0:Env0 B C d){n:Nat}{c:Expr}{c':Mine.E}{pos:Pos}(hc:tr B.GT n sc ren nx c=some c'):SndS B C d sc ren nx (.Assert c none pos) (.assertS c'):=λh K=>
 bindE h λ_ h1 h=>bindE h λt ht h=>by
  cases t with
  | true=>exact wpAny_Assert_holds (((tr_ok C d n).e E0 hc).test h1 ht K λ_ _ st1 K1=>⟨rfl,res_next h K st1 K1.R⟩)
  | false=>exact noneE h
theorem del_stmt (E0:Env0 B C d){n:Nat}{o i:Expr}{o' i':Mine.E}{p pos:Pos}(ho:tr B.GT n sc ren nx o=some o') (hi:tr B.GT n sc ren nx i=some i'):SndS B C d sc ren nx (.Delete [.Subscript o i p] pos) (.del o' i'):=by
 intro loc σ r A Ex φ s env h K
 refine bindE h λx h2 h=>bindE h λk h3 h=>bindE h λw h4 h=>wpAny_Delete ?_
 show wpAny _ _ ((eval o env>>=λov=>holding [ov] (eval i env)>>=λiv=>standAt p>>=λ_=>holding [ov,iv] (delItem ov iv)>>=λ_=>release [ov,iv] [])>>=λ_=>pure ()) _ _ _
 refine wpAny_bind (wpAny_bind (((tr_ok C d n).e E0 ho).run h2 K λφ1 s1 xo st1 K1 r1=>wpAny_bind (wpAny_holding (((tr_ok C d n).e E0 hi).run h3 K1 λφ2 s2 xi st2 K2 r2=>wpAny_bind (wpAny_standAt (wpAny_bind (wpAny_holding ?_)))))))
 exact delIdx_ok E0.Y h4 K2.R (st2.vr K1.R r1) r2 λφ3 s3 st3 R3=>wp_rel (wpAny_pure (res_next h K ((st1.trans st2).trans st3) R3))
end
structure TrSOK (C:Oracle) (d n:Nat):Prop where
 s:∀ {B:Base},Env0 B C d->∀ {sc:Scope}{ren:Ren}{nx:Nat}{x:Stmt}{x':S},trS B.GT n sc ren nx x=some x'->SndS B C d sc ren nx x x'
 ss:∀ {B:Base},Env0 B C d->∀ {sc:Scope}{ren:Ren}{nx:Nat}{x:List Stmt}{x':List S},trSs B.GT n sc ren nx x=some x'->SndSs B C d sc ren nx x x'
theorem trS_s {C:Oracle}{d n:Nat}(ih:TrSOK C d n){B:Base}(E0:Env0 B C d){sc:Scope}{ren:Ren}{nx:Nat}{x:Stmt}{x':S}(h:trS B.GT (n+1) sc ren nx x=some x'):SndS B C d sc ren nx x x':=by
 cases x with
 | Assign ts e pos=>
  refine bindE h λt h1 h=>bindE h λe' h2 h=>?_
  rw[l1_eq h1]
  cases hs:eSub t with
  | some a=>
   rw[hs]at h
   rw[eSub_eq hs]
   exact bindE h λo h3 h=>bindE h λi h4 h=>by obtain rfl:=oJ h;exact setIdx_stmt E0 h3 h4 h2
  | none=>
   rw[hs]at h
   exact ifE h λhok h=>bindE h λt' ht h=>by obtain rfl:=oJ h;exact assign_stmt E0 ht h2 hok
 | AugAssign t op e pos=>
  refine bindE h λe' h2 h=>?_
  cases hn:eName t with
  | some y=>
   rw[hn]at h
   rw[eName_eq hn]
   exact bindE h λi hi h=>by obtain rfl:=oJ h;exact augVar_stmt E0 hi h2
  | none=>
   rw[hn]at h
   exact bindE h λa ha h=>bindE h λo h3 h=>bindE h λi h4 h=>by obtain rfl:=oJ h;rw[eSub_eq ha];exact augIdx_stmt E0 h3 h4 h2
 | Expr e pos=>exact bindE h λ_ h1 h=>bindE h λe' h2 h=>by obtain rfl:=oJ h;exact expr_stmt E0 h2 h1
 | Return o pos=>exact bindE h λ_ h1 h=>bindE h λe' h2 hfin=>by obtain rfl:=oJ hfin;subst h1;exact ret_stmt E0 h2
 | If c a b pos=>exact bindE h λ_ h1 h=>bindE h λ_ h2 h=>bindE h λ_ h3 h=>by obtain rfl:=oJ h;exact if_stmt E0 h1 (ih.ss E0 h2) (ih.ss E0 h3)
 | While c a l pos=>exact bindE h λ_ h0 h=>bindE h λ_ h1 h=>bindE h λ_ h2 h=>by obtain rfl:=oJ h;rw[l0_eq h0];exact while_stmt E0 h1 (ih.ss E0 h2)
 | For t it a l pos=>exact bindE h λ_ h0 h=>bindE h λ_ h1 h=>bindE h λ_ h2 h=>bindE h λ_ h3 h=>by obtain rfl:=oJ h;rw[l0_eq h0];exact for_stmt E0 h1 h2 (ih.ss E0 h3)
 | Delete ts pos=>exact bindE h λt h0 h=>bindE h λa ha h=>bindE h λ_ h1 h=>bindE h λ_ h2 h=>by obtain rfl:=oJ h;rw[l1_eq h0,eSub_eq ha];exact del_stmt E0 h1 h2
 | Assert c m pos=>
  cases m with
  | none=>exact bindE h λ_ h1 h=>by obtain rfl:=oJ h;exact assert_stmt E0 h1
  | some _=>exact noneE h
 | _=>exact noneE h
theorem trS_ok (C:Oracle) (d:Nat):∀ n,TrSOK C d n
 | 0=>⟨λ{_} _ {_ _ _ _ _} h=>noneE h,λ{_} _ {_ _ _ _ _} h=>noneE h⟩
 | n+1=>⟨λ{_} E0 {_ _ _ _ _} h=>trS_s (trS_ok C d n) E0 h,λ{_} E0 {_ _ _ x _} h=>by
   cases x with
   | nil=>obtain rfl:=oJ h;exact stmts_nil
   | cons e es=>exact bindE h λ_ h1 h=>bindE h λ_ h2 h=>by obtain rfl:=oJ h;exact stmts_cons ((trS_ok C d n).s E0 h1) ((trS_ok C d n).ss E0 h2)⟩
end Mine
end
section
namespace Mine
open PySem
theorem bindL_off {kindOf:Str->Option NameKind}{x:Str}:∀ {binds:List (Str×Value)}{m:Str->Option Value},x∉binds.map (·.1)->bindL kindOf binds m x=m x
 | [],_,_=>rfl
 | (n,v)::r,m,h=>by
  simp only [List.map_cons,List.mem_cons,not_or]at h
  unfold bindL
  rw[bindL_off h.2]
  split
  ·simp[h.1]
  ·rfl
theorem bindC_off {kindOf:Str->Option NameKind}{x:Str}:∀ {binds:List (Str×Value)}{m:Str->Option Value},x∉binds.map (·.1)->bindC kindOf binds m x=m x
 | [],_,_=>rfl
 | (n,v)::r,m,h=>by
  simp only [List.map_cons,List.mem_cons,not_or]at h
  unfold bindC
  rw[bindC_off h.2]
  split
  ·rfl
  ·simp[h.1]
theorem bindL_at {kindOf:Str->Option NameKind}{x:Str}{v:Value}(hk:kindOf x=some .local):∀ {binds:List (Str×Value)}{m:Str->Option Value},(binds.map (·.1)).Nodup->(x,v)∈binds->bindL kindOf binds m x=some v
 | (n,u)::r,m,hn,h=>by
  rw[List.map_cons,List.nodup_cons]at hn
  unfold bindL
  rcases mC h with e|h
  ·cases e
   rw[bindL_off hn.1,if_pos hk];simp
  ·exact bindL_at hk hn.2 h
theorem bindC_at {kindOf:Str->Option NameKind}{x:Str}{v:Value}(hk:kindOf x=some .cell):∀ {binds:List (Str×Value)}{m:Str->Option Value},(binds.map (·.1)).Nodup->(x,v)∈binds->bindC kindOf binds m x=some v
 | (n,u)::r,m,hn,h=>by
  rw[List.map_cons,List.nodup_cons]at hn
  unfold bindC
  rcases mC h with e|h
  ·cases e
   rw[bindC_off hn.1,if_neg (by rw[hk];decide)];simp
  ·exact bindC_at hk hn.2 h
theorem lookup_cases {α β:Type}[BEq α] [LawfulBEq α]{p:α×β}{l:List (α×β)}{x:α}{i:β}{G:Prop}(h:(p::l).lookup x=some i) (h1:x=p.1->p.2=i->G) (h2:l.lookup x=some i->G):G:=by
 by_cases e:x=p.1
 ·subst e
  rw[List.lookup_cons_self]at h
  exact h1 rfl (oJ h)
 ·obtain⟨a,b⟩:=p
  rw[List.lookup_cons,beq_eq_false_iff_ne.mpr e]at h
  exact h2 h
theorem own_step {p:Str×NameKind}{r:List (Str×NameKind)}(h0:p.1≠(".0":Str)):ownCount (p::r)=if p.2 = .local∨p.2 = .cell then ownCount r+1 else ownCount r:=by
 obtain⟨y,k⟩:=p
 cases k with
 | «local»=>exact if_neg h0
 | _=>rfl
theorem defRen_pos {p:Str×NameKind}{r:List (Str×NameKind)}{n:Nat}(h:p.2 = .local∨p.2 = .cell):defRen (p::r) n=(p.1,n)::defRen r (n+1):=if_pos h
theorem defRen_neg {p:Str×NameKind}{r:List (Str×NameKind)}{n:Nat}(h:¬(p.2 = .local∨p.2 = .cell)):defRen (p::r) n=defRen r n:=if_neg h
theorem defRen_get:∀ {names:List (Str×NameKind)}{n:Nat}{x:Str}{i:Nat},(∀ p∈names,p.1≠(".0":Str))->(defRen names n).lookup x=some i->n<=i/\i<n+ownCount names/\∃ k,(k=NameKind.local∨k=NameKind.cell)/\(x,k)∈names
 | [],_,_,_,_,h=>noneE h
 | p::r,n,x,i,h0,h=>by
  rw[own_step (h0 p (List.mem_cons_self ..))]
  by_cases hp:p.2 = .local∨p.2 = .cell
  ·rw[if_pos hp]
   refine lookup_cases (defRen_pos hp▸h) (λe1 e2=>?_) λh=>?_
   ·subst e1;cases e2;exact⟨Nat.le_refl _,Nat.lt_add_of_pos_right (Nat.succ_pos _),p.2,hp,List.mem_cons_self ..⟩
   ·obtain⟨a,b,k,c,e⟩:=defRen_get (λq hq=>h0 q (List.mem_cons_of_mem _ hq)) h
    exact⟨Nat.le_of_succ_le a,by rw[Nat.add_comm _ 1,<-Nat.add_assoc];exact b,k,c,List.mem_cons_of_mem _ e⟩
  ·rw[if_neg hp]
   obtain⟨a,b,k,c,e⟩:=defRen_get (λq hq=>h0 q (List.mem_cons_of_mem _ hq)) (defRen_neg hp▸h)
   exact⟨a,b,k,c,List.mem_cons_of_mem _ e⟩
theorem defRen_inj:∀ {names:List (Str×NameKind)}{n:Nat}{x y:Str}{i:Nat},(∀ p∈names,p.1≠(".0":Str))->(defRen names n).lookup x=some i->(defRen names n).lookup y=some i->x=y
 | [],_,_,_,_,_,h,_=>noneE h
 | p::r,n,x,y,i,h0,h1,h2=>by
  have h0':∀ p∈r,p.1≠(".0":Str):=λq hq=>h0 q (List.mem_cons_of_mem _ hq)
  by_cases hp:p.2 = .local∨p.2 = .cell
  ·rw[defRen_pos hp]at h1 h2
   refine lookup_cases h1 (λe1 e2=>lookup_cases h2 (λe3 _=>e1.trans e3.symm) λh=>?_) λh=>lookup_cases h2 (λ_ e2=>?_) λh'=>defRen_inj h0' h h'
   ·exact absurd ((defRen_get h0' h).1) (e2▸Nat.not_succ_le_self n)
   ·exact absurd ((defRen_get h0' h).1) (e2▸Nat.not_succ_le_self n)
  ·rw[defRen_neg hp]at h1 h2
   exact defRen_inj h0' h1 h2
theorem defRen_at:∀ {names:List (Str×NameKind)}{np n i:Nat}{p:Str×NameKind},(names.map (·.1)).Nodup->((names.take np).all λp=>p.2 == .local||p.2 == .cell)=true->i<np->names[i]?=some p->(defRen names n).lookup p.1=some (n+i)
 | [],_,_,_,_,_,_,_,h=>noneE h
 | _::_,0,_,_,_,_,_,h,_=>nomatch h
 | q::r,np+1,n,i,p,hn,ha,hi,h=>by
  rw[List.take_succ_cons,List.all_cons,Bool.and_eq_true,Bool.or_eq_true,beq_iff_eq,beq_iff_eq]at ha
  rw[defRen_pos ha.1]
  cases i with
  | zero=>obtain rfl:=oJ h;exact List.lookup_cons_self
  | succ i=>
   rw[List.map_cons,List.nodup_cons]at hn
   have h':r[i]?=some p:=h
   rw[List.lookup_cons,beq_eq_false_iff_ne.mpr λ(e:p.1=q.1)=>hn.1 (e▸List.mem_map.mpr ⟨p,List.mem_of_getElem? h',rfl⟩)]
   have ih:=defRen_at (n:=n+1) hn.2 ha.2 (Nat.lt_of_succ_lt_succ hi) h'
   rw[Nat.add_right_comm]at ih
   exact ih
end Mine
end
section
namespace Mine
open PySem
theorem Room.deeper {A:Around}{d:Nat}(r:Room A (d+1)) (env:Env):Room (A.deeper env) d:=by
 obtain⟨h1,h2,h3,⟨l,h4⟩⟩:=r
 refine⟨h1,?_,?_,⟨env::l,?_⟩⟩
 ·show A.depth+1+d+40<=_;omega
 ·show A.units+3+40*d+400<=_;omega
 ·show A.frames.map (env :: ·)=_;rw[h4];rfl
theorem lookup_two {p q:Str}{x y:Value}(ne:p≠q):List.lookup p [(p,x),(q,y)]=some x/\List.lookup q [(p,x),(q,y)]=some y:=by
 constructor
 ·exact List.lookup_cons_self
 ·rw[List.lookup_cons,beq_eq_false_iff_ne.mpr (Ne.symm ne)]
  exact List.lookup_cons_self
theorem lam_binds {args:Arguments}{sc:Scope}{r:Ren}{p q:Str}(L:LamSc args sc r p q){fd:FuncData}(hp:fd.params=args) (hd:fd.defaults = .none) (x y:Value):bindArgs fd ⟨[x,y],[]⟩=pure [(p,x),(q,y)]:=by
 obtain⟨a,b,h1,rfl,rfl⟩:=L.ags
 obtain⟨e1,e2⟩:=lookup_two (x:=x) (y:=y) L.ne
 have h2:=L.po
 have h3:=L.ko
 have h6:=L.va
 have h7:=L.kw
 obtain⟨f1,f2,f3,f4,f5,f6,f7⟩:=args
 cases h1;cases h2;cases h3
 cases f3 with
 | some _=>exact absurd h6 Bool.false_ne_true
 | none=>
 cases f6 with
 | some _=>exact absurd h7 Bool.false_ne_true
 | none=>
 unfold bindArgs
 rw[hp,hd]
 have m:List.filter (λn=>(List.lookup n [(a.arg,x),(b.arg,y)]).isNone) [a.arg,b.arg]=[]:=by
  rw[List.filter_cons_of_neg (by rw[e1];exact Bool.false_ne_true),List.filter_cons_of_neg (by rw[e2];exact Bool.false_ne_true)];rfl
 have n:List.filterMap (λn=>(List.lookup n [(a.arg,x),(b.arg,y)]).map (n,·)) [a.arg,b.arg]=[(a.arg,x),(b.arg,y)]:=by
  rw[List.filterMap_cons_some (b:=(a.arg,x)) (by rw[e1];rfl),List.filterMap_cons_some (b:=(b.arg,y)) (by rw[e2];rfl)];rfl
 show(if (!(List.filter (λn=>(List.lookup n [(a.arg,x),(b.arg,y)]).isNone) [a.arg,b.arg]).isEmpty)=true then _ else(pure (List.filterMap (λn=>(List.lookup n [(a.arg,x),(b.arg,y)]).map (n,·)) [a.arg,b.arg]):Sem (List (Str×Value))))=_
 rw[m,n]
 rfl
theorem LamSc.kinds {args:Arguments}{sc:Scope}{r:Ren}{p q:Str}(L:LamSc args sc r p q):sc.names.lookup p=some .local/\sc.names.lookup q=some .local:=by
 have h:=List.take_append_drop 2 sc.names
 rw[L.two]at h
 rw[<-h]
 refine⟨List.lookup_cons_self,?_⟩
 show List.lookup q ((p,NameKind.local)::(q,NameKind.local)::sc.names.drop 2)=_
 rw[List.lookup_cons,beq_eq_false_iff_ne.mpr (Ne.symm L.ne)]
 exact List.lookup_cons_self
theorem LamSc.slot {args:Arguments}{sc:Scope}{r:Ren}{p q:Str}(L:LamSc args sc r p q){x:Str}{i:Nat}(h:r.lookup x=some i):(x=p/\i=0)∨(x=q/\i=1):=by
 rw[L.ren]at h
 exact lookup_cases h (λa b=>.inl ⟨a,b.symm⟩) λh=>lookup_cases h (λa b=>.inr ⟨a,b.symm⟩) λh=>noneE h
theorem lam_call {B:Base}{C:Oracle}{d:Nat}(E0:Env0 B C d){e:Mine.E}{t1 t2 t3:V}{σ:AH}{r0:V×AH}(hl:lamAt t1 σ=some e) (h:ev C e [some t2,some t3] σ=some r0){A:Around}{Ex:Value->Shared->Prop}{φ:Phi}{s:Shared}{a:Value}{rest:List Value}
  (rm:Room A (d+1)) (R:Rep B σ φ s.heap) (r:VRs B.Z φ s.heap [t1,t2,t3] (a::rest)):wpAny (model B.prog B.w) A (call a rest []) (Res B φ s r0.2 r0.1) Ex s:=by
 unfold VRs at r
 refine vLam (P:=λa=>wpAny _ _ (call a rest []) _ Ex s) hl R r.1 λf L _=>vCons (P:=λrest=>wpAny _ _ (call (.ref f.1) rest []) _ Ex s) r.2 λx xs rx r2=>vCons (P:=λxs=>wpAny _ _ (call (.ref f.1) (x::xs) []) _ Ex s) r2 λy ys ry r3=>?_
 cases ys with
 | cons _ _=>unfold VRs at r3;exact r3.elim
 | nil=>
 obtain⟨name,qual,params,body,scope,pm,c,ct,n,ren,ho,hcq,hs,htr⟩:=L
 obtain⟨p,q,LS⟩:=LamSc.of hs
 have hcr:s.heap.CodeRec (.ref c) qual:=by
  cases hcq with|mk _ o vs t g _ hd hv=>exact⟨_,o,vs,t,rfl,g,hd,hv⟩
 refine wpAny_call (PySem.W.kla_callFunE (by have:=rm.depth;omega) ho rfl LS.co LS.gen rfl hcr ?_)
 rw[lam_binds LS rfl rfl x y]
 refine wpAny_pure (wpAny_newFunctionEnv (λz hz=>?_) (λz hz=>?_) (λh₁ hns hsb=>⟨R.stat.nolimit.fresh _ hsb,?_⟩) LS.kind)
 ·rcases LS.name hz with e|e|e
  ·rw[e];exact nofun
  ·rw[e];exact nofun
  ·rw[e];exact nofun
 ·rcases mC hz with rfl|hz
  ·exact LS.kinds.1
  ·rw[mS hz];exact LS.kinds.2
 ·show codeAny _ _ (.expr body (PySem.W.envX qual scope s.heap.objs.size f.1 (.ref c) [])) _ _
  have hkeep:∀ b o,s.heap.get? b=some o->h₁.get? b=some o:=λb o e=>hsb.extBut b o (Nat.ne_of_lt (Heap.lt_size e)) (Heap.get?_push_of_some _ e)
  have kp:Kp B.tabs [] s.heap h₁:=.keeps hkeep (by rw[hsb.1,Heap.size_push];exact Nat.le_succ _)
  have R1:Rep B σ φ h₁:=R.grow E0.Y.ok kp
  have vk:Vk B.Z φ s.heap φ h₁:=Vk.of kp (Safe.nil B.Z) (pre_refl ..)
  have kof:∀ z,(PySem.W.envX qual scope s.heap.objs.size f.1 (.ref c) []).kindOf z=scope.names.lookup z:=λ_=>rfl
  have hp1:List.lookup p [(p,x),(q,y)].reverse=some x:=by
   show List.lookup p [(q,y),(p,x)]=_
   exact(lookup_two (Ne.symm LS.ne)).2
  have hq1:List.lookup q [(p,x),(q,y)].reverse=some y:=List.lookup_cons_self
  have V1:EnvOK B scope ren 2 (PySem.W.envX qual scope s.heap.objs.size f.1 (.ref c) []) [some t2,some t3] φ h₁:=by
   refine⟨LS.kind,λz k e=>.inl e,rfl,rfl,λhm=>absurd (R.lt hm) (Nat.lt_irrefl _),R.stat.size,⟨_,hns⟩,nofun,nofun,λz i e hk=>?_,λz w i e1 e2=>?_,λz i e=>?_,λi v hi e=>?_,λz i v e1 e2=>?_,λh=>absurd (LS.no.symm.trans h) Bool.false_ne_true⟩
   ·rw[kof]at hk
    rcases LS.slot e with⟨rfl,_⟩|⟨rfl,_⟩
    ·rw[LS.kinds.1]at hk;exact hk.elim nofun nofun
    ·rw[LS.kinds.2]at hk;exact hk.elim nofun nofun
   ·rcases LS.slot e1 with⟨rfl,rfl⟩|⟨rfl,rfl⟩<;>rcases LS.slot e2 with⟨rfl,e⟩|⟨rfl,e⟩
    ·rfl
    ·exact nomatch e
    ·exact nomatch e
    ·rfl
   ·rcases LS.slot e with⟨_,rfl⟩|⟨_,rfl⟩<;>decide
   ·rw[List.getElem?_eq_none (by simpa using hi)]at e;exact noneE e
   ·rcases LS.slot e1 with⟨rfl,rfl⟩|⟨rfl,rfl⟩
    ·cases e2;exact⟨x,.inl ⟨LS.kinds.1,_,hns,hp1⟩,VR_mono vk _ rx⟩
    ·cases e2;exact⟨y,.inl ⟨LS.kinds.2,_,hns,hq1⟩,VR_mono vk _ ry⟩
  refine PySem.W.kla_codeExpr (wpAny_mono (((tr_ok C d n).e E0 htr).val h ⟨rm.deeper _,V1,R1⟩) (λv s' q=>?_) λ_ _ q=>q)
  exact Res.after (s':={s with heap:=h₁,toks:=_}) (St.of_kp kp rfl rfl) q
end Mine
end
section
namespace Mine
open PySem
inductive DefEx (B:Base) (f:Addr) (np ns:Nat) (body:List S):Prop
 | mk (o:Obj) (fd:FuncData) (body0:List Stmt) (g:B.K.lookup f=some o) (od:o.data = .func fd) (fb:fd.body = .stmts body0) (fc:fd.closure=[]) (co:fd.scope.isCoroutine=false) (ge:fd.scope.isGenerator=false) (gl:fd.globals=mainGlobals) (bl:fd.builtins=builtinsNs)
   (ci:PySem.W.codeIn B.K fd.code fd.qualname=true) (lm:lamSc fd.scope=true->fd.code = .ref B.lc/\fd.qualname++".<locals>."++"<lambda>"=B.lq) (td:trDef B.GT fd.params body0 fd.scope=some (.dfn np ns body))
   (ba:∀ vals,vals.length=np->bindArgs fd ⟨vals,[]⟩=pure ((fd.params.args.map (·.arg)).zip vals))
structure DefAt (B:Base) (f:Addr) (np ns:Nat) (body:List S):Prop where
 ex:DefEx B f np ns body
noncomputable def AccNew (B:Base) (C:Oracle):Prop:=∀ f args σ v σ',B.T f=some .acc->C f args σ=some (v,σ')->∀ A E φ s xs,Room A 0->Rep B σ φ s.heap->VRs B.Z φ s.heap args xs->wpAny (model B.prog B.w) A (call (.ref f) xs []) (Res B φ s σ' v) E s
theorem zip_fst {α β:Type}:∀ {l:List α}{r:List β},l.length=r.length->(l.zip r).map (·.1)=l
 | [],[],_=>rfl
 | a::l,b::r,h=>by simp only [List.zip_cons_cons,List.map_cons];rw[zip_fst (by simpa using h)]
 | [],_::_,h=>by simp at h
 | _::_,[],h=>by simp at h
theorem par_at {l:List (Str×NameKind)}{ps:List Str}{xs:List Value}(h:(l.take ps.length).map (·.1)=ps) (hk:((l.take ps.length).all λp=>p.2 == .local||p.2 == .cell)=true) (hx:ps.length=xs.length){i:Nat}(hi:i<ps.length):
  ∃ p x,l[i]?=some p/\xs[i]?=some x/\(p.1,x)∈ps.zip xs/\(p.2 = .local∨p.2 = .cell)/\ps[i]?=some p.1:=by
 have h2:xs[i]?=some (xs[i]'(hx▸hi)):=List.getElem?_eq_getElem (hx▸hi)
 have h3:=List.getElem?_eq_getElem hi
 have h4:((l.take ps.length).map (·.1))[i]?=some (ps[i]'hi):=h.symm▸h3
 rw[List.getElem?_map]at h4
 cases h5:(l.take ps.length)[i]? with
 | none=>rw[h5]at h4;exact noneE h4
 | some p=>
  have h6:l[i]?=some p:=by rw[<-h5,List.getElem?_take_of_lt hi]
  have h7:ps[i]?=some p.1:=by
   have:=congrArg (·[i]?) h
   rw[<-this,List.getElem?_map,h5];rfl
  refine⟨p,_,h6,h2,List.mem_of_getElem? (i:=i) (List.getElem?_zip_eq_some.mpr ⟨h7,h2⟩),?_,h7⟩
  have:=List.all_eq_true.mp hk p (List.mem_of_getElem? h5)
  rw[Bool.or_eq_true,beq_iff_eq,beq_iff_eq]at this
  exact this
theorem slot_at {args:List V}{ns i:Nat}{v:V}(h:(args.map some++List.replicate ns none)[i]?=some (some v)):i<args.length/\args[i]?=some v:=by
 by_cases hip:i<args.length
 ·rw[List.getElem?_append_left (by rw[List.length_map];exact hip),List.getElem?_map]at h
  refine⟨hip,?_⟩
  cases ha:args[i]? with
  | none=>rw[ha]at h;exact noneE h
  | some u=>rw[ha]at h;cases h;rfl
 ·rw[List.getElem?_append_right (by rw[List.length_map];exact Nat.le_of_not_lt hip),List.getElem?_replicate]at h
  exact ifE h λ_ h=>nomatch h
theorem def_ok {B:Base}{d:Nat}(E0:Env0 B (callN B.T d) d){f:Addr}{np ns:Nat}{body:List S}(D:DefAt B f np ns body){args:List V}{σ:AH}{r0:Fl×Loc×AH}(hn:args.length=np)
  (h:exs (callN B.T d) body (args.map some++List.replicate ns none) σ=some r0){A:Around}{Ex:Value->Shared->Prop}{φ:Phi}{s:Shared}{xs:List Value}(rm:Room A (d+1)) (R:Rep B σ φ s.heap) (r:VRs B.Z φ s.heap args xs){Q:Value->Shared->Prop}
  (kn:r0.1 = .next->∀ s',Res B φ s r0.2.2 .none .none s'->Q .none s') (kr:∀ v,r0.1 = .ret v->∀ x s',Res B φ s r0.2.2 v x s'->Q x s'):wpAny (model B.prog B.w) A (call (.ref f) xs []) Q Ex s:=by
 obtain⟨o,fd,body0,hK,hdata,hbody,hclo,hco,hgen,hgl,hbl,hcode,hlam,htr,hbind⟩:=D.ex
 refine ifE htr λhc htr=>bindE htr λb' hb' e=>?_
 obtain⟨hk,nd,hpar,hkinds,hdot⟩:=hc
 have hnp:fd.params.args.length=np:=by cases e;rfl
 have hbd:b'=body:=by cases e;rfl
 subst hbd
 have h0:∀ p∈fd.scope.names,p.1≠(".0":Str):=λp hp=>bne_iff_ne.mp (List.all_eq_true.mp hdot p hp)
 have hln:(fd.params.args.map (·.arg)).length=np:=by rw[List.length_map,hnp]
 have hlen:=VRs_length r
 have hxl:(fd.params.args.map (·.arg)).length=xs.length:=by rw[hln,<-hn,hlen]
 rw[hnp,<-hln]at hpar hkinds
 have hbn:((fd.params.args.map (·.arg)).zip xs).map (·.1)=fd.params.args.map (·.arg):=zip_fst hxl
 have hpnd:(((fd.params.args.map (·.arg)).zip xs).map (·.1)).Nodup:=by
  rw[hbn,<-hpar,List.map_take]
  exact List.Pairwise.sublist (List.take_sublist ..) nd
 have pat:∀ i:Nat,i<np->_:=λi hi=>par_at hpar hkinds hxl (hln▸hi)
 have cell_at:∀ {p:Str×NameKind},p∈fd.scope.names->p.2 = .cell->∃ c,(cellsFrom (s.heap.objs.size+1) fd.scope.names []).lookup p.1=some c:=λ{p} hm e=>cellsFrom_has (n:=s.heap.objs.size+1) (x:=p.1) (e▸hm)
 have kind_at:∀ {p:Str×NameKind},p∈fd.scope.names->fd.scope.names.lookup p.1=some p.2:=λ{p} hm=>lookup_nodup nd hm
 have hkind:∀ x∈(fd.params.args.map (·.arg)).zip xs,fd.scope.names.lookup x.1=some .local∨(fd.scope.names.lookup x.1=some .cell/\((cellsFrom (s.heap.objs.size+1) fd.scope.names []).lookup x.1).isSome=true):=by
  intro x hx
  obtain⟨i,hi⟩:=List.getElem?_of_mem hx
  rw[List.getElem?_zip_eq_some]at hi
  obtain⟨p,y,h1,h2,h3,h4,h5⟩:=pat i (hln▸(List.getElem?_eq_some_iff.mp hi.1).1)
  have hp:x.1=p.1:=oJ (hi.1.symm.trans h5)
  have hm:=List.mem_of_getElem? h1
  rw[hp,kind_at hm]
  rcases h4 with h4|h4
  ·exact .inl (congrArg some h4)
  ·obtain⟨c,hc⟩:=cell_at hm h4
   exact .inr ⟨congrArg some h4,by rw[hc];rfl⟩
 refine wpAny_call (codeAny_call_cells (o:=o) (fd:=fd) (body:=body0) (binds:=(fd.params.args.map (·.arg)).zip xs) (by have:=rm.depth;omega) (R.stat.K _ _ hK) hdata R.stat.nolimit (PySem.W.codeRec_of R.stat.K hcode) hbody (hbind xs (by rw[<-hxl,hln])) hclo hkind (λs₁ x=>?_) hco hgen hk)
 have hNs:=x.toInCall.ns
 obtain⟨h₁,tk,rfl,hkeep⟩:=x.done
 have kp:Kp B.tabs [] s.heap h₁:=.keeps hkeep (Nat.le_of_lt hNs.lt)
 have R1:Rep B σ φ h₁:=R.grow E0.Y.ok kp
 have slot_lt:∀ {i:Nat}{v:V},(args.map some++List.replicate ns none)[i]?=some (some v)->i<ownCount fd.scope.names:=λ{i v} e=>by
  obtain⟨p,_,h1,_⟩:=pat i (hn▸(slot_at e).1)
  have:=(defRen_get (n:=0) h0 (defRen_at (n:=0) nd hkinds (i:=i) (by rw[hln,<-hn];exact(slot_at e).1) h1)).2.1
  rwa [Nat.zero_add,Nat.zero_add]at this
 have V1:EnvOK B fd.scope (defRen fd.scope.names 0) (ownCount fd.scope.names) (callEnvC fd s.heap.objs.size f) (args.map some++List.replicate ns none) φ h₁:=by
  refine⟨hk,λy k e=>.inl e,hgl,hbl,λhm=>absurd (R.lt hm) (Nat.lt_irrefl _),R.stat.size,⟨_,hNs⟩,λy c e=>?_,λy z c e1 e2=>name_of_addr x.apart (mem_of_lookup e1) (mem_of_lookup e2),λy i e hkk=>?_,λy z i e1 e2=>defRen_inj h0 e1 e2,λy i e=>by have:=(defRen_get h0 e).2.1;rwa [Nat.zero_add]at this,λi v hi e=>absurd (slot_lt e) (Nat.not_lt.mpr hi),λy i v e1 e2=>?_,hlam⟩
  ·have h1:=x.above y c (mem_of_lookup e)
   exact⟨⟨_,x.cell y c e⟩,λhm=>absurd (Nat.lt_trans h1 (R.lt hm)) (Nat.lt_irrefl _),nT R.stat.size (Nat.le_of_lt h1)⟩
  ·obtain⟨k,hk',hm⟩:=(defRen_get h0 e).2.2
   have e3:=kind_at hm
   rcases hk' with rfl|rfl
   ·exact hkk.elim (λq=>nomatch e3.symm.trans q) λq=>nomatch e3.symm.trans q
   ·exact cell_at hm rfl
  ·obtain⟨hip,ha⟩:=slot_at e2
   obtain⟨p,xv,h1,h2,h3,h4,_⟩:=pat i (hn▸hip)
   have h5:=defRen_at (n:=0) nd hkinds (i:=i) (by rw[hln,<-hn];exact hip) h1
   rw[Nat.zero_add]at h5
   cases defRen_inj h0 e1 h5
   obtain⟨xv',hx',rv⟩:=VRs_get r ha
   cases h2.symm.trans hx'
   have hm:=List.mem_of_getElem? h1
   have hkk:(callEnvC fd s.heap.objs.size f).kindOf p.1=some p.2:=kind_at hm
   refine⟨xv,?_,VR_mono (Vk.of kp (Safe.nil B.Z) (pre_refl ..)) _ rv⟩
   rcases h4 with h4|h4
   ·rw[h4]at hkk
    exact .inl ⟨hkk,_,hNs,bindL_at hkk hpnd h3⟩
   ·obtain⟨c,hc⟩:=cell_at hm h4
    rw[h4]at hkk
    have:=x.cell p.1 c hc
    rw[bindC_at hkk hpnd h3]at this
    exact .inr ⟨.inl hkk,c,hc,this⟩
 have st0:St B φ s φ {s with heap:=h₁,toks:=tk}:=St.of_kp kp rfl rfl
 have close:∀ {φ' s'},StW B (ownW fd.scope (callEnvC fd s.heap.objs.size f)) φ {s with heap:=h₁,toks:=tk} φ' s'->St B φ s φ' s':=λ{φ' s'} stw=>st0.close stw λb hb=>by
  rcases mC hb with rfl|hb
  ·exact Nat.le_refl _
  ·obtain⟨y,_,hc⟩:=List.mem_filterMap.mp hb
   exact ifE hc λ_ hc=>Nat.le_of_lt (x.above _ _ (mem_of_lookup hc))
 exact ResS.bind (rm.deeper _) (((trS_ok (callN B.T d) d 200).ss E0 hb') h ⟨rm.deeper _,V1,R1⟩) (λe φ' s' stw K'=>kn e s' ⟨φ',close stw,K'.R,vr_none⟩) λv e φ' s' x stw R' rx=>kr v e x s' ⟨φ',close stw,R',rx⟩
theorem calls_ok {B:Base}(Y:Sys B) (AO:Nonempty (AccOps B)) (sup:B.GT "super"=none) (D:∀ f np ns body,B.T f=some (.dfn np ns body)->DefAt B f np ns body) (AN:∀ d,AccNew B (callN B.T d)) (L0:B.T 0=some .lamb) (L1:∀ f,B.T f=some .lamb->f=0) (d:Nat):OrOK B (callN B.T d) d:=by
 induction d with
 | zero=>exact λ_ _ _ _ _ h=>noneE h
 | succ d ih=>
  refine λf args σ v σ' h A Ex φ s xs rm R r=>bindE h λF hT h'=>?_
  cases F with
  | dfn np ns body=>
   rw[if_neg λe=>by rw[e,L0]at hT;exact nomatch hT]
   refine ifE h' λhn h'=>bindE h' λr0 hx h'=>?_
   refine def_ok ⟨Y,ih,AO,sup⟩ (D f np ns body hT) hn hx rm R r (λe s' q=>?_) λv e x s' q=>?_
   ·rw[e]at h';obtain⟨rfl,rfl⟩:=Prod.mk.inj (oJ h');exact q
   ·rw[e]at h';obtain⟨rfl,rfl⟩:=Prod.mk.inj (oJ h');exact q
  | acc=>
   rw[if_neg λe=>by rw[e,L0]at hT;exact nomatch hT]
   exact AN (d+1) f args σ v σ' hT h A Ex φ s xs (rm.mono (Nat.zero_le _)) R r
  | lamb=>
   rw[if_pos (L1 f hT)]
   intro a rest e
   subst e
   refine bindE h' λt h1 h'=>bindE h' λe hl h'=>?_
   have ha:args=[t.1,t.2.1,t.2.2]:=by
    match args,h1 with
    | [_,_,_],h1=>obtain rfl:=oJ h1;rfl
   rw[ha]at r
   exact lam_call ⟨Y,ih,AO,sup⟩ hl h' rm R r
end Mine
end
section
namespace Mine
open PySem PySem.W PySem.Calls PyProof.Rows Builtin Builtin.ObjectAttr
theorem ln_kind:builtinKind "list.__new__"=some .builtinFn:=by decide +kernel
theorem ln_split:splitId "list.__new__"=some ("list","__new__"):=by decide +kernel
theorem ln_quiet:"list.__new__".startsWith "lifetime."=false:=by decide +kernel
structure MkF (K:Frag) (C:Addr) (cd:ClassData):Prop where
 ob:∃ oc od sl,K.lookup C=some ⟨oc,od,.cls cd,sl⟩/\(sl.toList[4]?).join=some (.builtin "list.__new__")
 del:cd.hasDel=false
 m:∃ l,cd.mro = .ref C::l
 self:mroIn K C (.ref C)=some true
 top:mroIn K C (.type "list")=some true
 call:specialIn K (.ref C) "__call__"=some (some (.builtin "type.__call__"))
 typ:instIn K (.ref C) (.type "type")=some true
theorem MkF.cls {K:Frag}{C:Addr}{cd:ClassData}(F:MkF K C cd):clsIn K C=some cd:=by
 obtain⟨oc,od,sl,ho,_⟩:=F.ob
 unfold clsIn;rw[ho]
structure MakesL (M:Model) (h:Heap) (C:Addr):Prop where
 obj:∃ oc od cd sl,h.get? C=some ⟨oc,od,.cls cd,sl⟩/\cd.hasDel=false/\cd.mro.isEmpty=false
 made:Looks M h (Bind.madeBy (.ref C)) (some "list.__new__")
 base:Looks M h (Bind.staticBase (.ref C)) (.ref C)
 self:Looks M h (isSubtype (.ref C) (.ref C)) true
 top:Looks M h (isSubtype (.ref C) (.type "list")) true
 call:Looks M h (specialOf (.ref C) "__call__") (some (.builtin "type.__call__"))
 typ:Looks M h (isInstance (.ref C) (.type "type")) true
theorem makesL_of {K:Frag}{M:Model}{h:Heap}(X:K.In h){C:Addr}{cd:ClassData}(F:MkF K C cd):MakesL M h C:=by
 have hm:Looks M h (mroOf (.ref C)) cd.mro:=(looks_clsIn X F.cls).andThen .now
 obtain⟨⟨oc,od,sl,ho,e3⟩,e2,⟨l,hl⟩,self,top,call,typ⟩:=F
 rw[hl]at hm
 have made:Looks M h (Bind.madeBy (.ref C)) (some "list.__new__"):=by
  intro A Q E s k q
  refine wpAny_bind (hm A _ E s k ?_)
  rw[List.forIn_cons]
  refine wpAny_bind (wpAny_bind (wpAny_bind (wpAny_bind (wpAny_loadPart (k _ _ (X _ _ ho)) (wpAny_pure ?_)))))
  dsimp only
  rw[<-Array.getElem?_toList,e3]
  exact wpAny_pure (wpAny_pure (wpAny_pure q))
 refine⟨⟨oc,od,cd,sl,X _ _ ho,e2,by rw[hl];rfl⟩,made,λA Q E s k q=>?_,looks_mroIn X self,looks_mroIn X top,looks_specialIn X call,looks_instIn X typ⟩
 refine wpAny_bind (hm A _ E s k ?_)
 rw[List.forIn_cons]
 exact wpAny_bind (wpAny_bind (wpAny_bind (made A _ E s k (wpAny_pure (wpAny_pure (wpAny_pure q))))))
noncomputable abbrev accO (C dx:Addr) (items:Array Value) (n:Nat):Obj:={cls:=.ref C,dict:=some dx,data:=.seq items n}
section
variable {prog:Program}{w:World}{A:Around}{K:Frag}{C:Addr}{R:Result->Shared->Prop}{h:Heap}{g:Array GenState}{d:PySem.Drawn}{t:Nat}{os:OsState}
theorem ln_some:(Manifest.signature? "list.__new__").isSome=true:=by decide +kernel
theorem ln_row:Manifest.signature? "list.__new__"=some ((Manifest.signature? "list.__new__").get ln_some):=(Option.some_get _).symm
theorem ln_args (C:Addr) (rest:List Value):Bind.checkArgs "list.__new__" ((Manifest.signature? "list.__new__").get ln_some) ⟨.ref C::rest,[]⟩=pure ():=by kernel_rfl
theorem new_L {rest:List Value}(Y:MakesL (model prog w) h C)
  (hq:R (.ok (.ret (.ref (h.objs.size+1)))) ⟨(h.push emptyDict).push (accO C h.objs.size #[] 0),g,d,t,os⟩):
  codeAny (model prog w) A (.call (.builtin "list.__new__") ⟨.ref C::rest,[]⟩) R ⟨h,g,d,t,os⟩:=by
 obtain⟨⟨oc,od,cd,sl,hC,e2,e4⟩,made,base,self,top,call,typ⟩:=Y
 refine codeAny_call_builtin_code (Code.quiet_builtin _ ln_quiet) ?_
 have isC:∀ {A':Around}{E':Value->Shared->Prop}{Q':Bool->Shared->Prop},Q' true ⟨h,g,d,t,os⟩->wpAny (model prog w) A' (isType (.ref C)) Q' E' ⟨h,g,d,t,os⟩:=λq=>ks_wpAny_isType_cls hC rfl q
 have no:¬((!true)=true):=Bool.false_ne_true
 unfold checkBuiltinCall
 rw[ln_kind,ln_split,ln_row]
 refine wp_yes (c:=(("__new__":String)=="__new__")=true) rfl ?_
 refine wpAny_bind (isC (wp_no no ?_))
 refine wpAny_bind (top.here (wp_no no ?_))
 refine wpAny_bind (base.here (wpAny_bind (made.here (wp_no (Bool.eq_false_iff.mp (bne_self_eq_false _)) ?_))))
 refine wpAny_of_eq (ln_args C rest) ?_
 refine codeAny_builtin_stack F.entry_list_new rfl λp st=>?_
 refine wpAny_bind (isC (wp_no no ?_))
 refine wpAny_bind (Looks.here (owner_list_new.symm▸top) (wp_no no ?_))
 have hC':((h.push emptyDict).push (accO C h.objs.size #[] 0)).get? C=some {cls:=oc,dict:=od,data:=Data.cls cd,slots:=sl}:=Heap.get?_push_of_some _ (Heap.get?_push_of_some _ hC)
 rw[owner_list_new]
 refine wpAny_bind (m:=pure (Data.seq #[])) (wpAny_pure (wp_no no ?_))
 refine wpAny_bind (wpAny_newObj_type ?_)
 refine wpAny_bind (m:=newObjAsIs (.ref C) _ _) ?_
 show wpAny _ _ (newObjAsIs (.ref C) (.seq #[]) (some h.objs.size)) _ _ ⟨h.push emptyDict,g,d,t,os⟩
 refine wpAny_bind (wpAny_alloc' (wpAny_bind (m:=classHasDel C) (wpAny_bind (wpAny_load' hC' (wpAny_pure ?_)))))
 rw[e2]
 refine wpAny_pure (wpAny_pure ?_)
 show R (.ok (.ret (.ref (h.push emptyDict).objs.size))) _
 rw[Heap.size_push]
 exact hq
theorem make_L {rest:List Value}{fI:Addr}(X:K.In h){cd:ClassData}(hm:MkF K C cd) (hi:W.findIn K (.ref C) "__init__"=some (some (.ref fI))) (hf:typeIn K (.ref fI)=some (.type "function"))
  (hq:codeAny (model prog w) (A.under (.builtin "type.__call__" ⟨.ref C::rest,[]⟩)) (.call (.ref fI) ⟨.ref (h.objs.size+1)::rest,[]⟩) (InitBack (h.objs.size+1) R) ⟨(h.push emptyDict).push (accO C h.objs.size #[] 0),g,d,t,os⟩):
  codeAny (model prog w) A (.call (.ref C) ⟨rest,[]⟩) R ⟨h,g,d,t,os⟩:=by
 have Y:=makesL_of (M:=model prog w) X hm
 have Y':=Y
 obtain⟨⟨oc,od,cd,sl,hC,e2,e4⟩,made,base,self,top,call,typ⟩:=Y
 have hi:=looks_findIn (M:=model prog w) X hi
 have hb:=λself=>bind_fn (M:=model prog w) X self hf
 refine codeAny_of_tree ?_
 show wpAny _ _ (callAny (.ref C) _) _ _ _
 refine nd_load hC ?_
 show wpAny _ _ (callAny.viaDunder (.ref C) _) _ _ _
 unfold callAny.viaDunder
 refine wpAny_bind (call.at ?_)
 dsimp only
 rw[tc_bind]
 refine wpAny_bind (wpAny_pure (wpAny_bind (wpAny_pure ?_)))
 refine wpAny_pure (a:=Fin.again (.call (.builtin "type.__call__") ⟨.ref C::rest,[]⟩)) (And.intro rfl ?_)
 refine codeAny_call_builtin_at (Code.quiet_builtin _ (by decide +kernel)) entry_typeCall (check_slot tc_kind tc_split typ (tc_args _ _ _) ?_)
 unfold Builtin.«type.__call__»
 have no:¬((!true)=true):=Bool.false_ne_true
 refine wp_no Bool.false_ne_true ?_
 refine wpAny_bind (Looks.here (((Looks.ld (part:=none) hC).andThen .now).andThen .now) (wp_no (Bool.eq_false_iff.mp e4) ?_))
 refine wpAny_bind (made.here (wpAny_bind (m:=pure (Value.builtin "list.__new__")) (wpAny_pure ?_)))
 refine wpAny_bind (wpAny_holding (wpAny_call (new_L Y' ?_)))
 have k:∀ b o,h.get? b=some o->((h.push emptyDict).push (accO C h.objs.size #[] 0)).get? b=some o:=λb o e=>Heap.get?_push_of_some _ (Heap.get?_push_of_some _ e)
 have hx:((h.push emptyDict).push (accO C h.objs.size #[] 0)).get? (h.objs.size+1)=some (accO C h.objs.size #[] 0):=by heap_get
 have t1:Looks (model prog w) ((h.push emptyDict).push (accO C h.objs.size #[] 0)) (typeOf (.ref (h.objs.size+1))) (.ref C):=(Looks.ld hx).andThen .now
 have s1:=self.keeps k
 have i1:=hi.keeps k
 have b1:=(hb (.ref (h.objs.size+1))).keeps k
 refine wpAny_bind (wpAny_bind (t1.here (s1.here (wp_no no ?_))))
 refine wpAny_bind (wpAny_holding (wpAny_bind (wpAny_bind (t1.here (i1.here ?_)))))
 refine wpAny_holding (wpAny_bind (b1.here ?_))
 refine wpAny_bind (wpAny_call ?_)
 refine codeAny_mono hq λr s' z=>?_
 rcases r with e|(v|_|_|_)<;>first|exact z|exact z.elim|skip
 obtain⟨rfl,z⟩:=z
 exact wpAny_pure (wpAny_pure z)
end
end Mine
end
section
namespace Mine
open PySem PySem.W PySem.Calls PyProof.Rows Builtin Builtin.ObjectAttr
theorem md_slot:Slot "method_descriptor" "__get__" "method_descriptor.__get__":=
 .of (owner:="method_descriptor") (n:="__get__") (by rw[typeLookup_type,builtinLookup_eq_fast];kernel_rfl) (by decide +kernel) (by decide +kernel) (by decide +kernel)
  (by first|exact .inl (by decide +kernel)|exact .inr (by decide +kernel)) (by rw[isSubtype_type];kernel_rfl)
theorem md_entry:entryFor table "method_descriptor.__get__"=some Builtin.«method_descriptor.__get__»:=entryFor_of_tree (by kernel_rfl)
theorem md_args (a b c:Value):argsOk "method_descriptor.__get__" ⟨[a,b,c],[]⟩:=by unfold argsOk;kernel_rfl
theorem wd_slot:Slot "wrapper_descriptor" "__get__" "wrapper_descriptor.__get__":=
 .of (owner:="wrapper_descriptor") (n:="__get__") (by rw[typeLookup_type,builtinLookup_eq_fast];kernel_rfl) (by decide +kernel) (by decide +kernel) (by decide +kernel)
  (by first|exact .inl (by decide +kernel)|exact .inr (by decide +kernel)) (by rw[isSubtype_type];kernel_rfl)
theorem wd_entry:entryFor table "wrapper_descriptor.__get__"=some Builtin.«wrapper_descriptor.__get__»:=entryFor_of_tree (by kernel_rfl)
theorem wd_args (a b c:Value):argsOk "wrapper_descriptor.__get__" ⟨[a,b,c],[]⟩:=by unfold argsOk;kernel_rfl
theorem ty_list_len:typeOf (.builtin "list.__len__")=pure (.type "wrapper_descriptor"):=by show builtinType _=_;rw[builtinType_eq_fast];kernel_rfl
theorem ty_list_init:typeOf (.builtin "list.__init__")=pure (.type "wrapper_descriptor"):=by show builtinType _=_;rw[builtinType_eq_fast];kernel_rfl
theorem ty_list_pop:typeOf (.builtin "list.pop")=pure (.type "method_descriptor"):=by show builtinType _=_;rw[builtinType_eq_fast];kernel_rfl
noncomputable abbrev boundO (bt id:String) (x:Addr):Obj:={cls:=.type bt,data:=.fields #[.builtin id,.ref x]}
section
variable {prog:Program}{w:World}{A:Around}{E:Value->Shared->Prop}{h:Heap}{g:Array GenState}{d:PySem.Drawn}{t:Nat}{os:OsState}{x C:Addr}
theorem run_pop {P:Fin->Shared->Prop}(hi:Looks (model prog w) h (isInstance (.ref x) (.type "list")) true) (hq:P (.done (.ret (.ref h.objs.size))) ⟨h.push (boundO "builtin_function_or_method" "list.pop" x),g,d,t,os⟩):
  wpAny (model prog w) A (Builtin.«method_descriptor.__get__» ⟨[.builtin "list.pop",.ref x,.ref C],[]⟩) P E ⟨h,g,d,t,os⟩:=by
 unfold Builtin.«method_descriptor.__get__»
 refine wpAny_bind (wpAny_of_eq (a:=(.builtin "list.pop",some (.ref x),some (.ref C))) (by first|rfl|kernel_rfl) ?_)
 dsimp only
 rw[if_neg (show ¬(Manifest.toldItsClass.contains "list.pop"=true)by decide +kernel)]
 refine wpAny_bind ?_
 refine wpAny_bind (wpAny_of_eq (a:=(("pop":Str),Value.type "list")) (by first|rfl|kernel_rfl) ?_)
 refine wpAny_bind (hi.here ?_)
 refine wpAny_of_eq rfl ?_
 exact wpAny_bind (wpAny_newObj_type (wpAny_pure hq))
theorem run_len {P:Fin->Shared->Prop}(hi:Looks (model prog w) h (isInstance (.ref x) (.type "list")) true) (hq:P (.done (.ret (.ref h.objs.size))) ⟨h.push (boundO "method-wrapper" "list.__len__" x),g,d,t,os⟩):
  wpAny (model prog w) A (Builtin.«wrapper_descriptor.__get__» ⟨[.builtin "list.__len__",.ref x,.ref C],[]⟩) P E ⟨h,g,d,t,os⟩:=by
 unfold Builtin.«wrapper_descriptor.__get__»
 refine wpAny_bind (wpAny_of_eq (a:=(.builtin "list.__len__",some (.ref x),some (.ref C))) (by first|rfl|kernel_rfl) ?_)
 dsimp only
 refine wpAny_bind ?_
 refine wpAny_bind (wpAny_of_eq (a:=(("__len__":Str),Value.type "list")) (by first|rfl|kernel_rfl) ?_)
 refine wpAny_bind (hi.here ?_)
 refine wpAny_of_eq rfl ?_
 exact wpAny_bind (wpAny_newObj_type (wpAny_pure hq))
theorem run_init {P:Fin->Shared->Prop}(hi:Looks (model prog w) h (isInstance (.ref x) (.type "list")) true) (hq:P (.done (.ret (.ref h.objs.size))) ⟨h.push (boundO "method-wrapper" "list.__init__" x),g,d,t,os⟩):
  wpAny (model prog w) A (Builtin.«wrapper_descriptor.__get__» ⟨[.builtin "list.__init__",.ref x,.ref C],[]⟩) P E ⟨h,g,d,t,os⟩:=by
 unfold Builtin.«wrapper_descriptor.__get__»
 refine wpAny_bind (wpAny_of_eq (a:=(.builtin "list.__init__",some (.ref x),some (.ref C))) (by first|rfl|kernel_rfl) ?_)
 dsimp only
 refine wpAny_bind ?_
 refine wpAny_bind (wpAny_of_eq (a:=(("__init__":Str),Value.type "list")) (by first|rfl|kernel_rfl) ?_)
 refine wpAny_bind (hi.here ?_)
 refine wpAny_of_eq rfl ?_
 exact wpAny_bind (wpAny_newObj_type (wpAny_pure hq))
theorem super_gaB {so D:Addr}{id dt gid bt:String}{Bi:Builtin}{l₀ l:List Value}{K:Frag}{name:PySem.Str}{tk:Tok}{Q:Fin->Shared->Prop}
  (hso:h.get? so=some {cls:=.type "super",dict:=none,data:=.fields #[.ref D,.ref x,.ref C],slots:=#[]}) (hno:Looks (model prog w) h (opaqueClassAbove (.ref C)) none)
  (hC:Looks (model prog w) h (mroOf (.ref C)) l₀) (hl:(l₀.dropWhile (· != .ref D)).drop 1=l) (X:K.In h)
  (hf:alongIn K name l=some (some (.builtin id))) (hty:typeOf (.builtin id)=pure (.type dt)) (hs:Slot dt "__get__" gid) (he:entryFor table gid=some Bi) (ha:argsOk gid ⟨[.builtin id,.ref x,.ref C],[]⟩)
  (run:∀ {A:Around}{E:Value->Shared->Prop}{P:Fin->Shared->Prop},P (.done (.ret (.ref h.objs.size))) ⟨h.push (boundO bt id x),g,d,t,os⟩->wpAny (model prog w) A (Bi ⟨[.builtin id,.ref x,.ref C],[]⟩) P E ⟨h,g,d,t,os⟩)
  (hxC:x≠C) (hn:(name==("__class__":PySem.Str))=false)
  (hq:Q (.done (.ret (.ref h.objs.size))) ⟨h.push (boundO bt id x),g,d,t,os⟩):
  wpAny (model prog w) A (Builtin.«super.__getattribute__» ⟨[.ref so,.str name tk],[]⟩) Q E ⟨h,g,d,t,os⟩:=by
 have hlk:=hs.lookup
 have hne:(Value.ref x==Value.ref C)=false:=by simp[hxC]
 have hTf:(⟨h,g,d,t,os⟩:Shared).TypeIs (.builtin id) dt:=hty
 have hdt:({cls:=.type "super",dict:=none,data:=.fields #[.ref D,.ref x,.ref C],slots:=#[]}:Obj).data = .fields #[.ref D,.ref x,.ref C]:=rfl
 have f0:(#[.ref D,.ref x,.ref C]:Array Value)[0]?=some (.ref D):=rfl
 have f1:(#[.ref D,.ref x,.ref C]:Array Value)[1]?=some (.ref x):=rfl
 have f2:(#[.ref D,.ref x,.ref C]:Array Value)[2]?=some (.ref C):=rfl
 unfold Builtin.«super.__getattribute__»
 refine wpAny_bind (m:=asStr? (.str name tk)) (wpAny_of_eq (a:=some name) rfl (wp_no Bool.false_ne_true ?_))
 refine wpAny_bind (m:=asStr? (.str name tk)) (wpAny_of_eq (a:=some name) rfl ?_)
 refine wpAny_bind (wpAny_field hso hdt f0 (wpAny_bind (wpAny_field hso hdt f1 (wpAny_bind (wpAny_field hso hdt f2 ?_)))))
 refine wp_no (show ¬((Value.ref C==Value.none||(name==("__class__":PySem.Str)))=true)by rw[hn];exact Bool.false_ne_true) ?_
 refine wpAny_bind (ks_wpAny_notOpaque hno (wp_no Bool.false_ne_true ?_))
 refine wpAny_bind (Looks.at hC ?_)
 rw[hl]
 refine wpAny_bind (ks_forIn_along X (λ_ _=>rfl) rfl ?_ hf)
 refine wpAny_bind (wpAny_typeOf hTf (wpAny_bind (wpAny_of_eq hlk ?_)))
 have e:(if (Value.ref x==Value.ref C)=true then Value.none else Value.ref x) = .ref x:=if_neg (Bool.eq_false_iff.mp hne)
 refine wpAny_bind (wpAny_holding ?_)
 rw[e]
 exact wpAny_call_entry hs hTf he (run ⟨_,rfl,wpAny_bind (wpAny_pure (wpAny_pure (wpAny_pure hq)))⟩) ha
theorem getMethod_superB {so D:Addr}{id dt gid bt:String}{Bi:Builtin}{l₀ l:List Value}{K:Frag}{name:PySem.Str}{pl:Sem Bool}{Q:Value×List Value->Shared->Prop}
  (hso:h.get? so=some {cls:=.type "super",dict:=none,data:=.fields #[.ref D,.ref x,.ref C],slots:=#[]}) (hno:Looks (model prog w) h (opaqueClassAbove (.ref C)) none)
  (hC:Looks (model prog w) h (mroOf (.ref C)) l₀) (hl:(l₀.dropWhile (· != .ref D)).drop 1=l) (X:K.In h)
  (hf:alongIn K name l=some (some (.builtin id))) (hty:typeOf (.builtin id)=pure (.type dt)) (hs:Slot dt "__get__" gid) (he:entryFor table gid=some Bi) (ha:argsOk gid ⟨[.builtin id,.ref x,.ref C],[]⟩)
  (run:∀ {A:Around}{E:Value->Shared->Prop}{P:Fin->Shared->Prop},P (.done (.ret (.ref h.objs.size))) ⟨h.push (boundO bt id x),g,d,t+1,os⟩->wpAny (model prog w) A (Bi ⟨[.builtin id,.ref x,.ref C],[]⟩) P E ⟨h,g,d,t+1,os⟩)
  (hxC:x≠C) (hn:(name==("__class__":PySem.Str))=false)
  (hq:Q (.ref h.objs.size,[]) ⟨h.push (boundO bt id x),g,d,t+1,os⟩):
  wpAny (model prog w) A (getMethod (.ref so) name pl) Q E ⟨h,g,d,t,os⟩:=by
 have hlk:=F.ks_slot_super_ga.lookup
 have hcan:=F.ks_canon_super_ga
 have hT:∀ t',(⟨h,g,d,t',os⟩:Shared).TypeIs (.ref so) "super":=λ_=>⟨_,hso,rfl⟩
 unfold getMethod
 refine wpAny_bind (wpAny_specialOf (hT _) hlk ?_)
 show wpAny _ _ (if (Manifest.canonical "super.__getattribute__" != "object.__getattribute__")=true then _ else _) _ _ _
 rw[if_pos hcan]
 unfold getAttr getAttrBy
 refine wpAny_bind (wpAny_bind (wpAny_mkText (wpAny_holding (wpAny_bind (wpAny_typeOf (hT _) (wpAny_bind (wpAny_of_eq hlk ?_)))))))
 show wpAny _ _ (getAttrByItsOwn (.ref so) (.str name t) (.type "super") (.builtin "super.__getattribute__") true false) _ _ _
 unfold getAttrByItsOwn hookBefore callGetattribute boundAndCalled
 refine wpAny_bind (wpAny_of_eq (show(if onTheHeap (.type "super")then typeLookup (.type "super") "__getattr__" else pure none)=pure none from rfl) ?_)
 refine wpAny_bind (wpAny_attempt (wpAny_holding ?_))
 show wpAny _ _ (bindSpecial (.builtin "super.__getattribute__") (.ref so)>>=_) _ _ _
 refine wpAny_bind (wpAny_of_eq (F.ks_slot_super_ga.bind _) ?_)
 refine wpAny_mono (Q:=λv s'=>v = .ref h.objs.size/\s'=⟨h.push (boundO bt id x),g,d,t+1,os⟩) (E:=λ_ _=>False)
  (wpAny_call_entry F.ks_slot_super_ga (hT _) F.ks_entry_super_ga (super_gaB hso hno hC hl X hf hty hs he ha run hxC hn ⟨_,rfl,rfl,rfl⟩) (F.ks_gaArgs_super _ _)) (λv s' hv=>?_) λ_ _ z=>z.elim
 obtain⟨rfl,rfl⟩:=hv
 exact wpAny_pure (wpAny_pure hq)
theorem callWith_boundB {M:Model}{pos:Pos}{u:Addr}{env:Env}{bt id:String}{s:Shared}{Q:Value->Shared->Prop}(hbt:bt="builtin_function_or_method"∨bt="method-wrapper")
  (ho:s.heap.get? u=some (boundO bt id x)) (hq:wpAny M A (call (.ref u) []) Q E s):wpAny M A (callWith pos (.ref u) [] (backTo pos (starEach [] env)) []) Q E s:=by
 unfold callWith
 refine wpAny_bind (wpAny_holding ?_)
 refine evalArgs_nil3 ?_
 refine wpAny_bind (wpAny_standAt ?_)
 refine wpAny_bind (m:=keeperOf (.ref u)) ?_
 unfold keeperOf
 refine wpAny_bind (wpAny_load ho ?_)
 have h1:(Value.type bt != Value.type "method")=true:=by rcases hbt with rfl|rfl<;>decide
 have h2:(Value.type bt==Value.type "builtin_function_or_method"||Value.type bt==Value.type "method-wrapper")=true:=by rcases hbt with rfl|rfl<;>decide
 simp -iota only [h1,h2,if_true]
 refine wpAny_pure ?_
 exact wpAny_bind (wpAny_mono hq (λr s₂ hr=>wpAny_bind (wpAny_holding (wpAny_point (wpAny_pure hr)))) λ_ _ x=>x)
theorem call_boundB {u:Addr}{bt id:String}{s:Shared}{Q:Value->Shared->Prop}{Bi:Builtin}(hbt:bt="builtin_function_or_method"∨bt="method-wrapper") (hpl:id.startsWith "lifetime."=false)
  (ho:s.heap.get? u=some (boundO bt id x)) (hck:∀ {A:Around}{E:Value->Shared->Prop}{Q:Unit->Shared->Prop},Q () s->wpAny (model prog w) A (checkBoundCall id ⟨[.ref x],[]⟩) Q E s) (he:entryFor table id=some Bi)
  (hq:wpAny (model prog w) (A.under (.builtin id ⟨[.ref x],[]⟩)) (Bi ⟨[.ref x],[]⟩) (λfin s'=>∃ v,fin = .done (.ret v)/\Q v s') E s):wpAny (model prog w) A (call (.ref u) []) Q E s:=by
 refine wpAny_call (codeAny_of_tree ?_)
 show wpAny _ _ (callAny (.ref u) _) _ _ _
 unfold callAny
 refine wpAny_bind (wpAny_load ho ?_)
 have h1:(Value.type bt==Value.type "method"||Value.type bt==Value.type "builtin_function_or_method"||Value.type bt==Value.type "method-wrapper")=true:=by rcases hbt with rfl|rfl<;>decide
 have h2:(Value.type bt != Value.type "method")=true:=by rcases hbt with rfl|rfl<;>decide
 simp -iota only [h1,h2,if_true]
 refine wpAny_bind (hck ?_)
 refine wpAny_pure ⟨Code.quiet_builtin _ hpl,codeAny_builtin he ?_⟩
 refine wpAny_mono hq (λfin s' hv=>?_) λ_ _ z=>z
 obtain⟨v,rfl,hv⟩:=hv
 exact hv
end
end Mine
end
section
namespace Mine
open PySem PySem.W PySem.Calls PyProof.Rows Builtin Builtin.ObjectAttr
noncomputable abbrev fscope (names:List (Str×NameKind)):Scope:={kind:=.function,names:=names,isGenerator:=false,isCoroutine:=false,more:=[]}
inductive FnEx (B:Base) (f:Addr) (clo:List (Str×Addr)) (names:List (Str×NameKind)) (body:List Stmt) (bnd:List Value->Option (List (Str×Value))):Prop
 | mk (od:Option Addr) (sl:Array (Option Value)) (fd:FuncData) (ar:Arg) (g:B.K.lookup f=some ⟨.type "function",od,.func fd,sl⟩) (fb:fd.body = .stmts body) (fc:fd.closure=clo) (fs:fd.scope=fscope names) (gl:fd.globals=mainGlobals) (bl:fd.builtins=builtinsNs)
   (ci:codeIn B.K fd.code fd.qualname=true) (pa:(fd.params.posonlyargs++fd.params.args).head?=some ar/\ar.arg=("self":Str)) (bi:∀ vs bs,bnd vs=some bs->∀ s:Shared,B.K.In s.heap->BindsTo s fd ⟨vs,[]⟩ bs)
   (cda:Addr) (oc:Obj) (vs:Array Value) (file:Str) (tf:Tok) (fk:fd.code = .ref cda) (go:B.K.lookup cda=some oc) (hd:oc.data = .fields vs) (hv:vs[2]?=some (.str file tf)) (hf:((B.prog.main.file:Str)==file)=true)
structure FnAt (B:Base) (f:Addr) (clo:List (Str×Addr)) (names:List (Str×NameKind)) (body:List Stmt) (bnd:List Value->Option (List (Str×Value))):Prop where
 ex:FnEx B f clo names body bnd
noncomputable def bnd1:List Value->Option (List (Str×Value)):=λvs=>match vs with
 | [x]=>some [("self",x)]
 | _=>none
noncomputable def bndPush:List Value->Option (List (Str×Value)):=λvs=>match vs with
 | [x,y,z]=>some [("self",x),("fws",y),("string",z)]
 | _=>none
noncomputable def bndInit (t:Tok):List Value->Option (List (Str×Value)):=λvs=>match vs with
 | [x]=>some [("self",x),("initial_size",.int 0 t)]
 | [x,y]=>some [("self",x),("initial_size",y)]
 | _=>none
noncomputable def nmSuper:List (Str×NameKind):=[("self",.local),("__class__",.free),("super",.globalImplicit)]
noncomputable def nmInit:List (Str×NameKind):=[("self",.local),("initial_size",.local),("__class__",.free),("super",.globalImplicit)]
noncomputable def nmPush:List (Str×NameKind):=[("self",.local),("fws",.local),("string",.local)]
noncomputable abbrev superCall (p q:Pos):PySem.Expr:=.Call (.Name "super" p) [] [] q
noncomputable def bodyCnt (p0 p1 p2 p3 p4:Pos):List Stmt:=[.Return (some (.Call (.Attribute (superCall p0 p1) "__len__" p2) [] [] p3)) p4]
noncomputable def bodyInit (p0 p1 p2 p3 p4 p5 p6 p7 p8:Pos):List Stmt:=
 [.Assign [.Attribute (.Name "self" p0) "_initial_size" p1] (.Name "initial_size" p2) p3,.Expr (.Call (.Attribute (superCall p4 p5) "__init__" p6) [] [] p7) p8]
noncomputable def bodyPush (p0 p1 p2 p3 p4 p5 p6:Pos):List Stmt:=[.Expr (.Call (.Attribute (.Name "self" p0) "append" p1) [.Tuple [.Name "fws" p2,.Name "string" p3] 0 p4] [] p5) p6]
noncomputable def bodyPop (p0 p1 p2 p3 p4 p5 p6 p7 p8 p9 q0 q1 q2 q3 q4:Pos):List Stmt:=
 [.If (.Compare (.Call (.Attribute (.Name "self" p0) "part_count" p1) [] [] p2) [.Eq] [.Constant (.int 0) 0 p3] p4) [.Return (some (.Tuple [.Constant (.str "") 0 p5,.Constant (.str "") 0 p6] 0 p7)) p8] [] p9,
  .Return (some (.Call (.Attribute (superCall q0 q1) "pop" q2) [] [] q3)) q4]
structure AccAt (B:Base) where
 cc:Addr
 fInit:Addr
 fPush:Addr
 fPop:Addr
 fCnt:Addr
 cd:ClassData
 t0:Tok
 ps:Nat->Pos
 mro:cd.mro=[.ref B.C,.type "list",.type "object"]
 hasDict:cd.hasDict=true
 qual:cd.qualname=("_Accumulator":Str)
 clsT:typeIn B.K (.ref B.C)=some (.type "type")
 makes:MkF B.K B.C cd
 ga:W.findIn B.K (.ref B.C) "__getattribute__"=some (some (.builtin "list.__getattribute__"))
 gh:W.findIn B.K (.ref B.C) "__getattr__"=some none
 sa:W.findIn B.K (.ref B.C) "__setattr__"=some (some (.builtin "object.__setattr__"))
 tk:takerIn B.K B.C "_initial_size"=some none
 mInit:W.findIn B.K (.ref B.C) "__init__"=some (some (.ref fInit))
 mPush:W.findIn B.K (.ref B.C) "push"=some (some (.ref fPush))
 mPop:W.findIn B.K (.ref B.C) "pop"=some (some (.ref fPop))
 mCnt:W.findIn B.K (.ref B.C) "part_count"=some (some (.ref fCnt))
 mApp:W.findIn B.K (.ref B.C) "append"=some (some (.builtin "list.append"))
 cell:∃ d sl cl,B.K.lookup cc=some ⟨cl,d,.cell (some (.ref B.C)),sl⟩
 third:nsIn B.K cStatics "thirdparty.any"=some none
 mgS:B.mg "super"=none
 mbS:B.mb "super"=some (.type "super")
 top:(B.prog.main.scope.names.lookup ("super":Str)).isSome=false
 dInit:FnAt B fInit [("__class__",cc)] nmInit (bodyInit (ps 0) (ps 1) (ps 2) (ps 3) (ps 4) (ps 5) (ps 6) (ps 7) (ps 8)) (bndInit t0)
 dPush:FnAt B fPush [] nmPush (bodyPush (ps 10) (ps 11) (ps 12) (ps 13) (ps 14) (ps 15) (ps 16)) bndPush
 dPop:FnAt B fPop [("__class__",cc)] nmSuper (bodyPop (ps 20) (ps 21) (ps 22) (ps 23) (ps 24) (ps 25) (ps 26) (ps 27) (ps 28) (ps 29) (ps 30) (ps 31) (ps 32) (ps 33) (ps 34)) bnd1
 dCnt:FnAt B fCnt [("__class__",cc)] nmSuper (bodyCnt (ps 40) (ps 41) (ps 42) (ps 43) (ps 44)) bnd1
section
variable {B:Base}{A:Around}{E:Value->Shared->Prop}{h:Heap}{g:Array GenState}{d:PySem.Drawn}{t:Nat}{os:OsState}{x dx:Addr}
theorem acc_inst {items:Array Value}{n:Nat}{sl:Array (Option Value)}{od:Obj}(hx:h.get? x=some ⟨.ref B.C,some dx,.seq items n,sl⟩) (hd:h.get? dx=some od):InstAt h x ⟨.ref B.C,some dx,.seq items n,sl⟩ B.C (some od):=⟨hx,rfl,rfl,hd⟩
theorem acc_isList (AT:AccAt B) (X:B.K.In h){items:Array Value}{n:Nat}{sl:Array (Option Value)}(hx:h.get? x=some ⟨.ref B.C,some dx,.seq items n,sl⟩):Looks (model B.prog B.w) h (isInstance (.ref x) (.type "list")) true:=by
 have ht:Looks (model B.prog B.w) h (typeOf (.ref x)) (.ref B.C):=(Looks.ld hx).andThen .now
 refine ht.andThen (looks_mroIn X ?_)
 unfold mroIn;rw[AT.makes.cls,Option.bind_some,AT.mro];rfl
theorem acc_mro (AT:AccAt B) (X:B.K.In h):Looks (model B.prog B.w) h (mroOf (.ref B.C)) [.ref B.C,.type "list",.type "object"]:=by
 rw[<-AT.mro]
 exact λA Q E s k q=>wpAny_bind ((looks_clsIn X AT.makes.cls) A _ E s k (wpAny_pure q))
theorem acc_cls (AT:AccAt B) (X:B.K.In h):∃ oD,h.get? B.C=some oD/\oD.data = .cls AT.cd:=
 have⟨_,_,_,ho,_⟩:=AT.makes.ob
 ⟨_,X _ _ ho,rfl⟩
theorem acc_ne (AT:AccAt B) (X:B.K.In h){items:Array Value}{n:Nat}{sl:Array (Option Value)}(hx:h.get? x=some ⟨.ref B.C,some dx,.seq items n,sl⟩):x≠B.C:=by
 rintro rfl
 obtain⟨oD,h1,h2⟩:=acc_cls AT X
 rw[hx]at h1;cases h1;cases h2
structure Low (B:Base) (h:Heap):Prop where
 K:B.K.In h
 g:h.Ns mainGlobals B.mg
 b:h.Ns builtinsNs B.mb
 nolimit:h.NoLimit
theorem Low.keeps {h':Heap}(L:Low B h) (k:∀ b o,h.get? b=some o->h'.get? b=some o):Low B h':=⟨L.K.keeps k,L.g.keeps k,L.b.keeps k,L.nolimit.keeps k⟩
theorem Stat.low (S:Stat B h):Low B h:=⟨S.K,S.g,S.b,S.nolimit⟩
structure InM (B:Base) (AT:AccAt B) (f:Addr) (env:Env) (x:Addr) (h:Heap):Prop where
 fk:env.scope.kind = .function
 ks:env.kindOf "super"=some .globalImplicit
 kc:env.kindOf "__class__"=some .free
 kself:env.kindOf "self"=some .local
 cells:env.cells.lookup ("__class__":Str)=some AT.cc
 glob:env.globals=mainGlobals
 blt:env.builtins=builtinsNs
 func:env.func=some f
 ns:∃ m,h.Ns env.locals m/\m "self"=some (.ref x)
theorem super_here (AT:AccAt B){f:Addr}{env:Env} {clo names body bnd}{body0:List Stmt}{p0 p1:Pos}{attr:Str}{whole:Sem Value}{Q:Value->Shared->Prop}(D:FnAt B f clo names body bnd) (I:InM B AT f env x h)
  (hcd:∃ fd od sl,B.K.lookup f=some ⟨.type "function",od,.func fd,sl⟩/\env.code=fd.code)
  (S:Low B h){items:Array Value}{n:Nat}{sl:Array (Option Value)}(hx:h.get? x=some ⟨.ref B.C,some dx,.seq items n,sl⟩) (hat:(attr==("__class__":Str))=false)
  (hq:∀ h',h'.get? h.objs.size=some {cls:=.type "super",dict:=none,data:=.fields #[.ref B.C,.ref x,.ref B.C],slots:=#[]}->(∀ y o,h.get? y=some o->h'.get? y=some o)->Q (.ref h.objs.size) ⟨h',g,d,t,os⟩):
  PySem.wpAt (model B.prog B.w) A (.func body0 env) (attributeBase (superCall p0 p1) attr env whole) Q E ⟨h,g,d,t,os⟩:=by
 have X:B.K.In h:=S.K
 obtain⟨od,slf,fd,ar,hf,_,_,_,_,_,_,⟨har,harg⟩,_,cda,oc,vs,file,tf,hcode,hcda,hoc,hvs,hfile⟩:=D.ex
 obtain⟨fd',od',sl',hf',hec⟩:=hcd
 rw[hf]at hf';cases hf'
 obtain⟨oD,hD1,hD2⟩:=acc_cls AT X
 obtain⟨dc,slc,cl,hcell⟩:=AT.cell
 obtain⟨m,hm,hself⟩:=I.ns
 refine ks_wpAt_super_base (s:=⟨h,g,d,t,os⟩) (env:=env) I.ks I.kc hat I.func (X _ _ hf) rfl har (hec.trans hcode) (X _ _ hcda) hoc hvs hfile AT.top ?_
 refine ks_loadName_global I.fk I.ks (loadGlobal_builtin (env:=env) (by rw[I.glob];exact S.g) AT.mgS (by rw[I.blt];exact S.b) AT.mbS ⟨rfl,?_⟩)
 refine wpAny_loadName_free I.fk I.kc I.cells ⟨_,X _ _ hcell,rfl⟩ ?_
 rw[harg]
 refine wpAny_loadName_local I.fk I.kself hm hself ?_
 refine ks_wpAny_isType_cls hD1 hD2 ⟨rfl,?_⟩
 refine ks_wpAny_call_super hD1 hD2 hx rfl (λc e=>by cases e) (looks_mroIn X ?_) (λh' e k=>hq h' e k)
 unfold mroIn;rw[AT.makes.cls,Option.bind_some,AT.mro];simp
noncomputable abbrev accObj (B:Base) (dx:Addr) (items:Array Value) (n:Nat) (sl:Array (Option Value)):Obj:=⟨.ref B.C,some dx,.seq items n,sl⟩
theorem eval_super {p0 p1 p2 p3:Pos}{name:Str}{env:Env}(hl:p2.endLine=p3.line):eval (.Call (.Attribute (superCall p0 p1) name p2) [] [] p3) env=(do
   let ov <-attributeBase (superCall p0 p1) name env (eval (superCall p0 p1) env)
   standAt p2.atName
   let (f,first) <-holding [ov] (getMethod ov name (do return (<-importBound (superCall p0 p1) env).getD true))
   callWith p3 f first (backTo p3 (starEach [] env)) []):=by
 have hpos:methodCallPos true (superCall p0 p1) env p2 p3=pure p3:=by unfold methodCallPos;simp[hl]
 show(attributeBase (superCall p0 p1) name env (eval (superCall p0 p1) env)>>=λov=>standAt p2.atName>>=λ_=>holding [ov] (getMethod ov name _)>>=λr=>methodCallPos true (superCall p0 p1) env p2 p3>>=λcallPos=>callWith callPos r.1 r.2 (backTo p3 (starEach [] env)) [])=_
 rw[hpos]
 rfl
theorem super_meth (AT:AccAt B){f:Addr}{env:Env} {clo names body bnd}{body0:List Stmt}{p0 p1 p2 p3:Pos}{name:Str}{id dt gid bt:String}{Bi:Builtin}{Q:Value->Shared->Prop}(D:FnAt B f clo names body bnd) (I:InM B AT f env x h)
  (hcd:∃ fd od sl,B.K.lookup f=some ⟨.type "function",od,.func fd,sl⟩/\env.code=fd.code)
  (S:Low B h){items:Array Value}{n:Nat}{sl:Array (Option Value)}(hx:h.get? x=some (accObj B dx items n sl)) (hat:(name==("__class__":Str))=false)
  (hl:p2.endLine=p3.line) (hbt:bt="builtin_function_or_method"∨bt="method-wrapper")
  (hf:alongIn B.K name [.type "list",.type "object"]=some (some (.builtin id))) (hty:typeOf (.builtin id)=pure (.type dt)) (hs:Slot dt "__get__" gid) (he:entryFor table gid=some Bi) (ha:argsOk gid ⟨[.builtin id,.ref x,.ref B.C],[]⟩)
  (run:∀ {h:Heap}{A:Around}{t:Nat}{E:Value->Shared->Prop}{P:Fin->Shared->Prop},Looks (model B.prog B.w) h (isInstance (.ref x) (.type "list")) true->P (.done (.ret (.ref h.objs.size))) ⟨h.push (boundO bt id x),g,d,t,os⟩->wpAny (model B.prog B.w) A (Bi ⟨[.builtin id,.ref x,.ref B.C],[]⟩) P E ⟨h,g,d,t,os⟩)
  (hpl:id.startsWith "lifetime."=false){Bx:Builtin}(hen:entryFor table id=some Bx)
  (hck:∀ {h:Heap}{t:Nat}{A:Around}{E:Value->Shared->Prop}{Q:Unit->Shared->Prop},Low B h->h.get? x=some (accObj B dx items n sl)->Q () ⟨h,g,d,t,os⟩->wpAny (model B.prog B.w) A (checkBoundCall id ⟨[.ref x],[]⟩) Q E ⟨h,g,d,t,os⟩)
  (hq:∀ A h' t',(∀ b o,h.get? b=some o->h'.get? b=some o)->wpAny (model B.prog B.w) A (Bx ⟨[.ref x],[]⟩) (λfin s'=>∃ v,fin = .done (.ret v)/\Q v s') E ⟨h',g,d,t',os⟩):
  PySem.wpAt (model B.prog B.w) A (.func body0 env) (eval (.Call (.Attribute (superCall p0 p1) name p2) [] [] p3) env) Q E ⟨h,g,d,t,os⟩:=by
 refine ks_wpAt_MethodCall ?_ (eval_super hl)
 refine super_here AT D I hcd S hx hat λh1 hso k1=>?_
 have S1:=S.keeps k1
 have hx1:=k1 _ _ hx
 refine getMethod_superB hso (looks_opaque S1.K AT.third) (acc_mro AT S1.K) (by simp) S1.K hf hty hs he ha (run (acc_isList AT S1.K hx1)) (acc_ne AT S1.K hx1) hat ?_
 have k2:∀ b o,h1.get? b=some o->(h1.push (boundO bt id x)).get? b=some o:=λb o e=>Heap.get?_push_of_some _ e
 have hu:(h1.push (boundO bt id x)).get? h1.objs.size=some (boundO bt id x):=Heap.get?_push_at rfl rfl
 refine callWith_boundB (x:=x) (bt:=bt) (id:=id) hbt hu ?_
 refine call_boundB (x:=x) (bt:=bt) (id:=id) hbt hpl hu (hck (S1.keeps k2) (k2 _ _ hx1)) hen ?_
 exact hq _ _ _ λb o e=>k2 _ _ (k1 _ _ e)
theorem acc_noMod (AT:AccAt B) (X:B.K.In h){items:Array Value}{n:Nat}{sl:Array (Option Value)}(hx:h.get? x=some (accObj B dx items n sl)):Looks (model B.prog B.w) h (isInstance (.ref x) (.type "module")) false:=by
 have ht:Looks (model B.prog B.w) h (typeOf (.ref x)) (.ref B.C):=(Looks.ld hx).andThen .now
 refine ht.andThen (looks_mroIn X ?_)
 unfold mroIn;rw[AT.makes.cls,Option.bind_some,AT.mro];rfl
theorem ck_len {Q:Unit->Shared->Prop}{s:Shared}(hq:Q () s):wpAny (model B.prog B.w) A (checkBoundCall "list.__len__" ⟨[.ref x],[]⟩) Q E s:=
 wpAny_of_eq (a:=()) (by kernel_rfl) hq
theorem ck_init {Q:Unit->Shared->Prop}{s:Shared}(hq:Q () s):wpAny (model B.prog B.w) A (checkBoundCall "list.__init__" ⟨[.ref x],[]⟩) Q E s:=
 wpAny_of_eq (a:=()) (by kernel_rfl) hq
theorem pop_some:(Manifest.signature? "list.pop").isSome=true:=by decide +kernel
theorem pop_row:Manifest.signature? "list.pop"=some ((Manifest.signature? "list.pop").get pop_some):=(Option.some_get _).symm
theorem pop_kind:builtinKind "list.pop"=some .method:=by decide +kernel
theorem ck_pop (AT:AccAt B) (S:Low B h){items:Array Value}{n:Nat}{sl:Array (Option Value)}(hx:h.get? x=some (accObj B dx items n sl)){Q:Unit->Shared->Prop}(hq:Q () ⟨h,g,d,t,os⟩):
  wpAny (model B.prog B.w) A (checkBoundCall "list.pop" ⟨[.ref x],[]⟩) Q E ⟨h,g,d,t,os⟩:=by
 have X:=S.K
 have ht:Looks (model B.prog B.w) h (typeOf (.ref x)) (.ref B.C):=(Looks.ld hx).andThen .now
 have hm:Looks (model B.prog B.w) h (classData B.C) AT.cd:=looks_clsIn X AT.makes.cls
 unfold checkBoundCall
 rw[pop_row,pop_kind]
 dsimp only
 rw[if_neg (by decide)]
 refine wpAny_bind ((acc_noMod AT X hx).here ?_)
 rw[if_neg (by decide +kernel)]
 refine wpAny_bind (ks_wpAny_isType_inst hx (λc e=>by cases e) ?_)
 rw[if_neg (by decide)]
 refine wpAny_bind (ht.here ?_)
 refine wpAny_bind (hm.here ?_)
 refine wpAny_bind ((looks_typeIn X AT.clsT).here ?_)
 rw[if_pos (by decide),AT.qual]
 exact wpAny_of_eq (a:=()) (by kernel_rfl) hq
end
end Mine
end
section
namespace Mine
open PySem PySem.W PySem.Calls PyProof.Rows Builtin Builtin.ObjectAttr
section
variable {B:Base}{A:Around}{E:Value->Shared->Prop}{h:Heap}{g:Array GenState}{d:PySem.Drawn}{t:Nat}{os:OsState}{x dx:Addr}
theorem frame {f:Addr} {clo names body bnd}{vs:List Value}{bs:List (Str×Value)}{Q:Value->Shared->Prop}{s:Shared}(D:FnAt B f clo names body bnd) (hroom:A.depth<recursionLimit) (L:Low B s.heap) (hb:bnd vs=some bs)
  (hcell:∀ x∈names,x.2 ≠ .cell) (hloc:∀ y∈bs,names.lookup y.1=some .local)
  (hq:∀ env h₀,env.scope=fscope names->env.cells=clo->env.globals=mainGlobals->env.builtins=builtinsNs->env.func=some f->(∃ fd od sl,B.K.lookup f=some ⟨.type "function",od,.func fd,sl⟩/\env.code=fd.code)->
   h₀.Ns env.locals (λx=>bs.reverse.lookup x)->(∀ b o,s.heap.get? b=some o->h₀.get? b=some o)->env.locals=s.heap.objs.size->
   PySem.wpAt (model B.prog B.w) (A.deeper env) (.func body env) (execs body env) (λfl s'=>Q (match fl with | .ret v=>v|_=>.none) s') (λ_ _=>False) {s with heap:=h₀,toks:=s.toks+bs.length}):
  wpAny (model B.prog B.w) A (call (.ref f) vs) Q E s:=by
 obtain⟨od,sl,fd,ar,hf,hbody,hclo,hsc,hgl,hbl,hcode,har,hbind,_⟩:=D.ex
 refine wpAny_call (ks_codeAny_call_defAt (fd:=fd) (body:=body) (binds:=bs) hroom (L.K _ _ hf) rfl L.nolimit (codeRec_of L.K hcode) hbody (hbind vs bs hb s L.K) (by rw[hsc];exact hcell) (by rw[hsc];exact hloc) (λh₀ hns hk=>?_) (by rw[hsc]) (by rw[hsc]) (by rw[hsc]))
 exact ks_wpAt_mono (hq (callEnv fd s.heap.objs.size f) h₀ hsc hclo hgl hbl rfl ⟨fd,od,sl,hf,rfl⟩ hns hk rfl) (λfl s' z=>z) λ_ _ z=>z.elim
theorem run_list_len {items:Array Value}{n:Nat}{sl:Array (Option Value)}(hx:h.get? x=some (accObj B dx items n sl)){P:PySem.Fin->Shared->Prop}(hq:P (.done (.ret (.int items.size t))) ⟨h,g,d,t+1,os⟩):
  wpAny (model B.prog B.w) A (Builtin.«list.__len__» ⟨[.ref x],[]⟩) P E ⟨h,g,d,t,os⟩:=by
 unfold Builtin.«list.__len__» slotArgs
 wp_walk using wpAny_loadPart' hx
 exact hq
theorem run_list_init {n:Nat}{sl:Array (Option Value)}(hx:h.get? x=some (accObj B dx #[] n sl)){P:PySem.Fin->Shared->Prop}(hq:∀ h' n',Heap.SameBut x h h'->h'.get? x=some (accObj B dx #[] n' sl)->P (.done (.ret .none)) ⟨h',g,d,t,os⟩):
  wpAny (model B.prog B.w) A (Builtin.«list.__init__» ⟨[.ref x],[]⟩) P E ⟨h,g,d,t,os⟩:=by
 unfold Builtin.«list.__init__»
 wp_walk using wpAny_loadPart' hx
 obtain⟨n',e⟩:∃ n',Obj.mapSeq (λ_=>#[]) (accObj B dx #[] n sl)=accObj B dx #[] n' sl:=⟨_,rfl⟩
 exact hq _ n' (Heap.SameBut.update ..) (by rw[Heap.get?_update_self _ hx (by rw[e];rfl),e])
theorem run_list_pop {items:Array Value}{n:Nat}{sl:Array (Option Value)}{y:Value}(hx:h.get? x=some (accObj B dx items n sl)) (hy:items[items.size-1]?=some y) (hs1:items.size<=sizeLine){P:PySem.Fin->Shared->Prop}
  (hq:∀ h' n',Heap.SameBut x h h'->h'.get? x=some (accObj B dx (items.eraseIdxIfInBounds (items.size-1)) n' sl)->P (.done (.ret y)) ⟨h',g,d,t,os⟩):
  wpAny (model B.prog B.w) A (Builtin.«list.pop» ⟨[.ref x],[]⟩) P E ⟨h,g,d,t,os⟩:=by
 have hpos:0<items.size:=by
  rcases Nat.eq_zero_or_pos items.size with h0|h0
  ·simp[h0]at hy
  ·exact h0
 have hne:¬items.isEmpty=true:=by
  intro he;have:items.size=0:=by simpa using he
  omega
 have hk:seqIndex? (-1) items.size=some (items.size-1):=by
  rw[seqIndex_neg (by decide) (by omega)];exact congrArg some ((congrArg Int.toNat (Int.add_comm _ _)).trans (Int.toNat_sub items.size 1))
 unfold Builtin.«list.pop»
 wp_walk using wpAny_loadPart' hx
 simp -iota only [hk,hy,Option.bind_some,Option.map_some]
 have hz':(items.eraseIdxIfInBounds (items.size-1)).size<=sizeLine+1:=nT (by rw[Array.eraseIdxIfInBounds];split<;>simp) (Nat.le_succ_of_le hs1)
 obtain⟨n',e⟩:∃ n',Obj.mapSeq (λxs=>xs.eraseIdxIfInBounds (items.size-1)) (accObj B dx items n sl)=accObj B dx (items.eraseIdxIfInBounds (items.size-1)) n' sl:=⟨_,rfl⟩
 wp_walk using (wpAny_updateSeq hx rfl (hz:=hs1) (_hz':=hz')),wpAny_loadPart' hx
 exact hq _ n' (Heap.SameBut.update ..) (by rw[Heap.get?_update_self _ hx (by rw[e];rfl),e])
theorem acc_append (AT:AccAt B) (L:Low B h){items:Array Value}{n:Nat}{sl:Array (Option Value)}{y:Value}(hx:h.get? x=some (accObj B dx items n sl)) (hs1:items.size<=sizeLine){Q:Value->Shared->Prop}
  (hq:∀ h' n',Heap.SameBut x h h'->h'.get? x=some (accObj B dx (items.push y) n' sl)->Q .none ⟨h',g,d,t,os⟩):
  wpAny (model B.prog B.w) A (call (.builtin "list.append") [.ref x,y]) Q E ⟨h,g,d,t,os⟩:=by
 obtain⟨n',e⟩:∃ n',Obj.mapSeq (λxs=>xs.push y) (accObj B dx items n sl)=accObj B dx (items.push y) n' sl:=⟨_,rfl⟩
 refine wpAny_call (codeAny_call_builtin (by decide +kernel) entry_list_append (kfo_check (owner:="list") (n:="append") (by decide +kernel) (by decide +kernel) (acc_isList AT L.K hx) (args_list_append _ _) ?_))
 show wpAny _ _ (updateSeq x (·.push y)>>=λ_=>ret .none) _ _ _
 refine wpAny_bind ?_
 refine wpAny_updateSeq hx rfl (wpAny_pure (hq _ n' (Heap.SameBut.update ..) ?_))
 rw[Heap.get?_update_self _ hx (by rw[e];rfl),e]
theorem inM {AT:AccAt B}{f:Addr}{env:Env}{names:List (Str×NameKind)}{bs:List (Str×Value)}(h1:env.scope=fscope names) (h2:env.cells=[(("__class__":Str),AT.cc)]) (h3:env.globals=mainGlobals) (h4:env.builtins=builtinsNs) (h5:env.func=some f)
  (hn:names=nmSuper∨names=nmInit) (hns:h.Ns env.locals (λx=>bs.reverse.lookup x)) (hs:bs.reverse.lookup ("self":Str)=some (.ref x)):InM B AT f env x h:=by
 have hk:∀ y,env.kindOf y=names.lookup y:=λy=>by show env.scope.names.lookup y=_;rw[h1]
 refine⟨by rw[h1],?_,?_,?_,by rw[h2];rfl,h3,h4,h5,_,hns,hs⟩ <;> · rw[hk];rcases hn with rfl|rfl<;>rfl
theorem cnt_ok (AT:AccAt B){s:Shared}(L:Low B s.heap) (hroom:A.depth<recursionLimit){items:Array Value}{n:Nat}{sl:Array (Option Value)}(hx:s.heap.get? x=some (accObj B dx items n sl)) (hl:(AT.ps 42).endLine=(AT.ps 43).line){Q:Value->Shared->Prop}
  (hq:∀ h' t' t'',(∀ b o,s.heap.get? b=some o->h'.get? b=some o)->Q (.int items.size t') {s with heap:=h',toks:=t''}):
  wpAny (model B.prog B.w) A (call (.ref AT.fCnt) [.ref x]) Q E s:=by
 obtain⟨hh,g,d,t,os⟩:=s
 refine frame AT.dCnt hroom L (bs:=[("self",.ref x)]) rfl (by decide) (by intro y hy;rw[mS hy];rfl) λenv h₀ h1 h2 h3 h4 h5 h6 hns hk _=>?_
 have L0:=L.keeps hk
 refine ks_wpAt_execs_cons (ks_wpAt_Return_some ?_)
 refine super_meth AT AT.dCnt (inM h1 h2 h3 h4 h5 (.inl rfl) hns rfl) h6 L0 (hk _ _ hx) (by decide) hl (.inr rfl) (id:="list.__len__") (by kernel_rfl) ty_list_len wd_slot wd_entry (wd_args _ _ _) (λhi hP=>run_len hi hP) (by decide +kernel) F.entry_list_len (λ_ _ hQ=>ck_len hQ) λA' h' t' k=>?_
 refine run_list_len (k _ _ (hk _ _ hx)) ⟨_,rfl,?_⟩
 exact hq _ _ _ λb o e=>k _ _ (hk _ _ e)
end
end Mine
end
section
namespace Mine
open PySem PySem.W PySem.Calls PyProof.Rows Builtin Builtin.ObjectAttr
section
variable {B:Base}{A:Around}{E:Value->Shared->Prop}{h:Heap}{g:Array GenState}{d:PySem.Drawn}{t:Nat}{os:OsState}{x dx:Addr}
theorem refuse_list (self:Value) (C:Addr):refuseLoop self "__setattr__" [.ref C,.type "list",.type "object"]=pure ():=by
 rw[refuseLoop_ref];kernel_rfl
noncomputable abbrev initDict (P:Params) (t1:Tok) (v:Value):Obj:={cls:=.type "dict",data:=.dict #[⟨PyData.keyHash P "_initial_size",.str "_initial_size" t1,v⟩] 1}
theorem put_empty (P:Params) (t1:Tok) (v:Value):Obj.putName "_initial_size" (PyData.keyHash P "_initial_size") (.str "_initial_size" t1) v emptyDict=initDict P t1 v:=by rfl
theorem set_any (AT:AccAt B) (L:Low B h){items:Array Value}{n:Nat}{sl:Array (Option Value)}{v:Value}{es:Array DictEntry}{ep:Nat}{nw:Tok->Obj}(hx:h.get? x=some (accObj B dx items n sl)) (hd:h.get? dx=some {cls:=.type "dict",data:=.dict es ep}) (hk:aRefKeyMayBeTheName "_initial_size" es=false)
  (hp:∀ u,Obj.putName "_initial_size" (PyData.keyHash B.w.params "_initial_size") (.str "_initial_size" u) v {cls:=.type "dict",data:=.dict es ep}=nw u) (hn:∀ u,∃ es' ep',nw u={cls:=.type "dict",data:=.dict es' ep'}/\es'.size<=1){Q:Unit->Shared->Prop}
  (hq:∀ h' t1 t',Heap.SameBut dx h h'->h'.get? dx=some (nw t1)->Q () ⟨h',g,d,t',os⟩):
  wpAny (model B.prog B.w) A (setAttr (.ref x) "_initial_size" v) Q E ⟨h,g,d,t,os⟩:=by
 have X:=L.K
 have I:=acc_inst (B:=B) hx hd
 refine set_plain (s:=⟨h,g,d,t,os⟩) X I AT.sa ?_
 have SF:=PySem.F.store_object
 have hm:=acc_mro (B:=B) AT X
 have sub:Looks (model B.prog B.w) h (isInstance (.ref x) (.type "object")) true:=I.type.andThen (looks_mroIn X (by unfold mroIn;rw[AT.makes.cls,Option.bind_some,AT.mro];rfl))
 refine codeAny_call_builtin SF.slot.plain SF.entry (@check_slot (model B.prog B.w) _ _ _ "object.__setattr__" "object" "__setattr__" (.ref x) [.str "_initial_size" t,v] [] _ SF.kind SF.split sub (SF.args (.ref x) (.str "_initial_size" t) v) ?_)
 obtain⟨attr,ha,hr⟩:=Option.bind_eq_some_iff.mp AT.tk
 have L3:Looks (model B.prog B.w) h (storeTaker? attr) none:=by
  cases attr with
  | none=>exact .now
  | some a=>
   obtain⟨b,hb,hr⟩:=Option.map_eq_some_iff.mp hr
   refine(looks_takesIn X hb).andThen ?_
   cases b<;>first|exact .now|cases hr
 rw[osa_eq,refuse_eq]
 refine wpAny_bind (wpAny_bind (I.type.here (wpAny_bind (hm.here ?_))))
 rw[refuse_list]
 refine wpAny_pure (wpAny_bind (I.type.here (wpAny_bind ((looks_findIn X ha).here (wpAny_bind (L3.here ?_))))))
 refine wpAny_bind (wpAny_pure (wpAny_bind (wpAny_bind (wpAny_loadPart hx (wpAny_bind ((looks_clsIn X AT.makes.cls).here ?_))))))
 rw[AT.hasDict]
 refine wpAny_pure (a:=some dx) (wpAny_bind (wpAny_pure (wpAny_bind ?_)))
 unfold nsSet
 refine wpAny_bind (wpAny_bind (wpAny_askSetting (wpAny_pure (wpAny_bind (wpAny_mkText (wpAny_bind (wpAny_loadPart hd ?_)))))))
 dsimp only
 rw[if_neg (by rw[hk];exact Bool.false_ne_true)]
 obtain⟨es',ep',e1,e2⟩:=hn (t+1)
 have hself:(h.update dx (Obj.putName "_initial_size" (PyData.keyHash B.w.params "_initial_size") (.str "_initial_size" (t+1)) v)).get? dx=some (nw (t+1)):=by
  rw[Heap.get?_update_self _ hd (by rw[hp,e1];rfl),hp]
 refine wpAny_updatePart hd ?_
 refine wpAny_bind (wpAny_lookBehind hself (by rw[e1];exact pastItsLine_dict (nT e2 (by rw[sizeLine_eq];omega))) ?_)
 exact wpAny_pure (hq _ _ _ (Heap.SameBut.update ..) hself)
theorem set_size (AT:AccAt B) (L:Low B h){items:Array Value}{n:Nat}{sl:Array (Option Value)}{v:Value}(hx:h.get? x=some (accObj B dx items n sl)) (hd:h.get? dx=some emptyDict){Q:Unit->Shared->Prop}
  (hq:∀ h' t1 t',Heap.SameBut dx h h'->h'.get? dx=some (initDict B.w.params t1 v)->Q () ⟨h',g,d,t',os⟩):
  wpAny (model B.prog B.w) A (setAttr (.ref x) "_initial_size" v) Q E ⟨h,g,d,t,os⟩:=
 set_any AT L hx hd (by decide) (λu=>put_empty B.w.params u v) (λu=>⟨_,_,rfl,Nat.le_refl 1⟩) hq
theorem frameC {f:Addr} {clo names body bnd}{vs:List Value}{bs:List (Str×Value)}{Q:Value->Shared->Prop}{s:Shared}(D:FnAt B f clo names body bnd) (hroom:A.depth<recursionLimit) (L:Low B s.heap) (hb:bnd vs=some bs)
  (hcell:∀ x∈names,x.2 ≠ .cell) (hloc:∀ y∈bs,names.lookup y.1=some .local)
  (hq:∀ env h₀,env.scope=fscope names->env.cells=clo->env.globals=mainGlobals->env.builtins=builtinsNs->env.func=some f->(∃ fd od sl,B.K.lookup f=some ⟨.type "function",od,.func fd,sl⟩/\env.code=fd.code)->
   h₀.Ns env.locals (λx=>bs.reverse.lookup x)->(∀ b o,s.heap.get? b=some o->h₀.get? b=some o)->env.locals=s.heap.objs.size->
   PySem.wpAt (model B.prog B.w) (A.deeper env) (.func body env) (execs body env) (λfl s'=>Q (match fl with | .ret v=>v|_=>.none) s') (λ_ _=>False) {s with heap:=h₀,toks:=s.toks+bs.length}):
  codeAny (model B.prog B.w) A (.call (.ref f) ⟨vs,[]⟩) (λr s'=>∃ v,r = .ok (.ret v)/\Q v s') s:=by
 obtain⟨od,sl,fd,ar,hf,hbody,hclo,hsc,hgl,hbl,hcode,har,hbind,_⟩:=D.ex
 refine ks_codeAny_call_defAt (fd:=fd) (body:=body) (binds:=bs) hroom (L.K _ _ hf) rfl L.nolimit (codeRec_of L.K hcode) hbody (hbind vs bs hb s L.K) (by rw[hsc];exact hcell) (by rw[hsc];exact hloc) (λh₀ hns hk=>?_) (by rw[hsc]) (by rw[hsc]) (by rw[hsc])
 exact ks_wpAt_mono (hq (callEnv fd s.heap.objs.size f) h₀ hsc hclo hgl hbl rfl ⟨fd,od,sl,hf,rfl⟩ hns hk rfl) (λfl s' z=>⟨_,rfl,z⟩) λ_ _ z=>z.elim
theorem depth_tc {C:Addr}{rest:List Value}:(A.under (.builtin "type.__call__" ⟨.ref C::rest,[]⟩)).depth=A.depth+1:=rfl
theorem new_ok (AT:AccAt B){s:Shared}(L:Low B s.heap) (hroom:A.depth+1<recursionLimit){rest:List Value}{sz:Value}(hb:∀ x,bndInit AT.t0 (.ref x::rest)=some [(("self":Str),.ref x),(("initial_size":Str),sz)]) (hl:(AT.ps 6).endLine=(AT.ps 7).line){Q:Value->Shared->Prop}
  (hsw:∀ env,swapsWith (.Name "initial_size" (AT.ps 2)) (some (.Attribute (.Name "self" (AT.ps 0)) "_initial_size" (AT.ps 1))) (AT.ps 3).line env=pure false)
  (hsw2:∀ env,swapsWith (.Call (.Attribute (superCall (AT.ps 4) (AT.ps 5)) "__init__" (AT.ps 6)) [] [] (AT.ps 7)) none (AT.ps 8).line env=pure false)
  (hq:∀ h' t' x dx n t1,(∀ b o,s.heap.get? b=some o->h'.get? b=some o)->s.heap.objs.size<=x->s.heap.objs.size<=dx->h'.get? x=some (accObj B dx #[] n #[])->h'.get? dx=some (initDict B.w.params t1 sz)->Q (.ref x) {s with heap:=h',toks:=t'}):
  wpAny (model B.prog B.w) A (call (.ref B.C) rest) Q E s:=by
 obtain⟨hh,g,d,t,os⟩:=s
 refine wpAny_call (make_L (fI:=AT.fInit) L.K AT.makes AT.mInit (by
  obtain⟨od,sl,fd,ar,hf,_⟩:=AT.dInit.ex
  show(B.K.lookup AT.fInit).map (·.cls)=_;rw[hf];rfl) ?_)
 have k0:∀ b o,hh.get? b=some o->((hh.push emptyDict).push (accO B.C hh.objs.size #[] 0)).get? b=some o:=λb o e=>Heap.get?_push_of_some _ (Heap.get?_push_of_some _ e)
 have L0:=L.keeps k0
 have hx0:((hh.push emptyDict).push (accO B.C hh.objs.size #[] 0)).get? (hh.objs.size+1)=some (accObj B hh.objs.size #[] 0 #[]):=by heap_get
 have hd0:((hh.push emptyDict).push (accO B.C hh.objs.size #[] 0)).get? hh.objs.size=some emptyDict:=Heap.get?_push_of_some _ (Heap.get?_push_at rfl rfl)
 refine codeAny_mono (frameC (Q:=λv s'=>v = .none/\Q (.ref (hh.objs.size+1)) s') AT.dInit (by rw[depth_tc];exact hroom) L0 (hb _) (by decide) (by intro y hy;rcases mC hy with rfl|hy;rfl;rw[mS hy];rfl) λenv h₀ h1 h2 h3 h4 h5 h6 hns hk hloc=>?_) λr s' z=>?_
 ·have hsc:env.scope.kind = .function:=by rw[h1]
  have hkind:∀ y,env.kindOf y=nmInit.lookup y:=λy=>by show env.scope.names.lookup y=_;rw[h1]
  refine ks_wpAt_execs_cons (ks_wpAt_Assign_Attr (wpAt_of_wpAny ?_) (hsw env))
  refine wpAny_Name (wpAny_loadName_local (v:=sz) hsc (by rw[hkind];rfl) hns rfl ?_) rfl
  refine wpAny_Name (wpAny_loadName_local (v:=.ref (hh.objs.size+1)) hsc (by rw[hkind];rfl) hns rfl ?_) rfl
  have hx1:=hk _ _ hx0
  have hd1:=hk _ _ hd0
  refine set_size AT (L0.keeps hk) hx1 hd1 λh1' t1 t' sb hd2=>?_
  have hne:(hh.objs.size+1)≠hh.objs.size:=Nat.succ_ne_self _
  have hx2:h1'.get? (hh.objs.size+1)=some (accObj B hh.objs.size #[] 0 #[]):=(sb.2 _ hne).trans hx1
  have kk:∀ b o,hh.get? b=some o->h1'.get? b=some o:=λb o e=>(sb.2 b (Nat.ne_of_lt (Heap.lt_size e))).trans (hk _ _ (k0 _ _ e))
  have hns1:h1'.Ns env.locals (λx=>List.lookup x (List.reverse [(("self":Str),.ref (hh.objs.size+1)),(("initial_size":Str),sz)])):=by
   obtain⟨o,es,ep,e,r⟩:=hns
   refine⟨o,es,ep,(sb.2 _ ?_).trans e,r⟩
   rw[hloc]
   show((hh.push emptyDict).push (accO B.C hh.objs.size #[] 0)).objs.size≠hh.objs.size
   rw[Heap.size_push,Heap.size_push];omega
  have L1:=L.keeps kk
  refine ks_wpAt_execs_cons (ks_wpAt_Expr_any ?_ (by unfold interactive;rw[h1];rfl) (hsw2 env))
  refine super_meth AT AT.dInit (inM h1 h2 h3 h4 h5 (.inr rfl) hns1 rfl) h6 L1 hx2 (by decide) hl (.inr rfl) (id:="list.__init__") (by kernel_rfl) ty_list_init wd_slot wd_entry (wd_args _ _ _) (λhi hP=>run_init hi hP) (by decide +kernel) F.entry_list_init (λ_ _ hQ=>ck_init hQ) λA' h' t2 k=>?_
  refine run_list_init (k _ _ hx2) λh3' n' sb3 hx3=>⟨_,rfl,?_⟩
  refine wpAt_of_wpAny (wpAny_execs_nil ⟨rfl,hq _ _ _ hh.objs.size n' t1 (λb o e=>?_) (Nat.le_succ _) (Nat.le_refl _) hx3 ?_⟩)
  ·exact(sb3.2 b (λz=>absurd (Heap.lt_size e) (by rw[z];exact Nat.not_lt.mpr (Nat.le_succ _)))).trans (k _ _ (kk _ _ e))
  ·exact(sb3.2 _ (Ne.symm hne)).trans (k _ _ hd2)
 ·obtain⟨v,rfl,rfl,z⟩:=z
  exact⟨rfl,z⟩
theorem acc_method (AT:AccAt B){s:Shared}(L:Low B s.heap){items:Array Value}{n:Nat}{sl:Array (Option Value)}{od:Obj}{name:Str}{f ft:Value}{pl:Sem Bool}{Q:Value×List Value->Shared->Prop}(hx:s.heap.get? x=some (accObj B dx items n sl)) (hd:s.heap.get? dx=some od)
  (hf:W.findIn B.K (.ref B.C) name=some (some f)) (ht:typeIn B.K f=some ft) (hft:(ft != .type "function"&&ft != .type "method_descriptor"&&ft != .type "wrapper_descriptor")=false) (hs:shadowIn (some od) name=some false) (hq:Q (f,[.ref x]) s):
  wpAny (model B.prog B.w) A (getMethod (.ref x) name pl) Q E s:=by
 have X:=L.K
 have I:=acc_inst (B:=B) hx hd
 have hcan:(Manifest.canonical "list.__getattribute__" != "object.__getattribute__")=false:=by decide +kernel
 unfold getMethod specialOf
 refine wpAny_bind (wpAny_bind (I.type.here ((looks_findIn X AT.ga).here ?_)))
 dsimp only
 rw[hcan,if_neg (by decide)]
 refine wpAny_bind (wpAny_bind (I.type.here ((looks_findIn X AT.gh).here ?_)))
 refine wpAny_bind (wpAny_bind (I.type.here ((looks_findIn X hf).here (wpAny_bind ((looks_typeIn X ht).here ?_)))))
 rw[hft,if_neg (by decide)]
 refine wpAny_bind (wpAny_loadPart hx ?_)
 obtain⟨r,a,b⟩:=Option.map_eq_some_iff.mp hs
 refine wpAny_bind (wpAny_bind (wpAny_loadPart hd ?_))
 rw[nsLook_of a]
 refine wpAny_pure ?_
 rw[b]
 exact wpAny_bind (wpAny_rule (wpAny_pure hq))
end
end Mine
end
section
namespace Mine
open PySem PySem.W PySem.Calls PyProof.Rows Builtin Builtin.ObjectAttr
section
variable {B:Base}{A:Around}{E:Value->Shared->Prop}{h:Heap}{g:Array GenState}{d:PySem.Drawn}{t:Nat}{os:OsState}{x dx:Addr}
theorem eval_self {y:Str}{p0 p1 p3:Pos}{name:Str}{args:List PySem.Expr}{env:Env}(hl:p1.endLine=p3.line) (hf:methodCallForm (args.length+0) (backTo p3 (starEach args env)) []=true):eval (.Call (.Attribute (.Name y p0) name p1) args [] p3) env=(do
   let ov <-eval (.Name y p0) env
   standAt p1.atName
   let (f,first) <-holding [ov] (getMethod ov name (do return (<-importBound (.Name y p0) env).getD true))
   callWith p3 f first (backTo p3 (starEach args env)) []):=by
 have hpos:methodCallPos true (.Name y p0) env p1 p3=pure p3:=by unfold methodCallPos;simp[hl]
 show(eval (.Name y p0) env>>=λov=>standAt p1.atName>>=λ_=>methodCall (.Name y p0) name p1 p3 env ov (args.length+0) (backTo p3 (starEach args env)) [])=_
 unfold methodCall
 rw[hf]
 show(eval (.Name y p0) env>>=λov=>standAt p1.atName>>=λ_=>(holding [ov] (getMethod ov name _)>>=λr=>methodCallPos true (.Name y p0) env p1 p3>>=λcallPos=>callWith callPos r.1 r.2 (backTo p3 (starEach args env)) []))=_
 rw[hpos]
 rfl
theorem self_meth {y:Str}{p0 p1 p3:Pos}{name:Str}{args:List PySem.Expr}{env:Env}{s:Shared}{Q:Value->Shared->Prop}(hl:p1.endLine=p3.line) (hf:methodCallForm (args.length+0) (backTo p3 (starEach args env)) []=true)
  (hq:wpAny (model B.prog B.w) A (eval (.Name y p0) env) (λov s₁=>wpAny (model B.prog B.w) A (getMethod ov name (do return (<-importBound (.Name y p0) env).getD true)) (λfx s₂=>wpAny (model B.prog B.w) A (callWith p3 fx.1 fx.2 (backTo p3 (starEach args env)) []) Q E s₂) E s₁) E s):
  wpAny (model B.prog B.w) A (eval (.Call (.Attribute (.Name y p0) name p1) args [] p3) env) Q E s:=by
 rw[eval_self hl hf]
 exact wpAny_bind (wpAny_mono hq (λov s₁ h₁=>wpAny_bind (wpAny_standAt (wpAny_bind (wpAny_holding (wpAny_mono h₁ (λfx s₂ h₂=>h₂) λ_ _ z=>z))))) λ_ _ z=>z)
theorem push_ok (AT:AccAt B){s:Shared}(L:Low B s.heap) (hroom:A.depth<recursionLimit){items:Array Value}{n:Nat}{sl:Array (Option Value)}{od:Obj}{a b:Value}(hx:s.heap.get? x=some (accObj B dx items n sl)) (hd:s.heap.get? dx=some od) (hs:shadowIn (some od) "append"=some false) (hs1:items.size<=sizeLine)
  (hl:(AT.ps 11).endLine=(AT.ps 15).line)
  (hsw:∀ env,swapsWith (.Call (.Attribute (.Name "self" (AT.ps 10)) "append" (AT.ps 11)) [.Tuple [.Name "fws" (AT.ps 12),.Name "string" (AT.ps 13)] 0 (AT.ps 14)] [] (AT.ps 15)) none (AT.ps 16).line env=pure false){Q:Value->Shared->Prop}
  (hq:∀ h' t' u n',(∀ y o,y≠x->s.heap.get? y=some o->h'.get? y=some o)->s.heap.objs.size<=u->h'.get? u=some (tupO #[a,b] 0)->h'.get? x=some (accObj B dx (items.push (.ref u)) n' sl)->Q .none {s with heap:=h',toks:=t'}):
  wpAny (model B.prog B.w) A (call (.ref AT.fPush) [.ref x,a,b]) Q E s:=by
 obtain⟨hh,g,d,t,os⟩:=s
 refine frame AT.dPush hroom L (bs:=[("self",.ref x),("fws",a),("string",b)]) rfl (by decide) (by intro y hy;simp at hy;rcases hy with rfl|rfl|rfl<;>rfl) λenv h₀ h1 h2 h3 h4 h5 h6 hns hk hloc=>?_
 have L0:=L.keeps hk
 have hsc:env.scope.kind = .function:=by rw[h1]
 have hkind:∀ y,env.kindOf y=nmPush.lookup y:=λy=>by show env.scope.names.lookup y=_;rw[h1]
 refine ks_wpAt_execs_cons (ks_wpAt_Expr_any (wpAt_of_wpAny ?_) (by unfold interactive;rw[h1];rfl) (hsw env))
 refine self_meth hl (by rfl) ?_
 refine wpAny_Name (wpAny_loadName_local (v:=.ref x) hsc (by rw[hkind];rfl) hns rfl ?_) rfl
 refine acc_method AT L0 (hk _ _ hx) (hk _ _ hd) AT.mApp (ft:=.type "method_descriptor") (by rfl) (by decide) hs ?_
 refine callWith_method1 ?_
 refine spliced_more (wpAny_Tuple ?_)
 refine spliced_more (wpAny_Name (wpAny_loadName_local (v:=a) hsc (by rw[hkind];rfl) hns rfl ?_) rfl)
 refine spliced_more (wpAny_Name (wpAny_loadName_local (v:=b) hsc (by rw[hkind];rfl) hns rfl ?_) rfl)
 refine spliced_none ⟨(by show 2<=sizeLine;rw[sizeLine_eq];omega),spliced_none ?_⟩
 have k2:∀ y o,hh.get? y=some o->(h₀.push {cls:=.type "tuple",data:=.seq #[a,b]}).get? y=some o:=λy o e=>Heap.get?_push_of_some _ (hk _ _ e)
 refine acc_append AT (L.keeps k2) (k2 _ _ hx) hs1 λh' n' sb hx'=>?_
 refine wpAt_of_wpAny (wpAny_execs_nil ?_)
 have hsz:hh.objs.size<=h₀.objs.size:=by
  obtain⟨o,es,ep,e,r⟩:=hns
  have:=Heap.lt_size e
  rw[hloc]at this
  exact Nat.le_of_lt this
 have hxn:h₀.objs.size≠x:=λz=>absurd (Heap.lt_size (hk _ _ hx)) (by rw[z];exact Nat.lt_irrefl _)
 exact hq h' _ h₀.objs.size n' (λy o hy e=>(sb.2 y hy).trans (k2 _ _ e)) hsz ((sb.2 _ hxn).trans (Heap.get?_push_at rfl rfl)) hx'
theorem pop_ok (AT:AccAt B){s:Shared}(L:Low B s.heap) (hroom:A.depth+1<recursionLimit) (hu:A.units+30<cLine){items:Array Value}{n:Nat}{sl:Array (Option Value)}{od:Obj}(hx:s.heap.get? x=some (accObj B dx items n sl)) (hd:s.heap.get? dx=some od) (hs:shadowIn (some od) "part_count"=some false) (hs1:items.size<=sizeLine)
  (hl0:(AT.ps 42).endLine=(AT.ps 43).line) (hl:(AT.ps 21).endLine=(AT.ps 22).line) (hl2:(AT.ps 32).endLine=(AT.ps 33).line){Q:Value->Shared->Prop}
  (hq0:items.size=0->∀ h' t' u tA tB,(∀ y o,s.heap.get? y=some o->h'.get? y=some o)->s.heap.objs.size<=u->h'.get? u=some (tupO #[.str "" tA,.str "" tB] 0)->Q (.ref u) {s with heap:=h',toks:=t'})
  (hq1:∀ y h' t' n',items[items.size-1]?=some y->(∀ y o,y≠x->s.heap.get? y=some o->h'.get? y=some o)->h'.get? x=some (accObj B dx (items.eraseIdxIfInBounds (items.size-1)) n' sl)->Q y {s with heap:=h',toks:=t'}):
  wpAny (model B.prog B.w) A (call (.ref AT.fPop) [.ref x]) Q E s:=by
 obtain⟨hh,g,d,t,os⟩:=s
 refine frame AT.dPop (Nat.lt_of_succ_lt hroom) L (bs:=[("self",.ref x)]) rfl (by decide) (by intro y hy;rw[mS hy];rfl) λenv h₀ h1 h2 h3 h4 h5 h6 hns hk hloc=>?_
 have L0:=L.keeps hk
 have hsc:env.scope.kind = .function:=by rw[h1]
 have hkind:∀ y,env.kindOf y=nmSuper.lookup y:=λy=>by show env.scope.names.lookup y=_;rw[h1]
 refine ks_wpAt_execs_cons (ks_wpAt_If (wpAt_of_wpAny (wpAny_isTrue_Compare1 ?_)))
 refine self_meth hl (by rfl) ?_
 refine wpAny_Name (wpAny_loadName_local (v:=.ref x) hsc (by rw[hkind];rfl) hns rfl ?_) rfl
 refine acc_method AT L0 (hk _ _ hx) (hk _ _ hd) AT.mCnt (ft:=.type "function") (by
  obtain⟨od,sl,fd,ar,hf,_⟩:=AT.dCnt.ex
  show(B.K.lookup AT.fCnt).map (·.cls)=_;rw[hf];rfl) (by decide) hs ?_
 obtain⟨od',sl',fd,ar,hf,_⟩:=AT.dCnt.ex
 refine callWith_function (o:=⟨.type "function",od',.func fd,sl'⟩) (fd:=fd) (evalArgs_nil3 ⟨⟨L0.K _ _ hf,rfl⟩,?_⟩)
 refine cnt_ok AT L0 hroom (hk _ _ hx) hl0 λh2' t2 t3 k2=>?_
 have k3:∀ y o,hh.get? y=some o->h2'.get? y=some o:=λy o e=>k2 _ _ (hk _ _ e)
 refine wpAny_Constant_int ?_
 refine P.eq_int ?_
 refine wpAny_truthy_bool ?_
 by_cases hz:items.size=0
 ·have hb:((items.size:Int)==0)=true:=by simp[hz]
  rw[hb,if_pos rfl]
  refine ks_wpAt_execs_cons (ks_wpAt_Return_some (wpAt_of_wpAny (wpAny_Tuple ?_)))
  refine spliced_more (wpAny_Constant_str ?_)
  refine spliced_more (wpAny_Constant_str ?_)
  refine spliced_none ⟨(by show 2<=sizeLine;rw[sizeLine_eq];omega),?_⟩
  have hsz:hh.objs.size<=h2'.objs.size:=by
   obtain⟨o,es,ep,e,r⟩:=hns
   have:=Heap.lt_size (k2 _ _ e)
   rw[hloc]at this
   exact Nat.le_of_lt this
  exact hq0 hz _ _ h2'.objs.size _ _ (λy o e=>Heap.get?_push_of_some _ (k3 _ _ e)) hsz (Heap.get?_push_at rfl rfl)
 ·have hb:((items.size:Int)==0)=false:=by simp[hz]
  rw[hb,if_neg (by decide)]
  refine wpAt_of_wpAny (wpAny_execs_nil ?_)
  have L2:=L.keeps k3
  have hx2:=k3 _ _ hx
  have hns2:=hns.keeps k2
  obtain⟨y,hy⟩:∃ y,items[items.size-1]?=some y:=⟨_,Array.getElem?_eq_getElem (by omega)⟩
  refine ks_wpAt_execs_cons (ks_wpAt_Return_some ?_)
  refine super_meth AT AT.dPop (inM h1 h2 h3 h4 h5 (.inl rfl) hns2 rfl) h6 L2 hx2 (by decide) hl2 (.inl rfl) (id:="list.pop") (by kernel_rfl) ty_list_pop md_slot md_entry (md_args _ _ _) (λhi hP=>run_pop hi hP) (by decide +kernel) F.entry_list_pop (λLx hxx hQ=>ck_pop AT Lx hxx hQ) λA' h' t' k=>?_
  refine run_list_pop (k _ _ hx2) hy hs1 λh3' n' sb hx3=>⟨_,rfl,?_⟩
  exact hq1 y h3' _ n' hy (λz o hz e=>(sb.2 z hz).trans (k _ _ (k3 _ _ e))) hx3
end
end Mine
end
section
namespace Mine
open PySem PySem.W PySem.Calls PyProof.Rows Builtin Builtin.ObjectAttr
noncomputable def nmStr:List (Str×NameKind):=[("self",.local),("EMPTYSTRING",.globalImplicit)]
noncomputable abbrev genScope (gn:Str):Scope:={kind:=.function,names:=[(".0",.local),("fws",.local),("part",.local),(gn,.globalImplicit)],isGenerator:=true,isCoroutine:=false,more:=[]}
noncomputable abbrev strElt (p:Nat->Pos):PySem.Expr:=.Call (.Attribute (.Name "EMPTYSTRING" (p 0)) "join" (p 1)) [.Tuple [.Name "fws" (p 2),.Name "part" (p 3)] 0 (p 4)] [] (p 5)
noncomputable abbrev genE (gn:Str) (elt:PySem.Expr) (p:Nat->Pos):PySem.Expr:=.GeneratorExp elt [⟨.Tuple [.Name "fws" (p 6),.Name "part" (p 7)] 0 (p 8),.Name "self" (p 9),[],0⟩] (genScope gn) (p 10)
noncomputable def bodyStr (p:Nat->Pos):List Stmt:=[.Return (some (.Call (.Attribute (.Name "EMPTYSTRING" (p 11)) "join" (p 12)) [genE "EMPTYSTRING" (strElt p) p] [] (p 13))) (p 14)]
structure GenAt (B:Base) (f:Addr) where
 cda:Addr
 P:Addr
 isFn:isFn B.K (.ref f)=true
 codeOf:∀ fd od sl,B.K.lookup f=some ⟨.type "function",od,.func fd,sl⟩->fd.code = .ref cda
 code:CodeK B.K cda P
 tab:B.tabs.lookup P=some none
structure BmAt (B:Base):Prop where
 bm:BmK B.K B.mg
 iter:W.findIn B.K (.ref B.C) "__iter__"=some (some (.builtin "list.__iter__"))
structure StrAt (B:Base) where
 fStr:Addr
 te:Tok
 ps:Nat->Pos
 G:GenAt B fStr
 mStr:W.findIn B.K (.ref B.C) "__str__"=some (some (.ref fStr))
 dStr:FnAt B fStr [] nmStr (bodyStr ps) bnd1
 mgE:B.mg "EMPTYSTRING"=some (.str ⟨#[]⟩ te)
 l1:(ps 1).endLine=(ps 5).line
 l2:(ps 12).endLine=(ps 13).line
section
variable {B:Base}{A:Around}{E:Value->Shared->Prop}{h:Heap}{g:Array GenState}{d:PySem.Drawn}{t:Nat}{os:OsState}{x dx:Addr}
theorem gen_code {f:Addr}(TT:GenAt B f) (O:B.Ok) (S:Stat B h){env:Env}{pos:Pos}{qn:Str}{sc:Scope}{Q:Value->Shared->Prop}(hc:env.code = .ref TT.cda)
  (hq:∀ code h' tk,Kp B.tabs [] h h'->Q code ⟨h',g,d,tk,os⟩):wpAny (model B.prog B.w) A (genexprCode env pos qn sc) Q E ⟨h,g,d,t,os⟩:=by
 obtain⟨oc,vs,file,tf,flags,tg,inF,text,tt,h1,h2,h3,h4,h5,h6,h7,h8⟩:=TT.code
 obtain⟨ps,hP,ht⟩:=S.tab _ _ TT.tab
 have hcp:TT.cda≠TT.P:=λe=>by have q:=O.off _ _ h1;rw[e,TT.tab]at q;exact noneE q.symm
 have isC:h.IsCode TT.cda TT.P ps:=⟨oc,vs,file,tf,flags,tg,inF,text,tt,_,S.K _ _ h1,h3,by rw[Array.getD_eq_getD_getElem?,h4];rfl,h5,h6,h7,h8,hP,rfl,ht.1,hcp⟩
 have tabA:h.TableAt TT.cda TT.P ps:=⟨⟨oc,vs,S.K _ _ h1,h2,h3,h4⟩,hP⟩
 cases hn:codeAmong pos ps.toList with
 | some c'=>exact wpAny_genexprCode_hit hc isC hn (hq c' h t (.refl ..))
 | none=>
  refine wpAny_genexprCodeX hc isC tabA hn λc' h' tk hx hge hlt hcode _ htab _=>hq _ _ _ (.tabUp TT.tab hP hx htab.2 (nT hge (Nat.le_of_lt hlt)) λ_=>⟨?_,nofun⟩)
  obtain⟨_,_,_,_,_,_,_,_,_,op,_,_,_,_,_,_,_,e5,e6,e7,_⟩:=hcode
  exact e7
noncomputable abbrev IsAcc (B:Base) (h:Heap) (x:Addr) (items:Array Value):Prop:=∃ dx n sl,h.get? x=some (accObj B dx items n sl)
theorem accnext_item {it l:Addr}{i:Nat}{items:Array Value}{x:Value}{s:Shared}{Q:Option Value->Shared->Prop}(hit:s.heap.IsListIter it l i) (hl:IsAcc B s.heap l items) (hx:items[i]?=some x)
  (hQ:∀ h',h'.IsListIter it l (i+1)->Heap.SameBut it s.heap h'->Q (some x) {s with heap:=h'}):wpAny (model B.prog B.w) A (pyNext (.ref it)) Q E s:=by
 obtain⟨o,ho,hc,hd⟩:=id hit
 obtain⟨dx,nl,sl,hol⟩:=hl
 unfold pyNext
 refine wpAny_bind (wpAny_attempt (wpAny_callSpecial?_slot (name:=Str.ofString "__next__") hit.typeIs slot_listiter_next (wpAny_call_entry slot_listiter_next hit.typeIs entry_listiter_next ?_ (args_listiter_next _))))
 show wpAny _ _ (field (.ref it) 0>>=_) _ _ s
 refine wpAny_bind (wpAny_field ho hd (x:=.ref l) rfl ?_)
 show wpAny _ _ (if (Value.ref l==Value.none)=true then _ else _) _ _ s
 rw[if_neg (show ¬((Value.ref l==Value.none)=true)from Bool.false_ne_true)]
 show wpAny _ _ (field (.ref it) 1>>=_) _ _ s
 refine wpAny_bind (wpAny_field ho hd (x:=.int i 0) rfl ?_)
 show wpAny _ _ (seqItems? (.ref l)>>=_) _ _ s
 refine wpAny_bind (wpAny_seqItems hol rfl ?_)
 dsimp only
 simp -iota only [Int.toNat_natCast,hx]
 refine wpAny_bind (wpAny_setField ho hd (by simp) (wpAny_pure ⟨x,rfl,wpAny_pure (hQ _ ?_ (Heap.SameBut.update ..))⟩))
 exact⟨_,Heap.get?_update_self _ ho (Obj.isFreed_of_fields (Obj.data_mapFields hd _)),(Obj.cls_mapFields ..).trans hc,by
  rw[Obj.data_mapFields hd];simp[rawInt]⟩
theorem accnext_end {it l:Addr}{i:Nat}{items:Array Value}{s:Shared}{Q:Option Value->Shared->Prop}(hh:A.handled=none) (hit:s.heap.IsListIter it l i) (hl:IsAcc B s.heap l items) (hx:items[i]?=none)
  (hQ:∀ h',Heap.ExtBut it s.heap h'->Q none {s with heap:=h'}):wpAny (model B.prog B.w) A (pyNext (.ref it)) Q E s:=by
 obtain⟨o,ho,hc,hd⟩:=id hit
 obtain⟨dx,nl,sl,hol⟩:=hl
 unfold pyNext
 refine wpAny_bind (wpAny_attempt (wpAny_callSpecial?_slot (name:=Str.ofString "__next__") hit.typeIs slot_listiter_next (wpAny_call_entry slot_listiter_next hit.typeIs entry_listiter_next ?_ (args_listiter_next _))))
 show wpAny _ _ (field (.ref it) 0>>=_) _ _ s
 refine wpAny_bind (wpAny_field ho hd (x:=.ref l) rfl ?_)
 show wpAny _ _ (if (Value.ref l==Value.none)=true then _ else _) _ _ s
 rw[if_neg (show ¬((Value.ref l==Value.none)=true)from Bool.false_ne_true)]
 show wpAny _ _ (field (.ref it) 1>>=_) _ _ s
 refine wpAny_bind (wpAny_field ho hd (x:=.int i 0) rfl ?_)
 show wpAny _ _ (seqItems? (.ref l)>>=_) _ _ s
 refine wpAny_bind (wpAny_seqItems hol rfl ?_)
 dsimp only
 simp -iota only [Int.toNat_natCast,hx]
 refine wpAny_bind (wpAny_rule (wpAny_bind (wpAny_setField ho hd (by simp) ?_)))
 show wpAny _ _ (newExc (.type "StopIteration") []>>=_) _ _ _
 refine wpAny_bind ?_
 simp -iota only [newExc,newTuple]
 refine wpAny_bind (wpAny_newObj_type ?_ (by size_fits))
 refine wpAny_bind (m:=firstArgMember _ _) (wpAny_of_eq (a:=Value.none) (by first|rfl|(simp -iota only [firstArgMember];rfl)) ?_)
 refine wpAny_newObj_type ?_ (by size_fits)
 simp -iota only [raiseNew]
 refine wpAny_bind (wpAny_handled ?_)
 rw[show A.in1.handled=none from hh]
 refine wpAny_bind (wpAny_pure (wpAny_throw ?_))
 refine wpAny_bind (wpAny_isInstance (T:="StopIteration") (b:=true) ⟨_,Heap.get?_push_size _ rfl,rfl⟩ isSubtype_stop ?_)
 exact wpAny_pure (hQ _ (((Heap.SameBut.update ..).extBut.push _).push _))
theorem isAcc_at {h':Heap}{items:Array Value}(y:IsAcc B h x items) (e:∀ o,h.get? x=some o->h'.get? x=some o):IsAcc B h' x items:=let ⟨dx,n,sl,q⟩:=y;⟨dx,n,sl,e _ q⟩
theorem acc_walk (hh:A.handled=none) (I ax:Addr) (hne:ax≠I) (items:Array Value) (Ts:Nat->Addr) (vals:Nat->Array Value)
  (hit:∀ j,j<items.size->items[j]?=some (.ref (Ts j))) (hTI:∀ j,j<items.size->Ts j≠I):
  WalksU B.prog B.w A I (I::ax::(List.range items.size).map Ts) [I] items.size (λj v=>j<items.size/\v=vals j)
   (λj h=>h.IsListIter I ax j/\IsAcc B h ax items/\∀ k,k<items.size->h.IsTuple (Ts k) (vals k))
   (λj T h=>(j<items.size/\T=Ts j)/\h.IsListIter I ax (j+1)/\IsAcc B h ax items/\∀ k,k<items.size->h.IsTuple (Ts k) (vals k)) where
 sub:=λb hb=>by simp at hb;simp[hb]
 frame:=λ_ _ _ st hk=>⟨st.1.at λo e=>hk I (by simp) o e,isAcc_at st.2.1 λo e=>hk ax (by simp) o e,
  λk hk'=>(st.2.2 k hk').at λo e=>hk (Ts k) (List.mem_cons_of_mem _ (List.mem_cons_of_mem _ (List.mem_map.mpr ⟨k,List.mem_range.mpr hk',rfl⟩))) o e⟩
 item:=λi s Q E hi st hQ=>by
  refine accnext_item st.1 st.2.1 (x:=.ref (Ts i)) (hit i hi) λh' hit' hs'=>?_
  have tup:∀ k,k<items.size->h'.IsTuple (Ts k) (vals k):=λk hk'=>(st.2.2 k hk').extBut hs'.extBut (hTI k hk')
  exact hQ (Ts i) (vals i) h' s.toks ⟨hi,rfl⟩ (tup i hi) ⟨⟨hi,rfl⟩,hit',isAcc_at st.2.1 λo e=>hs'.extBut _ _ hne e,tup⟩ λb o hb e=>hs'.extBut b o (λh=>hb (by simp[h])) e
 go:=λ_ _ _ _ _ s Q _ hm hQ=>wpAny_letOwnedTupleGo_listiter hm.2.1 (hQ s.heap hm.2 λ_ _ _ e=>e)
 apart:=λj T _ hm hmem=>by
  rcases mC hmem with e|e
  ·exact hTI j hm.1.1 (hm.1.2▸e)
  ·cases e
 done:=λs Q E st hQ=>accnext_end hh st.1 st.2.1 (by simp) λh' he'=>hQ h' s.toks λb o hb e=>he' b o (λh=>hb (by simp[h])) e
 self:=λ_ _ _ _ st hQ=>wpAny_pyIter_listiter st.1 hQ
theorem acc_iter (AT:AccAt B) (BM:BmAt B) (L:Low B h){items:Array Value}{n:Nat}{sl:Array (Option Value)}{Q:Value->Shared->Prop}(hx:h.get? x=some (accObj B dx items n sl))
  (hq:Q (.ref h.objs.size) ⟨h.push {cls:=.type "list_iterator",data:=.fields #[.ref x,.int 0 0]},g,d,t,os⟩):wpAny (model B.prog B.w) A (pyIter (.ref x)) Q E ⟨h,g,d,t,os⟩:=by
 have X:=L.K
 have ht:Looks (model B.prog B.w) h (typeOf (.ref x)) (.ref B.C):=(Looks.ld hx).andThen .now
 have hs:Looks (model B.prog B.w) h (specialOf (.ref x) "__iter__") (some (.builtin "list.__iter__")):=ht.andThen (looks_findIn X BM.iter)
 unfold pyIter
 refine wpAny_bind (hs.here ?_)
 dsimp only
 have hb:=slot_list_iter.bind (.ref x)
 have hcall:∀ {A:Around}{E:Value->Shared->Prop}{Q:Value->Shared->Prop},Q (.ref h.objs.size) ⟨h.push {cls:=.type "list_iterator",data:=.fields #[.ref x,.int 0 0]},g,d,t,os⟩->wpAny (model B.prog B.w) A (call (.builtin "list.__iter__") [.ref x]) Q E ⟨h,g,d,t,os⟩:=λq=>by
  refine wpAny_call (codeAny_call_builtin slot_list_iter.plain entry_list_iter (check_slot (owner:="list") (n:="__iter__") (by decide +kernel) (by decide +kernel) (acc_isList AT X hx) (args_list_iter _) ?_))
  show wpAny _ _ (do ret (<-newFields "list_iterator" [.ref x,rawInt 0])) _ _ _
  exact wpAny_bind (wpAny_newObj_type (wpAny_pure q))
 have fin:∀ {A:Around}{E:Value->Shared->Prop}{Q:Option Value->Shared->Prop}{refuse:Sem Value},Q (some (.ref h.objs.size)) ⟨h.push {cls:=.type "list_iterator",data:=.fields #[.ref x,.int 0 0]},g,d,t,os⟩->
   wpAny (model B.prog B.w) A (if (Value.builtin "list.__iter__"==Value.none)=true then(refuse>>=λv=>pure (some v))else(call (.builtin "list.__iter__") [.ref x]>>=λv=>pure (some v))) Q E ⟨h,g,d,t,os⟩:=λq=>by
  rw[if_neg (by decide)]
  exact wpAny_bind (hcall (wpAny_pure q))
 refine wpAny_bind ?_
 simp -iota only [callSpecialIfBoundUnlessNone?,bindSpecialIfBound?]
 refine wpAny_holding (wpAny_bind (wpAny_bind (hs.here ?_)))
 dsimp only
 rw[hb]
 have hnx:(⟨h.push {cls:=.type "list_iterator",data:=.fields #[.ref x,.int 0 0]},g,d,t,os⟩:Shared).TypeIs (.ref h.objs.size) "list_iterator":=⟨_,Heap.get?_push_size _ rfl,rfl⟩
 have last:=wpAny_specialOf (M:=model B.prog B.w) (A:=A) (E:=E) hnx slot_listiter_next.lookup (Q:=λo s'=>wpAny (model B.prog B.w) A (match o with
   | none=>do rule "iter.non-iterator";raiseError "TypeError" s!"iter() returned non-iterator of type '{← typeNameOf (.ref h.objs.size)}'"
   | some _=>pure (.ref h.objs.size)) Q E s') (wpAny_pure hq)
 refine wpAny_bind (wpAny_askSetting (wpAny_ite ?_))
 split
 ·exact wpAny_bind (wpAny_pure (wpAny_pure (fin (wpAny_bind last))))
 ·exact wpAny_tryCatch (wpAny_bind (wpAny_pure (wpAny_pure (fin (wpAny_bind last)))))
end
end Mine
end
section
namespace Mine
open PySem PySem.W PySem.Calls PyProof.Rows Builtin Builtin.ObjectAttr
theorem joinL_nil:∀ l:List Cs,joinL [] l=l.flatten
 | []=>rfl
 | [x]=>by simp[joinL]
 | x::y::r=>by
  have ih:=joinL_nil (y::r)
  simp only [joinL,List.append_nil,ih,List.flatten_cons]
theorem passing_all (n:Nat):passing (λ_=>true) n 0=List.range n:=by unfold passing;simp
theorem joinOk_nil (l:List Cs) (h:l.flatten.length<=LIM):JoinOk ⟨#[]⟩ (l.map λc=>(⟨c.toArray⟩:Str))=true:=by
 have hs:∀ (l:List Cs) (k:Nat),((l.map λc=>(⟨c.toArray⟩:Str)).foldl (λ(x:Nat) (y:Str)=>x+y.length+(⟨#[]⟩:Str).length) k)=k+l.flatten.length:=by
  intro l
  induction l with
  | nil=>intro k;simp
  | cons c l ih=>
   intro k
   rw[List.map_cons,List.foldl_cons,ih]
   simp[Str.length]
   omega
 have h0:l.flatten.length<=1000000:=h
 have hsl:1000000<=sizeLine:=by rw[sizeLine_eq];omega
 unfold JoinOk
 rw[List.foldl_toArray',hs,Nat.zero_add]
 ·unfold Builtin.Str.tooLong
  simp
  first|omega|(have:l.flatten.length=(l.map List.length).sum:=(by simp[List.length_flatten]);omega)
 ·simp
section
variable {B:Base}{A:Around}{E:Value->Shared->Prop}{x dx:Addr}
theorem elt_ok {cenv:Env}{p:Nat->Pos}{te ta tb:Tok}{a b:Cs}{s:Shared}{m:Str->Option Value}{Q:Value->Shared->Prop}(hsc:cenv.scope=genScope "EMPTYSTRING") (hg:cenv.globals=mainGlobals) (hG:s.heap.Ns mainGlobals B.mg) (mgE:B.mg "EMPTYSTRING"=some (.str ⟨#[]⟩ te))
  (hn:s.heap.Ns cenv.locals m) (h1:m "fws"=some (.str ⟨a.toArray⟩ ta)) (h2:m "part"=some (.str ⟨b.toArray⟩ tb)) (hl:(p 1).endLine=(p 5).line) (hlen:a.length+b.length<=LIM)
  (hq:∀ h' t' k,(∀ y o,s.heap.get? y=some o->h'.get? y=some o)->Q (.str ⟨(a++b).toArray⟩ t') {s with heap:=h',toks:=k}):
  wpAny (model B.prog B.w) A (eval (strElt p) cenv) Q E s:=by
 have hk:cenv.scope.kind = .function:=by rw[hsc]
 have hkind:∀ y,cenv.kindOf y=(genScope "EMPTYSTRING").names.lookup y:=λy=>by show cenv.scope.names.lookup y=_;rw[hsc]
 refine self_meth hl (by rfl) ?_
 refine wpAny_Name (ks_loadName_global hk (by rw[hkind];rfl) (loadGlobal_global (env:=cenv) (by rw[hg];exact hG) mgE ?_)) rfl
 refine getMethod_builtin (typeIs_str _ _ _) F.plainAttrs_str F.slot_str_join F.type_str_join GM.noRef ?_
 refine callWith_method1 ?_
 refine spliced_more (wpAny_Tuple ?_)
 refine spliced_more (wpAny_Name (wpAny_loadName_local hk (by rw[hkind];rfl) hn h1 ?_) rfl)
 refine spliced_more (wpAny_Name (wpAny_loadName_local hk (by rw[hkind];rfl) hn h2 ?_) rfl)
 refine spliced_none ⟨(by show 2<=sizeLine;rw[sizeLine_eq];omega),spliced_none ?_⟩
 have hT:IsTup (s.heap.push {cls:=.type "tuple",data:=.seq #[.str ⟨a.toArray⟩ ta,.str ⟨b.toArray⟩ tb]}) s.heap.objs.size #[.str ⟨a.toArray⟩ ta,.str ⟨b.toArray⟩ tb]:=⟨_,Heap.get?_push_at rfl rfl,rfl,_,rfl⟩
 have hl0:a.length+b.length<=1000000:=hlen
 refine PyProof.Rows.join_tuple (ys:=[⟨a.toArray⟩,⟨b.toArray⟩]) hT (.cons _ _ (.cons _ _ .nil)) (by simp[Str.length];omega) λt' k=>?_
 have e:Txt.join ⟨#[]⟩ [⟨a.toArray⟩,⟨b.toArray⟩]=(⟨(a++b).toArray⟩:Str):=by
  have:=join_ok [] [a,b]
  rw[joinL_nil]at this
  simpa using this
 rw[e]
 exact hq _ _ _ λy o e=>Heap.get?_push_of_some _ e
theorem gen_eval (AT:AccAt B) (BM:BmAt B){f:Addr}(Gx:GenAt B f) (O:B.Ok){h₀:Heap}{g:Array GenState}{d:PySem.Drawn}{t:Nat}{os:OsState}(S0:Stat B h₀){env:Env}{m:Str->Option Value}(h3:env.globals=mainGlobals) (hcode:env.code = .ref Gx.cda) (hsc:env.scope.kind = .function) (hself:env.kindOf "self"=some .local)
  (hns:h₀.Ns env.locals m) (hm:m "self"=some (.ref x)) (hroom:A.depth+1<recursionLimit) (hh:A.handled=none){items:Array Value}{n:Nat}{sl:Array (Option Value)}(hx0:h₀.get? x=some (accObj B dx items n sl))
  (a b:Nat->Cs) (Ts:Nat->Addr) (ta tb:Nat->Tok) (hit:∀ j,j<items.size->items[j]?=some (.ref (Ts j)))
  (htup:∀ j,j<items.size->∃ k,h₀.get? (Ts j)=some (tupO #[.str ⟨(a j).toArray⟩ (ta j),.str ⟨(b j).toArray⟩ (tb j)] k)){gn:Str}(hcl:∀ y∈(genScope gn).names,y.2 ≠ .cell) (hfr:∀ y∈(genScope gn).names,y.2 ≠ .free){elt:PySem.Expr}{p:Nat->Pos}{F:Nat->Value->Prop}
  (helt:∀ (A':Around) (E':Value->Shared->Prop) (cenv:Env) (s₂:Shared) (m₂:Str->Option Value) (i:Nat),cenv.scope=genScope gn->cenv.globals=mainGlobals->cenv.builtins=builtinsNs->A'.handled=none->i<items.size->s₂.heap.Ns mainGlobals B.mg->s₂.heap.Ns builtinsNs B.mb->s₂.heap.Ns cenv.locals m₂->
   m₂ "fws"=some (.str ⟨(a i).toArray⟩ (ta i))->m₂ "part"=some (.str ⟨(b i).toArray⟩ (tb i))->wpAny (model B.prog B.w) A' (eval elt cenv) (λy s'=>F i y/\∃ h' k,s'={s₂ with heap:=h',toks:=k}/\∀ b o,s₂.heap.get? b=some o->h'.get? b=some o) E' s₂)
  {Q:Value->Shared->Prop}
  (k:∀ a' s' fp wr St,WalksS B.prog B.w A.in4 a' fp wr (GenOnlyQ g.size) (passing (λ_=>true) items.size 0).length (λj y=>∃ i,(passing (λ_=>true) items.size 0)[j]?=some i/\F i y) St->St 0 s'->(∀ i s,St i s->s.TypeIs (.ref a') "generator")->a'∈fp->(∀ b∈fp,b<s'.heap.objs.size)->
   (∀ y o,h₀.get? y=some o->o.cls ≠ .none->s'.heap.get? y=some o)->Kp B.tabs [] h₀ s'.heap->(∀ y∈wr,h₀.objs.size<=y/\∀ o,s'.heap.get? y=some o->fixO o=false)->s'.os=os->(AllBare g->AllBare s'.gens)->Q (.ref a') s'):
  wpAny (model B.prog B.w) A (eval (genE gn elt p) env) Q E ⟨h₀,g,d,t,os⟩:=by
 refine wpAny_GeneratorExp_make (cl:=[]) rfl (closureFor_none hfr) hcl rfl rfl (Nat.lt_of_succ_lt hroom) ?_ (λ_=>rfl)
 refine wpAny_Name (wpAny_loadName_local (v:=.ref x) hsc hself hns hm ?_) rfl
 refine acc_iter AT BM S0.low hx0 ?_
 have k1:∀ y o,h₀.get? y=some o->(h₀.push {cls:=.type "list_iterator",data:=.fields #[.ref x,.int 0 0]}).get? y=some o:=λy o e=>Heap.get?_push_of_some _ e
 have kp1:Kp B.tabs [] h₀ (h₀.push {cls:=.type "list_iterator",data:=.fields #[.ref x,.int 0 0]}):=.push ..
 have S1:=S0.keep O kp1 (λ_ h=>absurd h List.not_mem_nil)
 have hI1:(h₀.push {cls:=.type "list_iterator",data:=.fields #[.ref x,.int 0 0]}).get? h₀.objs.size=some {cls:=.type "list_iterator",data:=.fields #[.ref x,.int 0 0]}:=Heap.get?_push_at rfl rfl
 refine⟨S1.nolimit,gen_code Gx O S1 hcode λcode h2' tk kp2=>?_⟩
 have S2:=S1.keep O kp2 (λ_ h=>absurd h List.not_mem_nil)
 rw[h3]
 obtain⟨bm,bo,b1,b2,_,b3,b4,b5,b6⟩:=BM.bm
 refine wpAny_builtinsFor S2.g b1 b2 (S2.K _ _ b3) b4 b5 b6 ?_
 have hI2:h2'.get? h₀.objs.size=some {cls:=.type "list_iterator",data:=.fields #[.ref x,.int 0 0]}:=kp2.get hI1 (by simp) (by intro q;cases q)
 have hx2:h2'.get? x=some (accObj B dx items n sl):=kp2.get (k1 _ _ hx0) (by simp) (by intro q;cases q)
 have ht2:∀ j,j<items.size->h2'.IsTuple (Ts j) #[.str ⟨(a j).toArray⟩ (ta j),.str ⟨(b j).toArray⟩ (tb j)]:=λj hj=>by
  obtain⟨k,e⟩:=htup j hj
  exact⟨_,kp2.get (k1 _ _ e) (by simp) (by intro q;cases q),rfl,k,rfl⟩
 have hltI:h₀.objs.size<h2'.objs.size:=Heap.lt_size hI2
 have hxI:x≠h₀.objs.size:=Nat.ne_of_lt (Heap.lt_size hx0)
 have hTI:∀ j,j<items.size->Ts j≠h₀.objs.size:=λj hj=>by
  obtain⟨k,e⟩:=htup j hj
  exact Nat.ne_of_lt (Heap.lt_size e)
 have low:∀ y,y<B.N->y≠h₀.objs.size:=λy hy e=>by
  have:=S0.size
  exact absurd (Nat.lt_of_lt_of_le hy this) (by rw[e];exact Nat.lt_irrefl _)
 intro h4 hn4 sb4
 have hsz4:h4.objs.size=h2'.objs.size+1:=by rw[sb4.1,Heap.size_push]
 have keep4:∀ b o,h2'.get? b=some o->h4.get? b=some o:=λb o e=>sb4.extBut b o (Nat.ne_of_lt (Heap.lt_size e)) (Heap.get?_push_of_some _ e)
 generalize hgo:({cls:=.type "generator",data:=.fields #[.int g.size 0,.str "<genexpr>" (tk+1),.str (env.qual++"<genexpr>") (tk+1+1)]}:Obj)=go
 have hk5:∀ b o,h2'.get? b=some o->(h4.push go).get? b=some o:=λb o e=>Heap.get?_push_of_some _ (keep4 b o e)
 have kp3:Kp B.tabs [] h2' (h4.push go):=.keeps hk5 (by rw[Heap.size_push,hsz4];omega)
 have hgen:(h4.push go).get? h4.objs.size=some go:=Heap.get?_push_size _ (by rw[<-hgo];rfl)
 have hns5:=hn4.push go
 have wU:∀ A':Around,A'.handled=none->_:=λA' hA=>acc_walk (B:=B) (A:=A') hA h₀.objs.size x hxI items Ts (λj=>#[.str ⟨(a j).toArray⟩ (ta j),.str ⟨(b j).toArray⟩ (tb j)]) hit hTI
 have inR:∀ y∈h₀.objs.size::x::(List.range items.size).map Ts,y∈List.range h2'.objs.size:=λy hy=>by
  rcases mC hy with rfl|hy
  ·exact List.mem_range.mpr hltI
  ·rcases mC hy with rfl|hy
   ·exact List.mem_range.mpr (Heap.lt_size hx2)
   ·obtain⟨j,hj,rfl⟩:=List.mem_map.mp hy
    obtain⟨o,e,_⟩:=ht2 j (List.mem_range.mp hj)
    exact List.mem_range.mpr (Heap.lt_size e)
 have stN:cStatics<h2'.objs.size:=Nat.lt_of_lt_of_le O.sl S2.size
 have hcw:cStatics∉[h₀.objs.size]:=λhm=>low _ O.sl (mS hm)
 have W:=WalksS.genexpQ (prog:=B.prog) (w:=B.w) (A:=A.in4) hh h4.objs.size g.size h2'.objs.size (List.range h2'.objs.size) [h₀.objs.size] (λ_=>true) items.size F (by rw[hsz4];exact Nat.succ_ne_self _)
  (λhm=>absurd (List.mem_range.mp hm) (by rw[hsz4];exact Nat.not_lt.mpr (Nat.le_succ _))) (λy hy=>mS hy▸List.mem_range.mpr hltI) (Nat.lt_of_succ_lt hroom) (List.mem_range.mpr stN) (Nat.ne_of_lt stN) hcw
 refine k h4.objs.size _ _ _ _ W ?_ (λi s' st=>st.1.typeIs) (List.mem_cons_self ..) (λy hy=>?_) (λy o e hc=>hk5 _ _ (kp2.get (k1 _ _ e) (by simp) hc)) ((kp1.trans kp2).trans kp3) (λy hy=>?_) rfl λhb=>hb.push rfl
 ·refine PySem.GenAt.freshT (A:=A.in4) (cenv:=genEnv (genScope gn) [] h2'.objs.size code builtinsNs env) (m:=λy=>if y=".0" then some (.ref h₀.objs.size)else none) hh (λA' hA=>(wU A' hA).mono_fp inR) (λi v hv=>⟨_,_,hv.2⟩) (by decide) (λ_=>true) F rfl rfl (by rfl) rfl
   (λhm=>Nat.lt_irrefl _ (List.mem_range.mp hm)) ⟨λA' E' i va vb s₂ m₂ hA hP hn ha hb hkeep=>wpAny_pure ⟨rfl,s₂.heap,s₂.toks,rfl,λ_ _ e=>e⟩,λA' E' i va vb s₂ m₂ hA hP _ hn ha hb hkeep=>?_⟩ ⟨go,_,_,hgen,by rw[<-hgo],by rw[<-hgo],by rw[<-hgo]⟩ (Array.getElem?_push_size ..) ⟨⟨_,hk5 _ _ hI2,rfl,rfl⟩,⟨dx,n,sl,hk5 _ _ hx2⟩,λj hj=>(ht2 j hj).at λo e=>hk5 _ _ e⟩ hns5 (S2.nolimit.keeps hk5)
  have hv:=hP.2
  simp only [Array.mk.injEq,List.cons.injEq,and_true]at hv
  obtain⟨rfl,rfl⟩:=hv
  have at_:∀ {q:Addr},q<B.N->∀ o,h2'.get? q=some o->s₂.heap.get? q=some o:=λ{q} hq o e=>hkeep _ (List.mem_range.mpr (Nat.lt_of_lt_of_le hq S2.size)) (by rw[List.mem_singleton];exact low _ hq) o (hk5 _ _ e)
  exact helt A' E' _ s₂ m₂ i rfl h3 rfl hA hP.1 (S2.g.at' (at_ O.gl)) (S2.b.at' (at_ O.bl)) hn ha hb
 ·show y<(h4.push go).objs.size
  rw[Heap.size_push,hsz4]
  rcases mC hy with rfl|hy
  ·rw[hsz4];exact Nat.lt_succ_self _
  ·rcases mC hy with rfl|hy
   ·exact Nat.lt_succ_of_lt (Nat.lt_succ_self _)
   ·exact Nat.lt_succ_of_lt (Nat.lt_succ_of_lt (List.mem_range.mp hy))
 ·rcases mC hy with rfl|hy
  ·obtain⟨o,ho,hf⟩:=ns_fix hns5
   exact⟨Nat.le_of_lt hltI,λo' e=>by cases ho.symm.trans e;exact hf⟩
  ·rw[mS hy]
   exact⟨Nat.le_refl _,λo' e=>by cases (hk5 _ _ hI2).symm.trans e;rfl⟩
theorem str_ok (AT:AccAt B) (BM:BmAt B) (TT:StrAt B) (O:B.Ok){s:Shared}(S:Stat B s.heap) (hroom:A.depth+2<recursionLimit) (hh:A.handled=none){items:Array Value}{n:Nat}{sl:Array (Option Value)}(hx:s.heap.get? x=some (accObj B dx items n sl))
  (a b:Nat->Cs) (Ts:Nat->Addr) (ta tb:Nat->Tok) (hit:∀ j,j<items.size->items[j]?=some (.ref (Ts j)))
  (htup:∀ j,j<items.size->∃ k,s.heap.get? (Ts j)=some (tupO #[.str ⟨(a j).toArray⟩ (ta j),.str ⟨(b j).toArray⟩ (tb j)] k)) (hab:∀ j,j<items.size->(a j).length+(b j).length<=LIM)
  (z:Cs) (hz:z=((List.range items.size).map λj=>a j++b j).flatten) (hlen:z.length<=LIM) (hs1:items.size<=LIM){Q:Value->Shared->Prop}
  (hq:∀ s' t',Kp B.tabs [] s.heap s'.heap->s'.os=s.os->(AllBare s.gens->AllBare s'.gens)->Q (.str ⟨z.toArray⟩ t') s'):
  wpAny (model B.prog B.w) A (call (.ref TT.fStr) [.ref x]) Q E s:=by
 obtain⟨hh0,g,d,t,os⟩:=s
 refine frame TT.dStr (by omega) S.low (bs:=[("self",.ref x)]) rfl (by decide) (by intro y hy;rw[mS hy];rfl) λenv h₀ h1 h2 h3 h4 h5 h6 hns hk hloc=>?_
 have hsz:hh0.objs.size<h₀.objs.size:=by
  obtain⟨o,es,ep,e,r⟩:=hns
  have:=Heap.lt_size e
  rw[hloc]at this
  exact this
 have kp0:Kp B.tabs [] hh0 h₀:=.keeps hk (Nat.le_of_lt hsz)
 have S0:=S.keep O kp0 (λ_ h=>absurd h List.not_mem_nil)
 have L0:=S0.low
 have hsc:env.scope.kind = .function:=by rw[h1]
 have hkind:∀ y,env.kindOf y=nmStr.lookup y:=λy=>by show env.scope.names.lookup y=_;rw[h1]
 obtain⟨fd,od,sl',hf,hcode⟩:=h6
 have hcode:env.code = .ref TT.G.cda:=hcode.trans (TT.G.codeOf _ _ _ hf)
 refine ks_wpAt_execs_cons (ks_wpAt_Return_some (wpAt_of_wpAny ?_))
 refine self_meth TT.l2 (by rfl) ?_
 refine wpAny_Name (ks_loadName_global hsc (by rw[hkind];rfl) (loadGlobal_global (env:=env) (by rw[h3];exact L0.g) TT.mgE ?_)) rfl
 refine getMethod_builtin (typeIs_str _ _ _) F.plainAttrs_str F.slot_str_join F.type_str_join GM.noRef ?_
 refine callWith_method1 ?_
 refine spliced_more (gen_eval (A:=A.deeper env) AT BM TT.G O S0 h3 hcode hsc (by rw[hkind];rfl) hns rfl (show A.depth+1+1<_ by omega) hh (hk _ _ hx) a b Ts ta tb hit (λj hj=>(htup j hj).imp λk e=>hk _ _ e) (by decide) (by decide) (F:=λj y=>∃ u,y = .str ⟨(a j++b j).toArray⟩ u)
  (λA' E' cenv s₂ m₂ i c1 c2 c3 hA hi hG hB hn ha hb=>elt_ok c1 c2 hG TT.mgE hn ha hb TT.l1 (hab i hi) λh' t' k kk=>⟨⟨_,rfl⟩,h',k,rfl,kk⟩) λa' s5 fp wr St W hat hty hI hfp hold kp5 hwr hos hgens=>?_)
 refine spliced_none ?_
 refine wpAny_size (SC.joinGen W.in4_2 hty hat hfp hI (λj v hv=>by obtain⟨i,_,u,e⟩:=hv;exact⟨_,_,e⟩) (λs' lt hm hacc=>?_) ?_)
 ·have hl:lt.map (·.1)=((List.range items.size).map λj=>a j++b j).map λc=>(⟨c.toArray⟩:Str):=by
   have hsz':lt.length=items.size:=by simpa[strValues,passing_all] using hacc.1
   apply List.ext_getElem?
   intro j
   by_cases hj:j<items.size
   ·have hj':j<lt.length:=hsz'▸hj
    obtain⟨i,hi,u,hv⟩:=hacc.2 j (.str lt[j].1 lt[j].2) (by simp[strValues,List.getElem?_eq_getElem hj'])
    rw[passing_all,List.getElem?_range hj]at hi
    obtain rfl:=oJ hi
    injection hv with e1 _
    simp[List.getElem?_eq_getElem hj',hj,e1]
   ·rw[List.getElem?_eq_none (by simpa[hsz'] using Nat.le_of_not_lt hj),List.getElem?_eq_none (by simpa using Nat.le_of_not_lt hj)]
  rw[hl]
  refine⟨joinOk_nil _ (by rw[<-hz];exact hlen),λt' k hsz6=>?_⟩
  have e:=join_ok [] ((List.range items.size).map λj=>a j++b j)
  rw[joinL_nil,<-hz]at e
  rw[show(⟨#[]⟩:Str)=⟨([]:Cs).toArray⟩from rfl,e]
  refine hq {s' with toks:=k} t' ?_ (hm.os.trans hos) λhb=>(hgens hb).moved hm.gens
  have kp4:Kp B.tabs wr s5.heap s'.heap:=⟨λy o e hy=>.inl (hm.heap y o hy e),λy o f e=>hm.heap y o (λhy=>absurd (f.symm.trans ((hwr y hy).2 o e)).symm Bool.false_ne_true) e,hsz6⟩
  exact(kp0.trans kp5).trans' kp4 λy hy=>.inr (nT (Nat.le_of_lt hsz) (hwr y hy).1)
 ·rw[passing_all,List.length_range];exact lim_line hs1
end
end Mine
end
section
namespace Mine
open PySem PySem.W PySem.Calls PyProof.Rows Builtin Builtin.ObjectAttr
section
variable {prog:Program}{w:World}{A:Around}{E:Value->Shared->Prop}{s:Shared}{I:Addr}{fp wr:List Addr}{G:Array GenState->Array GenState->Prop}{n:Nat}{P:Nat->Value->Prop}{St:Nat->Shared->Prop}
noncomputable def shP (P:Nat->Value->Prop) (v0:Value->Prop):Nat->Value->Prop:=λi=>Nat.casesOn i v0 P
noncomputable def shS (St:Nat->Shared->Prop):Nat->Shared->Prop:=λi=>Nat.casesOn i (λ_=>False) St
theorem shift (W:WalksS prog w A I fp wr G n P St) (v0:Value->Prop):WalksS prog w A I fp wr G (n+1) (shP P v0) (shS St) where
 sub:=W.sub
 grefl:=W.grefl
 gtrans:=W.gtrans
 frame:=λi s h' tk st ht hk=>by
  cases i with
  | zero=>exact st.elim
  | succ i=>exact W.frame i s h' tk st ht hk
 item:=λi s Q E hi st hQ=>by
  cases i with
  | zero=>exact st.elim
  | succ i=>exact W.item i s Q E (Nat.lt_of_succ_lt_succ hi) st hQ
 done:=W.done
 self:=λi s Q E st hQ=>by
  cases i with
  | zero=>exact st.elim
  | succ i=>exact W.self i s Q E st hQ
theorem preSum_shift (c:Int) (val:Nat->Int):∀ k,preSum (λi=>Nat.casesOn i c val) (k+1)=c+preSum val k
 | 0=>by simp[preSum]
 | k+1=>by rw[preSum,preSum_shift c val k,preSum,Int.add_assoc]
theorem sum_start {c:Int}{t:Tok}{val:Nat->Int}{Q:Value->Shared->Prop}(W:WalksS prog w A.in1 I fp wr G n P St) (st:St 0 s) (hfp:∀ b∈fp,b<s.heap.objs.size) (hval:∀ i v,P i v->∃ t,v = .int (val i) t) (hc:0<=c/\c<=1000)
  (hQ:∀ s' t',Moved wr G s s'->Q (.int (c+preSum val n) t') s'):wpAny (model prog w) A (call (.builtin "sum") [.ref I,.int c t]) Q E s:=by
 refine call_function_tree F.kind_sum F.plain_sum F.entry_sum (by unfold argsOk;kernel_rfl) ?_
 unfold Builtin.«sum»
 simp -iota only [List.length_cons,List.length_nil]
 rw[if_neg (by decide)]
 refine wpAny_bind (wpAny_of_eq (show Builtin.Builtins.bindParams "sum" ["start"] 0 ⟨[.int c t],[]⟩=pure [some (.int c t)]from rfl) ?_)
 refine wpAny_bind (W.self 0 s _ _ st ?_)
 have fin:∀ (u:Tok) (sg:Int) (k:Nat),(sg=0∨sg=2)->s.toks<=k->codeAny (model prog w) A (.builtin "sum.loop" ⟨[.ref I,.ref s.heap.objs.size,rawInt sg,rawInt 0],[]⟩) (λr s'=>match r with | .ok (.ret v)=>Q v s' | .ok _=>False | .error e=>E e s') {s with heap:=s.heap.push {cls:=.type "list",data:=.seq #[.int c u]},toks:=k}:=λu sg k hsg hk=>by
  have hSf:s.heap.objs.size∉fp:=λhm=>Nat.lt_irrefl _ (hfp _ hm)
  have e1:preSum (λi=>Nat.casesOn i c val) 1=c:=by rw[preSum_shift];simp[preSum]
  refine codeAny_sum_loopAnyS (shift W λv=>∃ t,v = .int c t) (λi=>Nat.casesOn i c val) (λi v hv=>by cases i with|zero=>exact hv|succ i=>exact hval i v hv) s.heap.objs.size hSf n 1 _ u 0 sg hsg (by omega) (by omega)
   (W.frame 0 s _ _ st hk λb _ o e=>Heap.get?_push_of_some _ e) (by rw[e1];exact Heap.get?_push_size _ rfl) λs' t' hm=>?_
  rw[preSum_shift]
  exact hQ s' t' (hm.drop_new hk)
 dsimp only
 split
 ·refine wpAny_bind (wpAny_rule (wpAny_bind (wpAny_mkInt (wpAny_bind (wpAny_pure ?_)))))
  simp -iota only [List.forIn_cons,List.forIn_nil]
  refine wpAny_bind (wpAny_bind (wpAny_bind (wpAny_isInstance (T:="int") (b:=false) (typeIs_int _ _ _) PySem.sub_int_str ?_)))
  simp -iota only [Bool.false_eq_true,if_false]
  refine wpAny_pure (wpAny_bind (wpAny_bind (wpAny_isInstance (T:="int") (b:=false) (typeIs_int _ _ _) PySem.sub_int_bytes ?_)))
  simp -iota only [Bool.false_eq_true,if_false]
  refine wpAny_pure (wpAny_bind (wpAny_bind (wpAny_isInstance (T:="int") (b:=false) (typeIs_int _ _ _) PySem.sub_int_bytearray ?_)))
  simp -iota only [Bool.false_eq_true,if_false]
  refine wpAny_pure (wpAny_pure (wpAny_bind (wpAny_newObj_type (wpAny_pure ⟨plainId_quiet F.plain_sum_loop _,fin _ 0 _ (.inl rfl) (Nat.le_succ _)⟩))))
 ·refine wpAny_bind (wpAny_pure ?_)
  simp -iota only [List.forIn_cons,List.forIn_nil]
  refine wpAny_bind (wpAny_bind (wpAny_bind (wpAny_isInstance (T:="int") (b:=false) (typeIs_int _ _ _) PySem.sub_int_str ?_)))
  simp -iota only [Bool.false_eq_true,if_false]
  refine wpAny_pure (wpAny_bind (wpAny_bind (wpAny_isInstance (T:="int") (b:=false) (typeIs_int _ _ _) PySem.sub_int_bytes ?_)))
  simp -iota only [Bool.false_eq_true,if_false]
  refine wpAny_pure (wpAny_bind (wpAny_bind (wpAny_isInstance (T:="int") (b:=false) (typeIs_int _ _ _) PySem.sub_int_bytearray ?_)))
  simp -iota only [Bool.false_eq_true,if_false]
  refine wpAny_pure (wpAny_pure (wpAny_bind (wpAny_newObj_type (wpAny_pure ⟨plainId_quiet F.plain_sum_loop _,fin _ 2 _ (.inr rfl) (Nat.le_refl _)⟩))))
end
section
variable {prog:Program}{w:World}{A:Around}{E:Value->Shared->Prop}{s:Shared}{K:Frag}{x C f:Addr}{ox:Obj}{od:Option Obj}{n:Int}
theorem len_body {Q:Value->Shared->Prop}(X:K.In s.heap) (I:InstAt s.heap x ox C od) (hs:W.findIn K (.ref C) "__len__"=some (some (.ref f))) (hf:typeIn K (.ref f)=some (.type "function")) (hn:0<=n/\n<=2000000)
  (h:wpAny (model prog w) A (call (.ref f) [.ref x]) (λr s'=>∃ t,r = .int n t/\∀ t2 k,Q (.int n t2) {s' with toks:=k}) E s):
  wpAny (model prog w) A (Builtin.«len» ⟨[.ref x],[]⟩) (λfin s'=>∃ r,fin = .done (.ret r)/\Q r s') E s:=by
 unfold Builtin.«len»
 refine wpAny_bind (m:=oneArg "len" _) (wpAny_pure ?_)
 refine wpAny_bind (m:=callSpecial? (.ref x) (Str.ofString "__len__")) (special_fn X I hs hf (wpAny_mono h (λr s' hr=>?_) λ_ _ y=>y))
 obtain⟨t,rfl,hq⟩:=hr
 refine wpAny_bind (wpAny_holding (wpAny_pure ?_))
 refine wpAny_bind (wpAny_letGo ?_)
 show wpAny _ _ (if n<0 then _ else _) _ _ _
 rw[if_neg (by omega)]
 show wpAny _ _ (if n≥2 ^ 63 then _ else _) _ _ _
 rw[if_neg (by omega)]
 exact wpAny_bind (wpAny_mkInt (wpAny_pure ⟨_,rfl,hq _ _⟩))
theorem len_user {Q:Value->Shared->Prop}(X:K.In s.heap) (I:InstAt s.heap x ox C od) (hs:W.findIn K (.ref C) "__len__"=some (some (.ref f))) (hf:typeIn K (.ref f)=some (.type "function")) (hn:0<=n/\n<=2000000)
  (h:wpAny (model prog w) A.in1 (call (.ref f) [.ref x]) (λr s'=>∃ t,r = .int n t/\∀ t2 k,Q (.int n t2) {s' with toks:=k}) E s):wpAny (model prog w) A (call (.builtin "len") [.ref x]) Q E s:=
 call_function_entry kind_len plain_len entry_len (args_len1 _) (len_body X I hs hf hn h)
end
end Mine
end
section
namespace Mine
open PySem PySem.W PySem.Calls PyProof.Rows Builtin Builtin.ObjectAttr
theorem ga_slot:Slot "list" "__getattribute__" "list.__getattribute__":=
 .of (owner:="list") (n:="__getattribute__") (by rw[typeLookup_type,builtinLookup_eq_fast];kernel_rfl) (by decide +kernel) (by decide +kernel) (by decide +kernel)
  (by first|exact .inl (by decide +kernel)|exact .inr (by decide +kernel)) (by rw[isSubtype_type];kernel_rfl)
theorem ga_entry:entryFor table "list.__getattribute__"=some Builtin.«object.__getattribute__»:=entryFor_alias (id':="object.__getattribute__") (by kernel_rfl) (by first|rfl|decide +kernel) (by decide +kernel) (by kernel_rfl)
theorem ga_args (a b:Value):argsOk "list.__getattribute__" ⟨[a,b],[]⟩:=by unfold argsOk;kernel_rfl
section
variable {B:Base}{A:Around}{E:Value->Shared->Prop}{h:Heap}{g:Array GenState}{d:PySem.Drawn}{t:Nat}{os:OsState}{x dx:Addr}
theorem get_init (AT:AccAt B) (L:Low B h) (hi:W.findIn B.K (.ref B.C) "_initial_size"=some none){items:Array Value}{n:Nat}{sl:Array (Option Value)}{P:Params}{sz:Int}{es:Array DictEntry}{ep:Nat}{expr:Bool}{Q:Value->Shared->Prop}
  (hx:h.get? x=some (accObj B dx items n sl)) (hd:h.get? dx=some {cls:=.type "dict",data:=.dict es ep}) (hD:accDict P sz es) (hq:∀ u k,Q (.int sz u) ⟨h,g,d,k,os⟩):
  wpAny (model B.prog B.w) A (getAttr (.ref x) "_initial_size" expr) Q E ⟨h,g,d,t,os⟩:=by
 obtain⟨t1,t2,rfl⟩:=hD
 have X:=L.K
 have I:=acc_inst (B:=B) hx hd
 have hf:findObj B.K B.C (some {cls:=.type "dict",data:=.dict #[⟨PyData.keyHash P "_initial_size",.str "_initial_size" t1,.int sz t2⟩] ep}) "_initial_size"=some (.value (.int sz t2)):=
  findObj_own (by show(clsIn B.K B.C).any (·.hasDict)=true;rw[AT.makes.cls];exact AT.hasDict) hi (show noGet B.K none=true from rfl) (by kernel_rfl)
 have L0:=I.type (M:=model B.prog B.w)
 have L1:=looks_findIn (M:=model B.prog B.w) X AT.ga
 have L2:=looks_findIn (M:=model B.prog B.w) X AT.gh
 have L3:=looks_find (M:=model B.prog B.w) X I hf
 unfold getAttr getAttrBy
 refine wpAny_bind (wpAny_mkText (wpAny_holding (wpAny_bind (L0.here (wpAny_bind (L1.here ?_))))))
 show wpAny _ _ (getAttrByItsOwn _ _ _ _ _ _) _ _ _
 unfold getAttrByItsOwn hookBefore
 refine wpAny_bind (show wpAny _ _ (typeLookup (.ref B.C) "__getattr__") _ _ _ from L2.here ?_)
 refine wpAny_bind (wpAny_attempt (wpAny_holding ?_))
 show wpAny _ _ (callGetattribute _ _ _ _) _ _ _
 unfold callGetattribute
 rw[show(expr&&onTheHeap (.builtin "list.__getattribute__"))=false from by cases expr<;>rfl,if_neg Bool.false_ne_true]
 unfold boundAndCalled
 refine wpAny_bind (wpAny_of_eq (ga_slot.bind (.ref x)) ?_)
 show wpAny _ _ (call (.builtin "list.__getattribute__") [.ref x,.str "_initial_size" t]) _ _ ⟨h,g,d,t+1,os⟩
 refine wpAny_call (codeAny_call_builtin ga_slot.plain ga_entry (@check_slot (model B.prog B.w) _ _ ⟨h,g,d,t+1,os⟩ "list.__getattribute__" "list" "__getattribute__" (.ref x) [.str "_initial_size" t] [] _ (by decide +kernel) (by decide +kernel) (acc_isList AT X hx) (ga_args _ _) ?_))
 refine wpAny_bind (wpAny_pure (wpAny_bind (wpAny_pure ?_)))
 refine wpAny_bind (L0.here ?_)
 refine wpAny_bind (L3.here ?_)
 refine wpAny_pure ?_
 show wpAny _ _ (handedOut (.int sz t2)) _ _ _
 rw[handedOut_of (by rfl)]
 exact wpAny_pure (hq _ _)
end
end Mine
end
section
namespace Mine
open PySem PySem.W PySem.Calls PyProof.Rows Builtin Builtin.ObjectAttr
noncomputable def nmLen:List (Str×NameKind):=[("self",.local),("sum",.globalImplicit)]
noncomputable abbrev lenElt (p:Nat->Pos):PySem.Expr:=.BinOp (.Call (.Name "len" (p 0)) [.Name "fws" (p 1)] [] (p 2)) .Add (.Call (.Name "len" (p 3)) [.Name "part" (p 4)] [] (p 5)) (p 11)
noncomputable abbrev sizeAttr (p:Nat->Pos):PySem.Expr:=.Attribute (.Name "self" (p 13)) "_initial_size" (p 14)
noncomputable def bodyLen (p:Nat->Pos):List Stmt:=[.Return (some (.Call (.Name "sum" (p 12)) [genE "len" (lenElt p) p,sizeAttr p] [] (p 15))) (p 16)]
structure LenAt (B:Base) where
 fLen:Addr
 ps:Nat->Pos
 G:GenAt B fLen
 mLen:W.findIn B.K (.ref B.C) "__len__"=some (some (.ref fLen))
 dLen:FnAt B fLen [] nmLen (bodyLen ps) bnd1
 noInit:W.findIn B.K (.ref B.C) "_initial_size"=some none
 mgL:B.mg "len"=none
 mbL:B.mb "len"=some (.builtin "len")
 mgS:B.mg "sum"=none
 mbS:B.mb "sum"=some (.builtin "sum")
section
variable {B:Base}{A:Around}{E:Value->Shared->Prop}{x dx:Addr}
theorem len_elt (TT:LenAt B){cenv:Env}{p:Nat->Pos}{ta tb:Tok}{a b:Cs}{s:Shared}{m:Str->Option Value}{Q:Value->Shared->Prop}(hsc:cenv.scope=genScope "len") (hg:cenv.globals=mainGlobals) (hbn:cenv.builtins=builtinsNs) (hG:s.heap.Ns mainGlobals B.mg) (hB:s.heap.Ns builtinsNs B.mb)
  (hn:s.heap.Ns cenv.locals m) (h1:m "fws"=some (.str ⟨a.toArray⟩ ta)) (h2:m "part"=some (.str ⟨b.toArray⟩ tb)) (hlen:a.length+b.length<=LIM)
  (hq:∀ u k,Q (.int (a.length+b.length:Nat) u) {s with toks:=k}):
  wpAny (model B.prog B.w) A (eval (lenElt p) cenv) Q E s:=by
 have hk:cenv.scope.kind = .function:=by rw[hsc]
 have hkind:∀ y,cenv.kindOf y=(genScope "len").names.lookup y:=λy=>by show cenv.scope.names.lookup y=_;rw[hsc]
 have hl0:a.length+b.length<=1000000:=hlen
 have gl:∀ {p:Pos}{s':Shared}{Q:Value->Shared->Prop},s'.heap=s.heap->Q (.builtin "len") s'->wpAny (model B.prog B.w) A (eval (.Name "len" p) cenv) Q E s':=λ{p s' Q} e q=>
  wpAny_Name (ks_loadName_global hk (by rw[hkind];rfl) (loadGlobal_builtin (by rw[hg,e];exact hG) TT.mgL (by rw[hbn,e];exact hB) TT.mbL q)) rfl
 show wpAny _ _ ((eval (.Name "len" (p 0)) cenv>>=λg=>callWith (p 2) g [] (backTo (p 2) (starEach [.Name "fws" (p 1)] cenv)) [])>>=λx=>holding [x] (eval (.Call (.Name "len" (p 3)) [.Name "part" (p 4)] [] (p 5)) cenv)>>=λy=>standAt (p 11)>>=λ_=>operate [x,y] (binaryOp .Add x y)) _ _ _
 refine wpAny_bind (wpAny_bind (gl rfl (callWith_method1 (spliced_more (wpAny_Name (wpAny_loadName_local hk (by rw[hkind];rfl) hn h1 (spliced_none ?_)) rfl)))))
 refine P.len_str (by simp[Str.length];omega) ?_
 refine wpAny_bind (wpAny_holding ?_)
 show wpAny _ _ (eval (.Name "len" (p 3)) cenv>>=λg=>callWith (p 5) g [] (backTo (p 5) (starEach [.Name "part" (p 4)] cenv)) []) _ _ _
 refine wpAny_bind (gl rfl (callWith_method1 (spliced_more (wpAny_Name (wpAny_loadName_local hk (by rw[hkind];rfl) hn h2 (spliced_none ?_)) rfl))))
 refine P.len_str (by simp[Str.length];omega) ?_
 refine wpAny_bind (wpAny_standAt (wp_operate (P.add_int ?_)))
 have e:((⟨a.toArray⟩:Str).length:Int)+((⟨b.toArray⟩:Str).length:Int)=((a.length+b.length:Nat):Int):=by simp[Str.length]
 rw[e]
 exact hq _ _
theorem preSum_len (f:Nat->Cs):∀ n,preSum (λj=>((f j).length:Int)) n=((((List.range n).map f).flatten.length:Nat):Int)
 | 0=>rfl
 | n+1=>by
  rw[preSum,preSum_len f n,List.range_succ,List.map_append,List.flatten_append,List.length_append]
  simp
theorem olen_ok (AT:AccAt B) (BM:BmAt B) (TT:LenAt B) (O:B.Ok){s:Shared}(S:Stat B s.heap) (hroom:A.depth+2<recursionLimit) (hh:A.handled=none){items:Array Value}{n:Nat}{sl:Array (Option Value)}{sz:Int}{es:Array DictEntry}{ep:Nat}{P:Params}(hx:s.heap.get? x=some (accObj B dx items n sl))
  (hd:s.heap.get? dx=some {cls:=.type "dict",data:=.dict es ep}) (hD:accDict P sz es) (hsz:0<=sz/\sz<=1000)
  (a b:Nat->Cs) (Ts:Nat->Addr) (ta tb:Nat->Tok) (hit:∀ j,j<items.size->items[j]?=some (.ref (Ts j)))
  (htup:∀ j,j<items.size->∃ k,s.heap.get? (Ts j)=some (tupO #[.str ⟨(a j).toArray⟩ (ta j),.str ⟨(b j).toArray⟩ (tb j)] k)) (hab:∀ j,j<items.size->(a j).length+(b j).length<=LIM)
  (z:Cs) (hz:z=((List.range items.size).map λj=>a j++b j).flatten){Q:Value->Shared->Prop}
  (hq:∀ s' t',Kp B.tabs [] s.heap s'.heap->s'.os=s.os->(AllBare s.gens->AllBare s'.gens)->Q (.int (z.length+sz) t') s'):
  wpAny (model B.prog B.w) A (call (.ref TT.fLen) [.ref x]) Q E s:=by
 obtain⟨hh0,g,d,t,os⟩:=s
 refine frame TT.dLen (by omega) S.low (bs:=[("self",.ref x)]) rfl (by decide) (by intro y hy;rw[mS hy];rfl) λenv h₀ h1 h2 h3 h4 h5 h6 hns hk hloc=>?_
 have hsz0:hh0.objs.size<h₀.objs.size:=by
  obtain⟨o,es,ep,e,r⟩:=hns
  have:=Heap.lt_size e
  rw[hloc]at this
  exact this
 have kp0:Kp B.tabs [] hh0 h₀:=.keeps hk (Nat.le_of_lt hsz0)
 have S0:=S.keep O kp0 (λ_ h=>absurd h List.not_mem_nil)
 have L0:=S0.low
 have hsc:env.scope.kind = .function:=by rw[h1]
 have hkind:∀ y,env.kindOf y=nmLen.lookup y:=λy=>by show env.scope.names.lookup y=_;rw[h1]
 obtain⟨fd,od,sl',hf,hcode⟩:=h6
 have hcode:env.code = .ref TT.G.cda:=hcode.trans (TT.G.codeOf _ _ _ hf)
 refine ks_wpAt_execs_cons (ks_wpAt_Return_some (wpAt_of_wpAny ?_))
 show wpAny _ _ (eval (.Name "sum" (TT.ps 12)) env>>=λg=>callWith (TT.ps 15) g [] (backTo (TT.ps 15) (starEach [genE "len" (lenElt TT.ps) TT.ps,sizeAttr TT.ps] env)) []) _ _ _
 refine wpAny_bind (wpAny_Name (ks_loadName_global hsc (by rw[hkind];rfl) (loadGlobal_builtin (by rw[h3];exact L0.g) TT.mgS (by rw[h4];exact L0.b) TT.mbS ?_)) rfl)
 refine callWith_method1 ?_
 refine spliced_more (gen_eval (A:=A.deeper env) AT BM TT.G O S0 h3 hcode hsc (by rw[hkind];rfl) hns rfl (show A.depth+1+1<_ by omega) hh (hk _ _ hx) a b Ts ta tb hit (λj hj=>(htup j hj).imp λk e=>hk _ _ e) (by decide) (by decide) (F:=λj y=>∃ u,y = .int ((a j++b j).length:Nat) u)
  (λA' E' cenv s₂ m₂ i c1 c2 c3 hA hi hG hB hn ha hb=>len_elt TT c1 c2 c3 hG hB hn ha hb (hab i hi) λu k=>⟨⟨_,by rw[List.length_append]⟩,s₂.heap,k,rfl,λ_ _ e=>e⟩) λa' s5 fp wr St W hat hty hI hfp hold kp5 hwr hos hgens=>?_)
 obtain⟨h5,g5,d5,t5,os5⟩:=s5
 have S5:=S0.keep O kp5 (λ_ h=>absurd h List.not_mem_nil)
 refine spliced_more ?_
 show wpAny _ _ (eval (.Name "self" (TT.ps 13)) env>>=λo=>standAt (TT.ps 14).atName>>=λ_=>holding [o] (getAttr o "_initial_size" true)>>=λr=>letTemporaryGo (.Name "self" (TT.ps 13)) o r>>=λ_=>pure r) _ _ _
 have hns5:h5.Ns env.locals (λy=>[(("self":Str),Value.ref x)].reverse.lookup y):=kp5.ns hns (λh=>absurd h List.not_mem_nil)
 refine wpAny_bind (wpAny_Name (wpAny_loadName_local (v:=.ref x) hsc (by rw[hkind];rfl) hns5 rfl ?_) rfl)
 refine wpAny_bind (wpAny_standAt (wpAny_bind (wpAny_holding (wpAny_with_toks (Nat.le_refl t5) (get_init AT S5.low TT.noInit (hold _ _ (hk _ _ hx) (by intro q;cases q)) (hold _ _ (hk _ _ hd) (by intro q;cases q)) hD λu k htk=>?_)))))
 refine wpAny_bind (wpAny_pure (wpAny_pure (spliced_none ?_)))
 have W1:=W.in4_2.of_in1
 have st1:=W1.frame 0 _ h5 k hat htk λ_ _ _ e=>e
 refine wpAny_size (sum_start (val:=λj=>((a j++b j).length:Int)) W1 st1 hfp (λi v hv=>?_) hsz λs' t' hm hsz6=>?_)
 ·obtain⟨j,hj,u,e⟩:=hv
  rw[passing_all]at hj
  have:j=i:=by
   by_cases h:i<items.size
   ·rw[List.getElem?_range h]at hj;exact(oJ hj).symm
   ·rw[List.getElem?_eq_none (by rw[List.length_range];omega)]at hj;exact nomatch hj
  exact⟨u,this▸e⟩
 ·rw[passing_all,List.length_range,preSum_len (λj=>a j++b j),<-hz,Int.add_comm]
  refine hq s' t' ?_ (hm.os.trans hos) λhb=>(hgens hb).moved hm.gens
  have kp6:Kp B.tabs wr h5 s'.heap:=⟨λy o e hy=>.inl (hm.heap y o hy e),λy o f e=>hm.heap y o (λhy=>nomatch f.symm.trans ((hwr y hy).2 o e)) e,hsz6⟩
  exact(kp0.trans kp5).trans' kp6 λy hy=>.inr (nT (Nat.le_of_lt hsz0) (hwr y hy).1)
end
end Mine
end
section
namespace Mine
open PySem PySem.W PySem.Calls PyProof.Rows Builtin Builtin.ObjectAttr
noncomputable def nmFrom:List (Str×NameKind):=[("self",.local),("i",.local),("popped",.local)]
noncomputable abbrev fromSl (p:Nat->Pos) (k:Nat):PySem.Expr:=.Slice (some (.Name "i" (p k))) none none (p (k+1))
noncomputable def bodyFrom (p:Nat->Pos):List Stmt:=
 [.Assign [.Name "popped" (p 0)] (.Subscript (.Name "self" (p 1)) (fromSl p 2) (p 4)) (p 5),
  .Assign [.Subscript (.Name "self" (p 6)) (fromSl p 7) (p 9)] (.List [] (p 10)) (p 11),
  .Return (some (.Name "popped" (p 12))) (p 13)]
noncomputable def bndFrom:List Value->Option (List (Str×Value)):=λvs=>match vs with
 | [x,y]=>some [("self",x),("i",y)]
 | _=>none
noncomputable def nmReset:List (Str×NameKind):=[("self",.local),("startval",.local)]
noncomputable def bodyReset (p:Nat->Pos):List Stmt:=
 [.If (.Compare (.Name "startval" (p 0)) [.Is] [.Constant .none 0 (p 1)] (p 2)) [.Assign [.Name "startval" (p 3)] (.List [] (p 4)) (p 5)] [] (p 6),
  .Assign [.Subscript (.Name "self" (p 7)) (.Slice none none none (p 8)) (p 9)] (.Name "startval" (p 10)) (p 11),
  .Assign [.Attribute (.Name "self" (p 12)) "_initial_size" (p 13)] (.Constant (.int 0) 0 (p 14)) (p 15)]
noncomputable def bndReset:List Value->Option (List (Str×Value)):=λvs=>match vs with
 | [x,y]=>some [("self",x),("startval",y)]
 | _=>none
structure CutAt (B:Base) where
 fFrom:Addr
 fReset:Addr
 pf:Nat->Pos
 pr:Nat->Pos
 mFrom:W.findIn B.K (.ref B.C) "pop_from"=some (some (.ref fFrom))
 mReset:W.findIn B.K (.ref B.C) "reset"=some (some (.ref fReset))
 dFrom:FnAt B fFrom [] nmFrom (bodyFrom pf) bndFrom
 dReset:FnAt B fReset [] nmReset (bodyReset pr) bndReset
 mGet:W.findIn B.K (.ref B.C) "__getitem__"=some (some (.builtin "list.__getitem__"))
 mSet:W.findIn B.K (.ref B.C) "__setitem__"=some (some (.builtin "list.__setitem__"))
section
variable {B:Base}{A:Around}{E:Value->Shared->Prop}{h:Heap}{g:Array GenState}{d:PySem.Drawn}{t:Nat}{os:OsState}{x dx:Addr}
theorem own_key (AT:AccAt B) (X:B.K.In h){items:Array Value}{n:Nat}{sl:Array (Option Value)}(hx:h.get? x=some (accObj B dx items n sl)){k:Value}{name:Str}{Q:Value->Shared->Prop}(q:Q k ⟨h,g,d,t,os⟩):wpAny (model B.prog B.w) A (sequenceKey (.ref x) k name) Q E ⟨h,g,d,t,os⟩:=by
 have ht:Looks (model B.prog B.w) h (typeOf (.ref x)) (.ref B.C):=(Looks.ld hx).andThen .now
 have hn:Looks (model B.prog B.w) h (isSubtype (.ref B.C) (.type "collections.deque")) false:=looks_mroIn X (by unfold mroIn;rw[AT.makes.cls,Option.bind_some,AT.mro];rfl)
 have ha:Looks (model B.prog B.w) h (seqItemTypes.anyM λn=>isSubtype (.ref B.C) (.type n)) false:=hn.andThen .now
 unfold sequenceKey
 refine wpAny_bind (ht.here ?_)
 refine wpAny_bind (ha.here ?_)
 rw[if_pos (show(!false)=true from rfl)]
 exact wpAny_pure q
theorem own_special (X:B.K.In h){items:Array Value}{n:Nat}{sl:Array (Option Value)}(hx:h.get? x=some (accObj B dx items n sl)){name:Str}{id:String}{args:List Value}{Q:Option Value->Shared->Prop}(hf:W.findIn B.K (.ref B.C) name=some (some (.builtin id))) (hb:bindSpecial (.builtin id) (.ref x)=pure (.builtin id,[.ref x]))
  (q:wpAny (model B.prog B.w) A (call (.builtin id) (.ref x::args)) (λv s'=>Q (some v) s') E ⟨h,g,d,t,os⟩):wpAny (model B.prog B.w) A (callSpecial? (.ref x) name args) Q E ⟨h,g,d,t,os⟩:=by
 have ht:Looks (model B.prog B.w) h (typeOf (.ref x)) (.ref B.C):=(Looks.ld hx).andThen .now
 exact wpAny_bind (wpAny_bind (ht.here ((looks_findIn X hf).here (wpAny_holding (wpAny_bind (wpAny_of_eq hb (wpAny_bind (wpAny_mono q (λ_ _ z=>wpAny_pure z) λ_ _ z=>z))))))))
theorem parts_ok {slx:Addr}{vl:Value}{k:Option Int}(hs:h.IsSliceOf slx vl .none .none) (hv:IsPart vl k){Q:Value×Value×Value->Shared->Prop}(q:Q (rawPart k,.none,.none) ⟨h,g,d,t,os⟩):
  wpAny (model B.prog B.w) A (Builtin.List.listSliceParts (.ref slx)) Q E ⟨h,g,d,t,os⟩:=by
 obtain⟨o,ho,hc,hd⟩:=hs
 rw[listSliceParts_eq]
 refine wpAny_bind (wpAny_field ho hd (x:=.none) rfl (wpAny_bind (wpAny_listPart .none ?_)))
 refine wp_no Bool.false_ne_true ?_
 exact wpAny_bind (wpAny_field ho hd (x:=vl) rfl (wpAny_bind (wpAny_listPart hv (wpAny_bind (wpAny_field ho hd (x:=.none) rfl (wpAny_bind (wpAny_listPart .none (wpAny_pure q))))))))
theorem noIdx {slx:Addr}{vl:Value}(hs:h.IsSliceOf slx vl .none .none){Q:Option Int->Shared->Prop}(q:Q none ⟨h,g,d,t,os⟩):wpAny (model B.prog B.w) A (Builtin.List.listSubscript? (.ref slx)) Q E ⟨h,g,d,t,os⟩:=by
 obtain⟨o,ho,hc,hd⟩:=hs
 unfold Builtin.List.listSubscript?
 exact wpAny_bind (wpAny_specialOf ⟨o,ho,hc⟩ slice_no_index (wp_yes rfl (wpAny_pure q)))
theorem all_bounds {k:Option Int}(hk:k=none∨k=some 0) (n:Nat):sliceIndices (rawPart k) .none .none n=pure ((0:Int),(n:Int),(1:Int)):=by
 have:=sliceIndices_raw k none none n nofun
 rw[show sliceBounds k none none n=((0:Int),(n:Int),(1:Int))from ?_]at this
 ·exact this
 ·rcases hk with rfl|rfl
  ·simp[sliceBounds]
  ·simp[sliceBounds]
   omega
theorem gi_kind:builtinKind "list.__getitem__"=some .method:=by decide +kernel
theorem gi_split:splitId "list.__getitem__"=some ("list","__getitem__"):=by decide +kernel
theorem si_kind:builtinKind "list.__setitem__"=some .slot:=by decide +kernel
theorem si_split:splitId "list.__setitem__"=some ("list","__setitem__"):=by decide +kernel
theorem own_get (AT:AccAt B) (CT:CutAt B) (X:B.K.In h){items:Array Value}{n:Nat}{sl:Array (Option Value)}{slx:Addr}{vl:Value}{k:Option Int}(hx:h.get? x=some (accObj B dx items n sl)) (hs:h.IsSliceOf slx vl .none .none) (hv:IsPart vl k) (hk:k=none∨k=some 0) (hz:items.size<=sizeLine){Q:Value->Shared->Prop}
  (q:Q (.ref h.objs.size) ⟨h.push (lstO items 0),g,d,t,os⟩):wpAny (model B.prog B.w) A (getItem (.ref x) (.ref slx)) Q E ⟨h,g,d,t,os⟩:=by
 unfold getItem
 refine wpAny_holding (wpAny_bind (own_key AT X hx (wpAny_bind (own_special X hx CT.mGet (slot_list_getitem.bind _) ?_))))
 refine wpAny_call (codeAny_call_builtin slot_list_getitem.plain entry_list_getitem (@kfo_check (model B.prog B.w) _ _ ⟨h,g,d,t,os⟩ "list.__getitem__" "list" "__getitem__" (.ref x) [.ref slx] [] _ gi_kind gi_split (acc_isList AT X hx) (args_list_getitem _ _) ?_))
 show wpAny _ _ (Builtin.List.listSubscript? (.ref slx)>>=_) _ _ _
 refine wpAny_bind (noIdx hs ?_)
 obtain⟨o,ho,hc,hd⟩:=id hs
 show wpAny _ _ (typeOf (.ref slx)>>=_) _ _ _
 refine wpAny_bind (wpAny_typeOf ⟨o,ho,hc⟩ (wp_no Bool.false_ne_true ?_))
 refine wpAny_bind (parts_ok hs hv ?_)
 refine wpAny_bind (m:=Builtin.List.listItems (.ref x)) (listItems_at hx rfl ?_)
 refine wpAny_bind (wpAny_of_eq (all_bounds hk items.size) ?_)
 have e:((sliceRange 0 (items.size:Int) 1).filterMap (items[·]?)).toArray=items:=by
  have:=pick_fwd items.toList 0 items.toList.length
  rw[List.take_length,List.drop_zero,Array.length_toList]at this
  simp only [Array.getElem?_toList]at this
  rw[show(0:Int)=((0:Nat):Int)from rfl,this]
 refine wpAny_bind (wpAny_newObj_type (wpAny_pure (wpAny_pure ?_)) (by show((sliceRange 0 (items.size:Int) 1).filterMap (items[·]?)).toArray.size<=_;rw[e];exact hz))
 rw[e]
 exact q
theorem own_set (AT:AccAt B) (CT:CutAt B) (X:B.K.In h){items new:Array Value}{n m:Nat}{sl:Array (Option Value)}{slx y:Addr}{vl:Value}{k:Option Int}(hx:h.get? x=some (accObj B dx items n sl)) (hy:h.get? y=some (lstO new m)) (hs:h.IsSliceOf slx vl .none .none) (hv:IsPart vl k) (hk:k=none∨k=some 0) (hz:items.size+new.size<=sizeLine){Q:Unit->Shared->Prop}
  (q:∀ h' n',Heap.SameBut x h h'->h'.get? x=some (accObj B dx new n' sl)->Q () ⟨h',g,d,t,os⟩):wpAny (model B.prog B.w) A (setItem (.ref x) (.ref slx) (.ref y)) Q E ⟨h,g,d,t,os⟩:=by
 have hxy:x≠y:=λe=>by rw[e,hy]at hx;cases hx
 unfold setItem
 refine wpAny_holding (wpAny_bind (own_key AT X hx (wpAny_bind (own_special X hx CT.mSet (slot_list_setitem.bind _) ?_))))
 refine wpAny_call (codeAny_call_builtin slot_list_setitem.plain entry_list_setitem (@check_slot (model B.prog B.w) _ _ ⟨h,g,d,t,os⟩ "list.__setitem__" "list" "__setitem__" (.ref x) [.ref slx,.ref y] [] _ si_kind si_split (acc_isList AT X hx) (args_list_setitem _ _ _) ?_))
 show wpAny _ _ (Builtin.List.listSubscript? (.ref slx)>>=_) _ _ _
 refine wpAny_bind (noIdx hs ?_)
 obtain⟨o,ho,hc,hd⟩:=id hs
 show wpAny _ _ (typeOf (.ref slx)>>=_) _ _ _
 refine wpAny_bind (wpAny_typeOf ⟨o,ho,hc⟩ (wp_no Bool.false_ne_true ?_))
 refine wpAny_bind (parts_ok hs hv ?_)
 refine wp_no (show ¬((x==y)=true)by simpa using hxy) ?_
 show wpAny _ _ (Builtin.List.listAllItems (.ref y) _>>=λnew=>_) _ _ _
 refine wpAny_bind ?_
 unfold Builtin.List.listAllItems
 refine wpAny_bind (wpAny_typeOf ⟨_,hy,rfl⟩ (wp_yes rfl (listItems_at hy rfl ?_)))
 refine wpAny_bind (m:=Builtin.List.listItems (.ref x)) (listItems_at hx rfl ?_)
 refine wpAny_bind (wpAny_of_eq (all_bounds hk items.size) ?_)
 refine wp_yes rfl (wpAny_bind (wpAny_rule ?_))
 refine wp_no (by show ¬(decide (items.size+new.size>sizeLine)=true);rw[decide_eq_true_eq];exact Nat.not_lt.mpr hz) ?_
 have e0:items.extract 0 (0:Int).toNat++new++items.extract (max (0:Int) (items.size:Int)).toNat items.size=new:=by
  have:(max (0:Int) (items.size:Int)).toNat=items.size:=by omega
  rw[this]
  simp
 obtain⟨n',e⟩:∃ n',Obj.mapSeq (λxs=>xs.extract 0 (0:Int).toNat++new++xs.extract (max (0:Int) (items.size:Int)).toNat xs.size) (accObj B dx items n sl)=accObj B dx new n' sl:=⟨_,by unfold Obj.mapSeq;dsimp only;rw[e0]⟩
 refine wpAny_bind (listUpdate_at hx rfl ?_ (by omega) (by rw[e0];omega))
 refine wpAny_bind (wpAny_letGo (wpAny_pure (wpAny_pure ?_)))
 exact q _ n' (Heap.SameBut.update ..) (by rw[Heap.get?_update_self _ hx (by rw[e];rfl),e])
end
end Mine
end
section
namespace Mine
open PySem PySem.W PySem.Calls PyProof.Rows Builtin Builtin.ObjectAttr
section
variable {B:Base}{A:Around}{E:Value->Shared->Prop}{x dx:Addr}
theorem slice_all {o:Option PySem.Expr}{v:Value}{k:Option Int}{p:Pos}{env:Env}{s:Shared}{Q:Value->Shared->Prop}(hl:wpAny (model B.prog B.w) A (valueOrNone (evalOpt o env)) (λy s'=>y=v/\s'=s) E s)
  (q:∀ h',(∀ b o,s.heap.get? b=some o->h'.get? b=some o)->h'.IsSliceOf s.heap.objs.size v .none .none->Q (.ref s.heap.objs.size) {s with heap:=h'}):wpAny (model B.prog B.w) A (eval (.Slice o none none p) env) Q E s:=by
 show wpAny _ _ (valueOrNone (evalOpt o env)>>=λa=>holding [a] (valueOrNone (evalOpt none env))>>=λb=>holding [a,b] (valueOrNone (evalOpt none env))>>=λc=>newFields "slice" [a,b,c]) _ _ _
 refine wpAny_bind (wpAny_mono hl (λy s' h=>?_) λ_ _ z=>z)
 obtain⟨rfl,rfl⟩:=h
 refine wpAny_bind (wpAny_holding (wpAny_pure (wpAny_bind (wpAny_holding (wpAny_pure ?_)))))
 exact wpAny_newObj_type (q _ (λb o e=>Heap.get?_push_of_some _ e) ⟨_,Heap.get?_push_size _ rfl,rfl,rfl⟩) (by size_fits)
theorem own_noPy (CT:CutAt B){h:Heap}(X:B.K.In h){items:Array Value}{n:Nat}{sl:Array (Option Value)}(hx:h.get? x=some (accObj B dx items n sl)):Looks (model B.prog B.w) h (getitemInPython (.ref x)) false:=by
 have ht:Looks (model B.prog B.w) h (typeOf (.ref x)) (.ref B.C):=(Looks.ld hx).andThen .now
 exact(ht.andThen (looks_findIn X CT.mGet)).andThen .now
theorem own_store (AT:AccAt B) (CT:CutAt B){env:Env}{s:Shared}{o:Option PySem.Expr}{p0 p1 p2 pos:Pos}{e:PySem.Expr}{y:Addr}{v:Value}{k:Option Int}{items new:Array Value}{n m:Nat}{sl:Array (Option Value)}{Q:Flow->Shared->Prop}(X:B.K.In s.heap) (hx:s.heap.get? x=some (accObj B dx items n sl))
  (hself:∀ s':Shared,(∀ b o,s.heap.get? b=some o->s'.heap.get? b=some o)->∀ {Q:Value->Shared->Prop},Q (.ref x) s'->wpAny (model B.prog B.w) A (eval (.Name "self" p0) env) Q E s')
  (hpart:∀ s':Shared,(∀ b o,s.heap.get? b=some o->s'.heap.get? b=some o)->wpAny (model B.prog B.w) A (valueOrNone (evalOpt o env)) (λy s''=>y=v/\s''=s') E s') (hv:IsPart v k) (hk:k=none∨k=some 0) (hz:items.size+new.size<=sizeLine)
  (hsw:swappedStores [.Subscript (.Name "self" p0) (.Slice o none none p1) p2] e env=pure none) (hb:swapsWith e (some (.Subscript (.Name "self" p0) (.Slice o none none p1) p2)) pos.line env=pure false)
  (he:wpAny (model B.prog B.w) A (eval e env) (λr s'=>r = .ref y/\(∃ h',s'={s with heap:=h'})/\(∀ b o,s.heap.get? b=some o->s'.heap.get? b=some o)/\s'.heap.get? y=some (lstO new m)) E s)
  (q:∀ h' n',(∀ b o,b≠x->s.heap.get? b=some o->h'.get? b=some o)->h'.get? x=some (accObj B dx new n' sl)->Q .next {s with heap:=h'}):
  wpAny (model B.prog B.w) A (exec (.Assign [.Subscript (.Name "self" p0) (.Slice o none none p1) p2] e pos) env) Q E s:=by
 refine assign_run hb (wpAny_bind (wpAny_mono he (λr s' hr=>?_) λ_ _ z=>z))
 obtain⟨rfl,⟨h1,rfl⟩,k1,hy⟩:=hr
 rw[hsw]
 refine wpAny_bind (wpAny_pure ?_)
 show wpAny _ _ (assign (.Subscript (.Name "self" p0) (.Slice o none none p1) p2) env (.ref y)>>=λ_=>(pure Flow.next:Sem Flow)) _ _ _
 refine wpAny_bind ?_
 show wpAny _ _ (holding [.ref y] (eval (.Name "self" p0) env)>>=λov=>holding [.ref y,ov] (eval (.Slice o none none p1) env)>>=λiv=>standAt p2>>=λ_=>holding [.ref y,ov,iv] (setItem ov iv (.ref y))>>=λ_=>release _ []) _ _ _
 refine wpAny_bind (wpAny_holding (hself _ k1 (wpAny_bind (wpAny_holding (slice_all (k:=k) (hpart _ k1) λh2 k2 hsl=>wpAny_bind (wpAny_standAt (wpAny_bind (wpAny_holding ?_))))))))
 refine own_set AT CT (X.keeps λb o e=>k2 _ _ (k1 _ _ e)) (k2 _ _ (k1 _ _ hx)) (k2 _ _ hy) hsl hv hk hz λh3 n' sb g=>wp_rel (wpAny_pure (q h3 n' (λb o hb e=>(sb.2 b hb).trans (k2 _ _ (k1 _ _ e))) g))
theorem from_ok (AT:AccAt B) (CT:CutAt B){s:Shared}(L:Low B s.heap) (hroom:A.depth<recursionLimit){items:Array Value}{n:Nat}{sl:Array (Option Value)}{tk:Tok}(hx:s.heap.get? x=some (accObj B dx items n sl)) (hz:items.size<=sizeLine){Q:Value->Shared->Prop}
  (hq:∀ h' t' u n',(∀ y o,y≠x->s.heap.get? y=some o->h'.get? y=some o)->s.heap.objs.size<=u->h'.get? u=some (lstO items 0)->h'.get? x=some (accObj B dx #[] n' sl)->Q (.ref u) {s with heap:=h',toks:=t'}):
  wpAny (model B.prog B.w) A (call (.ref CT.fFrom) [.ref x,.int 0 tk]) Q E s:=by
 obtain⟨hh,g,d,t,os⟩:=s
 refine frame CT.dFrom hroom L (bs:=[("self",.ref x),("i",.int 0 tk)]) rfl (by decide) (by intro y hy;simp at hy;rcases hy with rfl|rfl<;>rfl) λenv h₀ h1 h2 h3 h4 h5 h6 hns hk hloc=>?_
 have L0:=L.keeps hk
 have hsc:env.scope.kind = .function:=by rw[h1]
 have hkind:∀ y,env.kindOf y=nmFrom.lookup y:=λy=>by show env.scope.names.lookup y=_;rw[h1]
 have nm:∀ {y:Str}{v:Value}{p:Pos}{A:Around}{E:Value->Shared->Prop}{m:Str->Option Value}{s':Shared}{Q:Value->Shared->Prop},s'.heap.Ns env.locals m->nmFrom.lookup y=some .local->(y==("__debug__":Str))=false->m y=some v->Q v s'->wpAny (model B.prog B.w) A (eval (.Name y p) env) Q E s':=
  λn e1 e2 e3 q=>wpAny_Name (wpAny_loadName_local hsc (by rw[hkind];exact e1) n e3 q) e2
 have hlt:env.locals<h₀.objs.size:=hns.lt
 have hsz:hh.objs.size<h₀.objs.size:=hloc▸hlt
 have hx0:=hk _ _ hx
 refine ks_wpAt_execs_cons (wpAt_of_wpAny (assign_run (by rfl) ?_))
 show wpAny _ _ ((eval (.Name "self" (CT.pf 1)) env>>=λov=>holding [ov] (eval (fromSl CT.pf 2) env)>>=λiv=>standAt (CT.pf 4)>>=λ_=>(do let r <-subscripted (fromSl CT.pf 2) (<-getitemInPython ov) ov iv;letTemporaryGo (.Name "self" (CT.pf 1)) ov r;pure r))>>=λv=>_) _ _ _
 refine wpAny_bind (wpAny_bind (nm hns rfl rfl (v:=.ref x) rfl (wpAny_bind (wpAny_holding (slice_all (k:=some 0) (v:=.int 0 tk) (nm hns rfl rfl (v:=.int 0 tk) rfl ⟨rfl,rfl⟩) λh2' k2 hsl=>wpAny_bind (wpAny_standAt ?_))))))
 have X2:=L0.K.keeps k2
 refine wpAny_bind ((own_noPy CT X2 (k2 _ _ hx0)).here (wpAny_bind (wp_operate (own_get AT CT X2 (k2 _ _ hx0) hsl (.int _ _) (.inr rfl) hz ?_))))
 refine wpAny_bind (wpAny_letTemporaryGo (wpAny_pure ?_))
 show wpAny _ _ ((pure none:Sem (Option (List Str)))>>=λ_=>(assign (.Name "popped" (CT.pf 0)) env (.ref h2'.objs.size)>>=λ_=>(pure Flow.next:Sem Flow))) _ _ _
 refine wpAny_bind (wpAny_pure (wpAny_bind (wpAny_assign_Name ?_)))
 have k3:∀ b o,h₀.get? b=some o->(h2'.push (lstO items 0)).get? b=some o:=λb o e=>Heap.get?_push_of_some _ (k2 _ _ e)
 have hu:(h2'.push (lstO items 0)).get? h2'.objs.size=some (lstO items 0):=Heap.get?_push_size _ rfl
 have hsz2:h₀.objs.size<h2'.objs.size:=by obtain⟨o,e,_⟩:=hsl;exact Heap.lt_size e
 refine wpAny_storeName_local (by rw[hkind];rfl) (hns.keeps k3) (λh4' hns4 sb4=>wpAny_pure ?_) (by rw[hsc];rfl)
 have e4:∀ b o,b≠env.locals->(h2'.push (lstO items 0)).get? b=some o->h4'.get? b=some o:=λb o hb e=>(sb4.2 b hb).trans e
 have hxl:x≠env.locals:=λe=>by rw[e,hloc]at hx;exact absurd (Heap.lt_size hx) (Nat.lt_irrefl _)
 have hx4:=e4 _ _ hxl (k3 _ _ hx0)
 have hu4:=e4 _ _ (Nat.ne_of_gt (Nat.lt_trans hlt hsz2)) hu
 have X4:B.K.In h4':=λb o e=>e4 _ _ (λq=>by have:=Heap.lt_size (L.K b o e);rw[q,hloc]at this;exact absurd this (Nat.lt_irrefl _)) (k3 _ _ (L0.K b o e))
 refine ks_wpAt_execs_cons (wpAt_of_wpAny (own_store AT CT (k:=some 0) (v:=.int 0 tk) (new:=#[]) (m:=0) (y:=h4'.objs.size) X4 hx4 (λs' k Q q=>nm (hns4.keeps k) rfl rfl (by rw[if_neg (by decide)];rfl) q) (λs' k=>nm (hns4.keeps k) rfl rfl (by rw[if_neg (by decide)];rfl) ⟨rfl,rfl⟩) (.int _ _) (.inr rfl) (by simpa using hz) (by rfl) (by rfl) ?_ λh5' n' k5 hx5=>?_))
 ·show wpAny _ _ (standAt (CT.pf 10)>>=λ_=>spliced (backTo (CT.pf 10) (starEach [] env))>>=λxs=>newList xs) _ _ _
  exact wpAny_bind (wpAny_standAt (wpAny_bind (spliced_none (wpAny_newList ⟨rfl,⟨_,rfl⟩,λb o e=>Heap.get?_push_of_some _ e,Heap.get?_push_size _ rfl⟩))))
 ·have hns5:h5'.Ns env.locals _:=hns4.at' λo e=>k5 _ _ (Ne.symm hxl) e
  refine ks_wpAt_execs_cons (ks_wpAt_Return_some (wpAt_of_wpAny (nm hns5 rfl rfl (v:=.ref h2'.objs.size) (by simp) ?_)))
  have hux:h2'.objs.size≠x:=λe=>absurd (Nat.lt_trans hsz2 (Nat.lt_of_le_of_lt (Nat.le_of_eq e) (Heap.lt_size hx0))) (Nat.lt_irrefl _)
  exact hq h5' _ _ n' (λy o hy e=>k5 _ _ hy (e4 _ _ (λq=>by have:=Heap.lt_size e;rw[q,hloc]at this;exact absurd this (Nat.lt_irrefl _)) (k3 _ _ (hk _ _ e)))) (Nat.le_of_lt (Nat.lt_trans hsz hsz2)) (k5 _ _ hux hu4) hx5
theorem Low.low {h h':Heap}(L:Low B h) (O:B.Ok) (k:∀ b o,b<B.N->h.get? b=some o->h'.get? b=some o):Low B h':=by
 obtain⟨mc,n,q⟩:=L.nolimit
 exact⟨λb o e=>k _ _ (O.low b o e) (L.K b o e),L.g.at' λo=>k _ o O.gl,L.b.at' λo=>k _ o O.bl,mc,n.at' λo=>k _ o O.sl,q⟩
theorem put_again (P:Params) (t1 u:Tok) (sz:Int) (t2:Tok) (v:Value) (ep:Nat):Obj.putName "_initial_size" (PyData.keyHash P "_initial_size") (.str "_initial_size" u) v {cls:=.type "dict",data:=.dict #[⟨PyData.keyHash P "_initial_size",.str "_initial_size" t1,.int sz t2⟩] ep}={cls:=.type "dict",data:=.dict #[⟨PyData.keyHash P "_initial_size",.str "_initial_size" t1,v⟩] ep}:=by rfl
theorem reset_ok (O:B.Ok) (AT:AccAt B) (CT:CutAt B){s:Shared}(hN:B.N<=x) (L:Low B s.heap) (hroom:A.depth<recursionLimit){items new:Array Value}{n m:Nat}{sl:Array (Option Value)}{es:Array DictEntry}{ep:Nat}{sz:Int}{y:Addr}(hx:s.heap.get? x=some (accObj B dx items n sl)) (hd:s.heap.get? dx=some {cls:=.type "dict",data:=.dict es ep}) (hD:accDict B.w.params sz es)
  (hy:s.heap.get? y=some (lstO new m)) (hz:items.size+new.size<=sizeLine){Q:Value->Shared->Prop}
  (hq:∀ h' t' n' es',(∀ b o,b≠x->b≠dx->s.heap.get? b=some o->h'.get? b=some o)->s.heap.objs.size<=h'.objs.size->h'.get? x=some (accObj B dx new n' sl)->h'.get? dx=some {cls:=.type "dict",data:=.dict es' ep}->accDict B.w.params 0 es'->Q .none {s with heap:=h',toks:=t'}):
  wpAny (model B.prog B.w) A (call (.ref CT.fReset) [.ref x,.ref y]) Q E s:=by
 obtain⟨hh,g,d,t,os⟩:=s
 refine frame CT.dReset hroom L (bs:=[("self",.ref x),("startval",.ref y)]) rfl (by decide) (by intro y hy;simp at hy;rcases hy with rfl|rfl<;>rfl) λenv h₀ h1 h2 h3 h4 h5 h6 hns hk hloc=>?_
 have L0:=L.keeps hk
 have hsc:env.scope.kind = .function:=by rw[h1]
 have hkind:∀ y,env.kindOf y=nmReset.lookup y:=λy=>by show env.scope.names.lookup y=_;rw[h1]
 have nm:∀ {y:Str}{v:Value}{p:Pos}{A:Around}{E:Value->Shared->Prop}{m:Str->Option Value}{s':Shared}{Q:Value->Shared->Prop},s'.heap.Ns env.locals m->nmReset.lookup y=some .local->(y==("__debug__":Str))=false->m y=some v->Q v s'->wpAny (model B.prog B.w) A (eval (.Name y p) env) Q E s':=
  λn e1 e2 e3 q=>wpAny_Name (wpAny_loadName_local hsc (by rw[hkind];exact e1) n e3 q) e2
 have hlt:env.locals<h₀.objs.size:=hns.lt
 have hsz:hh.objs.size<h₀.objs.size:=hloc▸hlt
 refine ks_wpAt_execs_cons (ks_wpAt_If (wpAt_of_wpAny (wpAny_isTrue_Compare1 (nm hns rfl rfl (v:=.ref y) rfl (wpAny_Constant_none ?_)))))
 refine wpAny_of_eq (show compareOp .Is (.ref y) .none=pure (.bool false)from rfl) (wpAny_truthy_bool ?_)
 rw[if_neg Bool.false_ne_true]
 refine wpAt_of_wpAny (wpAny_execs_nil ?_)
 refine ks_wpAt_execs_cons (wpAt_of_wpAny (own_store AT CT (k:=none) (v:=.none) (new:=new) (m:=m) (y:=y) L0.K (hk _ _ hx) (λs' k Q q=>nm (hns.keeps k) rfl rfl rfl q) (λs' k=>wpAny_pure ⟨rfl,rfl⟩) .none (.inl rfl) hz (by rfl) (by rfl) (nm hns rfl rfl (v:=.ref y) rfl ⟨rfl,⟨h₀,rfl⟩,λ_ _ e=>e,hk _ _ hy⟩) λh1' n' k1 hx1=>?_))
 have hne:dx≠x:=λe=>by rw[e,hx]at hd;cases hd
 have hxl:env.locals≠x:=λe=>by rw[<-e,hloc]at hx;exact absurd (Heap.lt_size hx) (Nat.lt_irrefl _)
 have hd1:=k1 _ _ hne (hk _ _ hd)
 have hns1:h1'.Ns env.locals _:=hns.at' λo e=>k1 _ _ hxl e
 have L1:Low B h1':=L0.low O λb o hb e=>k1 b o (Nat.ne_of_lt (Nat.lt_of_lt_of_le hb hN)) e
 refine ks_wpAt_execs_cons (ks_wpAt_Assign_Attr (wpAt_of_wpAny (wpAny_Constant_int (nm hns1 rfl rfl (v:=.ref x) rfl ?_))) (by rfl))
 obtain⟨t1,t2,rfl⟩:=hD
 refine set_any AT L1 hx1 hd1 (by rfl) (λu=>put_again B.w.params t1 u sz t2 _ ep) (λu=>⟨_,_,rfl,Nat.le_refl 1⟩) λh2' u t' sb hd2=>?_
 refine wpAt_of_wpAny (wpAny_execs_nil ?_)
 have ne2:∀ b,b<hh.objs.size->b≠dx->h2'.get? b=h1'.get? b:=λb _ hb=>sb.2 b hb
 have hx2:h2'.get? x=some (accObj B dx new n' sl):=(sb.2 x (Ne.symm hne)).trans hx1
 refine hq h2' _ n' _ (λb o hb1 hb2 e=>(sb.2 b hb2).trans (k1 _ _ hb1 (hk _ _ e))) ?_ hx2 hd2 ⟨t1,_,rfl⟩
 obtain⟨o,es',ep',e,_⟩:=hns1
 exact Nat.le_of_lt (hloc▸(sb.1▸Heap.lt_size e))
end
end Mine
end
section
namespace Mine
open PySem PySem.W PySem.Calls PyProof.Rows
structure AccPos {B:Base}(AT:AccAt B):Prop where
 l6:(AT.ps 6).endLine=(AT.ps 7).line
 l11:(AT.ps 11).endLine=(AT.ps 15).line
 l21:(AT.ps 21).endLine=(AT.ps 22).line
 l32:(AT.ps 32).endLine=(AT.ps 33).line
 l42:(AT.ps 42).endLine=(AT.ps 43).line
 sw1:∀ env,swapsWith (.Name "initial_size" (AT.ps 2)) (some (.Attribute (.Name "self" (AT.ps 0)) "_initial_size" (AT.ps 1))) (AT.ps 3).line env=pure false
 sw2:∀ env,swapsWith (.Call (.Attribute (superCall (AT.ps 4) (AT.ps 5)) "__init__" (AT.ps 6)) [] [] (AT.ps 7)) none (AT.ps 8).line env=pure false
 sw3:∀ env,swapsWith (.Call (.Attribute (.Name "self" (AT.ps 10)) "append" (AT.ps 11)) [.Tuple [.Name "fws" (AT.ps 12),.Name "string" (AT.ps 13)] 0 (AT.ps 14)] [] (AT.ps 15)) none (AT.ps 16).line env=pure false
section
variable {B:Base}
theorem accDict_shadow {P:Params}{sz:Int}{es:Array DictEntry}{ep:Nat}(h:accDict P sz es){name:Str}(hn:(("_initial_size":Str)==name)=false):shadowIn (some ({cls:=.type "dict",data:=.dict es ep}:Obj)) name=some false:=by
 obtain⟨t1,t2,rfl⟩:=h
 have:(Value.str ("_initial_size":Str) t1).isStr name=false:=hn
 simp only [shadowIn,lookIn,List.find?,this,List.any]
 rfl
noncomputable def accFn (AT:AccAt B) (CT:CutAt B):Mt->Option Addr:=λm=>match m with
 | .push=>some AT.fPush
 | .pop=>some AT.fPop
 | .part_count=>some AT.fCnt
 | .pop_from=>some CT.fFrom
 | .reset=>some CT.fReset
 | _=>none
theorem fn_type {f:Addr} {clo names body bnd}(D:FnAt B f clo names body bnd):typeIn B.K (.ref f)=some (.type "function"):=by
 obtain⟨od,sl,fd,ar,hf,_⟩:=D.ex
 show(B.K.lookup f).map (·.cls)=_;rw[hf];rfl
theorem fn_keep {f:Addr} {clo names body bnd}(D:FnAt B f clo names body bnd){h:Heap}(X:∀ a o,B.K.lookup a=some o->h.get? a=some o):∃ k,(k=Keeper.frame∨k=Keeper.machine∨k=Keeper.boundFrame)/\PySem.W.Looks (model B.prog B.w) h (keeperOf (.ref f)) k:=by
 obtain⟨od,sl,fd,ar,hf,_⟩:=D.ex
 obtain⟨k,hk,L⟩:=looks_keep (K:=B.K) (M:=model B.prog B.w) (h:=h) (f:=.ref f) (by unfold keepIn;simp only [hf]) X
 exact⟨k,by rcases hk with rfl|rfl<;>simp,L⟩
theorem acc_put (O:B.Ok){σ:AH}{φ:Phi}{s:Shared}(R:Rep B σ φ s.heap){i:Nat}{n n':Int}{vs us:List V}{p:Addr×Addr}{h':Heap}{t':Nat}{ys:List Value}{c:Nat}
  (hi:σ[i]?=some (.acc n vs)) (hp:φ[i]?=some p) (keep:∀ y o,y≠p.1->y≠p.2->s.heap.get? y=some o->h'.get? y=some o) (hs:s.heap.objs.size<=h'.objs.size)
  (hg:∃ sl,h'.get? p.1=some (accObj B p.2 ys.toArray c sl)) (hd:∃ es ep,h'.get? p.2=some {cls:=.type "dict",data:=.dict es ep}/\accDict B.w.params n' es) (r:Vk B.Z φ s.heap φ h'->VRs B.Z φ h' us ys) (hz:us.length<=LIM):
  St B φ s φ {s with heap:=h',toks:=t'}/\Rep B (σ.set i (.acc n' us)) φ h'/\Vk B.Z φ s.heap φ h':=by
 obtain⟨items,m,sl,es,ep,h1,r1,h2,h3⟩:=R.rel _ _ _ hi hp
 obtain⟨sl',hg⟩:=hg
 obtain⟨es',ep',hd,hD⟩:=hd
 have kp:Kp B.tabs [p.1,p.2] s.heap h':=⟨λb o e hb=>.inl (keep b o (λz=>hb (by rw[z];exact List.mem_cons_self ..)) (λz=>hb (by rw[z];exact .tail _ (.head _))) e),
  λb o f e=>keep b o (λz=>by subst z;obtain rfl:=oJ (h1.symm.trans e);exact absurd f Bool.false_ne_true) (λz=>by subst z;obtain rfl:=oJ (h2.symm.trans e);exact nomatch f) e,hs⟩
 have mem:∀ a∈[p.1,p.2],a∈addrs φ:=λa ha=>mem_addrs.mpr ⟨p,List.mem_of_getElem? hp,(mC ha).imp id λha=>mS ha⟩
 have vk:Vk B.Z φ s.heap φ h':=Vk.of kp (λa ha=>R.safe a (mem a ha)) (pre_refl ..)
 exact⟨⟨pre_refl ..,kp.mono (λb hb=>.inl (mem b hb)),rfl,id⟩,R.put O hp kp ⟨ys,c,sl',es',ep',hg,⟨r vk,hz⟩,hd,hD⟩,vk⟩
theorem res_grow' (O:B.Ok){σ:AH}{φ:Phi}{s:Shared}(R:Rep B σ φ s.heap){h':Heap}{v:V}{x:Value}(keep:∀ b o,s.heap.get? b=some o->h'.get? b=some o) (hs:s.heap.objs.size<=h'.objs.size) (r:VR B.Z φ h' v x) (tk:Nat):
  Res B φ s σ v x {s with heap:=h',toks:=tk}:=
 ⟨φ,St.of_kp (.keeps keep hs) rfl rfl,R.grow O (.keeps keep hs),r⟩
theorem VRs_inv2 {N:Zone}{φ:Phi}{h:Heap}{u w:V}{xs:List Value}(r:VRs N φ h [u,w] xs):∃ x y,xs=[x,y]/\VR N φ h u x/\VR N φ h w y:=
 vA2 (P:=λxs=>∃ x y,xs=[x,y]/\VR N φ h u x/\VR N φ h w y) (v:=(u,w)) rfl r λx y a b=>⟨x,y,rfl,a,b⟩
theorem str_is {v:V}{a:Cs}(h:asStr v=some a):v = .str a:=by
 cases v with
 | str _=>obtain rfl:=oJ h;rfl
 | _=>exact noneE h
theorem pair_is:∀ {l:List V}{p:Cs×Cs},pairOf l=some p->l=[.str p.1,.str p.2]
 | [],_,h=>noneE h
 | v::l,p,h=>by
  cases v with
  | str a=>match l,h with
   | [],h=>exact noneE h
   | u::[],h=>cases u with
    | str b=>obtain rfl:=oJ h;rfl
    | _=>exact noneE h
   | u::_::_,h=>cases u with
    | str b=>exact noneE h
    | _=>exact noneE h
  | _=>exact noneE h
theorem acc_pairs {N:Zone}{φ:Phi}{h:Heap}:∀ {vs:List V}{items:List Value}{z:Cs},strOfAcc vs=some z->VRs N φ h vs items->
  ∃ (a b:Nat->Cs) (Ts:Nat->Addr) (ta tb:Nat->Tok),(∀ j,j<items.length->items[j]?=some (.ref (Ts j)))/\
   (∀ j,j<items.length->∃ k,h.get? (Ts j)=some (tupO #[.str ⟨(a j).toArray⟩ (ta j),.str ⟨(b j).toArray⟩ (tb j)] k))/\z=((List.range items.length).map λj=>a j++b j).flatten
 | [],[],z,e,_=>by obtain rfl:=oJ e;exact⟨λ_=>[],λ_=>[],λ_=>0,λ_=>0,λ_=>0,λj hj=>by simp at hj,λj hj=>by simp at hj,rfl⟩
 | [],_::_,_,_,r=>by unfold VRs at r;exact r.elim
 | v::vs,[],_,_,r=>by unfold VRs at r;exact r.elim
 | v::vs,x::items,z,e,r=>bindE e λl h1 e=>bindE e λp h2 e=>bindE e λz' hz' hfin=>by
  unfold VRs at r
  obtain rfl:=oJ hfin
  obtain⟨a,b,Ts,ta,tb,q1,q2,q3⟩:=acc_pairs hz' r.2
  refine vTup (P:=λx=>∃ (a b:Nat->Cs) (Ts:Nat->Addr) (ta tb:Nat->Tok),(∀ j,j<(x::items).length->(x::items)[j]?=some (.ref (Ts j)))/\
   (∀ j,j<(x::items).length->∃ k,h.get? (Ts j)=some (tupO #[.str ⟨(a j).toArray⟩ (ta j),.str ⟨(b j).toArray⟩ (tb j)] k))/\p.1++p.2++z'=((List.range (x::items).length).map λj=>a j++b j).flatten) h1 r.1 λT its k hT ri=>?_
  rw[pair_is h2]at ri
  obtain⟨x1,x2,rfl,r1,r2⟩:=VRs_inv2 ri
  unfold VR at r1 r2
  obtain⟨u1,rfl⟩:=r1
  obtain⟨u2,rfl⟩:=r2
  refine⟨λj=>Nat.casesOn j p.1 a,λj=>Nat.casesOn j p.2 b,λj=>Nat.casesOn j T Ts,λj=>Nat.casesOn j u1 ta,λj=>Nat.casesOn j u2 tb,λj hj=>?_,λj hj=>?_,?_⟩
  ·cases j with
   | zero=>rfl
   | succ j=>exact q1 j (Nat.lt_of_succ_lt_succ hj)
  ·cases j with
   | zero=>exact⟨k,hT⟩
   | succ j=>exact q2 j (Nat.lt_of_succ_lt_succ hj)
  ·rw[q3,List.length_cons,List.range_succ_eq_map,List.map_cons,List.flatten_cons,List.map_map]
   rfl
theorem acc_parts {φ:Phi}{h:Heap}{z:Cs}{vs:List V}{items:List Value}(hz:strOfAcc vs=some z) (hlen:z.length<=LIM) (r1:VRs B.Z φ h vs items){G:Prop}
  (k:∀ (a b:Nat->Cs) (Ts:Nat->Addr) (ta tb:Nat->Tok),(∀ j,j<items.toArray.size->items.toArray[j]?=some (.ref (Ts j)))->
   (∀ j,j<items.toArray.size->∃ k,h.get? (Ts j)=some (tupO #[.str ⟨(a j).toArray⟩ (ta j),.str ⟨(b j).toArray⟩ (tb j)] k))->(∀ j,j<items.toArray.size->(a j).length+(b j).length<=LIM)->z=((List.range items.toArray.size).map λj=>a j++b j).flatten->G):G:=by
 obtain⟨a,b,Ts,ta,tb,q1,q2,q3⟩:=acc_pairs hz r1
 refine k a b Ts ta tb (λj hj=>by simpa using q1 j (by simpa using hj)) (λj hj=>q2 j (by simpa using hj)) (λj hj=>?_) (by simpa using q3)
 refine nT ?_ hlen
 rw[q3,<-List.length_append]
 have:(a j++b j)∈(List.range items.length).map λj=>a j++b j:=List.mem_map.mpr ⟨j,List.mem_range.mpr (by simpa using hj),rfl⟩
 exact(List.sublist_flatten_of_mem this).length_le
theorem acc_call {φ:Phi}{s:Shared}{σ:AH}{A:Around}{Ex:Value->Shared->Prop}(O:B.Ok) (AT:AccAt B) (AP:AccPos AT) (CT:CutAt B){m:Mt}{f:Addr}(hf:accFn AT CT m=some f){r:V×AH}{i:Nat}{n:Int}{vs args:List V}{p:Addr×Addr}{xs:List Value}(rm:Room A 0) (R:Rep B σ φ s.heap) (hi:σ[i]?=some (.acc n vs)) (hp:φ[i]?=some p)
  (e:accM i n vs m args σ=some r) (rr:VRs B.Z φ s.heap args xs):wpAny (model B.prog B.w) A (PySem.call (.ref f) (.ref p.1::xs) []) (Res B φ s r.2 r.1) Ex s:=by
 obtain⟨items,c,sl,es,ep,h1,⟨r1,hz⟩,h2,h3⟩:=R.rel _ _ _ hi hp
 have hl:=VRs_length r1
 have hz':items.length<=LIM:=hl▸hz
 have hdep:A.depth+2<recursionLimit:=by have:=rm.depth;omega
 have hN:B.N<=p.1:=R.above _ (R.mem hp).1
 have old:∀ {h':Heap},(∀ y o,y≠p.1->s.heap.get? y=some o->h'.get? y=some o)->(∀ y o,y≠p.1->y≠p.2->s.heap.get? y=some o->h'.get? y=some o)/\∃ es ep,h'.get? p.2=some {cls:=.type "dict",data:=.dict es ep}/\accDict B.w.params n es:=λk=>⟨λy o h _=>k y o h,es,ep,k _ _ (λz=>by rw[z,h1]at h2;cases h2) h2,h3⟩
 cases m with
 | pop=>
  obtain rfl:=oJ hf
  cases args with
  | cons _ _=>exact noneE e
  | nil=>
   have e:(match vs.getLast? with|some v=>some (v,σ.set i (.acc n vs.dropLast))|none=>some (.tup [.str [],.str []],σ))=some r:=e
   refine vA0 (P:=λxs=>wpAny _ _ (PySem.call (.ref AT.fPop) (.ref p.1::xs) []) _ Ex s) rr ?_
   refine wpAny_size (pop_ok (x:=p.1) (dx:=p.2) AT R.stat.low (Nat.lt_of_succ_lt hdep) (by have:=rm.units;omega) h1 h2 (accDict_shadow h3 (by decide)) (lim_line (by simpa using hz')) AP.l42 AP.l21 AP.l32 (λh0 h' t' u tA tB keep hu hg hs=>?_) λy h' t' n' hy keep hg hs=>?_)
   ·have hv:vs=[]:=List.length_eq_zero_iff.mp (hl.trans (by simpa using h0))
    subst hv
    obtain rfl:=oJ e
    refine res_grow' O R keep hs ?_ t'
    unfold VR
    exact⟨u,_,0,rfl,hg,VRs_cons (vr_str' _ _ rfl _) (VRs_one (vr_str' _ _ rfl _))⟩
   ·have hy2:items[items.length-1]?=some y:=by simpa using hy
    cases hv:vs.getLast? with
    | none=>
     rw[List.getLast?_eq_none_iff.mp hv]at hl
     rw[List.length_eq_zero_iff.mp hl.symm]at hy2
     exact noneE hy2
    | some u=>
     rw[hv]at e
     obtain rfl:=oJ e
     obtain⟨y',hy',ry⟩:=VRs_get r1 (by rw[List.getLast?_eq_getElem?]at hv;exact hv)
     rw[hl]at hy'
     obtain rfl:=oJ (hy2.symm.trans hy')
     have er:items.toArray.eraseIdxIfInBounds (items.toArray.size-1)=(items.dropLast).toArray:=by
      rw[erase_arr,List.size_toArray,erase_last]
     rw[er]at hg
     obtain⟨st,R',vk⟩:=acc_put (t':=t') (us:=vs.dropLast) O R hi hp (old keep).1 hs ⟨sl,hg⟩ (old keep).2 (λvk=>by rw[<-erase_last,<-erase_last,hl];exact VRs_erase _ (VRs_mono vk _ r1)) (nT (by rw[List.length_dropLast];exact Nat.sub_le _ _) hz)
     exact⟨φ,st,R',VR_mono vk _ ry⟩
 | push=>
  obtain rfl:=oJ hf
  refine bindE e λq hq e=>bindE e λa ha e=>bindE e λb hb e=>ifE e λhlt e=>vA2 (P:=λxs=>wpAny _ _ (PySem.call (.ref AT.fPush) (.ref p.1::xs) []) _ Ex s) hq rr λx1 x2 r2 r3=>?_
  obtain rfl:=oJ e
  rw[str_is ha]at r2
  rw[str_is hb]at r3
  refine wpAny_size (push_ok (x:=p.1) (dx:=p.2) AT R.stat.low (Nat.lt_of_succ_lt (Nat.lt_of_succ_lt hdep)) h1 h2 (accDict_shadow h3 (by decide)) (lim_line (by simpa using hz')) AP.l11 AP.sw3 λh' t' u n' keep hu hg hg2 hs=>?_)
  rw[List.push_toArray]at hg2
  obtain⟨st,R',vk⟩:=acc_put (t':=t') (us:=vs++[.tup [.str a,.str b]]) O R hi hp (old keep).1 hs ⟨sl,hg2⟩ (old keep).2 (λvk=>VRs_append (VRs_mono vk _ r1) (VRs_one (by unfold VR;exact⟨u,[x1,x2],0,rfl,hg,VRs_mono vk _ (VRs_cons r2 (VRs_one r3))⟩))) (by rw[List.length_append];exact hlt)
  exact⟨φ,st,R',vr_none⟩
 | part_count=>
  obtain rfl:=oJ hf
  cases args with
  | cons _ _=>exact noneE e
  | nil=>
   obtain rfl:=oJ e
   refine vA0 (P:=λxs=>wpAny _ _ (PySem.call (.ref AT.fCnt) (.ref p.1::xs) []) _ Ex s) rr ?_
   refine wpAny_size (cnt_ok (x:=p.1) (dx:=p.2) AT R.stat.low (Nat.lt_of_succ_lt (Nat.lt_of_succ_lt hdep)) h1 AP.l42 λh' t' t'' keep hs=>res_grow' O R keep hs ?_ t'')
   rw[List.size_toArray,<-hl]
   exact vr_int _ _
 | pop_from=>
  obtain rfl:=oJ hf
  refine bindE e λv ha e=>bindE e λk hk e=>ifE e λh0 e=>vA1 (P:=λxs=>wpAny _ _ (PySem.call (.ref CT.fFrom) (.ref p.1::xs) []) _ Ex s) ha rr λy ry=>vInt (P:=λy=>wpAny _ _ (PySem.call (.ref CT.fFrom) [.ref p.1,y] []) _ Ex s) hk ry λtk=>?_
  obtain rfl:=oJ e
  subst h0
  refine wpAny_size (from_ok (x:=p.1) (dx:=p.2) AT CT R.stat.low (Nat.lt_of_succ_lt (Nat.lt_of_succ_lt hdep)) h1 (lim_line (by simpa using hz')) λh' t' u n' keep hu hg hg2 hs=>?_)
  obtain⟨st,R',vk⟩:=acc_put (t':=t') (us:=[]) (ys:=[]) O R hi hp (old keep).1 hs ⟨sl,hg2⟩ (old keep).2 (λ_=>VRs_nil) (Nat.zero_le _)
  have fr:u∉addrs φ:=λhm=>absurd (R.lt hm) (Nat.not_lt.mpr hu)
  have lo:B.N<=u:=nT R.stat.size hu
  refine⟨φ++[(u,u)],⟨⟨_,rfl,λb hb=>mem_one b hb▸hu⟩,st.keep,rfl,id⟩,R'.add (p:=(u,u)) fr fr lo lo (o:=.list vs) ⟨rfl,items,0,hg,VRs_mono vk _ r1,hz⟩,?_⟩
  unfold VR
  exact⟨(u,u),by rw[<-R.len];simp,rfl⟩
 | reset=>
  obtain rfl:=oJ hf
  refine bindE e λv ha e=>bindE e λus hu e=>vA1 (P:=λxs=>wpAny _ _ (PySem.call (.ref CT.fReset) (.ref p.1::xs) []) _ Ex s) ha rr λy ry=>vLst (P:=λy=>wpAny _ _ (PySem.call (.ref CT.fReset) [.ref p.1,y] []) _ Ex s) hu R ry λq ys m g ry hzu=>?_
  cases e
  have hyl:=VRs_length ry
  refine wpAny_size (reset_ok (x:=p.1) (dx:=p.2) O AT CT hN R.stat.low (Nat.lt_of_succ_lt (Nat.lt_of_succ_lt hdep)) h1 h2 h3 g (by have a:items.length<=1000000:=hz';have b:us.length<=1000000:=hzu;rw[sizeLine_eq,List.size_toArray,List.size_toArray];omega) λh' t' n' es' keep _ hg hd hD hs=>?_)
  obtain⟨st,R',vk⟩:=acc_put (t':=t') (us:=us) O R hi hp keep hs ⟨sl,hg⟩ ⟨es',ep,hd,hD⟩ (λvk=>VRs_mono vk _ ry) hzu
  exact⟨φ,st,R',vr_none⟩
 | _=>exact noneE hf
theorem acc_str (O:B.Ok) (AT:AccAt B) (BM:BmAt B) (TT:StrAt B) (LT:LenAt B):StrAcc B where
 str:=by
  intro A Ex σ φ s i n vs z xv rm R hi hz hlen hvl rv
  obtain⟨p,hp,items,c,sl,es,ep,h1,⟨r1,hz1⟩,h2,h3⟩:=R.at_ hi
  unfold VR at rv
  obtain⟨p',hp',rfl⟩:=rv
  obtain rfl:=oJ (hp.symm.trans hp')
  have hl:=VRs_length r1
  refine acc_parts hz hlen r1 λa b Ts ta tb q1 q2 q4 q3=>kso_call (K:=B.K) (C:=B.C) (od:=some _) (by show A.units+1+1<_;have:=rm.units;omega) R.stat.K (acc_inst h1 h2) TT.mStr TT.G.isFn ?_
  refine str_ok (A:=A.in1.in1) AT BM TT O R.stat (x:=p.1) (by show A.depth+2<_;have:=rm.depth;omega) (show A.handled=none from rm.handled) h1 a b Ts ta tb q1 q2 q4 z q3 hlen (by simp;omega) λs' t' kp hos hgens=>?_
  have k':Kp B.tabs [] s.heap s'.heap:=kp
  exact⟨φ,⟨pre_refl ..,k'.mono (λ_ h=>absurd h List.not_mem_nil),hos,hgens⟩,R.grow O k',vr_str _ _⟩
 len:=by
  intro A Ex σ φ s i n vs z xv rm R hi hz hlen hvl n0 n1 rv
  obtain⟨p,hp,items,c,sl,es,ep,h1,⟨r1,hz1⟩,h2,h3⟩:=R.at_ hi
  unfold VR at rv
  obtain⟨p',hp',rfl⟩:=rv
  obtain rfl:=oJ (hp.symm.trans hp')
  have hlen':z.length<=1000000:=hlen
  refine acc_parts hz hlen r1 λa b Ts ta tb q1 q2 q4 q3=>len_user (K:=B.K) (C:=B.C) (od:=some _) (n:=z.length+n) R.stat.K (acc_inst h1 h2) LT.mLen (beq_iff_eq.mp LT.G.isFn) (by omega) ?_
  refine wpAny_size (olen_ok (A:=A.in1) AT BM LT O R.stat (x:=p.1) (by show A.depth+2<_;have:=rm.depth;omega) (show A.handled=none from rm.handled) h1 h2 h3 ⟨n0,n1⟩ a b Ts ta tb q1 q2 q4 z q3 λs' t' kp hos hgens hs=>⟨t',rfl,λt2 k=>?_⟩)
  have k':Kp B.tabs [] s.heap s'.heap:=kp
  exact⟨φ,⟨pre_refl ..,k'.mono (λ_ h=>absurd h List.not_mem_nil),hos,hgens⟩,R.grow O k',vr_int _ _⟩
theorem accops (O:B.Ok) (AT:AccAt B) (AP:AccPos AT) (BM:BmAt B) (TT:StrAt B) (LT:LenAt B) (CT:CutAt B):Nonempty (AccOps B):=by
 refine⟨⟨accFn AT CT,λ{m f} hf A Ex s pl Q σ φ i n vs p hh R hi hp k=>?_,λ{m f} hf h X=>?_,λ{m} i n vs args σ r h=>?_,λ{m f} hf A Ex s σ r φ i n vs args p xs rm R hi hp e rr=>acc_call O AT AP CT hf rm R hi hp e rr,acc_str O AT BM TT LT⟩⟩
 ·obtain⟨items,c,sl,es,ep,h1,r1,h2,h3⟩:=R.rel _ _ _ hi hp
  cases m with
  | pop=>obtain rfl:=oJ hf;exact acc_method AT R.stat.low h1 h2 AT.mPop (fn_type AT.dPop) (by decide) (accDict_shadow h3 (by decide)) k
  | push=>obtain rfl:=oJ hf;exact acc_method AT R.stat.low h1 h2 AT.mPush (fn_type AT.dPush) (by decide) (accDict_shadow h3 (by decide)) k
  | part_count=>obtain rfl:=oJ hf;exact acc_method AT R.stat.low h1 h2 AT.mCnt (fn_type AT.dCnt) (by decide) (accDict_shadow h3 (by decide)) k
  | pop_from=>obtain rfl:=oJ hf;exact acc_method AT R.stat.low h1 h2 CT.mFrom (fn_type CT.dFrom) (by decide) (accDict_shadow h3 (by decide)) k
  | reset=>obtain rfl:=oJ hf;exact acc_method AT R.stat.low h1 h2 CT.mReset (fn_type CT.dReset) (by decide) (accDict_shadow h3 (by decide)) k
  | _=>exact noneE hf
 ·cases m with
  | pop=>obtain rfl:=oJ hf;exact fn_keep AT.dPop X
  | push=>obtain rfl:=oJ hf;exact fn_keep AT.dPush X
  | part_count=>obtain rfl:=oJ hf;exact fn_keep AT.dCnt X
  | pop_from=>obtain rfl:=oJ hf;exact fn_keep CT.dFrom X
  | reset=>obtain rfl:=oJ hf;exact fn_keep CT.dReset X
  | _=>exact noneE hf
 ·cases m with
  | pop=>exact⟨_,rfl⟩
  | push=>exact⟨_,rfl⟩
  | part_count=>exact⟨_,rfl⟩
  | pop_from=>exact⟨_,rfl⟩
  | reset=>exact⟨_,rfl⟩
  | _=>exact noneE h
end
end Mine
end
section
namespace Mine
open PySem PySem.W PySem.Calls PyProof.Rows
theorem accnew_put {B:Base}(O:B.Ok){σ:AH}{φ:Phi}{s:Shared}(R:Rep B σ φ s.heap){n:Int}{h':Heap}{t':Nat}{x dx:Addr}{c:Nat}{t1 t2:Tok}(keep:∀ b o,s.heap.get? b=some o->h'.get? b=some o) (hs:s.heap.objs.size<=h'.objs.size)
  (h1:s.heap.objs.size<=x) (h2:s.heap.objs.size<=dx) (hx:h'.get? x=some (accObj B dx #[] c #[])) (hd:h'.get? dx=some (initDict B.w.params t1 (.int n t2))):
  Res B φ s (σ++[.acc n []]) (.obj σ.length) (.ref x) {s with heap:=h',toks:=t'}:=by
 have k:Kp B.tabs [] s.heap h':=.keeps keep hs
 have R':=R.grow O k
 have fr:∀ u,s.heap.objs.size<=u->u∉addrs φ:=λu hu hm=>absurd (R.lt hm) (Nat.not_lt.mpr hu)
 have up:∀ u,s.heap.objs.size<=u->B.N<=u:=λu hu=>nT R.stat.size hu
 refine⟨φ++[(x,dx)],⟨⟨_,rfl,λa ha=>?_⟩,k.mono (λ_ h=>absurd h List.not_mem_nil),rfl,id⟩,R'.add (fr _ h1) (fr _ h2) (up _ h1) (up _ h2) ⟨[],c,#[],_,_,hx,⟨VRs_nil,by simp⟩,hd,t1,t2,rfl⟩,?_⟩
 ·rcases mem_addrs.mp ha with⟨q,hq,rfl|rfl⟩<;>simp at hq<;>subst hq
  ·exact h1
  ·exact h2
 ·unfold VR
  exact⟨(x,dx),by rw[<-R.len];simp,rfl⟩
theorem accnew {B:Base}(O:B.Ok) (AT:AccAt B) (AP:AccPos AT) (hT:∀ f,B.T f=some .acc->f=B.C) (d:Nat):AccNew B (callN B.T d):=by
 intro f args σ v σ' hf hc A E φ s xs rm R r
 cases d with
 | zero=>exact noneE hc
 | succ d=>
  have hfC:=hT f hf
  subst hfC
  refine bindE hc λF hF hc=>?_
  obtain rfl:=oJ (hf.symm.trans hF)
  have hroom:A.depth+1<recursionLimit:=by have:=rm.depth;omega
  refine bindE hc λu h1 hc=>bindE hc λn h2 hc=>vA1 (P:=λxs=>wpAny _ _ (call (.ref B.C) xs []) _ E s) h1 r λy ry=>vInt (P:=λy=>wpAny _ _ (call (.ref B.C) [y] []) _ E s) h2 ry λt=>?_
  obtain⟨rfl,rfl⟩:=Prod.mk.inj (oJ hc)
  exact wpAny_size (new_ok (rest:=[.int n t]) (sz:=.int n t) AT R.stat.low hroom (λ_=>rfl) AP.l6 AP.sw1 AP.sw2 λh' t' x dx n t1 keep h1 h2 hx hd hs=>accnew_put O R keep hs h1 h2 hx hd)
theorem all_calls {B:Base}(Y:Sys B) (AT:AccAt B) (AP:AccPos AT) (BM:BmAt B) (TT:StrAt B) (LT:LenAt B) (CT:CutAt B) (hT:∀ f,B.T f=some .acc->f=B.C) (sup:B.GT "super"=none) (D:∀ f np ns body,B.T f=some (.dfn np ns body)->DefAt B f np ns body) (L0:B.T 0=some .lamb) (L1:∀ f,B.T f=some .lamb->f=0) (d:Nat):OrOK B (callN B.T d) d:=
 calls_ok Y (accops Y.ok AT AP BM TT LT CT) sup D (λd=>accnew Y.ok AT AP hT d) L0 L1 d
end Mine
end
section
namespace Mine
open PySem
noncomputable def b28:List S:=[
 (.ifS (.cmp (.lit (.str [46,46,46])) [.NotIn] [(.var 0)]) [(.ret (.cmp (.var 0) [.Eq] [(.var 1)]))] []),
 (.assign (.var 2) (.mcall (.var 0) .split [(.lit (.str [46,46,46]))])),
 (.assertS (.cmp (.bcall .len [(.var 2)]) [.GtE] [(.lit (.int (2)))])),
 (.assign (.vars [3,4]) (.tup [(.lit (.int (0))),(.bcall .len [(.var 1)])])),
 (.assign (.var 5) (.idx (.var 2) (.lit (.int (0))))),
 (.ifS (.var 5) [(.ifS (.mcall (.var 1) .startswith [(.var 5)]) [(.assign (.var 3) (.bcall .len [(.var 5)])),(.del (.var 2) (.lit (.int (0))))] [(.ret (.lit (.bool false)))])] []),
 (.assign (.var 5) (.idx (.var 2) (.neg (.lit (.int (1)))))),
 (.ifS (.var 5) [(.ifS (.mcall (.var 1) .endswith [(.var 5)]) [(.augVar 4 .Sub (.bcall .len [(.var 5)])),(.del (.var 2) (.neg (.lit (.int (1)))))] [(.ret (.lit (.bool false)))])] []),
 (.ifS (.cmp (.var 3) [.Gt] [(.var 4)]) [(.ret (.lit (.bool false)))] []),
 (.forS (.var 5) (.var 2) [(.assign (.var 3) (.mcall (.var 1) .find [(.var 5),(.var 3),(.var 4)])),(.ifS (.cmp (.var 3) [.Lt] [(.lit (.int (0)))]) [(.ret (.lit (.bool false)))] []),(.augVar 3 .Add (.bcall .len [(.var 5)]))]),
 (.ret (.lit (.bool true)))]
noncomputable def b119:List S:=[
 (.ret (.cmp (.var 0) [.Lt] [(.lit (.int (256)))]))]
noncomputable def b126:List S:=[
 (.ret (.cmp (.var 0) [.GtE] [(.lit (.int (256)))]))]
noncomputable def b133:List S:=[
 (.ret (.cmp (.var 0) [.Eq] [(.lit (.int (0)))]))]
noncomputable def b140:List S:=[
 (.assign (.var 1) (.list [(.lit (.int (367))),(.lit (.int (46))),(.lit (.int (115))),(.lit (.int (4698)))])),
 (.forS (.var 2) (.bcall .range [(.bcall .len [(.var 0)])]) [(.augIdx (.var 1) (.bin .Mod (.var 2) (.lit (.int (4)))) .Add (.bin .Mod (.idx (.var 0) (.var 2)) (.bin .Pow (.lit (.int (10))) (.lit (.int (6))))))]),
 (.ret (.var 1))]
noncomputable def b147:List S:=[
 (.assign (.var 2) (.bin .Add (.var 1) (.list [(.lit (.int (257))),(.lit (.int (258))),(.lit (.int (256)))]))),
 (.assign (.var 3) (.idx (.var 0) (.lit (.int (0))))),
 (.assign (.var 4) (.list [(.idx (.var 1) (.bin .Mod (.bin .FloorDiv (.var 3) (.lit (.int (25)))) (.lit (.int (2))))),(.idx (.var 2) (.bin .Mod (.bin .FloorDiv (.var 3) (.lit (.int (50)))) (.lit (.int (4)))))])),
 (.assign (.var 5) (.dict [(.lit (.int (256))),(.list [(.list [(.idx (.var 2) (.bin .Mod (.var 3) (.lit (.int (5))))),(.idx (.var 2) (.bin .Mod (.bin .FloorDiv (.var 3) (.lit (.int (5)))) (.lit (.int (5)))))]),(.ite (.bin .Mod (.bin .FloorDiv (.var 3) (.lit (.int (200)))) (.lit (.int (2)))) (.slc (.var 4) (.lit .none) (.lit .none) (.neg (.lit (.int (1))))) (.var 4))])])),
 (.forS (.var 6) (.tup [(.lit (.int (257))),(.lit (.int (258)))]) [(.assign (.var 3) (.idx (.var 0) (.bin .Sub (.var 6) (.lit (.int (256)))))),(.assign (.var 7) (.list [(.idx (.var 1) (.bin .Mod (.var 3) (.lit (.int (2))))),(.idx (.var 2) (.bin .Mod (.bin .FloorDiv (.var 3) (.lit (.int (2)))) (.lit (.int (5)))))])),(.assign (.var 8) (.idx (.list [(.list []),(.slc (.var 2) (.lit .none) (.lit (.int (1))) (.lit .none)),(.slc (.var 2) (.lit (.int (1))) (.lit (.int (2))) (.lit .none)),(.bin .Mult (.slc (.var 2) (.lit .none) (.lit (.int (1))) (.lit .none)) (.lit (.int (2)))),(.var 1),(.slc (.var 1) (.lit .none) (.lit .none) (.neg (.lit (.int (1))))),(.bin .Mult (.slc (.var 2) (.lit (.int (1))) (.lit (.int (2))) (.lit .none)) (.lit (.int (2))))]) (.bin .Mod (.bin .FloorDiv (.var 3) (.lit (.int (20)))) (.lit (.int (7)))))),(.setIdx (.var 5) (.var 6) (.list [(.ite (.bin .Mod (.bin .FloorDiv (.var 3) (.lit (.int (10)))) (.lit (.int (2)))) (.slc (.var 7) (.lit .none) (.lit .none) (.neg (.lit (.int (1))))) (.var 7)),(.var 8)]))]),
 (.ret (.var 5))]
noncomputable def b154:List S:=[
 (.assign (.vars [2,3]) (.tup [(.bcall .chr [(.idx (.var 0) (.lit (.int (0))))]),(.bcall .chr [(.idx (.var 0) (.lit (.int (1))))])])),
 (.assign (.var 4) (.list [(.var 2),(.var 3),(.bin .Add (.var 2) (.var 2)),(.bin .Add (.var 2) (.var 3)),(.bin .Add (.var 3) (.var 2)),(.bin .Add (.var 3) (.var 3))])),
 (.ret (.dict [(.var 2),(.idx (.var 4) (.bin .Mod (.var 1) (.lit (.int (6))))),(.var 3),(.idx (.var 4) (.bin .Mod (.bin .Add (.bin .Add (.var 1) (.lit (.int (1)))) (.bin .Mod (.bin .FloorDiv (.var 1) (.lit (.int (6)))) (.lit (.int (5))))) (.lit (.int (6)))))]))]
noncomputable def b159:List S:=[
 (.assign (.var 2) (.fcall 108 [(.var 1)])),
 (.expr (.mcall (.var 2) .push [(.lit (.str [])),(.bcall .chr [(.lit (.int (0)))])])),
 (.expr (.mcall (.var 2) .push [(.lit (.str [32])),(.bcall .chr [(.lit (.int (256)))])])),
 (.ifS (.cmp (.bcall .len [(.var 2)]) [.NotEq] [(.bin .Add (.var 1) (.lit (.int (3))))]) [(.ret (.list []))] []),
 (.assign (.vars [3,4]) (.tup [(.list []),(.list [(.tup [(.mcall (.var 2) .pop_from [(.lit (.int (0)))]),(.lit (.str []))])])])),
 (.whileS (.andE [(.var 4),(.cmp (.bin .Add (.bcall .len [(.var 4)]) (.bcall .len [(.var 3)])) [.Lt] [(.lit (.int (99)))])]) [(.assign (.vars [5,6]) (.mcall (.var 4) .pop [])),(.expr (.mcall (.var 2) .reset [(.var 5)])),(.assign (.vars [7,8]) (.mcall (.var 2) .pop [])),(.whileS (.orE [(.cmp (.var 7) [.Eq] [(.lit (.str [60]))]),(.andE [(.cmp (.fcall 119 [(.bcall .ord [(.var 8)])]) [.Is] [(.lit (.bool true))]),(.cmp (.fcall 133 [(.bcall .ord [(.var 8)])]) [.Is] [(.lit (.bool false))])])]) [(.augVar 6 .Add (.ite (.cmp (.var 7) [.Eq] [(.lit (.str [32]))]) (.var 8) (.lit (.str [])))),(.assign (.vars [7,8]) (.mcall (.var 2) .pop []))]),(.ifS (.cmp (.fcall 133 [(.bcall .ord [(.var 8)])]) [.Is] [(.lit (.bool true))]) [(.ifS (.cmp (.tup [(.mcall (.var 2) .part_count []),(.bcall .len [(.var 2)]),(.bcall .str [(.var 2)]),(.mcall (.var 2) .pop [])]) [.NotEq] [(.tup [(.lit (.int (0))),(.lit (.int (0))),(.lit (.str [])),(.tup [(.lit (.str [])),(.lit (.str []))])])]) [(.ret (.list []))] []),(.expr (.mcall (.var 3) .append [(.var 6)]))] [(.ifS (.andE [(.cmp (.fcall 126 [(.bcall .ord [(.var 8)])]) [.Is] [(.lit (.bool true))]),(.cmp (.fcall 28 [(.bin .Add (.bin .Add (.bin .Add (.bcall .chr [(.lit (.int (0)))]) (.lit (.str [46,46,46,60]))) (.var 8)) (.lit (.str [46,46,46]))),(.bcall .str [(.var 2)])]) [.Is] [(.lit (.bool false))])]) [(.expr (.mcall (.var 2) .push [(.lit (.str [60])),(.var 8)])),(.assign (.var 9) (.mcall (.var 2) .pop_from [(.lit (.int (0)))])),(.ifS (.cmp (.mcall (.var 2) .part_count []) [.NotEq] [(.lit (.int (0)))]) [(.ret (.list []))] []),(.expr (.mcall (.var 4) .extend [(.comp (.tup [(.bin .Add (.var 9) (.comp (.tup [(.lit (.str [32])),(.bcall .chr [(.var 11)])]) [(.mk (.var 11) (.slc (.var 10) (.lit .none) (.lit .none) (.neg (.lit (.int (1))))) [])])),(.var 6)]) [(.mk (.var 10) (.idx (.var 0) (.bcall .ord [(.var 8)])) [])])]))] [])])]),
 (.ret (.var 3))]
noncomputable def b164:List S:=[
 (.ifS (.cmp (.var 1) [.Lt] [(.lit (.int (256)))]) [(.ret (.list [(.bcall .chr [(.var 1)])]))] []),
 (.assign (.var 3) (.list [])),
 (.forS (.var 4) (.ite (.cmp (.var 1) [.NotIn] [(.var 2)]) (.idx (.var 0) (.var 1)) (.list [])) [(.assign (.var 5) (.list [(.lit (.str []))])),(.forS (.var 6) (.var 4) [(.assign (.var 7) (.fcall 164 [(.var 0),(.var 6),(.bin .Add (.var 2) (.list [(.var 1)]))])),(.assign (.var 5) (.comp (.bin .Add (.var 8) (.var 9)) [(.mk (.var 8) (.var 5) []),(.mk (.var 9) (.var 7) [])]))]),(.expr (.mcall (.var 3) .extend [(.var 5)]))]),
 (.ret (.var 3))]
noncomputable def b169:List S:=[
 (.assign (.var 3) (.bin .Add (.bcall .len [(.var 2)]) (.lit (.int (1))))),
 (.assign (.var 6) (.dcomp (.var 13) (.bin .Mult (.list [(.var 3)]) (.bin .Add (.var 3) (.lit (.int (1))))) (.var 13) (.bin .Add (.comp (.bcall .ord [(.var 13)]) [(.mk (.var 13) (.var 1) [])]) (.list [(.lit (.int (256))),(.lit (.int (257))),(.lit (.int (258)))])))),
 (.forS (.var 4) (.var 1) [(.forS (.var 7) (.bcall .range [(.bin .Sub (.bcall .len [(.var 2)]) (.lit (.int (1)))),(.neg (.lit (.int (1)))),(.neg (.lit (.int (1))))]) [(.assign (.var 8) (.bcall .len [(.idx (.var 1) (.var 4))])),(.setIdx (.idx (.var 6) (.bcall .ord [(.var 4)])) (.var 7) (.ite (.cmp (.slc (.var 2) (.var 7) (.bin .Add (.var 7) (.var 8)) (.lit .none)) [.Eq] [(.idx (.var 1) (.var 4))]) (.bin .Add (.var 7) (.var 8)) (.idx (.idx (.var 6) (.bcall .ord [(.var 4)])) (.bin .Add (.var 7) (.lit (.int (1)))))))])]),
 (.assign (.var 9) (.lit (.bool true))),
 (.whileS (.var 9) [(.assign (.var 9) (.lit (.bool false))),(.forS (.var 5) (.var 0) [(.forS (.var 10) (.bcall .range [(.var 3)]) [(.forS (.var 11) (.idx (.var 0) (.var 5)) [(.assign (.var 7) (.var 10)),(.forS (.var 12) (.var 11) [(.assign (.var 7) (.idx (.idx (.var 6) (.var 12)) (.var 7)))]),(.ifS (.cmp (.var 7) [.Lt] [(.idx (.idx (.var 6) (.var 5)) (.var 10))]) [(.setIdx (.idx (.var 6) (.var 5)) (.var 10) (.var 7)),(.assign (.var 9) (.lit (.bool true)))] [])])])])]),
 (.ret (.idx (.var 6) (.lit (.int (256)))))]
noncomputable def b174:List S:=[
 (.assign (.vars [4,5]) (.tup [(.bin .Add (.bcall .len [(.var 2)]) (.lit (.int (1)))),(.lit (.str []))])),
 (.forS (.var 6) (.var 0) [(.assign (.var 7) (.bin .Add (.lit (.str [46,46,46])) (.mcall (.lit (.str [])) .join [(.comp (.bin .Add (.idx (.var 1) (.var 8)) (.lit (.str [46,46,46]))) [(.mk (.var 8) (.var 6) [])])]))),(.whileS (.andE [(.cmp (.var 4) [.Gt] [(.lit (.int (0)))]),(.cmp (.fcall 28 [(.var 7),(.vcall (.var 3) [(.var 2),(.bin .Sub (.var 4) (.lit (.int (1))))])]) [.Is] [(.lit (.bool true))])]) [(.assign (.vars [4,5]) (.tup [(.bin .Sub (.var 4) (.lit (.int (1)))),(.var 6)]))])]),
 (.ret (.tup [(.var 4),(.var 5)]))]
noncomputable def b179:List S:=[
 (.assign (.var 1) (.fcall 140 [(.var 0)])),
 (.assign (.var 2) (.list [(.lit (.int (255))),(.bin .Add (.lit (.int (47))) (.bin .Mod (.bcall .sum [(.var 1)]) (.lit (.int (208)))))])),
 (.forS (.var 3) (.bin .Add (.var 2) (.list [(.lit (.int (0))),(.lit (.int (256))),(.lit (.int (257))),(.lit (.int (258)))])) [(.ifS (.orE [(.cmp (.fcall 133 [(.var 3)]) [.IsNot] [(.cmp (.var 3) [.Eq] [(.lit (.int (0)))])]),(.cmp (.fcall 119 [(.var 3)]) [.IsNot] [(.cmp (.var 3) [.Lt] [(.lit (.int (256)))])]),(.cmp (.fcall 126 [(.var 3)]) [.IsNot] [(.cmp (.var 3) [.Gt] [(.lit (.int (255)))])])]) [(.ret (.lit (.bool false)))] [])]),
 (.assign (.vars [4,5]) (.tup [(.fcall 147 [(.var 1),(.var 2)]),(.fcall 154 [(.var 2),(.bin .FloorDiv (.idx (.var 1) (.lit (.int (3)))) (.lit (.int (256))))])])),
 (.assign (.var 7) (.mcall (.lit (.str [])) .join [(.comp (.bcall .chr [(.idx (.var 2) (.bin .Mod (.bin .FloorDiv (.idx (.var 1) (.lit (.int (3)))) (.bin .Pow (.lit (.int (2))) (.var 16))) (.lit (.int (2)))))]) [(.mk (.var 16) (.bcall .range [(.lit (.int (8)))]) [])])])),
 (.assign (.var 8) (.fcall 159 [(.var 4),(.bin .Mod (.bin .FloorDiv (.bcall .sum [(.var 1)]) (.lit (.int (208)))) (.lit (.int (3))))])),
 (.ifS (.cmp (.bcall .sorted [(.var 8)]) [.NotEq] [(.bcall .sorted [(.fcall 164 [(.var 4),(.lit (.int (256))),(.list [])])])]) [(.ret (.lit (.bool false)))] []),
 (.assign (.var 8) (.bcall .sorted [(.bcall .set [(.var 8)])])),
 (.assign (.var 9) (.fcall 169 [(.var 4),(.var 5),(.var 7)])),
 (.assign (.vars [10,11]) (.fcall 174 [(.var 8),(.var 5),(.var 7),(.lam (.slc (.var 0) (.lit .none) (.var 1) (.lit .none)))])),
 (.ifS (.cmp (.var 10) [.NotEq] [(.idx (.var 9) (.lit (.int (0))))]) [(.ret (.lit (.bool false)))] []),
 (.assign (.var 12) (.slc (.var 7) (.lit .none) (.var 10) (.lit .none))),
 (.forS (.var 6) (.tup [(.lit (.int (2))),(.lit (.int (3)))]) [(.assign (.var 13) (.mcall (.lit (.str [46,46,46])) .join [(.bin .Mult (.list [(.var 12)]) (.var 6))])),(.ifS (.orE [(.cmp (.fcall 28 [(.var 13),(.bin .Mult (.var 12) (.var 6))]) [.IsNot] [(.lit (.bool true))]),(.cmp (.fcall 28 [(.var 13),(.bin .Mult (.var 12) (.bin .Sub (.var 6) (.lit (.int (1)))))]) [.IsNot] [(.cmp (.var 12) [.Eq] [(.lit (.str []))])])]) [(.ret (.lit (.bool false)))] [])]),
 (.assign (.vars [14,11]) (.fcall 174 [(.var 8),(.var 5),(.var 12),(.lam (.slc (.var 0) (.bin .Sub (.bcall .len [(.var 0)]) (.var 1)) (.lit .none) (.lit .none)))])),
 (.ifS (.cmp (.var 14) [.NotEq] [(.bcall .min [(.bin .Add (.list [(.bin .Add (.bcall .len [(.var 12)]) (.lit (.int (1))))]) (.comp (.bin .Sub (.bcall .len [(.var 12)]) (.var 16)) [(.mk (.var 16) (.bcall .range [(.bin .Add (.bcall .len [(.var 12)]) (.lit (.int (1))))]) [(.cmp (.idx (.var 9) (.var 16)) [.LtE] [(.bcall .len [(.var 12)])])])]))])]) [(.ret (.lit (.bool false)))] []),
 (.assign (.vars [15,13]) (.tup [(.slc (.var 12) (.bin .Sub (.bcall .len [(.var 12)]) (.var 14)) (.lit .none) (.lit .none)),(.mcall (.lit (.str [46,46,46])) .join [(.comp (.idx (.var 5) (.var 16)) [(.mk (.var 16) (.var 11) [])])])])),
 (.ret (.orE [(.cmp (.var 14) [.Gt] [(.bcall .len [(.var 12)])]),(.cmp (.comp (.fcall 28 [(.var 13),(.var 16)]) [(.mk (.var 16) (.tup [(.var 15),(.bin .Add (.lit (.str [33])) (.var 15)),(.bin .Add (.var 15) (.lit (.str [33])))]) [])]) [.Eq] [(.list [(.lit (.bool true)),(.lit (.bool false)),(.lit (.bool false))])])]))]
noncomputable def L01:List (Addr×Fn):=[(28,.dfn 2 12 b28),(119,.dfn 1 8 b119),(126,.dfn 1 8 b126),(133,.dfn 1 8 b133),(140,.dfn 1 10 b140),(147,.dfn 2 15 b147),(154,.dfn 2 11 b154),(159,.dfn 2 16 b159),(164,.dfn 3 13 b164),(169,.dfn 3 18 b169),(174,.dfn 4 12 b174),(179,.dfn 1 23 b179),(108,.acc),(0,.lamb)]
noncomputable def T01:Addr->Option Fn:=λa=>L01.lookup a
noncomputable def biNames:List (Str×GV):=[("len",.bi .len),("ord",.bi .ord),("chr",.bi .chr),("sum",.bi .sum),("min",.bi .min),("range",.bi .range),("str",.bi .str),("sorted",.bi .sorted),("set",.bi .set)]
noncomputable def gt1L:List (Str×GV):=[("ISTERMINAL",.fn 119),("ISNONTERMINAL",.fn 126),("ISEOF",.fn 133),("_ellipsis_match",.fn 28),("_Accumulator",.fn 108),("_law_sums",.fn 140),("_law_rules",.fn 147),
 ("_law_pieces",.fn 154),("_law_spelled",.fn 159),("_law_thin",.fn 164),("_law_ends",.fn 169),("_law_least",.fn 174),("law",.fn 179),("NT_OFFSET",.cst (.int 256)),("ENDMARKER",.cst (.int 0)),
 ("ELLIPSIS_MARKER",.cst (.str [46,46,46])),("EMPTYSTRING",.cst (.str []))]
noncomputable def GT1:Str->Option GV:=λx=>(gt1L++biNames).lookup x
end Mine
end
section
namespace Mine
open PySem PySem.W PySem.Calls PyProof.Rows
noncomputable abbrev tabs01:Tabs:=[(70,none),(77,none),(176,some "law.<locals>.<lambda>")]
noncomputable def base01 (prog:Program) (w:World) (K:Frag) (mg mb:Str->Option Value):Base:={prog,w,N:=181,K,tabs:=tabs01,C:=108,T:=T01,GT:=GT1,mg,mb,lc:=178,lP:=176,lq:="law.<locals>.<lambda>"}
theorem lookup_in {α β:Type}[BEq α] [LawfulBEq α]{l:List (α×β)}{x:α}{g:β}(h:l.lookup x=some g):(x,g)∈l:=by
 induction l with
 | nil=>cases h
 | cons p r ih=>
  obtain⟨y,z⟩:=p
  rw[List.lookup_cons]at h
  by_cases e:(x==y)=true
  ·rw[e]at h;cases h;rw[eq_of_beq e];exact List.mem_cons_self ..
  ·rw[Bool.not_eq_true]at e
   rw[e]at h;exact List.mem_cons_of_mem _ (ih h)
noncomputable def AllP {α:Type}(P:α->Prop):List α->Prop
 | []=>True
 | x::l=>P x/\AllP P l
theorem AllP.at {α:Type}{P:α->Prop}{x:α}:∀ {l:List α},AllP P l->x∈l->P x
 | _::_,h,m=>(mC m).elim (λe=>e▸h.1) λm=>h.2.at m
structure KF (K:Frag):Prop where
 keys:(K.map (·.1)).all (λa=>decide (a<181)&&(tabs01.lookup a).isNone)=true
 fns:gt1L.all (λp=>match p.2 with | .fn a=>(nsIn K mainGlobals p.1==some (some (.ref a)))&&keepIn K (.ref a)&&a != 0|_=>true)=true
 csts:AllP (λp=>∀ v,p.2 = .cst v->∃ x,nsIn K mainGlobals p.1=some (some x)/\∀ N φ h,VR N φ h v x) gt1L
 bis:biNames.all (λp=>nsIn K mainGlobals p.1==some none)=true
 lam:CodeK K 178 176
 bm:nsIn K mainGlobals "__builtins__"=some (some (.ref 4))/\∃ ob,K.lookup 4=some ob/\ob.cls = .type "module"/\ob.dict=some builtinsNs/\ob.data = .plain
theorem bi_boot:AllP (λp=>∃ b,p.2 = .bi b/\p.1≠("__name__":Str)/\(p.1==("__debug__":Str))=false/\bootBuiltins p.1=some (biVal b)) biNames:=
 ⟨⟨_,rfl,by decide,by decide,by kernel_rfl⟩,⟨_,rfl,by decide,by decide,by kernel_rfl⟩,⟨_,rfl,by decide,by decide,by kernel_rfl⟩,⟨_,rfl,by decide,by decide,by kernel_rfl⟩,⟨_,rfl,by decide,by decide,by kernel_rfl⟩,⟨_,rfl,by decide,by decide,by kernel_rfl⟩,⟨_,rfl,by decide,by decide,by kernel_rfl⟩,⟨_,rfl,by decide,by decide,by kernel_rfl⟩,⟨_,rfl,by decide,by decide,by kernel_rfl⟩,trivial⟩
noncomputable def noBi:GV->Bool
 | .bi _=>false
 | _=>true
theorem gt_plain:gt1L.all (λp => !(p.1==("__debug__":Str))&&noBi p.2)=true:=by decide +kernel
theorem gt_at {p:Str×GV}(h:p∈gt1L):(p.1==("__debug__":Str))=false/\noBi p.2=true:=by
 have:=List.all_eq_true.mp gt_plain p h
 simpa using this
theorem sys01 {prog:Program}{w:World}{K:Frag}{mg mb:Str->Option Value}{h:Heap}(F:KF K) (X:K.In h) (G:h.Ns mainGlobals mg) (hmb:∀ x:Str,x≠"__name__"->mb x=bootBuiltins x):Sys (base01 prog w K mg mb):=by
 have hk:∀ a o,K.lookup a=some o->a<181/\tabs01.lookup a=none:=λa o e=>by
  have:=List.all_eq_true.mp F.keys a (List.mem_map.mpr ⟨_,lookup_in e,rfl⟩)
  rw[Bool.and_eq_true,decide_eq_true_eq,Option.isNone_iff_eq_none]at this
  exact this
 have inn:∀ x g,GT1 x=some g->noBi g=true->(x,g)∈gt1L:=λx g e n=>(List.mem_append.mp (lookup_in e)).elim id λq=>by
  obtain⟨b,hb,_⟩:=bi_boot.at q
  cases hb
  exact absurd n Bool.false_ne_true
 obtain⟨ob,b1,b2,b3,b4⟩:=F.bm.2
 refine⟨⟨λa o e=>(hk a o e).1,(by decide:mainGlobals<181),(by decide:builtinsNs<181),(by decide:cStatics<181),(by decide:sysModules<181),λa o e=>(hk a o e).2,λt q ht=>?_⟩,?_,?_,?_,F.lam,rfl,⟨4,ob,mg_of X G F.bm.1,by decide,by decide,b1,b2,b3,b4⟩,?_⟩
 ·have ht:(t,q)∈tabs01:=lookup_in ht
  rcases mC ht with e|ht
  ·cases e;exact(by decide:70<181)
  ·rcases mC ht with e|ht
   ·cases e;exact(by decide:77<181)
   ·cases mS ht;exact(by decide:176<181)
 ·intro x v e
  have hm:=inn x _ e rfl
  obtain⟨y,h1,h2⟩:=F.csts.at hm v rfl
  exact⟨(gt_at hm).1,y,mg_of X G h1,h2⟩
 ·intro x a e
  have hm:=inn x _ e rfl
  have:=List.all_eq_true.mp F.fns _ hm
  simp only [Bool.and_eq_true,beq_iff_eq,bne_iff_ne]at this
  exact⟨(gt_at hm).1,mg_of X G this.1.1,this.2⟩
 ·intro x b e
  have hm:(x,GV.bi b)∈biNames:=(List.mem_append.mp (lookup_in e)).elim (λq=>absurd ((gt_at q).2) Bool.false_ne_true) id
  obtain⟨b',hb,h1,h2,h3⟩:=bi_boot.at hm
  cases hb
  have:=List.all_eq_true.mp F.bis _ hm
  simp only [beq_iff_eq]at this
  exact⟨h2,mg_none_of X G this,(hmb x h1).trans h3⟩
 ·intro x a e h' X2
  have hm:=inn x _ e rfl
  have:=List.all_eq_true.mp F.fns _ hm
  simp only [Bool.and_eq_true,beq_iff_eq]at this
  obtain⟨k,hk,L⟩:=looks_keep (M:=model prog w) (h:=h') this.1.2 X2
  exact⟨k,by rcases hk with rfl|rfl<;>simp,L⟩
theorem gt_super:GT1 "super"=none:=by decide +kernel
theorem t01_acc {f:Addr}(h:T01 f=some .acc):f=108:=
 AllP.at (P:=λp:Addr×Fn=>p.2 = .acc->p.1=108) (l:=L01) ⟨nofun,nofun,nofun,nofun,nofun,nofun,nofun,nofun,nofun,nofun,nofun,nofun,λ_=>rfl,nofun,trivial⟩ (lookup_in h) rfl
theorem t01_lam {f:Addr}(h:T01 f=some .lamb):f=0:=
 AllP.at (P:=λp:Addr×Fn=>p.2 = .lamb->p.1=0) (l:=L01) ⟨nofun,nofun,nofun,nofun,nofun,nofun,nofun,nofun,nofun,nofun,nofun,nofun,nofun,λ_=>rfl,trivial⟩ (lookup_in h) rfl
theorem t01_0:T01 0=some .lamb:=by rfl
noncomputable def FnOk (P:Addr->Nat->Nat->List S->Prop) (p:Addr×Fn):Prop:=match p.2 with
 | .dfn np ns body=>P p.1 np ns body
 | _=>True
theorem t01_dfn {P:Addr->Nat->Nat->List S->Prop}(H:AllP (FnOk P) L01) (f:Addr) (np ns:Nat) (body:List S) (h:T01 f=some (.dfn np ns body)):P f np ns body:=H.at (lookup_in h)
end Mine
end
section
namespace Mine
open PySem PySem.W PySem.Calls PyProof.Rows
theorem vrs_ints {N:Zone}{φ:Phi}{h:Heap}{vs:List Value}{ns:List Int}(i:IntsAre vs ns):VRs N φ h (ns.map V.int) vs:=by
 induction i with
 | nil=>exact VRs_nil
 | cons m t _ ih=>exact VRs_cons (vr_int _ _) ih
noncomputable def Tabs0 (tabs:Tabs) (h:Heap):Prop:=∀ t q,tabs.lookup t=some q->∃ c,h.TableAt c t #[]
theorem rep_start {prog:Program}{w:World}{K:Frag}{mg mb:Str->Option Value}{h:Heap}(X:K.In h) (G:h.Ns mainGlobals mg) (Bn:h.Ns builtinsNs mb) (nl:h.NoLimit) (ht:Tabs0 tabs01 h) (hs:181<=h.objs.size):Rep (base01 prog w K mg mb) [] [] h:=
 ⟨⟨X,G,Bn,nl,λt q hm=>by obtain⟨c,hc⟩:=ht t q hm;exact⟨#[],hc.2,trivial,λ_ _ _ _ h=>noneE h⟩,hs⟩,rfl,λa ha=>by simp[addrs]at ha,λi j p q _ h _=>by simp at h,λi o p h _=>by simp at h⟩
theorem oldK_of {tabs:Tabs}{h h':Heap}(k:Kp tabs [] h h') (ht:Tabs0 tabs h):OldK h h':=by
 refine⟨λb o e=>?_,λb o e=>?_⟩
 ·rcases k.keep b o e (by simp)with q|⟨r,vs,more,hb,rfl,q,_⟩
  ·exact .inl q
  ·obtain⟨c,hc⟩:=ht b r hb
   exact .inr (.inl ⟨hc.isCodeTable,rfl,vs,more,rfl,q⟩)
 ·rcases k.keep b o e (by simp)with q|⟨r,vs,more,hb,rfl,q,_⟩
  ·exact⟨_,q⟩
  ·exact⟨_,q⟩
theorem law01_main {prog:Program}{w:World}{K:Frag}{mg mb:Str->Option Value}{s₁:Shared}(F:KF K) (X:K.In s₁.heap) (G:s₁.heap.Ns mainGlobals mg) (Bn:s₁.heap.Ns builtinsNs mb) (nl:s₁.heap.NoLimit) (hmb:∀ x:Str,x≠"__name__"->mb x=bootBuiltins x)
  (AT:AccAt (base01 prog w K mg mb)) (AP:AccPos AT) (BM:BmAt (base01 prog w K mg mb)) (TT:StrAt (base01 prog w K mg mb)) (LT:LenAt (base01 prog w K mg mb)) (CT:CutAt (base01 prog w K mg mb))
  (D:AllP (FnOk (DefAt (base01 prog w K mg mb))) L01)
  (ht:Tabs0 tabs01 s₁.heap) (hs:s₁.heap.objs.size=181) (hg:s₁.gens=#[]){items:List Value}{script:List Int}(hl:s₁.heap.get? 180=some {cls:=.type "list",data:=.seq items.toArray}) (hi:IntsAre items script)
  (pure:∃ σ,callN T01 10 179 [.flist (script.map V.int)] []=some (.bool true,σ)){Q:Value->Shared->Prop}{E:Value->Shared->Prop}(hQ:∀ s',OldK s₁.heap s'.heap->s'.os=s₁.os->AllBare s'.gens->Q (.bool true) s'):
  wpAny (model prog w) callerA (call (.ref 179) [.ref 180]) Q E s₁:=by
 have Y:=sys01 (prog:=prog) (w:=w) F X G hmb
 obtain⟨σ,hσ⟩:=pure
 have R:=rep_start (prog:=prog) (w:=w) X G Bn nl ht (by omega)
 have main:=all_calls Y AT AP BM TT LT CT (λf=>t01_acc) gt_super (t01_dfn D) t01_0 (λf=>t01_lam) 10 179 _ _ _ _ hσ callerA E [] s₁ [.ref 180] ⟨rfl,by decide +kernel,by decide +kernel,⟨[],rfl⟩⟩ R (VRs_one (by unfold VR;exact⟨180,items,0,rfl,(by decide:180<181),hl,vrs_ints hi⟩))
 rw[if_neg (by decide)]at main
 refine wpAny_mono main (λv s' hr=>?_) λ_ _ z=>z
 obtain⟨φ',st,R',rv⟩:=hr
 unfold VR at rv
 subst rv
 have k:Kp tabs01 [] s₁.heap s'.heap:=st.keep
 exact hQ s' (oldK_of k ht) st.os (st.gens (hg▸AllBare.empty))
end Mine
end
section
namespace Mine
open PySem PySem.W PySem.W.X PySem.Calls PyProof.Rows
noncomputable def view01:Program:={PySem.Challenge.pw_uy0001_01 with main:={PySem.Challenge.pw_uy0001_01.main with body:=PySem.Challenge.pw_uy0001_01.main.body.eraseIdx 13 |>.eraseIdx 7 |>.eraseIdx 4 |>.eraseIdx 1}}
noncomputable def st01 (n:Nat):Stmt:=(PySem.Challenge.pw_uy0001_01.main.body.drop n).headD (.Pass default)
noncomputable def me01 (n:Nat):Stmt:=match st01 6 with
 | .ClassDef _ _ _ b .. => (b.drop n).headD (.Pass default)
 | s=>s
noncomputable def sParts (s:Stmt):Str×Arguments×List Stmt×Scope:=match s with
 | .FunctionDef n ps b _ _ _ sc .. => (n,ps,b,sc)
 | _=>default
noncomputable def fD (pre:Str) (s:Stmt) (cl:List (Str×Addr)) (dv:Value) (m:Str) (t:Tok) (c:Addr) (ct:Value):FuncData:=
 ⟨(sParts s).1,pre++(sParts s).1,(sParts s).2.1,.stmts (sParts s).2.2.1,(sParts s).2.2.2,3,cl,dv,.none,.none,.str m t,none,.ref c,ct,0⟩
noncomputable def fO (d:FuncData):Obj:=⟨.type "function",none,.func d,#[]⟩
noncomputable def cO (n qn:Str) (t:Nat) (line argc:Int) (a8 a11:Addr) (v13 v14:Value) (a15:Addr) (i16:Int) (t18:Nat):Obj:=
 ⟨.type "code",none,.fields #[.str n t,.str qn (t+1),.str "/claim/cut.py" (t+2),.int line 0,.int argc 0,.int 0 0,.int 0 0,.int 3 0,.ref a8,.bool true,.int 181 0,.ref a11,.none,v13,v14,.ref a15,.int i16 0,.int line 0,.str "/claim/cut.py" t18],#[]⟩
noncomputable def nO (P:Params) (l:List (Str×Nat×Value)) (n:Nat):Obj:=⟨.type "dict",none,.dict (l.map λp=>⟨PyData.keyHash P p.1,.str p.1 p.2.1,p.2.2⟩).toArray n,#[]⟩
noncomputable def K01m (P:Params):Frag:=[
(2,⟨.none,none,.dict #[],#[]⟩),
 (3,nO P [("__name__",165,(.str "law_uy0001_01" 337)),("__doc__",166,.none),("__package__",167,.none),("__loader__",168,(.builtin PySem.W.SZ.s7097527257260152453x26)),("__spec__",169,.none),("__annotations__",170,(.ref 6)),("__builtins__",171,(.ref 4)),("__file__",173,(.str "/claim/cut.py" 172)),("__cached__",174,.none),("_wall",193,(.ref 21)),("ELLIPSIS_MARKER",197,(.str "..." 196)),("_ellipsis_match",209,(.ref 28)),("EMPTYSTRING",213,(.str "" 212)),("_Accumulator",309,(.ref 108)),("ENDMARKER",313,(.int 0 312)),("NT_OFFSET",315,(.int 256 314)),("ISTERMINAL",322,(.ref 119)),("ISNONTERMINAL",329,(.ref 126)),("ISEOF",336,(.ref 133)),("_law_sums",347,(.ref 140)),("_law_rules",362,(.ref 147)),("_law_pieces",373,(.ref 154)),("_law_spelled",379,(.ref 159)),("_law_thin",385,(.ref 164)),("_law_ends",391,(.ref 169)),("_law_least",397,(.ref 174)),("law",403,(.ref 179))] 27),
 (4,⟨.type "module",some 0,.plain,#[]⟩),
 (27,cO "_ellipsis_match" "_ellipsis_match" 198 6 2 22 23 (.ref 24) (.ref 25) 26 207 208),
 (28,fO (fD "" (st01 3) [] .none "cpy313.doctest" 194 27 .none)),
 (118,cO "ISTERMINAL" "ISTERMINAL" 316 75 1 113 114 (.ref 115) (.ref 116) 117 320 321),
 (119,fO (fD "" (st01 10) [] .none "cpy313.token" 310 118 .none)),
 (125,cO "ISNONTERMINAL" "ISNONTERMINAL" 323 77 1 120 121 (.ref 122) (.ref 123) 124 327 328),
 (126,fO (fD "" (st01 11) [] .none "cpy313.token" 310 125 .none)),
 (132,cO "ISEOF" "ISEOF" 330 79 1 127 128 (.ref 129) (.ref 130) 131 334 335),
 (133,fO (fD "" (st01 12) [] .none "cpy313.token" 310 132 .none)),
 (139,cO "_law_sums" "_law_sums" 339 82 1 134 135 (.ref 136) (.ref 137) 138 345 346),
 (140,fO (fD "" (st01 14) [] .none "law_uy0001_01" 337 139 .none)),
 (146,cO "_law_rules" "_law_rules" 348 87 2 141 142 (.ref 143) (.ref 144) 145 360 361),
 (147,fO (fD "" (st01 15) [] .none "law_uy0001_01" 337 146 .none)),
 (153,cO "_law_pieces" "_law_pieces" 363 98 2 148 149 (.ref 150) (.ref 151) 152 371 372),
 (154,fO (fD "" (st01 16) [] .none "law_uy0001_01" 337 153 .none)),
 (158,cO "_law_spelled" "_law_spelled" 374 102 2 155 156 .none .none 157 377 378),
 (159,fO (fD "" (st01 17) [] .none "law_uy0001_01" 337 158 .none)),
 (163,cO "_law_thin" "_law_thin" 380 127 3 160 161 .none .none 162 383 384),
 (164,fO (fD "" (st01 18) [] .none "law_uy0001_01" 337 163 .none)),
 (168,cO "_law_ends" "_law_ends" 386 138 3 165 166 .none .none 167 389 390),
 (169,fO (fD "" (st01 19) [] .none "law_uy0001_01" 337 168 .none)),
 (173,cO "_law_least" "_law_least" 392 158 4 170 171 .none .none 172 395 396),
 (174,fO (fD "" (st01 20) [] .none "law_uy0001_01" 337 173 .none)),
 (178,cO "law" "law" 398 165 1 175 176 .none .none 177 401 402),
 (179,fO (fD "" (st01 21) [] .none "law_uy0001_01" 337 178 .none)),
 (37,⟨.type "tuple",none,.seq #[.int 0 226],#[]⟩),
 (53,⟨.type "tuple",none,.seq #[.int 0 245],#[]⟩),
 (83,⟨.type "tuple",none,.seq #[.none],#[]⟩),
 (32,⟨.type "cell",none,.cell (some (.ref 108)),#[]⟩),
 (44,cO "__init__" "_Accumulator.__init__" 227 38 2 39 40 (.ref 41) (.ref 42) 43 233 234),
 (45,fO (fD "_Accumulator." (me01 0) [("__class__",32)] (.ref 37) "cpy313.email.header" 210 44 (.ref 38))),
 (51,cO "push" "_Accumulator.push" 236 42 3 46 47 (.ref 48) (.ref 49) 50 242 243),
 (52,fO (fD "_Accumulator." (me01 1) [] .none "cpy313.email.header" 210 51 .none)),
 (59,cO "pop_from" "_Accumulator.pop_from" 246 45 2 54 55 (.ref 56) (.ref 57) 58 252 253),
 (60,fO (fD "_Accumulator." (me01 2) [] (.ref 53) "cpy313.email.header" 210 59 .none)),
 (67,cO "pop" "_Accumulator.pop" 255 50 1 62 63 (.ref 64) (.ref 65) 66 260 261),
 (68,fO (fD "_Accumulator." (me01 3) [("__class__",32)] .none "cpy313.email.header" 210 67 (.ref 61))),
 (74,cO "__len__" "_Accumulator.__len__" 263 55 1 69 70 (.ref 71) (.ref 72) 73 267 268),
 (75,fO (fD "_Accumulator." (me01 4) [] .none "cpy313.email.header" 210 74 .none)),
 (81,cO "__str__" "_Accumulator.__str__" 270 58 1 76 77 (.ref 78) (.ref 79) 80 274 275),
 (82,fO (fD "_Accumulator." (me01 5) [] .none "cpy313.email.header" 210 81 .none)),
 (89,cO "reset" "_Accumulator.reset" 277 61 2 84 85 (.ref 86) (.ref 87) 88 282 283),
 (90,fO (fD "_Accumulator." (me01 6) [] (.ref 83) "cpy313.email.header" 210 89 .none)),
 (104,cO "part_count" "_Accumulator.part_count" 292 70 1 99 100 (.ref 101) (.ref 102) 103 297 298),
 (105,fO (fD "_Accumulator." (me01 8) [("__class__",32)] .none "cpy313.email.header" 210 104 (.ref 98))),
 (107,nO P [("__module__",221,(.str "cpy313.email.header" 210)),("__firstlineno__",225,(.int 36 224)),("__init__",235,(.ref 45)),("push",244,(.ref 52)),("pop_from",254,(.ref 60)),("pop",262,(.ref 68)),("__len__",269,(.ref 75)),("__str__",276,(.ref 82)),("reset",284,(.ref 90)),("is_onlyws",291,(.ref 97)),("part_count",299,(.ref 105)),("__static_attributes__",301,(.ref 106)),("__dict__",304,(.ref 109)),("__weakref__",306,(.ref 110)),("__doc__",307,.none)] 5),
 (108,⟨.type "type",none,.cls ⟨"_Accumulator",[.type "list"],[.ref 108,.type "list",.type "object"],107,"_Accumulator",true,[],[],false,none,false⟩,#[some (.ref 29),none,some (.str "_Accumulator" 214),some (.str "_Accumulator" 222),some (.builtin "list.__new__"),some (.bool true)]⟩)]
noncomputable def K01t:Frag:=[(70,⟨.none,none,.fields #[],#[]⟩),(77,⟨.none,none,.fields #[],#[]⟩),(176,⟨.none,none,.fields #[],#[]⟩)]
noncomputable def K01h (P:Params):Frag:=K01m P++K01t
noncomputable def as01:List Addr:=[2,3,4,27,28,118,119,125,126,132,133,139,140,146,147,153,154,158,159,163,164,168,169,173,174,178,179,37,53,83,32,44,45,51,52,59,60,67,68,74,75,81,82,89,90,104,105,107,108,70,77,176]
end Mine
end
section
namespace Mine
open PySem PySem.W PySem.W.X PySem.Calls PyProof.Rows
noncomputable def posA:Nat->Pos:=λn=>match n with
 | 0=>⟨39,8,39,12⟩|1=>⟨39,8,39,26⟩|2=>⟨39,29,39,41⟩|3=>⟨39,8,39,41⟩|4=>⟨40,8,40,13⟩|5=>⟨40,8,40,15⟩|6=>⟨40,8,40,24⟩|7=>⟨40,8,40,26⟩|8=>⟨40,8,40,26⟩
 | 10=>⟨43,8,43,12⟩|11=>⟨43,8,43,19⟩|12=>⟨43,21,43,24⟩|13=>⟨43,26,43,32⟩|14=>⟨43,20,43,33⟩|15=>⟨43,8,43,34⟩|16=>⟨43,8,43,34⟩
 | 20=>⟨51,11,51,15⟩|21=>⟨51,11,51,26⟩|22=>⟨51,11,51,28⟩|23=>⟨51,32,51,33⟩|24=>⟨51,11,51,33⟩|25=>⟨52,20,52,22⟩|26=>⟨52,24,52,26⟩|27=>⟨52,19,52,27⟩|28=>⟨52,12,52,27⟩|29=>⟨51,8,52,27⟩|30=>⟨53,15,53,20⟩|31=>⟨53,15,53,22⟩|32=>⟨53,15,53,26⟩|33=>⟨53,15,53,28⟩|34=>⟨53,8,53,28⟩
 | 40=>⟨71,15,71,20⟩|41=>⟨71,15,71,22⟩|42=>⟨71,15,71,30⟩|43=>⟨71,15,71,32⟩|44=>⟨71,8,71,32⟩
 | _=>⟨0,0,0,0⟩
noncomputable def posS:Nat->Pos:=λn=>match n with
 | 0=>⟨59,33,59,44⟩|1=>⟨59,33,59,49⟩|2=>⟨59,51,59,54⟩|3=>⟨59,56,59,60⟩|4=>⟨59,50,59,61⟩|5=>⟨59,33,59,62⟩|6=>⟨59,67,59,70⟩|7=>⟨59,72,59,76⟩|8=>⟨59,67,59,76⟩|9=>⟨59,80,59,84⟩
 | 10=>⟨59,32,59,85⟩|11=>⟨59,15,59,26⟩|12=>⟨59,15,59,31⟩|13=>⟨59,15,59,86⟩|14=>⟨59,8,59,86⟩
 | _=>⟨0,0,0,0⟩
noncomputable def posL:Nat->Pos:=λn=>([⟨56,20,56,23⟩,⟨56,24,56,27⟩,⟨56,20,56,28⟩,⟨56,31,56,34⟩,⟨56,35,56,39⟩,⟨56,31,56,40⟩,⟨56,45,56,48⟩,⟨56,50,56,54⟩,⟨56,45,56,54⟩,⟨56,58,56,62⟩,⟨56,19,56,63⟩,⟨56,20,56,40⟩,⟨56,15,56,18⟩,⟨56,65,56,69⟩,⟨56,65,56,83⟩,⟨56,15,56,84⟩,⟨56,8,56,84⟩]:List Pos).getD n ⟨0,0,0,0⟩
noncomputable def posF:Nat->Pos:=λn=>([⟨46,8,46,14⟩,⟨46,17,46,21⟩,⟨46,22,46,23⟩,⟨46,22,46,24⟩,⟨46,17,46,25⟩,⟨46,8,46,25⟩,⟨47,8,47,12⟩,⟨47,13,47,14⟩,⟨47,13,47,15⟩,⟨47,8,47,16⟩,⟨47,19,47,21⟩,⟨47,8,47,21⟩,⟨48,15,48,21⟩,⟨48,8,48,21⟩]:List Pos).getD n ⟨0,0,0,0⟩
noncomputable def posR:Nat->Pos:=λn=>([⟨62,11,62,19⟩,⟨62,23,62,27⟩,⟨62,11,62,27⟩,⟨63,12,63,20⟩,⟨63,23,63,25⟩,⟨63,12,63,25⟩,⟨62,8,63,25⟩,⟨64,8,64,12⟩,⟨64,13,64,14⟩,⟨64,8,64,15⟩,⟨64,18,64,26⟩,⟨64,8,64,26⟩,⟨65,8,65,12⟩,⟨65,8,65,26⟩,⟨65,29,65,30⟩,⟨65,8,65,30⟩]:List Pos).getD n ⟨0,0,0,0⟩
theorem len1 {P:List Value->Prop}(h:∀ a,P [a]) (vs:List Value) (e:vs.length=1):P vs:=by obtain⟨a,rfl⟩:=List.length_eq_one_iff.mp e;exact h a
theorem len2 {P:List Value->Prop}(h:∀ a b,P [a,b]) (vs:List Value) (e:vs.length=2):P vs:=by
 rcases vs with _|⟨a,t⟩
 ·exact absurd e (by decide)
 exact len1 (P:=λt=>P (a::t)) (h a) t (Nat.succ.inj e)
theorem len3 {P:List Value->Prop}(h:∀ a b c,P [a,b,c]) (vs:List Value) (e:vs.length=3):P vs:=by
 rcases vs with _|⟨a,t⟩
 ·exact absurd e (by decide)
 exact len2 (P:=λt=>P (a::t)) (h a) t (Nat.succ.inj e)
theorem len4 {P:List Value->Prop}(h:∀ a b c d,P [a,b,c,d]) (vs:List Value) (e:vs.length=4):P vs:=by
 rcases vs with _|⟨a,t⟩
 ·exact absurd e (by decide)
 exact len3 (P:=λt=>P (a::t)) (h a) t (Nat.succ.inj e)
theorem bndFrom_inv {P:List Value->List (Str×Value)->Prop}(h:∀ x y,P [x,y] [("self",x),("i",y)]):∀ vs bs,bndFrom vs=some bs->P vs bs:=λvs bs e=>by
 rcases vs with _|⟨x,_|⟨y,_|⟨z,r⟩⟩⟩
 ·cases e
 ·cases e
 ·cases e;exact h x y
 ·cases e
theorem bndReset_inv {P:List Value->List (Str×Value)->Prop}(h:∀ x y,P [x,y] [("self",x),("startval",y)]):∀ vs bs,bndReset vs=some bs->P vs bs:=λvs bs e=>by
 rcases vs with _|⟨x,_|⟨y,_|⟨z,r⟩⟩⟩
 ·cases e
 ·cases e
 ·cases e;exact h x y
 ·cases e
theorem bnd1_inv {P:List Value->List (Str×Value)->Prop}(h:∀ x,P [x] [("self",x)]):∀ vs bs,bnd1 vs=some bs->P vs bs:=λvs bs e=>by
 rcases vs with _|⟨x,_|⟨y,r⟩⟩
 ·cases e
 ·cases e;exact h x
 ·cases e
theorem bndPush_inv {P:List Value->List (Str×Value)->Prop}(h:∀ x y z,P [x,y,z] [("self",x),("fws",y),("string",z)]):∀ vs bs,bndPush vs=some bs->P vs bs:=λvs bs e=>by
 rcases vs with _|⟨x,_|⟨y,_|⟨z,_|⟨u,r⟩⟩⟩⟩
 ·cases e
 ·cases e
 ·cases e
 ·cases e;exact h x y z
 ·cases e
theorem bndInit_inv {t:Tok}{P:List Value->List (Str×Value)->Prop}(h:∀ x,P [x] [("self",x),("initial_size",.int 0 t)]) (h2:∀ x y,P [x,y] [("self",x),("initial_size",y)]):∀ vs bs,bndInit t vs=some bs->P vs bs:=λvs bs e=>by
 rcases vs with _|⟨x,_|⟨y,_|⟨z,r⟩⟩⟩
 ·cases e
 ·cases e;exact h x
 ·cases e;exact h2 x y
 ·cases e
theorem fnAt_of {B:Base}{f:Addr}{clo:List (Str×Addr)}{names:List (Str×NameKind)}{body:List Stmt}{bnd:List Value->Option (List (Str×Value))}{od:Option Addr}{sl:Array (Option Value)}{fd:FuncData}{ar:Arg}{cda:Addr}{oc:Obj}{vs:Array Value}{file:Str}{tf:Tok}
  (h1:B.K.lookup f=some ⟨.type "function",od,.func fd,sl⟩) (h2:fd.body = .stmts body) (h3:fd.closure=clo) (h4:fd.scope=fscope names) (h5:fd.globals=mainGlobals) (h6:fd.builtins=builtinsNs) (h7:codeIn B.K fd.code fd.qualname=true) (h8:(fd.params.posonlyargs++fd.params.args).head?=some ar) (h9:ar.arg=("self":Str))
  (h10:∀ vs bs,bnd vs=some bs->∀ s:Shared,B.K.In s.heap->BindsTo s fd ⟨vs,[]⟩ bs) (h11:fd.code = .ref cda) (h12:B.K.lookup cda=some oc) (h13:oc.data = .fields vs) (h14:vs[2]?=some (.str file tf)) (h15:((B.prog.main.file:Str)==file)=true):FnAt B f clo names body bnd:=
 ⟨⟨od,sl,fd,ar,h1,h2,h3,h4,h5,h6,h7,⟨h8,h9⟩,h10,cda,oc,vs,file,tf,h11,h12,h13,h14,h15⟩⟩
theorem defAt_of {prog:Program}{w:World}{K:Frag}{mg mb:Str->Option Value}{f:Addr}{np ns:Nat}{body:List S}{o:Obj}{fd:FuncData}{body0:List Stmt}(h1:K.lookup f=some o) (h2:o.data = .func fd) (h3:fd.body = .stmts body0) (h4:fd.closure=[])
  (h5:fd.scope.isCoroutine=false) (h6:fd.scope.isGenerator=false) (h7:fd.globals=mainGlobals) (h8:fd.builtins=builtinsNs) (h9:codeIn K fd.code fd.qualname=true) (hl:lamSc fd.scope=true->fd.code = .ref 178/\fd.qualname++".<locals>."++"<lambda>"=("law.<locals>.<lambda>":Str))
  (h10:trDef GT1 fd.params body0 fd.scope=some (.dfn np ns body)) (h11:∀ vals,vals.length=np->bindArgs fd ⟨vals,[]⟩=pure ((fd.params.args.map (·.arg)).zip vals)):FnOk (DefAt (base01 prog w K mg mb)) (f,.dfn np ns body):=
 ⟨⟨o,fd,body0,h1,h2,h3,h4,h5,h6,h7,h8,h9,hl,h10,h11⟩⟩
theorem in_left {K L:Frag}{h:Heap}(X:Frag.In (K++L) h):K.In h:=λa o e=>X a o (by rw[List.lookup_append,e];rfl)
theorem said01:PySem.Challenge.rw_uy0001_01.wellSaid=true:=by decide +kernel
theorem left01:LeftO (PySem.Challenge.rw_uy0001_01.row.toRowW.prog) view01 ["_Accumulator"] (λs=>xlAt view01 [] s&&recOk (RowW.records PySem.Challenge.rw_uy0001_01.row.toRowW) s) (obsZ as01) (valZ K01h 180 404) (2*970+100):=by
 intro w
 kernel_rfl
abbrev pr01:Program:=PySem.Challenge.rw_uy0001_01.row.prog
section
variable (w:World) (mg mb:Str->Option Value)
theorem kf01:KF (K01m w.params):=
 {keys:=by kernel_rfl,fns:=by kernel_rfl,csts:=⟨nofun,nofun,nofun,nofun,nofun,nofun,nofun,nofun,nofun,nofun,nofun,nofun,nofun,λv e=>by cases e;exact⟨_,rfl,λ_ _ _=>vr_int _ _⟩,λv e=>by cases e;exact⟨_,rfl,λ_ _ _=>vr_int _ _⟩,λv e=>by cases e;exact⟨_,rfl,λ_ _ _=>vr_str' _ _ rfl _⟩,λv e=>by cases e;exact⟨_,rfl,λ_ _ _=>vr_str' _ _ rfl _⟩,trivial⟩,bis:=by kernel_rfl,
  lam:=⟨_,_,_,_,_,_,_,_,_,rfl,rfl,rfl,rfl,rfl,rfl,rfl,rfl⟩,bm:=⟨by kernel_rfl,_,rfl,rfl,rfl,rfl⟩}
theorem noLam {sc:Scope}{P:Prop}(h:lamSc sc=false):lamSc sc=true->P:=λe=>absurd (h.symm.trans e) Bool.false_ne_true
theorem dfn01:AllP (FnOk (DefAt (base01 pr01 w (K01m w.params) mg mb))) L01:=
 ⟨defAt_of rfl rfl rfl rfl rfl rfl rfl rfl (by kernel_rfl) (noLam (by decide +kernel)) (by kernel_rfl) (len2 λa b=>by kernel_rfl),defAt_of rfl rfl rfl rfl rfl rfl rfl rfl (by kernel_rfl) (noLam (by decide +kernel)) (by kernel_rfl) (len1 λa=>by kernel_rfl),defAt_of rfl rfl rfl rfl rfl rfl rfl rfl (by kernel_rfl) (noLam (by decide +kernel)) (by kernel_rfl) (len1 λa=>by kernel_rfl),defAt_of rfl rfl rfl rfl rfl rfl rfl rfl (by kernel_rfl) (noLam (by decide +kernel)) (by kernel_rfl) (len1 λa=>by kernel_rfl),defAt_of rfl rfl rfl rfl rfl rfl rfl rfl (by kernel_rfl) (noLam (by decide +kernel)) (by kernel_rfl) (len1 λa=>by kernel_rfl),defAt_of rfl rfl rfl rfl rfl rfl rfl rfl (by kernel_rfl) (noLam (by decide +kernel)) (by kernel_rfl) (len2 λa b=>by kernel_rfl),defAt_of rfl rfl rfl rfl rfl rfl rfl rfl (by kernel_rfl) (noLam (by decide +kernel)) (by kernel_rfl) (len2 λa b=>by kernel_rfl),defAt_of rfl rfl rfl rfl rfl rfl rfl rfl (by kernel_rfl) (noLam (by decide +kernel)) (by kernel_rfl) (len2 λa b=>by kernel_rfl),defAt_of rfl rfl rfl rfl rfl rfl rfl rfl (by kernel_rfl) (noLam (by decide +kernel)) (by kernel_rfl) (len3 λa b c=>by kernel_rfl),defAt_of rfl rfl rfl rfl rfl rfl rfl rfl (by kernel_rfl) (noLam (by decide +kernel)) (by kernel_rfl) (len3 λa b c=>by kernel_rfl),defAt_of rfl rfl rfl rfl rfl rfl rfl rfl (by kernel_rfl) (noLam (by decide +kernel)) (by kernel_rfl) (len4 λa b c d=>by kernel_rfl),defAt_of rfl rfl rfl rfl rfl rfl rfl rfl (by kernel_rfl) (λ_=>⟨rfl,by kernel_rfl⟩) (by kernel_rfl) (len1 λa=>by kernel_rfl),trivial,trivial,trivial⟩
noncomputable def acc01 (m1:mg "super"=none) (m2:mb "super"=some (.type "super")):AccAt (base01 pr01 w (K01m w.params) mg mb):=
 {cc:=32,fInit:=45,fPush:=52,fPop:=68,fCnt:=105,cd:=⟨"_Accumulator",[.type "list"],[.ref 108,.type "list",.type "object"],107,"_Accumulator",true,[],[],false,none,false⟩,t0:=226,ps:=posA,mro:=(by rfl),hasDict:=(by rfl),qual:=(by rfl),clsT:=(by kernel_rfl),makes:=⟨⟨_,_,_,rfl,by kernel_rfl⟩,rfl,⟨_,rfl⟩,by kernel_rfl,by kernel_rfl,by kernel_rfl,by kernel_rfl⟩,ga:=(by kernel_rfl),gh:=(by kernel_rfl),sa:=(by kernel_rfl),tk:=(by kernel_rfl),
  mInit:=(by kernel_rfl),mPush:=(by kernel_rfl),mPop:=(by kernel_rfl),mCnt:=(by kernel_rfl),mApp:=(by kernel_rfl),cell:=⟨_,_,_,rfl⟩,third:=(by kernel_rfl),mgS:=m1,mbS:=m2,top:=(by kernel_rfl),
  dInit:=fnAt_of rfl rfl rfl rfl rfl rfl (by kernel_rfl) rfl rfl (bndInit_inv (λx s X=>kp_binds X (λS=>by kernel_rfl)) (λx y s X=>kp_binds X (λS=>by kernel_rfl))) rfl rfl rfl rfl (by rfl),dPush:=fnAt_of rfl rfl rfl rfl rfl rfl (by kernel_rfl) rfl rfl (bndPush_inv λx y z s X=>kp_binds X (λS=>by kernel_rfl)) rfl rfl rfl rfl (by rfl),dPop:=fnAt_of rfl rfl rfl rfl rfl rfl (by kernel_rfl) rfl rfl (bnd1_inv λx s X=>kp_binds X (λS=>by kernel_rfl)) rfl rfl rfl rfl (by rfl),dCnt:=fnAt_of rfl rfl rfl rfl rfl rfl (by kernel_rfl) rfl rfl (bnd1_inv λx s X=>kp_binds X (λS=>by kernel_rfl)) rfl rfl rfl rfl (by rfl)}
theorem accP01 (m1:mg "super"=none) (m2:mb "super"=some (.type "super")):AccPos (acc01 w mg mb m1 m2):=⟨rfl,rfl,rfl,rfl,rfl,λ_=>rfl,λ_=>rfl,λ_=>rfl⟩
theorem bm01 (m4:mg "__builtins__"=some (.ref 4)):BmAt (base01 pr01 w (K01m w.params) mg mb):=⟨⟨4,_,m4,by decide,by decide,rfl,rfl,rfl,rfl⟩,by kernel_rfl⟩
noncomputable def gen01 {f cda P:Addr}{o:Obj}{fd:FuncData}(h0:(K01m w.params).lookup f=some o) (h1:o.data = .func fd) (h2:fd.code = .ref cda) (hf:isFn (K01m w.params) (.ref f)=true)
  (hc:CodeK (K01m w.params) cda P) (hp:tabs01.lookup P=some none):GenAt (base01 pr01 w (K01m w.params) mg mb) f:=
 ⟨cda,P,hf,λfd' od sl h=>by have e:=h0.symm.trans h;cases e;cases h1;exact h2,hc,hp⟩
noncomputable def str01 {te:Tok}(m3:mg "EMPTYSTRING"=some (.str ⟨#[]⟩ te)):StrAt (base01 pr01 w (K01m w.params) mg mb):=
 {fStr:=82,te:=te,ps:=posS,G:=gen01 w mg mb rfl rfl rfl (by kernel_rfl) ⟨_,_,_,_,_,_,_,_,_,rfl,rfl,rfl,rfl,rfl,rfl,rfl,rfl⟩ rfl,mStr:=(by kernel_rfl),dStr:=fnAt_of rfl rfl rfl rfl rfl rfl (by kernel_rfl) rfl rfl (bnd1_inv λx s X=>kp_binds X (λS=>by kernel_rfl)) rfl rfl rfl rfl (by rfl),mgE:=m3,l1:=rfl,l2:=rfl}
noncomputable def len01 (g1:mg "len"=none) (g2:mb "len"=some (.builtin "len")) (g3:mg "sum"=none) (g4:mb "sum"=some (.builtin "sum")):LenAt (base01 pr01 w (K01m w.params) mg mb):=
 {fLen:=75,ps:=posL,G:=gen01 w mg mb rfl rfl rfl (by kernel_rfl) ⟨_,_,_,_,_,_,_,_,_,rfl,rfl,rfl,rfl,rfl,rfl,rfl,rfl⟩ rfl,mLen:=(by kernel_rfl),dLen:=fnAt_of rfl rfl rfl rfl rfl rfl (by kernel_rfl) rfl rfl (bnd1_inv λx s X=>kp_binds X (λS=>by kernel_rfl)) rfl rfl rfl rfl (by rfl),noInit:=(by kernel_rfl),mgL:=g1,mbL:=g2,mgS:=g3,mbS:=g4}
noncomputable def cut01:CutAt (base01 pr01 w (K01m w.params) mg mb):=
 {fFrom:=60,fReset:=90,pf:=posF,pr:=posR,mFrom:=(by kernel_rfl),mReset:=(by kernel_rfl),dFrom:=fnAt_of rfl rfl rfl rfl rfl rfl (by kernel_rfl) rfl rfl (bndFrom_inv λx y s X=>kp_binds X (λS=>by kernel_rfl)) rfl rfl rfl rfl (by rfl),dReset:=fnAt_of rfl rfl rfl rfl rfl rfl (by kernel_rfl) rfl rfl (bndReset_inv λx y s X=>kp_binds X (λS=>by kernel_rfl)) rfl rfl rfl rfl (by rfl),mGet:=(by kernel_rfl),mSet:=(by kernel_rfl)}
end
theorem as01_eq (P:Params):as01=(K01h P).map (·.1):=by kernel_rfl
noncomputable def d01:DefRec×List (Str×Expr):=(defOf view01 "law").get (by kernel_rfl)
theorem law01_all (pure:∀ script:List Int,script.length<=63->∃ σ,callN T01 10 179 [.flist (script.map V.int)] []=some (.bool true,σ)){w:World}{mg mb:Str->Option Value}{s₁:Shared}(X0:Frag.In (K01h w.params) s₁.heap) (G:s₁.heap.Ns mainGlobals mg) (Bn:s₁.heap.Ns builtinsNs mb) (nl:s₁.heap.NoLimit) (hmb:∀ x:Str,x≠"__name__"->mb x=bootBuiltins x)
  (hs:s₁.heap.objs.size=181) (hg:s₁.gens=#[]){items:List Value}{script:List Int}(hl:s₁.heap.get? 180=some {cls:=.type "list",data:=.seq items.toArray}) (hi:IntsAre items script) (hlen:script.length<=63)
  {Q:Value->Shared->Prop}{E:Value->Shared->Prop}(hQ:∀ s',OldK s₁.heap s'.heap->s'.os=s₁.os->AllBare s'.gens->Q (.bool true) s'):wpAny (model pr01 w) callerA (call (.ref 179) [.ref 180]) Q E s₁:=by
 have X:=in_left X0
 have no:∀ {x:Str},nsIn (K01m w.params) mainGlobals x=some none->mg x=none:=λh=>mg_none_of X G h
 have m1:=no (x:="super") (by kernel_rfl)
 have m2:mb "super"=some (.type "super"):=(hmb "super" (by decide)).trans (by kernel_rfl)
 have tab:∀ {a c:Addr}{oc:Obj}{vs:Array Value},(K01h w.params).lookup a=some (tabO #[])->(K01h w.params).lookup c=some oc->oc.cls = .type "code"->oc.data = .fields vs->vs[11]?=some (.ref a)->∃ c,s₁.heap.TableAt c a #[]:=λ{a c oc vs} h1 h2 h3 h4 h5=>⟨c,⟨oc,vs,X0 _ _ h2,h3,h4,h5⟩,X0 _ _ h1⟩
 have tb:Tabs0 tabs01 s₁.heap:=λt q ht=>by
  rcases mC (lookup_in ht)with e|ht
  ·cases e;exact tab (a:=70) (c:=74) rfl rfl rfl rfl rfl
  ·rcases mC ht with e|ht
   ·cases e;exact tab (a:=77) (c:=81) rfl rfl rfl rfl rfl
   ·cases mS ht;exact tab (a:=176) (c:=178) rfl rfl rfl rfl rfl
 exact law01_main (kf01 w) X G Bn nl hmb (acc01 w mg mb m1 m2) (accP01 w mg mb m1 m2) (bm01 w mg mb (mg_of X G (by kernel_rfl))) (str01 w mg mb (te:=212) (mg_of X G (by kernel_rfl)))
  (len01 w mg mb (no (by kernel_rfl)) ((hmb "len" (by decide)).trans (by kernel_rfl)) (no (by kernel_rfl)) ((hmb "sum" (by decide)).trans (by kernel_rfl))) (cut01 w mg mb)
  (dfn01 w mg mb) tb hs hg hl hi (pure _ hlen) hQ
theorem walk01 (pure:∀ script:List Int,script.length<=63->∃ σ,callN T01 10 179 [.flist (script.map V.int)] []=some (.bool true,σ)):WalkX view01 ["_Accumulator"] (XL view01 []) (obsZ as01) (valZ K01h 180 404) PySem.Challenge.rw_uy0001_01.row.toRowW d01.1 d01.2 λf vs=>PySem.call f vs:=by
 intro w s₀ s₁ mg mb G y fa o pm cd doc dV kV ho hd hcd hD hmg hg args vals as L hpre hlay hrd hwl hlo
 clear ho hd hcd hD
 obtain⟨-,ZI,ZN,ZT⟩:=z_facts as01_eq y
 have KX:=InK.keeps w _ _ ZI (Laid.keeps L)
 have T:=G.T
 clear G y ZI ZT
 wrow_args hpre hlay hrd hwl hlo
 obtain⟨hat,hsz⟩:=script_at L
 rw[ZN]at hat hsz
 subst hat
 have hfa:=hmg.symm.trans (mg_of KX T.g (show nsIn (K01h w.params) mainGlobals "law"=some (some (.ref 179))by kernel_rfl))
 rename_i script _ _ _ _ _ _ _ vs _ _ hints _ hlen _ hlist _ _
 injection hfa with hfb
 injection hfb with hfc
 subst hfc
 have hobj:=script_obj L hlist
 show wpAny _ callerA (call (.ref 179) [.ref 180]) _ _ _
 exact law01_all pure KX T.g T.b T.nolimit T.builtins hsz hg hobj hints (by omega) (λs' h1 h2 h3=>⟨.inl ⟨_,_,[],rfl,(λ_=>rfl),ReadsW.bool true,(by wrow_post),λ_=>⟨List.nodup_nil,λ_ hm=>(absurd hm List.not_mem_nil)⟩⟩,h1,h2,h3⟩)
end Mine
end
section
namespace Mine.Pu
open PySem
theorem bindI {α β:Type}{o:Option α}{f:α->Option β}{a:α}{r:Option β}(h:o=some a) (k:f a=r):o.bind f=r:=by rw[h];exact k
theorem cps {P:Prop}(h:∀ Γ:Prop,(P->Γ)->Γ):P:=h P id
noncomputable def Ext (s s':AH):Prop:=s.length<=s'.length/\∀ i,i<s.length->s'[i]?=s[i]?
theorem Ext.refl (s:AH):Ext s s:=⟨Nat.le_refl _,λ_ _=>rfl⟩
theorem Ext.trans {a b c:AH}(x:Ext a b) (y:Ext b c):Ext a c:=⟨nT x.1 y.1,λi h=>(y.2 i (Nat.lt_of_lt_of_le h x.1)).trans (x.2 i h)⟩
theorem Ext.app (a b:AH):Ext a (a++b):=⟨by rw[List.length_append];exact Nat.le_add_right ..,λi h=>List.getElem?_append_left h⟩
theorem Ext.get {a b:AH}(x:Ext a b){i:Nat}{o:O}(h:a[i]?=some o):b[i]?=some o:=(x.2 i (List.getElem?_eq_some_iff.mp h).1).trans h
theorem Ext.set {a b:AH}(x:Ext a b){k:Nat}(h:a.length<=k) (o:O):Ext a (b.set k o):=⟨by rw[List.length_set];exact x.1,λi hi=>by rw[List.getElem?_set_ne (Nat.ne_of_gt (Nat.lt_of_lt_of_le hi h))];exact x.2 i hi⟩
section
variable {s s1:AH}{i k:Nat}{vs:List V}{v:V}
theorem lst_at (h:s[i]?=some (.list vs)):lstAt (.obj i) s=some vs:=bindI rfl (bindI h rfl)
theorem top_at (s:AH) (o:O):(s++[o])[s.length]?=some o:=List.getElem?_concat_length
theorem new_at (s:AH) (vs:List V):lstAt (.obj s.length) (s++[.list vs])=some vs:=lst_at (top_at ..)
theorem newL_ok' (h:vs.length<=LIM):newL vs s=some (.obj s.length,s++[.list vs]):=if_pos h
theorem place_nat {n:Nat}(h:k<n):place (k:Int) n=some k:=(if_pos (Int.natCast_nonneg k)).trans (if_pos (Int.ofNat_lt.mpr h))
theorem place_last {n:Nat}(h:0<n):place (-1) n=some (n-1):=by
 cases n with
 | zero=>exact absurd h (Nat.lt_irrefl 0)
 | succ m=>
  have e:(-1:Int)+((m+1:Nat):Int)=(m:Int):=(Int.add_comm ..).trans (Int.add_neg_cancel_right (m:Int) 1)
  refine(if_neg (by decide)).trans ?_
  rw[e,if_pos (Int.natCast_nonneg m)]
  rfl
theorem fuel1 {m f:Nat}(h:m<f):∃ k,f=k+1:=⟨f-1,(Nat.sub_add_cancel (Nat.lt_of_le_of_lt (Nat.zero_le m) h)).symm⟩
theorem fuel2 {m f:Nat}(h:m+1<f):∃ k,f=k+1+1:=by
 obtain⟨k,rfl⟩:=fuel1 h
 obtain⟨k,rfl⟩:=fuel1 (Nat.lt_of_succ_lt_succ h)
 exact⟨k,rfl⟩
theorem at_of (h:lstAt (.obj i) s=some vs):s[i]?=some (.list vs):=bindE h λj hj h=>bindE h λo ho h=>by
 obtain rfl:=oJ hj
 cases o with
 | list us=>obtain rfl:=oJ h;exact ho
 | _=>exact noneE h
theorem dict_no (h:lstAt (.obj i) s=some vs):dictAt (.obj i) s=none:=by
 show(s[i]?).bind asD=none
 rw[at_of h]
 rfl
theorem dict_at {kvs:List (Kx×V)}(h:s[i]?=some (.dict kvs)):dictAt (.obj i) s=some kvs:=bindI rfl (bindI h rfl)
theorem idxV_lst (h:lstAt (.obj i) s=some vs) (k:V):idxV (.obj i) k s=idxL (.obj i) k s:=by unfold idxV;rw[dict_no h]
theorem idxV_dict {kvs:List (Kx×V)}(h:s[i]?=some (.dict kvs)){k:V}{x:Kx}(hk:asKx k=some x) (hv:getK kvs x=some v):idxV (.obj i) k s=some v:=by
 unfold idxV
 rw[dict_at h]
 exact bindI hk hv
theorem iter_lst (h:lstAt (.obj i) s=some vs):iterOf (.obj i) s=some (.lst i 0):=by
 show(match dictAt (.obj i) s with|some kvs=>some (It.dct i kvs.length 0)|none=>(lstAt (.obj i) s).bind λ_=>some (.lst i 0))=_
 rw[dict_no h]
 exact bindI h rfl
theorem idx_lst (h:lstAt (.obj i) s=some vs) (hv:vs[k]?=some v):idxV (.obj i) (.int (k:Int)) s=some v:=(idxV_lst h _).trans (bindI (show seqAt (.obj i) s=some vs from h) (bindI rfl (bindI (place_nat (List.getElem?_eq_some_iff.mp hv).1) hv)))
theorem idx_last {n:Nat}(h:lstAt (.obj i) s=some vs) (hn:vs.length=n+1) (hv:vs[n]?=some v):idxV (.obj i) (.int (-1)) s=some v:=(idxV_lst h _).trans (bindI (show seqAt (.obj i) s=some vs from h) (bindI rfl (bindI (place_last (by rw[hn];exact Nat.succ_pos n)) (by show vs[vs.length-1]?=some v;rw[hn];exact hv))))
theorem set_lst (h:lstAt (.obj i) s=some vs) (hk:k<vs.length):setLstV (.obj i) (.int (k:Int)) v s=some (s.set i (.list (vs.set k v))):=bindI rfl (bindI rfl (bindI h (bindI (place_nat hk) rfl)))
theorem acc_no (h:lstAt (.obj i) s=some vs):accAt (.obj i) s=none:=by
 show(s[i]?).bind asAcc=none
 rw[at_of h]
 rfl
theorem len_lst (h:lstAt (.obj i) s=some vs):callB .len [.obj i] s=some (.int vs.length,s):=by
 show lenO (.obj i) s=_
 unfold lenO
 rw[acc_no h]
 exact bindI (show seqAt (.obj i) s=some vs from h) rfl
theorem kind_at (h:s[i]?=some (.list vs)):kindV (.obj i) s=2:=by show(match s[i]? with|some o=>kindO o|none=>0)=2;rw[h];rfl
theorem app_lst (h:s[i]?=some (.list vs)) (hl:vs.length<LIM):callM (.obj i) .append [v] s=some (.none,s.set i (.list (vs++[v]))):=bindI h (if_pos hl)
theorem join_ok {l:List Cs}(sep:Cs) (h:lstAt (.obj i) s=some vs) (hs:strsOf vs=some l) (hl:(joinL sep l).length<=LIM) (hp:sep.length<=LIM):callM (.str sep) .join [.obj i] s=some (.str (joinL sep l),s):=bindI h (bindI hs (if_pos ⟨hl,hp⟩))
theorem truth_lst (h:lstAt (.obj i) s=some vs):truth (.obj i) s=some (!vs.isEmpty):=bindI h rfl
end
section
variable {C:Oracle}{a e o i:E}{es args:List E}{loc:Loc}{s s1 s2 s3:AH}{v x y k:V}{vs:List V}{b:Bool}{r:Option (V×AH)}
theorem ev_var {n:Nat}(h:loc[n]?=some (some v)):ev C (.var n) loc s=some (v,s):=bindI h rfl
theorem ev_lit:ev C (.lit v) loc s=some (v,s):=rfl
theorem ev_bin {op:Operator}(h1:ev C a loc s=some (x,s1)) (h2:ev C e loc s1=some (y,s2)) (h3:binV op x y s2=r):ev C (.bin op a e) loc s=r:=bindI h1 (bindI h2 h3)
theorem ev_cmp1 {op:CmpOp}(h1:ev C a loc s=some (x,s1)) (h2:ev C e loc s1=some (y,s2)) (h3:compareV op x y s2=some b):ev C (.cmp a [op] [e]) loc s=some (.bool b,s2):=bindI h1 (bindI (bindI h2 (bindI h3 rfl)) rfl)
theorem ev_idx (h1:ev C o loc s=some (x,s1)) (h2:ev C i loc s1=some (k,s2)) (h3:idxV x k s2=some v):ev C (.idx o i) loc s=some (v,s2):=bindI h1 (bindI h2 (bindI h3 rfl))
theorem ev_bcall {f:Bi}(h:evs C args loc s=some (vs,s2)) (h2:callB f vs s2=r):ev C (.bcall f args) loc s=r:=bindI h h2
theorem ev_fcall {f:Addr}(h:evs C args loc s=some (vs,s2)) (h2:C f vs s2=r):ev C (.fcall f args) loc s=r:=bindI h h2
theorem ev_mcall {m:Mt}(h1:ev C o loc s=some (x,s1)) (h2:evs C args loc s1=some (vs,s2)) (hk:kindV x s1=kindV x s2) (h3:callM x m vs s2=r):ev C (.mcall o m args) loc s=r:=bindI h1 (bindI h2 ((if_pos hk).trans h3))
theorem evs_one (h:ev C e loc s=some (v,s1)):evs C [e] loc s=some ([v],s1):=bindI h rfl
theorem evs_cons (h:ev C e loc s=some (v,s1)) (h2:evs C es loc s1=some (vs,s2)):evs C (e::es) loc s=some (v::vs,s2):=bindI h (bindI h2 rfl)
theorem ev_tup (h:evs C es loc s=some (vs,s1)) (hl:vs.length<=LIM):ev C (.tup es) loc s=some (.tup vs,s1):=bindI h (if_pos hl)
theorem ev_list (h:evs C es loc s=some (vs,s1)) (hl:vs.length<=LIM):ev C (.list es) loc s=some (.obj s1.length,s1++[.list vs]):=bindI h (newL_ok' hl)
theorem ev_neg {n:Int}(h:ev C e loc s=some (.int n,s1)):ev C (.neg e) loc s=some (.int (-n),s1):=bindI h rfl
theorem ev_slc {l u st:E}{vl vu vst:V}{s4:AH}(h1:ev C o loc s=some (x,s1)) (h2:ev C l loc s1=some (vl,s2)) (h3:ev C u loc s2=some (vu,s3)) (h4:ev C st loc s3=some (vst,s4)) (h5:slcV x vl vu vst s4=r):ev C (.slc o l u st) loc s=r:=bindI h1 (bindI h2 (bindI h3 (bindI h4 h5)))
theorem ev_iteT {c:E}(h:ev C c loc s=some (x,s1)) (ht:truth x s1=some true) (h2:ev C a loc s1=r):ev C (.ite c a e) loc s=r:=bindI h (bindI ht h2)
theorem ev_iteF {c:E}(h:ev C c loc s=some (x,s1)) (ht:truth x s1=some false) (h2:ev C e loc s1=r):ev C (.ite c a e) loc s=r:=bindI h (bindI ht h2)
theorem log_stop {w:Bool}(h:ev C e loc s=some (x,s1)) (ht:truth x s1=some (!w)):evLog C w (e::a::es) loc s=some (x,s1):=bindI h (bindI ht (by cases w<;>rfl))
theorem log_go {w:Bool}{r:Option (V×AH)}(h:ev C e loc s=some (x,s1)) (ht:truth x s1=some w) (h2:evLog C w (a::es) loc s1=r):evLog C w (e::a::es) loc s=r:=bindI h (bindI ht (by cases w<;>exact h2))
theorem log_last {w:Bool}(h:ev C e loc s=some (x,s1)):evLog C w [e] loc s=some (x,s1):=bindI h rfl
theorem ifs_go {r:Option (Bool×AH)}(h:ev C e loc s=some (x,s1)) (ht:truth x s1=some true) (h2:evIfs C es loc s1=r):evIfs C (e::es) loc s=r:=bindI h (bindI ht h2)
theorem ifs_stop (h:ev C e loc s=some (x,s1)) (ht:truth x s1=some false):evIfs C (e::es) loc s=some (false,s1):=bindI h (bindI ht rfl)
end
section
variable {C:Oracle}{c a e o i:E}{st:S}{ss A B:List S}{loc l l1:Loc}{s s1 s2 s3:AH}{v x y k:V}{vs:List V}{b:Bool}{r:Option (Fl×Loc×AH)}
theorem exs_cons (h:ex C st l s=some (.next,l1,s1)) (k:exs C ss l1 s1=r):exs C (st::ss) l s=r:=bindI h k
theorem exs_ret (h:ex C st l s=some (.ret v,l1,s1)):exs C (st::ss) l s=some (.ret v,l1,s1):=bindI h rfl
theorem exs_one (h:ex C st l s=some (.next,l1,s1)):exs C [st] l s=some (.next,l1,s1):=bindI h rfl
theorem ex_set {n:Nat}(h:ev C e loc s=some (v,s1)):ex C (.assign (.var n) e) loc s=some (.next,loc.set n (some v),s1):=bindI h rfl
theorem ex_sets {is:List Nat}(h:ev C e loc s=some (.tup vs,s1)) (hl:vs.length=is.length):ex C (.assign (.vars is) e) loc s=some (.next,setAll is vs loc,s1):=bindI h (bindI (bindI (if_pos hl) rfl) rfl)
theorem ex_expr (h:ev C e loc s=some (v,s1)):ex C (.expr e) loc s=some (.next,loc,s1):=bindI h rfl
theorem ex_ret (h:ev C e loc s=some (v,s1)):ex C (.ret e) loc s=some (.ret v,loc,s1):=bindI h rfl
theorem ex_aug {n:Nat}{op:Operator}(hn:loc[n]?=some (some x)) (h:ev C e loc s=some (y,s1)) (h2:augV op x y=some v):ex C (.augVar n op e) loc s=some (.next,loc.set n (some v),s1):=bindI hn (bindI (show some x=some x from rfl) (bindI h (bindI h2 rfl)))
theorem ex_ifT (h:ev C c loc s=some (x,s1)) (ht:truth x s1=some true) (k:exs C A loc s1=r):ex C (.ifS c A B) loc s=r:=bindI h (bindI ht k)
theorem ex_ifF (h:ev C c loc s=some (x,s1)) (ht:truth x s1=some false) (k:exs C B loc s1=r):ex C (.ifS c A B) loc s=r:=bindI h (bindI ht k)
theorem ex_no (h:ev C c loc s=some (.bool false,s1)):ex C (.ifS c A []) loc s=some (.next,loc,s1):=ex_ifF h rfl rfl
noncomputable def forB (C:Oracle) (t:Tgt) (body:List S):V->Loc->AH->Option ((Loc⊕(V×Loc))×AH):=λv l s=>(assignT t v l s).bind λl1=>(exs C body l1 s).bind λr=>match r.1 with
 | .next=>some (.inl r.2.1,r.2.2)
 | .ret x=>some (.inr (x,r.2.1),r.2.2)
theorem ex_for {t:Tgt}{it:E}{j:It}(h:ev C it loc s=some (x,s1)) (hi:iterOf x s1=some j) (hl:loopM (forB C t A) FUEL j loc s1=some (.inl l,s2)):ex C (.forS t it A) loc s=some (.next,l,s2):=bindI h (bindI hi (bindI hl rfl))
theorem ex_forR {t:Tgt}{it:E}{j:It}(h:ev C it loc s=some (x,s1)) (hi:iterOf x s1=some j) (hl:loopM (forB C t A) FUEL j loc s1=some (.inr (v,l),s2)):ex C (.forS t it A) loc s=some (.ret v,l,s2):=bindI h (bindI hi (bindI hl rfl))
theorem for_next {n:Nat}(h:exs C A (loc.set n (some v)) s=some (.next,l,s1)):forB C (.var n) A v loc s=some (.inl l,s1):=bindI rfl (bindI h rfl)
theorem for_ret {n:Nat}(h:exs C A (loc.set n (some v)) s=some (.ret x,l,s1)):forB C (.var n) A v loc s=some (.inr (x,l),s1):=bindI rfl (bindI h rfl)
noncomputable def wC (C:Oracle) (c:E):Loc->AH->Option (Bool×AH):=λl s=>(ev C c l s).bind λp=>(truth p.1 p.2).bind λt=>some (t,p.2)
theorem wC_ok (h:ev C c loc s=some (x,s1)) (ht:truth x s1=some b):wC C c loc s=some (b,s1):=bindI h (bindI ht rfl)
theorem ex_while (h:whileM (wC C c) (λl s=>exs C A l s) FUEL loc s=r):ex C (.whileS c A) loc s=r:=h
theorem while_end {f:Loc->AH->Option (Bool×AH)}{g:Loc->AH->Option (Fl×Loc×AH)}{n:Nat}(h:f loc s=some (false,s1)):whileM f g (n+1) loc s=some (.next,loc,s1):=bindI h rfl
theorem while_go {f:Loc->AH->Option (Bool×AH)}{g:Loc->AH->Option (Fl×Loc×AH)}{n:Nat}(h:f loc s=some (true,s1)) (h2:g loc s1=some (.next,l,s2)) (k:whileM f g n l s2=r):whileM f g (n+1) loc s=r:=bindI h (bindI h2 k)
theorem call_ret {d:Nat}{f:Addr}{np ns:Nat}{args:List V}(hT:T01 f=some (.dfn np ns A)) (hn:args.length=np) (h:exs (callN T01 d) A (args.map some++List.replicate ns none) s=some (.ret v,l,s1)):callN T01 (d+1) f args s=some (v,s1):=bindI hT ((if_pos hn).trans (bindI h rfl))
end
section
variable {α β:Type}{f:V->α->AH->Option ((α⊕β)×AH)}{a a1:α}{s s1:AH}{v:V}{vs:List V}{n k i:Nat}{b:β}{r:Option ((α⊕β)×AH)}
theorem lv_nil:loopM f (n+1) (.vals []) a s=some (.inl a,s):=rfl
theorem lv_go (h:f v a s=some (.inl a1,s1)) (k:loopM f n (.vals vs) a1 s1=r):loopM f (n+1) (.vals (v::vs)) a s=r:=bindI rfl (bindI (show f v a s=_ from h) k)
theorem next_lst (hl:lstAt (.obj i) s=some vs) (hv:vs[k]?=some v):nextOf (.lst i k) s=some (some (v,.lst i (k+1))):=bindI hl (by rw[hv])
theorem ll_nil (hl:lstAt (.obj i) s=some vs) (hk:vs[k]?=none):loopM f (n+1) (.lst i k) a s=some (.inl a,s):=bindI (bindI hl (by rw[hk])) rfl
theorem ll_go (hl:lstAt (.obj i) s=some vs) (hv:vs[k]?=some v) (h:f v a s=some (.inl a1,s1)) (q:loopM f n (.lst i (k+1)) a1 s1=r):loopM f (n+1) (.lst i k) a s=r:=bindI (next_lst hl hv) (bindI h q)
theorem ll_ret (hl:lstAt (.obj i) s=some vs) (hv:vs[k]?=some v) (h:f v a s=some (.inr b,s1)):loopM f (n+1) (.lst i k) a s=some (.inr b,s1):=bindI (next_lst hl hv) (bindI h rfl)
theorem loop_lst (P:Nat->α->AH->Prop) (hl:∀ k a s,P k a s->lstAt (.obj i) s=some vs) (st:∀ k v a s,vs[k]?=some v->P k a s->∃ a' s',f v a s=some (.inl a',s')/\P (k+1) a' s') (m:Nat):
  ∀ (n k:Nat) (a:α) (s:AH),k+m=vs.length->m<n->P k a s->∃ a' s',loopM f n (.lst i k) a s=some (.inl a',s')/\P vs.length a' s':=by
 induction m with
 | zero=>
  intro n k a s hk h p
  cases n with
  | zero=>exact absurd h (Nat.lt_irrefl _)
  | succ n=>
   have hk:k=vs.length:=hk
   subst hk
   exact⟨a,s,ll_nil (hl _ _ _ p) (List.getElem?_eq_none (Nat.le_refl _)),p⟩
 | succ m ih=>
  intro n k a s hk h p
  cases n with
  | zero=>exact absurd h (Nat.not_lt_zero _)
  | succ n=>
   have hv:vs[k]?=some vs[k]:=List.getElem?_eq_getElem (hk▸Nat.lt_add_of_pos_right (Nat.succ_pos m))
   obtain⟨a',s',e,p'⟩:=st k _ a s hv p
   obtain⟨a2,s2,e2,p2⟩:=ih n (k+1) a' s' (by rw[<-hk,Nat.add_right_comm];rfl) (Nat.lt_of_succ_lt_succ h) p'
   exact⟨a2,s2,ll_go (hl _ _ _ p) hv e e2,p2⟩
end
noncomputable def genB (C:Oracle) (elt:Loc->AH->Option (V×AH)) (t:Tgt) (ifs:List E) (gs:List G) (loc:Loc):V->List V->AH->Option ((List V⊕Empty)×AH):=λv acc s=>(assignT t v loc s).bind λl=>(evIfs C ifs l s).bind λb=>cond b.1 ((evGens C elt gs l l acc b.2).bind λr=>some (.inl r.1,r.2)) (some (.inl acc,b.2))
section
variable {C:Oracle}{elt:Loc->AH->Option (V×AH)}{e it x y:E}{t:Tgt}{ifs:List E}{gs:List G}{oloc loc:Loc}{acc acc':List V}{s s1 s2:AH}{v u:V}{j:It}
theorem gens_mk (hu:unsetT t loc=true) (h:ev C it oloc s=some (v,s1)) (hi:iterOf v s1=some j) (hl:loopM (genB C elt t ifs gs loc) FUEL j acc s1=some (.inl acc',s2)):evGens C elt (.mk t it ifs::gs) oloc loc acc s=some (acc',s2):=(if_pos hu).trans (bindI h (bindI hi (bindI hl rfl)))
theorem ev_comp (h:evGens C (λl s=>ev C e l s) gs loc loc [] s=some (acc,s1)) (hl:acc.length<=LIM):ev C (.comp e gs) loc s=some (.obj s1.length,s1++[.list acc]):=bindI h (newL_ok' hl)
theorem gen_no {n:Nat}(h:evIfs C ifs (loc.set n (some v)) s=some (false,s1)):genB C elt (.var n) ifs gs loc v acc s=some (.inl acc,s1):=bindI rfl (bindI h rfl)
theorem gen_yes {n:Nat}(h:evIfs C ifs (loc.set n (some v)) s=some (true,s1)) (h2:evGens C elt gs (loc.set n (some v)) (loc.set n (some v)) acc s1=some (acc',s2)):genB C elt (.var n) ifs gs loc v acc s=some (.inl acc',s2):=bindI rfl (bindI h (bindI h2 rfl))
theorem gens_end (h:elt loc s=some (v,s1)) (ha:acc.length<LIM):evGens C elt [] oloc loc acc s=some (acc++[v],s1):=bindI h (if_pos ha)
end
theorem fuel_lim:FUEL<=LIM:=by decide
end Mine.Pu
end
section
namespace Mine.Pu
open PySem
theorem lim_of {n:Nat}(h:Nat.ble n LIM=true):n<=LIM:=Nat.le_of_ble_eq_true h
theorem c119 (d:Nat) (s:AH) (x:Int):callN T01 (d+1) 119 [.int x] s=some (.bool (decide (x<256)),s):=rfl
theorem c126 (d:Nat) (s:AH) (x:Int):callN T01 (d+1) 126 [.int x] s=some (.bool (decide (x≥256)),s):=rfl
theorem c133 (d:Nat) (s:AH) (x:Int):callN T01 (d+1) 133 [.int x] s=some (.bool (decide (x=0)),s):=rfl
noncomputable abbrev dots:Cs:=[46,46,46]
noncomputable def jn:List Cs->Cs->Cs
 | [],l=>l
 | p::ps,l=>p++(dots++jn ps l)
theorem at_iff {x p:Cs}{n i:Nat}:StrLaws.At ⟨x.toArray⟩ ⟨p.toArray⟩ n i↔i+p.length<=n/\p <+: x.drop i:=
 and_congr_right λ_=>by rw[StrLaws.subAt_eq,beq_iff_eq,List.prefix_iff_eq_take];exact eq_comm
theorem dots_in {A p r:Cs}{k:Nat}(hp:46∉p) (h1:A.length<=k) (h2:k<A.length+p.length):¬dots <+: (A++(p++r)).drop k:=λh=>by
 obtain⟨j,rfl⟩:=Nat.exists_eq_add_of_le h1
 have hj:j<p.length:=Nat.lt_of_add_lt_add_left h2
 rw[<-List.drop_drop,List.drop_left,List.drop_append_of_le_length (Nat.le_of_lt hj),List.drop_eq_getElem_cons hj]at h
 exact hp ((List.cons_prefix_cons.mp h).1▸List.getElem_mem hj)
theorem parts_jn {l:Cs}(hl:46∉l) (ps:List Cs):∀ (A x:Cs) (cuts:List Nat) (f:Nat),x=A++jn ps l->(∀ p∈ps,46∉p)->StrLaws.ChainG ⟨x.toArray⟩ ⟨dots.toArray⟩ x.length A.length cuts f->(∀ k,f<=k->¬StrLaws.At ⟨x.toArray⟩ ⟨dots.toArray⟩ x.length k)->
  (StrLaws.partsFrom ⟨x.toArray⟩ 3 A.length cuts).map (λz=>z.cps.toList)=ps++[l]:=by
 induction ps with
 | nil=>
  intro A x cuts f e _ hc _
  cases cuts with
  | nil=>
   show[(Builtin.Str.strSub ⟨x.toArray⟩ A.length x.length).cps.toList]=[l]
   rw[StrLaws.strSub_toList]
   show[(x.drop A.length).take (x.length-A.length)]=[l]
   rw[e,List.drop_left,List.length_append,Nat.add_sub_cancel_left]
   exact congrArg (λz=>[z]) (List.take_length ..)
  | cons c r=>
   obtain⟨h1,h2⟩:=at_iff.mp hc.2.1
   refine absurd (e▸h2) (show ¬dots <+: (A++l).drop c from List.append_nil l▸dots_in hl hc.1 (Nat.lt_of_lt_of_le (Nat.lt_add_of_pos_right (by decide)) (nT h1 (Nat.le_of_eq ?_))))
   rw[e,List.length_append]
   rfl
 | cons p ps ih=>
  intro A x cuts f e hps hc hf
  have hp:=hps p (List.mem_cons_self ..)
  have e':x=(A++p)++(dots++jn ps l):=e.trans (List.append_assoc ..).symm
  have hat:StrLaws.At ⟨x.toArray⟩ ⟨dots.toArray⟩ x.length (A.length+p.length):=at_iff.mpr ⟨by rw[e',List.length_append,List.length_append];exact Nat.add_le_add_left (by rw[List.length_append];exact Nat.le_add_right ..) _,by rw[e',<-List.length_append,List.drop_left];exact List.prefix_append ..⟩
  cases cuts with
  | nil=>exact absurd hat (hf _ ((show f=A.length from hc)▸Nat.le_add_right ..))
  | cons c r=>
   obtain⟨h1,h2,h3,h4⟩:=hc
   have ec:c=A.length+p.length:=Nat.le_antisymm (Nat.le_of_not_lt λq=>h3 _ (Nat.le_add_right ..) q hat) (Nat.le_of_not_lt λq=>dots_in hp h1 q (e▸(at_iff.mp h2).2))
   subst ec
   have:=ih ((A++p)++dots) x r f (e'.trans (List.append_assoc ..).symm) (λq hq=>hps q (List.mem_cons_of_mem _ hq)) (by rw[List.length_append,List.length_append];exact h4) hf
   show(Builtin.Str.strSub ⟨x.toArray⟩ A.length (A.length+p.length)).cps.toList::(StrLaws.partsFrom ⟨x.toArray⟩ 3 (A.length+p.length+3) r).map (λz=>z.cps.toList)=p::(ps++[l])
   rw[List.length_append,List.length_append]at this
   rw[show((StrLaws.partsFrom ⟨x.toArray⟩ 3 (A.length+p.length+3) r).map λz=>z.cps.toList)=ps++[l]from this,StrLaws.strSub_toList]
   show(x.drop A.length).take (A.length+p.length-A.length)::_=_
   rw[e,List.drop_left,Nat.add_sub_cancel_left]
   exact congrArg (· :: _) (List.take_left ..)
theorem ite_le {c:Prop}[Decidable c]{n a b:Nat}(ha:n<=a) (hb:n<=b):n<=if c then a else b:=by
 by_cases h:c
 ·rw[if_pos h];exact ha
 ·rw[if_neg h];exact hb
theorem split_jn {l:Cs}{ps:List Cs}(hl:46∉l) (hps:∀ p∈ps,46∉p):splitS (jn ps l) dots=ps++[l]:=by
 obtain⟨f,hc,hf⟩:=StrLaws.occ_tight ⟨(jn ps l).toArray⟩ ⟨dots.toArray⟩ (by decide)
 have main:=parts_jn hl ps [] (jn ps l) _ f rfl hps hc hf
 have one:Builtin.Str.occurrences ⟨(jn ps l).toArray⟩ ⟨dots.toArray⟩ 0 (⟨(jn ps l).toArray⟩:Str).length ((⟨(jn ps l).toArray⟩:Str).length+1)=[]->[(⟨(jn ps l).toArray⟩:Str)].map (λz=>z.cps.toList)=ps++[l]:=λh=>by
  rw[<-main,h]
  exact congrArg (λz:Str=>[z.cps.toList]) (StrLaws.sub_whole _).symm
 unfold splitS Txt.split
 by_cases h1:(decide ((⟨(jn ps l).toArray⟩:Str).length<(⟨dots.toArray⟩:Str).length)||decide (Builtin.Str.strKind ⟨(jn ps l).toArray⟩<Builtin.Str.strKind ⟨dots.toArray⟩))=true
 ·rw[if_pos h1]
  refine one ?_
  cases h:Builtin.Str.occurrences ⟨(jn ps l).toArray⟩ ⟨dots.toArray⟩ 0 (⟨(jn ps l).toArray⟩:Str).length ((⟨(jn ps l).toArray⟩:Str).length+1)with
  | nil=>rfl
  | cons c r=>
   rw[h]at hc
   have h3:=(at_iff.mp hc.2.1).1
   rw[Bool.or_eq_true,decide_eq_true_eq,decide_eq_true_eq]at h1
   rcases h1 with h1|h1
   ·exact absurd (Nat.lt_of_lt_of_le h1 (nT (Nat.le_add_left ..) h3)) (Nat.lt_irrefl _)
   ·rw[show Builtin.Str.strKind ⟨dots.toArray⟩=1 by decide +kernel]at h1
    unfold Builtin.Str.strKind at h1
    exact absurd h1<|Nat.not_lt_of_le<|ite_le (Nat.le_refl 1) (ite_le (by decide) (by decide))
 ·rw[if_neg h1]
  by_cases h2:(Builtin.Str.occurrences ⟨(jn ps l).toArray⟩ ⟨dots.toArray⟩ 0 (⟨(jn ps l).toArray⟩:Str).length ((⟨(jn ps l).toArray⟩:Str).length+1)).isEmpty=true
  ·rw[if_pos h2];exact one (List.isEmpty_iff.mp h2)
  ·rw[if_neg h2,StrLaws.partsBetween_eq];exact main
theorem has_iff (t:Cs):hasSub dots t=true↔∃ i,dots <+: t.drop i:=by
 refine(StrLaws.found_iff ⟨t.toArray⟩ ⟨dots.toArray⟩).trans ⟨λ⟨i,h⟩=>⟨i,(at_iff.mp h).2⟩,λ⟨i,h⟩=>⟨i,at_iff.mpr ⟨?_,h⟩⟩⟩
 have h3:3<=t.length-i:=List.length_drop▸h.length_le
 exact Nat.add_le_of_le_sub' (Nat.le_of_lt (Nat.sub_pos_iff_lt.mp (Nat.lt_of_lt_of_le (by decide) h3))) h3
theorem has_jn (l:Cs) (ps:List Cs) (p:Cs):hasSub dots (p++(dots++jn ps l))=true:=(has_iff _).mpr ⟨p.length,by rw[List.drop_left];exact List.prefix_append ..⟩
theorem has_no (t:Cs) (h:46∉t):hasSub dots t=false:=Bool.eq_false_iff.mpr λe=>by
 obtain⟨i,h2⟩:=(has_iff t).mp e
 exact h (List.mem_of_mem_drop (h2.subset (List.mem_cons_self ..)))
noncomputable def findAll (w:Cs) (fin:Nat):Int->List Cs->Bool
 | _,[]=>true
 | start,p::ps=>let r:=findS p w start.toNat fin
  if r<0 then false else findAll w fin (r+p.length) ps
noncomputable abbrev loc28 (p w:Cs) (v2 v3 v4 v5:Option V):Loc:=some (.str p)::some (.str w)::v2::v3::v4::v5::List.replicate 8 none
noncomputable abbrev body28:List S:=[(.assign (.var 3) (.mcall (.var 1) .find [(.var 5),(.var 3),(.var 4)])),(.ifS (.cmp (.var 3) [.Lt] [(.lit (.int (0)))]) [(.ret (.lit (.bool false)))] []),(.augVar 3 .Add (.bcall .len [(.var 5)]))]
theorem loop28 (C:Oracle) (q w:Cs) (fin:Nat) (hfin:fin<=w.length) (i:Nat) (ps:List Cs) (s:AH) (hi:lstAt (.obj i) s=some (ps.map V.str)) (v2:Option V) (hps:∀ p∈ps,p.length<=LIM) (us:List Cs):
  ∀ (n:Nat) (vs:List Cs) (start:Int) (v5:Option V),ps=vs++us->us.length<n->0<=start->
   ∃ l,loopM (forB C (.var 5) body28) n (.lst i vs.length) (loc28 q w v2 (some (.int start)) (some (.int fin)) v5) s=some (if findAll w fin start us=true then .inl l else .inr (.bool false,l),s):=by
 induction us with
 | nil=>
  intro n vs start v5 e hn h0
  cases n with
  | zero=>exact absurd hn (Nat.lt_irrefl _)
  | succ n=>
   rw[List.append_nil]at e
   exact⟨_,ll_nil hi (by rw[e];exact List.getElem?_eq_none (by rw[List.length_map];exact Nat.le_refl _))⟩
 | cons p us ih=>
  intro n vs start v5 e hn h0
  cases n with
  | zero=>exact absurd hn (Nat.not_lt_zero _)
  | succ n=>
   have hv:(ps.map V.str)[vs.length]?=some (.str p):=by rw[e,List.map_append,<-List.length_map (as:=vs) (f:=V.str),List.getElem?_append_right (Nat.le_refl _),Nat.sub_self];rfl
   have hp:p.length<=LIM:=hps p (by rw[e];exact List.mem_append_right _ (List.mem_cons_self ..))
   have e1:ex C (.assign (.var 3) (.mcall (.var 1) .find [(.var 5),(.var 3),(.var 4)])) (loc28 q w v2 (some (.int start)) (some (.int fin)) (some (.str p))) s=some (.next,loc28 q w v2 (some (.int (findS p w start.toNat fin))) (some (.int fin)) (some (.str p)),s):=
    ex_set (v:=.int (findS p w start.toNat fin)) (by show(if _ then some (V.int _,s)else none)=_;exact if_pos ⟨h0,Int.natCast_nonneg _,Int.ofNat_le.mpr hfin⟩)
   have e2:∀ b,decide (findS p w start.toNat fin<0)=b->ev C (.cmp (.var 3) [.Lt] [(.lit (.int (0)))]) (loc28 q w v2 (some (.int (findS p w start.toNat fin))) (some (.int fin)) (some (.str p))) s=some (.bool b,s):=λb h=>h▸rfl
   by_cases hr:findS p w start.toNat fin<0
   ·rw[show findAll w fin start (p::us)=false from if_pos hr]
    exact⟨_,ll_ret hi hv (for_ret (exs_cons e1 (exs_ret (ex_ifT (e2 _ (decide_eq_true hr)) rfl rfl))))⟩
   ·rw[show findAll w fin start (p::us)=findAll w fin (findS p w start.toNat fin+p.length) us from if_neg hr]
    obtain⟨l,h⟩:=ih n (vs++[p]) (findS p w start.toNat fin+p.length) (some (.str p)) (by rw[e,List.append_assoc];rfl) (Nat.lt_of_succ_lt_succ hn) (Int.add_nonneg (Int.not_lt.mp hr) (Int.natCast_nonneg _))
    rw[List.length_append]at h
    exact⟨l,ll_go hi hv (for_next (exs_cons e1 (exs_cons (ex_no (e2 _ (decide_eq_false hr))) (exs_one (ex_aug (y:=.int p.length) rfl (show(if p.length<=LIM then some (V.int p.length,s)else none)=_ from if_pos hp) rfl))))) h⟩
theorem c28_no (d:Nat) (s:AH) (q w:Cs) (hq:46∉q):callN T01 (d+1) 28 [.str q,.str w] s=some (.bool (decide (q=w)),s):=by
 refine call_ret (np:=2) (ns:=12) (l:=loc28 q w none none none none) (A:=b28) rfl rfl (exs_ret (ex_ifT (x:=.bool true) (s1:=s) (ev_cmp1 rfl rfl (b:=true) ?_) rfl (exs_ret (ex_ret (ev_cmp1 rfl rfl rfl)))))
 show(some (hasSub dots q)).bind (λt=>some (!t))=some true
 rw[has_no q hq]
 rfl
end Mine.Pu
end
section
namespace Mine.Pu
open PySem
theorem ex_del {C:Oracle}{o k:E}{loc:Loc}{s s1 s2:AH}{i n:Nat}{z:Int}{vs:List V}(ho:ev C o loc s=some (.obj i,s1)) (hk:ev C k loc s1=some (.int z,s2)) (hl:lstAt (.obj i) s2=some vs) (hp:place z vs.length=some n):ex C (.del o k) loc s=some (.next,loc,s2.set i (.list (vs.eraseIdx n))):=
 bindI ho (bindI hk (bindI (bindI rfl (bindI rfl (bindI hl (bindI hp rfl)))) rfl))
theorem truth_str {w:Cs}{s:AH}(h:w.length<=LIM):truth (.str w) s=some (!w.isEmpty):=if_pos h
theorem set_get {s:AH}{i:Nat}{o o':O}(h:s[i]?=some o):(s.set i o')[i]?=some o':=List.getElem?_set_self (List.getElem?_eq_some_iff.mp h).1
noncomputable def del0 (p:Cs) (ps:List Cs):List Cs:=if p=[]then ps else ps.tail
noncomputable def delL (p:Cs) (ps:List Cs):List Cs:=if p=[]then ps else ps.dropLast
noncomputable abbrev st6:S:=.ifS (.var 5) [(.ifS (.mcall (.var 1) .startswith [(.var 5)]) [(.assign (.var 3) (.bcall .len [(.var 5)])),(.del (.var 2) (.lit (.int (0))))] [(.ret (.lit (.bool false)))])] []
noncomputable abbrev st8:S:=.ifS (.var 5) [(.ifS (.mcall (.var 1) .endswith [(.var 5)]) [(.augVar 4 .Sub (.bcall .len [(.var 5)])),(.del (.var 2) (.neg (.lit (.int (1)))))] [(.ret (.lit (.bool false)))])] []
section
variable {C:Oracle}{q w:Cs}{i:Nat}{s0 s:AH}
theorem st6_ok {Γ:Prop}{p:Cs}{ps:List Cs}{n:Int}(hi:s[i]?=some (.list ((p::ps).map V.str))) (h0:s0.length<=i) (hx:Ext s0 s) (hp:p.length<=LIM) (hw:p.isPrefixOf w=true)
  (kk:∀ s',ex C st6 (loc28 q w (some (.obj i)) (some (.int 0)) (some (.int n)) (some (.str p))) s=some (.next,loc28 q w (some (.obj i)) (some (.int p.length)) (some (.int n)) (some (.str p)),s')->s'[i]?=some (.list ((del0 p (p::ps)).map V.str))->Ext s0 s'->Γ):Γ:=by
 cases p with
 | nil=>exact kk s (ex_ifF rfl (truth_str hp) rfl) hi hx
 | cons c r=>
  have e1:ev C (.mcall (.var 1) .startswith [.var 5]) (loc28 q w (some (.obj i)) (some (.int 0)) (some (.int n)) (some (.str (c::r)))) s=some (.bool true,s):=ev_mcall rfl (evs_one rfl) rfl (by show some (V.bool _,s)=_;rw[hw])
  refine kk (s.set i (.list (ps.map V.str))) (ex_ifT rfl (truth_str hp) (exs_one (ex_ifT e1 rfl (exs_cons (ex_set (v:=.int (c::r:Cs).length) (ev_bcall (evs_one rfl) (if_pos hp))) (exs_one (ex_del (s2:=s) rfl rfl (lst_at hi) (place_nat (k:=0) (Nat.succ_pos _)))))))) (set_get hi) (hx.set h0 _)
theorem st6_no {Γ:Prop}{p:Cs}{n:Int}(hp:p.length<=LIM) (hw:p.isPrefixOf w=false)
  (kk:∀ l,ex C st6 (loc28 q w (some (.obj i)) (some (.int 0)) (some (.int n)) (some (.str p))) s=some (.ret (.bool false),l,s)->Γ):Γ:=by
 cases p with
 | nil=>exact absurd hw.symm Bool.false_ne_true
 | cons c r=>
  have e1:ev C (.mcall (.var 1) .startswith [.var 5]) (loc28 q w (some (.obj i)) (some (.int 0)) (some (.int n)) (some (.str (c::r)))) s=some (.bool false,s):=ev_mcall rfl (evs_one rfl) rfl (by show some (V.bool _,s)=_;rw[hw])
  exact kk _ (ex_ifT rfl (truth_str hp) (exs_ret (ex_ifF e1 rfl (exs_ret rfl))))
theorem st8_ok {Γ:Prop}{p:Cs}{zs:List Cs}{a n:Int}(hi:s[i]?=some (.list ((zs++[p]).map V.str))) (h0:s0.length<=i) (hx:Ext s0 s) (hp:p.length<=LIM) (hw:p.isSuffixOf w=true)
  (kk:∀ s',ex C st8 (loc28 q w (some (.obj i)) (some (.int a)) (some (.int n)) (some (.str p))) s=some (.next,loc28 q w (some (.obj i)) (some (.int a)) (some (.int (n-p.length))) (some (.str p)),s')->s'[i]?=some (.list ((delL p (zs++[p])).map V.str))->Ext s0 s'->Γ):Γ:=by
 cases p with
 | nil=>exact kk s (by rw[show n-(([]:Cs).length:Int)=n from Int.sub_zero n];exact ex_ifF rfl (truth_str hp) rfl) hi hx
 | cons c r=>
  have e1:ev C (.mcall (.var 1) .endswith [.var 5]) (loc28 q w (some (.obj i)) (some (.int a)) (some (.int n)) (some (.str (c::r)))) s=some (.bool true,s):=ev_mcall rfl (evs_one rfl) rfl (by show some (V.bool _,s)=_;rw[hw])
  have hpl:place (-1) ((zs++[c::r]).map V.str).length=some zs.length:=by rw[List.length_map,List.length_append];exact(place_last (Nat.succ_pos _)).trans rfl
  have he:((zs++[c::r]).map V.str).eraseIdx zs.length=zs.map V.str:=by
   rw[List.map_append,<-List.length_map (as:=zs) (f:=V.str),List.eraseIdx_append_of_length_le (Nat.le_refl _),Nat.sub_self]
   exact List.append_nil _
  refine kk (s.set i (.list (zs.map V.str))) (ex_ifT rfl (truth_str hp) (exs_one (ex_ifT e1 rfl (exs_cons (ex_aug (y:=.int (c::r:Cs).length) rfl (ev_bcall (evs_one rfl) (if_pos hp)) rfl) (exs_one ?_))))) ?_ (hx.set h0 _)
  ·rw[<-he]
   exact ex_del (s2:=s) rfl (ev_neg rfl) (lst_at hi) hpl
  ·rw[set_get hi,show delL (c::r) (zs++[c::r])=zs from (if_neg (List.cons_ne_nil _ _)).trans List.dropLast_concat]
theorem st8_no {Γ:Prop}{p:Cs}{a n:Int}(hp:p.length<=LIM) (hw:p.isSuffixOf w=false)
  (kk:∀ l,ex C st8 (loc28 q w (some (.obj i)) (some (.int a)) (some (.int n)) (some (.str p))) s=some (.ret (.bool false),l,s)->Γ):Γ:=by
 cases p with
 | nil=>rw[List.isSuffixOf_iff_suffix.mpr (List.nil_suffix ..)]at hw;exact absurd hw.symm Bool.false_ne_true
 | cons c r=>
  have e1:ev C (.mcall (.var 1) .endswith [.var 5]) (loc28 q w (some (.obj i)) (some (.int a)) (some (.int n)) (some (.str (c::r)))) s=some (.bool false,s):=ev_mcall rfl (evs_one rfl) rfl (by show some (V.bool _,s)=_;rw[hw])
  exact kk _ (ex_ifT rfl (truth_str hp) (exs_ret (ex_ifF e1 rfl (exs_ret rfl))))
end
noncomputable def rest (p0:Cs) (ms:List Cs) (pl:Cs):List Cs:=delL pl (del0 p0 (p0::ms)++[pl])
noncomputable def ell (p0:Cs) (ms:List Cs) (pl w:Cs):Bool:=p0.isPrefixOf w&&(pl.isSuffixOf w&&(decide (p0.length+pl.length<=w.length)&&findAll w (w.length-pl.length) p0.length (rest p0 ms pl)))
theorem del0_app (p0:Cs) (ms:List Cs) (pl:Cs):del0 p0 (p0::(ms++[pl]))=del0 p0 (p0::ms)++[pl]:=by
 unfold del0
 by_cases h:p0=[]
 ·rw[if_pos h,if_pos h];rfl
 ·rw[if_neg h,if_neg h];rfl
theorem rest_len (p0:Cs) (ms:List Cs) (pl:Cs):(rest p0 ms pl).length<=ms.length+2:=by
 have h1:(del0 p0 (p0::ms)).length<=ms.length+1:=by
  unfold del0
  by_cases h:p0=[]
  ·rw[if_pos h];exact Nat.le_refl _
  ·rw[if_neg h];exact Nat.le_succ _
 unfold rest delL
 by_cases h:pl=[]
 ·rw[if_pos h,List.length_append];exact Nat.succ_le_succ h1
 ·rw[if_neg h,List.dropLast_concat];exact Nat.le_succ_of_le h1
theorem rest_mem {p0:Cs}{ms:List Cs}{pl p:Cs}(h:p∈rest p0 ms pl):p∈p0::ms++[pl]:=by
 have h1:∀ {x:Cs},x∈del0 p0 (p0::ms)->x∈p0::ms:=λ{x} hx=>by
  unfold del0 at hx
  by_cases h:p0=[]
  ·rw[if_pos h]at hx;exact hx
  ·rw[if_neg h]at hx;exact List.mem_cons_of_mem _ hx
 have h2:p∈del0 p0 (p0::ms)++[pl]:=by
  unfold rest delL at h
  by_cases e:pl=[]
  ·rw[if_pos e]at h;exact h
  ·rw[if_neg e]at h;exact List.dropLast_subset _ h
 exact List.mem_append.mpr ((List.mem_append.mp h2).imp h1 id)
theorem c28 {Γ:Prop}(d:Nat) (s:AH) (p0:Cs) (ms:List Cs) (pl w:Cs) (hn:∀ p∈p0::ms++[pl],46∉p/\p.length<=LIM) (hm:ms.length+2<FUEL) (hq:(jn (p0::ms) pl).length<=LIM) (hw:w.length<=LIM)
  (kk:∀ s',callN T01 (d+1) 28 [.str (jn (p0::ms) pl),.str w] s=some (.bool (ell p0 ms pl w),s')->Ext s s'->Γ):Γ:=by
 have hsp:splitS (jn (p0::ms) pl) dots=p0::(ms++[pl]):=split_jn (hn pl (List.mem_append_right _ (List.mem_cons_self ..))).1 λp hp=>(hn p (List.mem_append_left _ hp)).1
 have h0:p0.length<=LIM:=(hn p0 (List.mem_cons_self ..)).2
 have hl:pl.length<=LIM:=(hn pl (List.mem_append_right _ (List.mem_cons_self ..))).2
 have hlen:(p0::(ms++[pl])).length=ms.length+2:=by rw[List.length_cons,List.length_append];rfl
 generalize hqq:jn (p0::ms) pl=q at hsp hq kk
 have hasS:hasSub dots q=true:=hqq▸has_jn pl ms p0
 have hc:strM q .split [.str dots] s=some (.obj s.length,s++[O.list ((p0::(ms++[pl])).map V.str)]):=by
  show(if q.length<=LIM then newL ((splitS q dots).map .str) s else none)=_
  rw[if_pos hq,hsp]
  exact newL_ok' (by rw[List.length_map,hlen];exact nT (Nat.le_of_lt hm) fuel_lim)
 have hi1:(s++[O.list ((p0::(ms++[pl])).map V.str)])[s.length]?=some (.list ((p0::(ms++[pl])).map V.str)):=top_at ..
 have hx1:Ext s (s++[O.list ((p0::(ms++[pl])).map V.str)]):=.app ..
 generalize s++[O.list ((p0::(ms++[pl])).map V.str)]=s1 at hc hi1 hx1
 have hk:ev (callN T01 d) (.mcall (.var 0) .split [(.lit (.str dots))]) (loc28 q w none none none none) s=some (.obj s.length,s1):=ev_mcall rfl rfl rfl hc
 have i0:ev (callN T01 d) (.idx (.var 2) (.lit (.int 0))) (loc28 q w (some (.obj s.length)) (some (.int 0)) (some (.int w.length)) none) s1=some (.str p0,s1):=ev_idx rfl rfl (idx_lst (k:=0) (lst_at hi1) rfl)
 have fin:∀ {r:Bool}{l:Loc}{s':AH},r=ell p0 ms pl w->exs (callN T01 d) b28 (loc28 q w none none none none) s=some (.ret (.bool r),l,s')->Ext s s'->Γ:=λe h x=>kk _ (e▸call_ret rfl rfl h) x
 have ahead:∀ {r},exs (callN T01 d) [st6,.assign (.var 5) (.idx (.var 2) (.neg (.lit (.int 1)))),st8,.ifS (.cmp (.var 3) [.Gt] [(.var 4)]) [(.ret (.lit (.bool false)))] [],.forS (.var 5) (.var 2) body28,.ret (.lit (.bool true))] (loc28 q w (some (.obj s.length)) (some (.int 0)) (some (.int w.length)) (some (.str p0))) s1=r->exs (callN T01 d) b28 (loc28 q w none none none none) s=r:=λh=>
  exs_cons (ex_no (s1:=s) (ev_cmp1 rfl rfl (b:=false) (by show(some (hasSub dots q)).bind (λt=>some (!t))=_;rw[hasS];rfl))) (exs_cons (ex_set hk) (exs_cons (bindI (ev_cmp1 (b:=true) (ev_bcall (evs_one rfl) (len_lst (lst_at hi1))) rfl (by rw[List.length_map,hlen];show some (decide (_≥(2:Int)))=_;rw[decide_eq_true (by omega)])) rfl)
   (exs_cons (ex_sets (is:=[3,4]) (ev_tup (evs_cons rfl (evs_one (ev_bcall (evs_one rfl) (if_pos hw)))) (lim_of rfl)) rfl) (exs_cons (ex_set i0) h))))
 unfold ell at fin
 cases e1:p0.isPrefixOf w with
 | false=>
  refine st6_no (C:=callN T01 d) (q:=q) (i:=s.length) (s:=s1) (n:=w.length) h0 e1 λl h=>?_
  exact fin (r:=false) (by rw[e1];rfl) (ahead (exs_ret h)) hx1
 | true=>
  refine st6_ok (C:=callN T01 d) (q:=q) (n:=w.length) hi1 (Nat.le_refl _) hx1 h0 e1 λs2 h6 hi2 hx2=>?_
  rw[del0_app]at hi2
  have iL:ev (callN T01 d) (.idx (.var 2) (.neg (.lit (.int 1)))) (loc28 q w (some (.obj s.length)) (some (.int p0.length)) (some (.int w.length)) (some (.str p0))) s2=some (.str pl,s2):=
   ev_idx rfl (ev_neg rfl) (idx_last (n:=(del0 p0 (p0::ms)).length) (lst_at hi2) (by rw[List.length_map,List.length_append];rfl) (by rw[List.map_append,<-List.length_map (as:=del0 p0 (p0::ms)) (f:=V.str),List.getElem?_append_right (Nat.le_refl _),Nat.sub_self];rfl))
  cases e2:pl.isSuffixOf w with
  | false=>
   refine st8_no (C:=callN T01 d) (q:=q) (i:=s.length) (s:=s2) (a:=p0.length) (n:=w.length) hl e2 λl h=>?_
   exact fin (r:=false) (by rw[e1,e2];rfl) (ahead (exs_cons h6 (exs_cons (ex_set iL) (exs_ret h)))) hx2
  | true=>
   refine st8_ok (C:=callN T01 d) (q:=q) (a:=p0.length) (n:=w.length) hi2 (Nat.le_refl _) hx2 hl e2 λs3 h8 hi3 hx3=>?_
   have hgt:∀ b,decide (p0.length+pl.length<=w.length)=b->ev (callN T01 d) (.cmp (.var 3) [.Gt] [(.var 4)]) (loc28 q w (some (.obj s.length)) (some (.int p0.length)) (some (.int (w.length-pl.length))) (some (.str pl))) s3=some (.bool !b,s3):=λb hb=>ev_cmp1 rfl rfl (by
    show some (decide ((p0.length:Int)>w.length-pl.length))=_
    rw[<-hb,<-decide_not]
    exact congrArg some (decide_eq_decide.mpr (by omega)))
   cases e3:decide (p0.length+pl.length<=w.length)with
   | false=>exact fin (r:=false) (by rw[e1,e2,e3];rfl) (ahead (exs_cons h6 (exs_cons (ex_set iL) (exs_cons h8 (exs_ret (ex_ifT (hgt _ e3) rfl rfl)))))) hx3
   | true=>
    have e3':=of_decide_eq_true e3
    have ef:(w.length:Int)-(pl.length:Int)=((w.length-pl.length:Nat):Int):=by omega
    obtain⟨l,h⟩:=loop28 (callN T01 d) q w (w.length-pl.length) (Nat.sub_le ..) s.length (rest p0 ms pl) s3 (lst_at hi3) (some (.obj s.length)) (λp hp=>(hn p (rest_mem hp)).2) (rest p0 ms pl) FUEL [] p0.length (some (.str pl)) rfl (Nat.lt_of_le_of_lt (rest_len ..) hm) (Int.natCast_nonneg _)
    rw[ef]at h8
    have h9:=hgt _ e3
    rw[ef]at h9
    cases hf:findAll w (w.length-pl.length) p0.length (rest p0 ms pl)with
    | true=>rw[hf]at h;exact fin (r:=true) (by rw[e1,e2,e3,hf];rfl) (ahead (exs_cons h6 (exs_cons (ex_set iL) (exs_cons h8 (exs_cons (ex_no h9) (exs_cons (ex_for rfl (iter_lst (lst_at hi3)) h) (exs_ret rfl))))))) hx3
    | false=>rw[hf]at h;exact fin (r:=false) (by rw[e1,e2,e3,hf];rfl) (ahead (exs_cons h6 (exs_cons (ex_set iL) (exs_cons h8 (exs_cons (ex_no h9) (exs_ret (ex_forR rfl (iter_lst (lst_at hi3)) h))))))) hx3
end Mine.Pu
end
section
namespace Mine.Pu
open PySem
noncomputable abbrev chV (c:Nat):V:=.str [c]
structure Own (s0:AH) (F:Nat) (ob:O) (s:AH):Prop where
 ext:Ext s0 s
 hi:s0.length<=F
 at_:s[F]?=some ob
section
variable {s0 s s':AH}{F:Nat}{ob:O}
theorem Own.step (o:Own s0 F ob s) (x:Ext s s'):Own s0 F ob s':=⟨o.ext.trans x,o.hi,x.get o.at_⟩
theorem Own.set (o:Own s0 F ob s) (ob':O):Own s0 F ob' (s.set F ob'):=⟨o.ext.set o.hi _,o.hi,List.getElem?_set_self (List.getElem?_eq_some_iff.mp o.at_).1⟩
theorem Own.new (s:AH) (ob:O):Own s s.length ob (s++[ob]):=⟨.app _ _,Nat.le_refl _,top_at ..⟩
theorem Own.lst {fs:List V}(o:Own s0 F (.list fs) s):lstAt (.obj F) s=some fs:=lst_at o.at_
end
section
variable {s:AH}{i k:Nat}{w:Cs}{vs:List V}{v:V}
theorem add_str {a b:Cs}(h:a.length+b.length<=LIM):binV .Add (.str a) (.str b) s=some (.str (a++b),s):=bindI rfl (if_pos h)
theorem iter_rng {a b:Int}(ha:a.natAbs<=LIM) (hb:b.natAbs<=LIM):iterOf (.rng a b 1) s=some (.vals (rngL a b 1)):=if_pos ⟨ha,hb,.inl rfl⟩
theorem nat_of {z m:Int}(h:0<m){P:Int->Prop}(k:∀ i:Nat,(i:Int)<m->P (i:Int)):P (Int.fmod z m):=by
 have h1:=Int.fmod_lt_of_pos z h
 obtain⟨i,e⟩:=Int.eq_ofNat_of_zero_le (Int.fmod_nonneg_of_pos z h)
 rw[e]at h1⊢
 exact k i h1
theorem fdiv_ok {a b:Int}(h:¬(b=0∨BIG<=b.natAbs)):binV .FloorDiv (.int a) (.int b) s=some (.int (Int.fdiv a b),s):=if_neg h
theorem mod_ok {a b:Int}(h:b≠0):binV .Mod (.int a) (.int b) s=some (.int (Int.fmod a b),s):=if_neg h
theorem pow_ok {a b:Int}(h:0<=b/\b<=64/\a.natAbs<2 ^ 64):binV .Pow (.int a) (.int b) s=some (.int (a ^ b.toNat),s):=if_pos h
theorem idx_fl (hl:vs.length<=LIM) (hv:vs[k]?=some v):idxV (.flist vs) (.int (k:Int)) s=some v:=bindI (if_pos hl) (bindI rfl (bindI (place_nat (List.getElem?_eq_some_iff.mp hv).1) hv))
theorem len_fl (hl:vs.length<=LIM):callB .len [.flist vs] s=some (.int vs.length,s):=bindI (show seqAt (.flist vs) s=some vs from if_pos hl) rfl
theorem ints_get {L:List Int}(h:k<L.length):(L.map V.int)[k]?=some (.int L[k]):=by rw[List.getElem?_map,List.getElem?_eq_getElem h];rfl
theorem chr_int {i:Int}(h:0<=i/\i<0x110000):callB .chr [.int i] s=some (.str [i.toNat],s):=if_pos h
theorem clip_nat {n dflt:Nat}(h:k<=n):clip (.int (k:Int)) n dflt=some k:=by
 show(if 0<=(k:Int)then some (min (k:Int).toNat n)else none)=_
 rw[if_pos (Int.natCast_nonneg k)];exact congrArg some (Nat.min_eq_left h)
theorem slc_tail (hw:w.length<=LIM) (hk:k<=w.length):slcV (.str w) (.int (k:Int)) .none .none s=some (.str (w.drop k),s):=(if_pos hw).trans (bindI (show(clip (.int (k:Int)) w.length 0).bind (λa=>some ((w.take w.length).drop a))=_ from bindI (clip_nat hk) (by rw[List.take_length])) rfl)
theorem slc_head (hw:w.length<=LIM) (hk:k<=w.length):slcV (.str w) .none (.int (k:Int)) .none s=some (.str (w.take k),s):=(if_pos hw).trans (bindI (show(clip (.int (k:Int)) w.length w.length).bind (λb=>some ((w.take b).drop 0))=_ from bindI (clip_nat hk) rfl) rfl)
end
section
variable {C:Oracle}{o i e:E}{loc:Loc}{s s1 s2 s3 s4:AH}{x k v y z:V}
theorem ex_augIdx {op:Operator}(h1:ev C o loc s=some (x,s1)) (h2:ev C i loc s1=some (k,s2)) (h3:idxL x k s2=some v) (h4:ev C e loc s2=some (y,s3)) (h5:augV op v y=some z) (h6:setLstV x k z s3=some s4):ex C (.augIdx o i op e) loc s=some (.next,loc,s4):=bindI h1 (bindI h2 (bindI h3 (bindI h4 (bindI h5 (bindI h6 rfl)))))
theorem ex_setIdx (h1:ev C e loc s=some (v,s1)) (h2:ev C o loc s1=some (x,s2)) (h3:ev C i loc s2=some (k,s3)) (h4:setIdxV x k v s3=some s4):ex C (.setIdx o i e) loc s=some (.next,loc,s4):=bindI h1 (bindI h2 (bindI h3 (bindI h4 rfl)))
theorem get_ne {l:Loc}{i j:Nat}{v:Option V}{x:Option (Option V)}(hj:l[j]?=x) (h:(i==j)=false:=by rfl):(l.set i v)[j]?=x:=(List.getElem?_set_ne (beq_eq_false_iff_ne.mp h)).trans hj
end
theorem rng_list (a:Nat) (n:Nat):rngL (a:Int) ((a+n:Nat):Int) 1=(List.range n).map λ(k:Nat)=>V.int ((a+k:Nat):Int):=by
 show(List.range (((a+n:Nat):Int)-(a:Int)).toNat).map _=_
 rw[show((a+n:Nat):Int)-(a:Int)=(n:Int)by rw[Int.natCast_add,Int.add_comm,Int.add_sub_cancel],Int.toNat_natCast];exact List.map_congr_left λk _=>congrArg V.int (by rw[Int.mul_one];rfl)
theorem rng_0 (n:Nat):rngL 0 (n:Int) 1=(List.range n).map λ(k:Nat)=>V.int (k:Int):=by
 have:=rng_list 0 n
 simp only [Nat.zero_add]at this
 exact this
theorem range_from {Γ:Prop}{α:Type}{β:Type}(n:Nat){f:V->α->AH->Option ((α⊕β)×AH)}{g:Nat->V}(P:Nat->α->AH->Prop) (st:∀ k a s,k<n->P k a s->∃ a' s',f (g k) a s=some (.inl a',s')/\P (k+1) a' s') (m:Nat):∀ (q:Nat) (k:Nat) (a:α) (s:AH),k+m=n->m<q->P k a s->(∀ a' s',loopM f q (.vals ((List.range' k m).map g)) a s=some (.inl a',s')->P n a' s'->Γ)->Γ:=by
 induction m with
 | zero=>
  intro q k a s e hq p kk
  cases q with
  | zero=>exact absurd hq (Nat.lt_irrefl _)
  | succ q=>exact kk a s rfl ((show k=n from e)▸p)
 | succ m ih=>
  intro q k a s e hq p kk
  cases q with
  | zero=>exact absurd hq (Nat.not_lt_zero _)
  | succ q=>
   obtain⟨a',s',h,p'⟩:=st k a s (e▸Nat.lt_add_of_pos_right (Nat.succ_pos m)) p
   exact ih q (k+1) a' s' ((Nat.succ_add_eq_add_succ ..).trans e) (Nat.lt_of_succ_lt_succ hq) p' λa2 s2 h2 p2=>kk a2 s2 (lv_go h h2) p2
theorem loop_range {Γ:Prop}{α:Type}{β:Type}{n:Nat}(hn:n<FUEL){f:V->α->AH->Option ((α⊕β)×AH)}{g:Nat->V}(P:Nat->α->AH->Prop) (st:∀ k a s,k<n->P k a s->∃ a' s',f (g k) a s=some (.inl a',s')/\P (k+1) a' s'){a:α}{s:AH}(p:P 0 a s)
  (kk:∀ a' s',loopM f FUEL (.vals ((List.range n).map g)) a s=some (.inl a',s')->P n a' s'->Γ):Γ:=
 range_from n P st n FUEL 0 a s (Nat.zero_add n) hn p (List.range_eq_range'▸kk)
section
variable {C:Oracle}{t:Tgt}{it:E}{A:List S}{loc:Loc}{s s1:AH}
theorem for_rng0 {Γ:Prop}{n:Nat}{m:Int}(h:ev C it loc s=some (.rng 0 m 1,s1)) (hm:m=(n:Int)) (hn:n<FUEL) (P:Nat->Loc->AH->Prop)
  (st:∀ k l s,k<n->P k l s->∃ l' s',forB C t A (.int (k:Int)) l s=some (.inl l',s')/\P (k+1) l' s') (p:P 0 loc s1)
  (kk:∀ l s',ex C (.forS t it A) loc s=some (.next,l,s')->P n l s'->Γ):Γ:=by
 subst hm
 exact loop_range hn P st p λl s' e q=>kk l s' (ex_for h (iter_rng (Nat.zero_le _) (nT (Nat.le_of_lt hn) fuel_lim)) (by rw[rng_0];exact e)) q
theorem comp_rng {Γ:Prop}{elt:Loc->AH->Option (V×AH)}{n m:Nat}{j:Int}(hj:j=(m:Int)) (hm:m<FUEL) (g:Nat->V) (hu:unsetT (.var n) loc=true) (h:ev C it loc s=some (.rng 0 j 1,s1))
  (st:∀ k s',k<m->Ext s1 s'->∃ s2,elt (loc.set n (some (.int (k:Int)))) s'=some (g k,s2)/\Ext s' s2)
  (kk:∀ s',evGens C elt [.mk (.var n) it []] loc loc [] s=some ((List.range m).map g,s')->Ext s1 s'->Γ):Γ:=by
 subst hj
 refine loop_range (f:=genB C elt (.var n) [] [] loc) (g:=λk=>V.int (k:Int)) hm (λk acc s'=>acc=(List.range k).map g/\Ext s1 s') (λk acc s' hk p=>by
  obtain⟨rfl,x⟩:=p
  obtain⟨s2,e2,x2⟩:=st k s' hk x
  refine⟨_,s2,gen_yes rfl (gens_end e2 (by rw[List.length_map,List.length_range];exact Nat.lt_of_lt_of_le (Nat.lt_trans hk hm) fuel_lim)),by rw[List.range_succ,List.map_append];rfl,x.trans x2⟩) (a:=[]) (s:=s1) ⟨rfl,.refl _⟩ λa s' e e_3=>?_
 obtain⟨rfl,hx⟩:=e_3
 exact kk s' (gens_mk hu h (iter_rng (Nat.zero_le _) (nT (Nat.le_of_lt hm) fuel_lim)) (by rw[rng_0];exact e)) hx
end
noncomputable abbrev loc140 (sc:List Int) (F:Nat) (v2:Option V):Loc:=some (.flist (sc.map V.int))::some (.obj F)::v2::List.replicate 8 none
noncomputable abbrev body140:List S:=[(.augIdx (.var 1) (.bin .Mod (.var 2) (.lit (.int (4)))) .Add (.bin .Mod (.idx (.var 0) (.var 2)) (.bin .Pow (.lit (.int (10))) (.lit (.int (6))))))]
theorem step140 {Γ:Prop}(C:Oracle){sc:List Int}{F:Nat}(v2:Option V){s0 s:AH}{L:List Int}{k:Nat}(hk:k<sc.length) (hs:sc.length<=63) (hL:L.length=4) (o:Own s0 F (.list (L.map V.int)) s)
  (kk:∀ (L':List Int) (s':AH),L'.length=4->forB C (.var 2) body140 (.int k) (loc140 sc F v2) s=some (.inl (loc140 sc F (some (.int k))),s')->Own s0 F (.list (L'.map V.int)) s'->Γ):Γ:=by
 have hj:k % 4<L.length:=by rw[hL];exact Nat.mod_lt _ (by decide)
 have hm:binV .Mod (.int (k:Int)) (.int 4) s=some (.int ((k % 4:Nat):Int),s):=(mod_ok (by decide)).trans (by rw[Int.fmod_eq_emod_of_nonneg _ (by decide)];rfl)
 have hset:=set_lst (v:=.int (L[k % 4]+Int.fmod sc[k] (10 ^ 6))) (k:=k % 4) o.lst (by rw[List.length_map];exact hj)
 rw[<-List.map_set]at hset
 exact kk (L.set (k % 4) (L[k % 4]+Int.fmod sc[k] (10 ^ 6))) _ (by rw[List.length_set,hL]) (for_next (exs_one (ex_augIdx rfl (ev_bin rfl rfl hm) ((idxV_lst o.lst _).symm.trans (idx_lst o.lst (ints_get hj))) (ev_bin (ev_idx rfl rfl (idx_fl (by rw[List.length_map];exact nT hs (lim_of rfl)) (ints_get hk))) (ev_bin rfl rfl (pow_ok (by decide))) (mod_ok (by decide))) rfl hset))) (o.set _)
theorem c140 {Γ:Prop}(d:Nat) (sc:List Int) (hs:sc.length<=63) (s:AH)
  (kk:∀ (F:Nat) (L:List Int) (s':AH),L.length=4->callN T01 (d+1) 140 [.flist (sc.map V.int)] s=some (.obj F,s')->Own s F (.list (L.map V.int)) s'->Γ):Γ:=by
 have h63:(sc.map V.int).length<=LIM:=by rw[List.length_map];exact nT hs (lim_of rfl)
 refine for_rng0 (C:=callN T01 d) (t:=.var 2) (A:=body140) (it:=.bcall .range [.bcall .len [.var 0]]) (loc:=loc140 sc s.length none) (s:=s++[.list (([367,46,115,4698]:List Int).map V.int)]) (n:=sc.length) (ev_bcall (evs_one (ev_bcall (evs_one rfl) (len_fl h63))) rfl) (by rw[List.length_map]) (Nat.lt_of_le_of_lt hs (by decide))
  (λ_ l s'=>∃ (v2:Option V) (L:List Int),l=loc140 sc s.length v2/\L.length=4/\Own s s.length (.list (L.map V.int)) s') (λk l s1 hk p=>by
   obtain⟨v2,L,rfl,hL,o⟩:=p
   refine step140 (callN T01 d) v2 hk hs hL o λL' s2 hL' e o'=>?_
   exact⟨_,s2,e,_,L',rfl,hL',o'⟩) ⟨none,_,rfl,rfl,.new ..⟩ λl s' e e_3=>?_
 obtain⟨v2,L,rfl,hL,o⟩:=e_3
 exact kk s.length L s' hL (call_ret (np:=1) (ns:=10) (A:=b140) rfl rfl (exs_cons (l1:=loc140 sc s.length none) (ex_set (ev_list rfl (lim_of rfl))) (exs_cons e (exs_ret (ex_ret rfl))))) o
end Mine.Pu
end
section
namespace Mine.Th
open Mine
noncomputable def mul (A B:List Cs):List Cs:=A.flatMap λx=>B.map (x ++ ·)
noncomputable def pr:List (List Cs)->List Cs
 | []=>[[]]
 | L::r=>mul L (pr r)
theorem mem_mul {A B:List Cs}{w:Cs}:w∈mul A B↔∃ x∈A,∃ y∈B,w=x++y:=by
 unfold mul
 rw[List.mem_flatMap]
 exact exists_congr λx=>and_congr_right λ_=>by rw[List.mem_map];exact exists_congr λy=>and_congr_right λ_=>eq_comm
theorem one_mul (B:List Cs):mul [[]] B=B:=by unfold mul;rw[List.flatMap_cons,List.flatMap_nil,List.append_nil];exact List.map_id B
theorem mul_one (A:List Cs):mul A [[]]=A:=by
 induction A with
 | nil=>rfl
 | cons x A ih=>show(x++[])::mul A [[]]=_;rw[ih,List.append_nil]
theorem add_mul (A B C:List Cs):mul (A++B) C=mul A C++mul B C:=List.flatMap_append
theorem map_mul (x:Cs) (A B:List Cs):(mul A B).map (x ++ ·)=mul (A.map (x ++ ·)) B:=by
 unfold mul
 rw[List.map_flatMap,List.flatMap_map]
 congr 1
 funext y
 rw[List.map_map]
 congr 1
 funext z
 exact(List.append_assoc ..).symm
theorem mul_assoc (A B C:List Cs):mul (mul A B) C=mul A (mul B C):=by
 induction A with
 | nil=>rfl
 | cons x A ih=>
  show mul (B.map (x ++ ·)++mul A B) C=(mul B C).map (x ++ ·)++mul A (mul B C)
  rw[add_mul,ih,map_mul]
theorem flat_mul {α:Type}(l:List α) (f:α->List Cs) (C:List Cs):mul (l.flatMap f) C=l.flatMap λa=>mul (f a) C:=by
 induction l with
 | nil=>rfl
 | cons a l ih=>rw[List.flatMap_cons,add_mul,ih,List.flatMap_cons]
section
variable (R:Nat->List (List Nat))
noncomputable def thF:Nat->Nat->List Nat->List Cs
 | 0,_,_=>[]
 | k+1,s,av=>if s<256 then[[s]]else if s∈av then(R s).flatMap λr=>pr (r.map λp=>thF k p (av.erase s))else[]
noncomputable def thin (s:Nat) (av:List Nat):List Cs:=thF R (av.length+1) s av
end
variable {R:Nat->List (List Nat)}
theorem thin_let {s:Nat}(h:s<256) (av:List Nat):thin R s av=[[s]]:=if_pos h
theorem thin_no {s:Nat}{av:List Nat}(h:¬s<256) (m:s∉av):thin R s av=[]:=(if_neg h).trans (if_neg m)
theorem thin_yes {s:Nat}{av:List Nat}(h:¬s<256) (m:s∈av):thin R s av=(R s).flatMap λr=>pr (r.map λp=>thin R p (av.erase s)):=by
 refine(if_neg h).trans ((if_pos m).trans ?_)
 unfold thin
 rw[List.length_erase_of_mem m,Nat.sub_add_cancel (List.length_pos_of_mem m)]
theorem pr_mono {f g:Nat->List Cs}:∀ {r:List Nat}{w:Cs},(∀ p∈r,f p⊆g p)->w∈pr (r.map f)->w∈pr (r.map g)
 | [],_,_,h=>h
 | p::r,w,H,h=>by
  obtain⟨x,hx,y,hy,e⟩:=mem_mul.mp h
  exact mem_mul.mpr ⟨x,H p (List.mem_cons_self ..) hx,y,pr_mono (λq hq=>H q (List.mem_cons_of_mem _ hq)) hy,e⟩
theorem thin_mono (n:Nat):∀ (s:Nat) (B A:List Nat),B.length<=n->List.Sublist B A->thin R s B⊆thin R s A:=by
 induction n with
 | zero=>
  intro s B A hn hs w hw
  by_cases h:s<256
  ·rw[thin_let h]at hw ⊢;exact hw
  ·rw[List.length_eq_zero_iff.mp (Nat.le_zero.mp hn),thin_no h List.not_mem_nil]at hw;exact absurd hw List.not_mem_nil
 | succ n ih=>
  intro s B A hn hs w hw
  by_cases h:s<256
  ·rw[thin_let h]at hw ⊢;exact hw
  ·by_cases m:s∈B
   ·rw[thin_yes h m]at hw
    rw[thin_yes h (hs.subset m)]
    obtain⟨r,hr,hw⟩:=List.mem_flatMap.mp hw
    exact List.mem_flatMap.mpr ⟨r,hr,pr_mono (λp _=>ih p _ _ (by rw[List.length_erase_of_mem m];omega) (hs.erase s)) hw⟩
   ·rw[thin_no h m]at hw;exact absurd hw List.not_mem_nil
noncomputable def Fac (u w:Cs):Prop:=∃ x y,w=x++(u++y)
theorem Fac.left {u w:Cs}(h:Fac u w) (z:Cs):Fac u (z++w):=by obtain⟨x,y,rfl⟩:=h;exact⟨z++x,y,(List.append_assoc ..).symm⟩
theorem Fac.right {u w:Cs}(h:Fac u w) (z:Cs):Fac u (w++z):=by obtain⟨x,y,rfl⟩:=h;exact⟨x,y++z,by rw[List.append_assoc,List.append_assoc]⟩
theorem pr_or {f g:Nat->List Cs}{P:Cs->Prop}:∀ {r:List Nat}{w:Cs},(∀ p∈r,∀ x∈f p,x∈g p∨∃ u,P u/\Fac u x)->w∈pr (r.map f)->w∈pr (r.map g)∨∃ u,P u/\Fac u w
 | [],_,_,h=>.inl h
 | p::r,w,H,h=>by
  obtain⟨x,hx,y,hy,rfl⟩:=mem_mul.mp h
  rcases H p (List.mem_cons_self ..) x hx with h1|⟨u,hu,hf⟩
  ·rcases pr_or (λq hq=>H q (List.mem_cons_of_mem _ hq)) hy with h2|⟨u,hu,hf⟩
   ·exact .inl (mem_mul.mpr ⟨x,h1,y,h2,rfl⟩)
   ·exact .inr ⟨u,hu,hf.left x⟩
  ·exact .inr ⟨u,hu,hf.right y⟩
theorem thin_or (N:Nat) (full:List Nat) (n:Nat):∀ (p:Nat) (av:List Nat),av.length<=n->List.Sublist av full->∀ w∈thin R p av,w∈thin R p (av.erase N)∨∃ u,u∈thin R N full/\Fac u w:=by
 induction n with
 | zero=>
  intro p av hn hs w hw
  rw[List.length_eq_zero_iff.mp (Nat.le_zero.mp hn)]at hw⊢
  exact .inl hw
 | succ n ih=>
  intro p av hn hs w hw
  by_cases e:p=N
  ·subst e
   exact .inr ⟨w,thin_mono _ p av full (Nat.le_refl _) hs hw,[],[],(List.append_nil _).symm⟩
  by_cases h:p<256
  ·rw[thin_let h]at hw ⊢;exact .inl hw
  ·by_cases m:p∈av
   ·rw[thin_yes h m]at hw
    rw[thin_yes h ((List.mem_erase_of_ne e).mpr m),List.erase_comm]
    obtain⟨r,hr,hw⟩:=List.mem_flatMap.mp hw
    exact(pr_or (λq _ x hx=>ih q _ (by rw[List.length_erase_of_mem m];omega) (List.erase_sublist.trans hs) x hx) hw).imp (λh=>List.mem_flatMap.mpr ⟨r,hr,h⟩) id
   ·rw[thin_no h m]at hw;exact absurd hw List.not_mem_nil
theorem thin_close {N:Nat}{full:List Nat}(h:¬N<256) (m:N∈full){r:List Nat}(hr:r∈R N){w:Cs}(hw:w∈pr (r.map λp=>thin R p full)):∃ u,u∈thin R N full/\Fac u w:=by
 rcases pr_or (λp _ x hx=>thin_or N full _ p full (Nat.le_refl _) (List.Sublist.refl _) x hx) hw with h1|h1
 ·exact⟨w,by rw[thin_yes h m];exact List.mem_flatMap.mpr ⟨r,hr,h1⟩,[],[],(List.append_nil _).symm⟩
 ·exact h1
section
variable (P:Nat->Cs) (t:Cs)
noncomputable def Emb:Cs->Nat->Nat->Prop
 | [],a,b=>a<=b
 | l::w,a,b=>∃ i,a<=i/\P l <+: t.drop i/\Emb w (i+(P l).length) b
end
variable {P:Nat->Cs}{t:Cs}
theorem Emb.le:∀ {w:Cs}{a b:Nat},Emb P t w a b->a<=b
 | [],_,_,h=>h
 | _::_,_,_,⟨_,h1,_,h2⟩=>nT h1 (nT (Nat.le_add_right ..) h2.le)
theorem Emb.from {w:Cs}{a a' b:Nat}(h:Emb P t w a b) (ha:a'<=a):Emb P t w a' b:=by
 cases w with
 | nil=>exact nT ha h
 | cons l w=>obtain⟨i,h1,h2⟩:=h;exact⟨i,nT ha h1,h2⟩
theorem Emb.to:∀ {w:Cs}{a b b':Nat},Emb P t w a b->b<=b'->Emb P t w a b'
 | [],_,_,_,h,hb=>nT h hb
 | _::_,_,_,_,⟨i,h1,h2,h3⟩,hb=>⟨i,h1,h2,h3.to hb⟩
theorem emb_app:∀ {u v:Cs}{a b:Nat},Emb P t (u++v) a b↔∃ c,Emb P t u a c/\Emb P t v c b
 | [],v,a,b=>⟨λh=>⟨a,Nat.le_refl a,h⟩,λ⟨_,h1,h2⟩=>h2.from h1⟩
 | _::u,v,a,b=>⟨λ⟨i,h1,h2,h3⟩=>by obtain⟨c,h4,h5⟩:=emb_app.mp h3;exact⟨c,⟨i,h1,h2,h4⟩,h5⟩,λ⟨c,⟨i,h1,h2,h3⟩,h4⟩=>⟨i,h1,h2,emb_app.mpr ⟨c,h3,h4⟩⟩⟩
theorem Emb.fac {u w:Cs}{a b:Nat}(h:Emb P t w a b) (f:Fac u w):Emb P t u a b:=by
 obtain⟨x,y,rfl⟩:=f
 obtain⟨c,h1,h2⟩:=emb_app.mp h
 obtain⟨d,h3,h4⟩:=emb_app.mp h2
 exact(h3.from h1.le).to h4.le
noncomputable def Lies (R:Nat->List (List Nat)) (P:Nat->Cs) (t:Cs) (full:List Nat) (s a b:Nat):Prop:=∃ w∈thin R s full,Emb P t w a b
noncomputable def along (E:Nat->Nat->Nat):List Nat->Nat->Nat
 | [],a=>a
 | p::r,a=>along E r (E p a)
section
variable {full:List Nat}{E:Nat->Nat->Nat}{n:Nat}
theorem along_sound (H:∀ p a b,b<=n->E p a<=b->Lies R P t full p a b):∀ {r:List Nat}{a b:Nat},b<=n->along E r a<=b->∃ w∈pr (r.map λp=>thin R p full),Emb P t w a b
 | [],a,b,_,h=>⟨[],List.mem_singleton.mpr rfl,h⟩
 | p::r,a,b,hb,h=>by
  obtain⟨y,hy,h2⟩:=along_sound H (r:=r) hb h
  obtain⟨x,hx,h1⟩:=H p a (E p a) (nT h2.le hb) (Nat.le_refl _)
  exact⟨x++y,mem_mul.mpr ⟨x,hx,y,hy,rfl⟩,emb_app.mpr ⟨_,h1,h2⟩⟩
theorem sound_step (H:∀ p a b,b<=n->E p a<=b->Lies R P t full p a b){N:Nat}(h:¬N<256) (m:N∈full){r:List Nat}(hr:r∈R N){a b:Nat}(hb:b<=n) (ha:along E r a<=b):Lies R P t full N a b:=by
 obtain⟨w,hw,he⟩:=along_sound H hb ha
 obtain⟨u,hu,hf⟩:=thin_close h m hr hw
 exact⟨u,hu,he.fac hf⟩
theorem closed_le (hl:∀ s a b,s<256->b<=n->Emb P t [s] a b->E s a<=b) (hc:∀ N∈full,∀ a,a<=n->∀ r∈R N,E N a<=along E r a) (k:Nat):
  ∀ (s:Nat) (av:List Nat) (w:Cs) (a b:Nat),av.length<=k->List.Sublist av full->w∈thin R s av->b<=n->Emb P t w a b->E s a<=b:=by
 have step:∀ {av:List Nat},(∀ (p:Nat) (w:Cs) (a b:Nat),w∈thin R p av->b<=n->Emb P t w a b->E p a<=b)->∀ (r:List Nat) (w:Cs) (a b:Nat),w∈pr (r.map λp=>thin R p av)->b<=n->Emb P t w a b->along E r a<=b:=by
  intro av H r
  induction r with
  | nil=>intro w a b hw hb he;cases mS hw;exact he
  | cons p r ih=>
   intro w a b hw hb he
   obtain⟨x,hx,y,hy,rfl⟩:=mem_mul.mp hw
   obtain⟨c,h1,h2⟩:=emb_app.mp he
   exact ih y (E p a) b hy hb (h2.from (H p x a c hx (nT h2.le hb) h1))
 induction k with
 | zero=>
  intro s av w a b hk hs hw hb he
  by_cases h:s<256
  ·rw[thin_let h]at hw;cases mS hw;exact hl s a b h hb he
  ·rw[List.length_eq_zero_iff.mp (Nat.le_zero.mp hk),thin_no h List.not_mem_nil]at hw;exact absurd hw List.not_mem_nil
 | succ k ih=>
  intro s av w a b hk hs hw hb he
  by_cases h:s<256
  ·rw[thin_let h]at hw;cases mS hw;exact hl s a b h hb he
  ·by_cases m:s∈av
   ·rw[thin_yes h m]at hw
    obtain⟨r,hr,hw⟩:=List.mem_flatMap.mp hw
    refine nT (hc s (hs.subset m) a (nT he.le hb) r hr) (step (λp w a b=>ih p _ w a b (by rw[List.length_erase_of_mem m];omega) (List.erase_sublist.trans hs)) r w a b hw hb he)
   ·rw[thin_no h m]at hw;exact absurd hw List.not_mem_nil
end
end Mine.Th
end
section
namespace Mine.Th
open Mine
noncomputable abbrev full:List Nat:=[256,257,258]
noncomputable abbrev Pile:=List (Nat×Nat)
noncomputable def av:Pile->List Nat
 | []=>full
 | p::r=>if p.1=60 then(av r).erase p.2 else av r
section
variable (R:Nat->List (List Nat))
noncomputable def Ws:Pile->List Cs
 | []=>[[]]
 | p::r=>if p.1=60 then Ws r else mul (thin R p.2 (av r)) (Ws r)
noncomputable def GF:Nat->Nat->List Nat->Nat->Nat
 | 0,_,_,_=>1
 | k+1,s,A,t=>if s<256 then t else if s∈A then 1+((R s).map λr=>r.foldr (λp u=>GF k p (A.erase s) u) t).sum else 1
noncomputable def Gt (s:Nat) (A:List Nat) (t:Nat):Nat:=GF R (A.length+1) s A t
noncomputable def Tn:Pile->Nat
 | []=>1
 | p::r=>if p.1=60 then Tn r else Gt R p.2 (av r) (Tn r)
end
variable {R:Nat->List (List Nat)}
theorem gt_let {s:Nat}(h:s<256) (A:List Nat) (t:Nat):Gt R s A t=t:=if_pos h
theorem gt_no {s:Nat}{A:List Nat}(h:¬s<256) (m:s∉A) (t:Nat):Gt R s A t=1:=(if_neg h).trans (if_neg m)
theorem gt_yes {s:Nat}{A:List Nat}(h:¬s<256) (m:s∈A) (t:Nat):Gt R s A t=1+((R s).map λr=>r.foldr (λp u=>Gt R p (A.erase s) u) t).sum:=by
 refine(if_neg h).trans ((if_pos m).trans ?_)
 unfold Gt
 rw[List.length_erase_of_mem m,Nat.sub_add_cancel (List.length_pos_of_mem m)]
theorem gt_pos {t:Nat}(ht:1<=t) (s:Nat) (A:List Nat):1<=Gt R s A t:=by
 by_cases h:s<256
 ·rw[gt_let h];exact ht
 ·by_cases m:s∈A
  ·rw[gt_yes h m];exact Nat.le_add_right ..
  ·rw[gt_no h m];exact Nat.le_refl _
theorem tn_pos:∀ p:Pile,1<=Tn R p
 | []=>Nat.le_refl 1
 | p::r=>by
  show 1<=if p.1=60 then Tn R r else Gt R p.2 (av r) (Tn R r)
  by_cases h:p.1=60
  ·rw[if_pos h];exact tn_pos r
  ·rw[if_neg h];exact gt_pos (tn_pos r) ..
noncomputable def sy (r:List Nat):Pile:=r.map λs=>(32,s)
theorem av_sy (q:Pile):∀ r:List Nat,av (sy r++q)=av q
 | []=>rfl
 | _::r=>(if_neg (show ¬(32:Nat)=60 by decide)).trans (av_sy q r)
theorem ws_sy (q:Pile):∀ r:List Nat,Ws R (sy r++q)=mul (pr (r.map λp=>thin R p (av q))) (Ws R q)
 | []=>(one_mul _).symm
 | s::r=>by
  show(if 32=60 then _ else mul (thin R s (av (sy r++q))) (Ws R (sy r++q)))=mul (mul (thin R s (av q)) (pr (r.map λp=>thin R p (av q)))) (Ws R q)
  rw[if_neg (by decide),av_sy,ws_sy q r,mul_assoc]
theorem tn_sy (q:Pile):∀ r:List Nat,Tn R (sy r++q)=r.foldr (λp u=>Gt R p (av q) u) (Tn R q)
 | []=>rfl
 | s::r=>by
  show(if 32=60 then _ else Gt R s (av (sy r++q)) (Tn R (sy r++q)))=Gt R s (av q) _
  rw[if_neg (by decide),av_sy,tn_sy q r]
noncomputable def kids (R:Nat->List (List Nat)) (s:Nat) (q:Pile):List Pile:=(R s).map λr=>sy r++(60,s)::q
theorem ws_kids {s:Nat}{q:Pile}(h:¬s<256) (m:s∈av q):mul (thin R s (av q)) (Ws R q)=(kids R s q).flatMap (Ws R):=by
 rw[thin_yes h m,flat_mul]
 unfold kids
 rw[List.flatMap_map]
 congr 1
 funext r
 rw[ws_sy]
 rfl
theorem tn_kids {s:Nat}{q:Pile}(h:¬s<256) (m:s∈av q):Gt R s (av q) (Tn R q)=1+((kids R s q).map (Tn R)).sum:=by
 rw[gt_yes h m]
 unfold kids
 rw[List.map_map]
 congr 2
 refine List.map_congr_left λr _=>?_
 show _=Tn R (sy r++(60,s)::q)
 rw[tn_sy]
 rfl
noncomputable def strip:Pile->Cs->Cs×Option (Nat×Pile)
 | [],w=>(w,none)
 | p::r,w=>if p.1=60 then strip r w else if p.2<256 then strip r (w++[p.2])else(w,some (p.2,r))
theorem map_one {s:Nat}{w:Cs}{B:List Cs}:(mul [[s]] B).map (w ++ ·)=B.map ((w++[s]) ++ ·):=by
 unfold mul
 rw[List.flatMap_cons,List.flatMap_nil,List.append_nil,List.map_map]
 congr 1
 funext x
 exact(List.append_assoc ..).symm
theorem strip_none {w':Cs}(p:Pile):∀ w:Cs,strip p w=(w',none)->(Ws R p).map (w ++ ·)=[w']/\Tn R p=1:=by
 induction p with
 | nil=>intro w h;cases h;exact⟨congrArg (λx=>[x]) (List.append_nil w'),rfl⟩
 | cons a r ih=>
  intro w h
  obtain⟨c,s⟩:=a
  by_cases hc:c=60
  ·obtain⟨h1,h2⟩:=ih w ((if_pos hc).symm.trans h)
   exact⟨(congrArg (List.map (w ++ ·)) (if_pos hc)).trans h1,(if_pos hc).trans h2⟩
  ·by_cases hs:s<256
   ·obtain⟨h1,h2⟩:=ih _ (((if_neg hc).trans (if_pos hs)).symm.trans h)
    refine⟨(congrArg (List.map (w ++ ·)) (if_neg hc)).trans ?_,(if_neg hc).trans ((gt_let hs ..).trans h2)⟩
    rw[thin_let hs,map_one,h1]
   ·exact nomatch ((if_neg hc).trans (if_neg hs)).symm.trans h
structure Stripped (R:Nat->List (List Nat)) (p:Pile) (w w':Cs) (s:Nat) (q:Pile):Prop where
 ws:(Ws R p).map (w ++ ·)=(mul (thin R s (av q)) (Ws R q)).map (w' ++ ·)
 tn:Tn R p=Gt R s (av q) (Tn R q)
 len:q.length+w'.length+1<=p.length+w.length
 ge:¬s<256
 sub:∀ y∈q,y∈p
 mem:∃ c,(c,s)∈p
theorem strip_some {w':Cs}{s:Nat}{q:Pile}(p:Pile):∀ w:Cs,strip p w=(w',some (s,q))->Stripped R p w w' s q:=by
 induction p with
 | nil=>intro w h;cases h
 | cons a r ih=>
  intro w h
  obtain⟨c,x⟩:=a
  have up:∀ {y:Nat×Nat},y∈r->y∈(c,x)::r:=List.mem_cons_of_mem _
  by_cases hc:c=60
  ·have I:=ih w ((if_pos hc).symm.trans h)
   exact⟨(congrArg (List.map (w ++ ·)) (if_pos hc)).trans I.ws,(if_pos hc).trans I.tn,nT I.len (Nat.add_le_add_right (Nat.le_succ _) _),I.ge,λy hy=>up (I.sub y hy),I.mem.imp λ_=>up⟩
  ·by_cases hs:x<256
   ·have I:=ih _ (((if_neg hc).trans (if_pos hs)).symm.trans h)
    refine⟨(congrArg (List.map (w ++ ·)) (if_neg hc)).trans ?_,(if_neg hc).trans ((gt_let hs ..).trans I.tn),nT I.len (Nat.le_of_eq ?_),I.ge,λy hy=>up (I.sub y hy),I.mem.imp λ_=>up⟩
    ·rw[thin_let hs,map_one];exact I.ws
    ·rw[List.length_append];exact(Nat.succ_add_eq_add_succ ..).symm
   ·cases ((if_neg hc).trans (if_neg hs)).symm.trans h
    exact⟨congrArg (List.map (w' ++ ·)) (if_neg hc),if_neg hc,Nat.le_of_eq (Nat.succ_add ..).symm,hs,λ_=>up,c,List.mem_cons_self ..⟩
theorem av_nodup:∀ p:Pile,(av p).Nodup
 | []=>by decide
 | p::r=>by
  show(if p.1=60 then(av r).erase p.2 else av r).Nodup
  by_cases h:p.1=60
  ·rw[if_pos h];exact(av_nodup r).erase _
  ·rw[if_neg h];exact av_nodup r
theorem av_iff {s:Nat}(hs:s∈full):∀ p:Pile,s∈av p↔(60,s)∉p
 | []=>⟨λ_=>List.not_mem_nil,λ_=>hs⟩
 | (c,x)::r=>by
  show s∈(if c=60 then(av r).erase x else av r)↔_
  by_cases h:c=60
  ·subst h
   rw[if_pos rfl,(av_nodup r).mem_erase_iff,av_iff hs r,List.mem_cons,not_or]
   exact and_congr_left λ_=>not_congr ⟨λe=>by rw[e],λe=>(Prod.mk.inj e).2⟩
  ·rw[if_neg h,av_iff hs r,List.mem_cons,not_or]
   exact⟨λm=>⟨λe=>h (Prod.mk.inj e).1.symm,m⟩,λm=>m.2⟩
theorem full_ge:∀ s∈full,¬s<256:=by decide
noncomputable def Let (a b l:Nat):Prop:=l=a∨l=b
noncomputable def Sy (a b s:Nat):Prop:=Let a b s∨s∈full
noncomputable def Half (a b:Nat) (q:List Nat):Prop:=∃ l z,Let a b l/\Sy a b z/\(q=[l,z]∨q=[z,l])
structure Shape (R:Nat->List (List Nat)) (a b:Nat):Prop where
 top:∃ x y q,Sy a b x/\Sy a b y/\Half a b q/\R 256=[[x,y],q]
 two:∀ N,N=257∨N=258->∃ q u,Half a b q/\(∀ l∈u,Let a b l)/\u.length<=2/\R N=[q,u]
section
variable {a b:Nat}(ha:a<256) (hb:b<256)
include ha hb
theorem let_lt {l:Nat}(h:Let a b l):l<256:=by rcases h with rfl|rfl<;>assumption
theorem half_gt {q:List Nat}{A:List Nat}{t:Nat}(h:Half a b q):∃ z,Sy a b z/\q.foldr (λp u=>Gt R p A u) t=Gt R z A t:=by
 obtain⟨l,z,hl,hz,rfl|rfl⟩:=h
 ·exact⟨z,hz,gt_let (let_lt ha hb hl) ..⟩
 ·exact⟨z,hz,by show Gt R z A (Gt R l A t)=_;rw[gt_let (let_lt ha hb hl)]⟩
theorem lets_gt {A:List Nat}{t:Nat}:∀ {u:List Nat},(∀ l∈u,Let a b l)->u.foldr (λp u=>Gt R p A u) t=t
 | [],_=>rfl
 | l::u,h=>(gt_let (let_lt ha hb (h l (List.mem_cons_self ..))) ..).trans (lets_gt λl hl=>h l (List.mem_cons_of_mem _ hl))
theorem two_gt (S:Shape R a b){N:Nat}(hN:N=257∨N=258){A:List Nat}(m:N∈A) (t:Nat):∃ z,Sy a b z/\Gt R N A t=1+(Gt R z (A.erase N) t+t):=by
 obtain⟨q,u,hq,hu,_,e⟩:=S.two N hN
 obtain⟨z,hz,h⟩:=half_gt ha hb (R:=R) (A:=A.erase N) (t:=t) hq
 refine⟨z,hz,?_⟩
 rw[gt_yes (by rcases hN with rfl|rfl<;>decide) m,e]
 show 1+(q.foldr (λp u=>Gt R p (A.erase N) u) t+(u.foldr (λp u=>Gt R p (A.erase N) u) t+0))=_
 rw[h,lets_gt ha hb hu]
 rfl
theorem sy_gt {A:List Nat}{t f:Nat}(ht:1<=t) (hf:t<=f) (h6:256∉A) (h:∀ N,(N=257∨N=258)->N∈A->Gt R N A t<=f){z:Nat}(hz:Sy a b z):Gt R z A t<=f:=by
 rcases hz with hl|hz
 ·rw[gt_let (let_lt ha hb hl)];exact hf
 ·have hn:=full_ge z hz
  by_cases m:z∈A
  ·rcases mC hz with rfl|hz
   ·exact absurd m h6
   ·exact h z ((mC hz).imp id mS) m
  ·rw[gt_no hn m];exact nT ht hf
theorem turns (S:Shape R a b):Tn R [(32,256)]<=23:=by
 have h0:∀ {z t:Nat},1<=t->Sy a b z->Gt R z [] t<=t:=λht hz=>sy_gt ha hb ht (Nat.le_refl _) List.not_mem_nil (λ_ _ m=>absurd m List.not_mem_nil) hz
 have h1:∀ {N z t:Nat},(N=257∨N=258)->1<=t->Sy a b z->Gt R z [N] t<=1+2*t:=λ{N z t} hN ht hz=>sy_gt ha hb ht (nT (Nat.le_mul_of_pos_left t (by decide)) (Nat.le_add_left ..)) (by rcases hN with rfl|rfl<;>decide) (λM hM m=>by
  cases mS m
  obtain⟨z,hz,e⟩:=two_gt ha hb S hM (List.mem_singleton.mpr rfl) t
  rw[e,show([N]:List Nat).erase N=[]by rcases hM with rfl|rfl<;>rfl,Nat.two_mul]
  exact Nat.add_le_add_left (Nat.add_le_add_right (h0 ht hz) t) 1) hz
 have h2:∀ {z t:Nat},1<=t->Sy a b z->Gt R z [257,258] t<=2+3*t:=λ{z t} ht hz=>sy_gt ha hb ht (nT (Nat.le_mul_of_pos_left t (by decide)) (Nat.le_add_left ..)) (by decide) (λM hM m=>by
  obtain⟨z,hz,e⟩:=two_gt ha hb S hM m t
  have h3:∀ {g:Nat},g<=1+2*t->1+(g+t)<=2+3*t:=λh=>nT (Nat.add_le_add_left (Nat.add_le_add_right h t) 1) (Nat.le_of_eq (by rw[Nat.succ_mul 2 t,Nat.add_assoc 1,<-Nat.add_assoc]))
  rw[e]
  rcases hM with rfl|rfl
  ·exact h3 (h1 (N:=258) (.inr rfl) ht hz)
  ·exact h3 (h1 (N:=257) (.inl rfl) ht hz)) hz
 obtain⟨x,y,q,hx,hy,hq,e⟩:=S.top
 obtain⟨z,hz,ez⟩:=half_gt ha hb (R:=R) (A:=[257,258]) (t:=1) hq
 show(if 32=60 then _ else Gt R 256 full 1)<=23
 rw[if_neg (by decide),gt_yes (by decide) (by decide),e]
 show 1+(Gt R x [257,258] (Gt R y [257,258] 1)+(q.foldr (λp u=>Gt R p [257,258] u) 1+0))<=23
 rw[ez]
 exact Nat.add_le_add_left (Nat.add_le_add (nT (h2 (gt_pos (R:=R) (Nat.le_refl 1) y [257,258]) hx) (Nat.add_le_add_left (Nat.mul_le_mul_left 3 (h2 (Nat.le_refl 1) hy)) 2)) (h2 (Nat.le_refl 1) hz)) 1
end
end Mine.Th
end
section
namespace Mine.Pu
open PySem Mine.Th
noncomputable abbrev iv (r:List Nat):List V:=r.map λ(n:Nat)=>V.int (n:Int)
noncomputable def RsAt (s:AH) (j:Nat) (rs:List (List Nat)):Prop:=∃ is:List Nat,s[j]?=some (.list (is.map V.obj))/\is.length=rs.length/\∀ (k i:Nat) (r:List Nat),is[k]?=some i->rs[k]?=some r->s[i]?=some (.list (iv r))
theorem RsAt.ext {s s':AH}{j:Nat}{rs:List (List Nat)}(h:RsAt s j rs) (x:Ext s s'):RsAt s' j rs:=h.imp λ_ h=>⟨x.get h.1,h.2.1,λk i r a b=>x.get (h.2.2 k i r a b)⟩
theorem RsAt.two {s:AH}{j i1 i2:Nat}{r1 r2:List Nat}(h:s[j]?=some (.list [.obj i1,.obj i2])) (h1:s[i1]?=some (.list (iv r1))) (h2:s[i2]?=some (.list (iv r2))):RsAt s j [r1,r2]:=
 ⟨[i1,i2],h,rfl,λk i r a b=>by
  match k,a,b with
  | 0,a,b=>cases a;cases b;exact h1
  | 1,a,b=>cases a;cases b;exact h2
  | k+2,a,b=>cases a⟩
noncomputable def RulesAt (s:AH) (D:Nat) (R:Nat->List (List Nat)):Prop:=∃ j1 j2 j3,s[D]?=some (.dict [(.inl 256,.obj j1),(.inl 257,.obj j2),(.inl 258,.obj j3)])/\RsAt s j1 (R 256)/\RsAt s j2 (R 257)/\RsAt s j3 (R 258)
theorem RulesAt.ext {s s':AH}{D:Nat}{R:Nat->List (List Nat)}(h:RulesAt s D R) (x:Ext s s'):RulesAt s' D R:=by
 obtain⟨j1,j2,j3,h,h1,h2,h3⟩:=h
 exact⟨j1,j2,j3,x.get h,h1.ext x,h2.ext x,h3.ext x⟩
noncomputable def Mk (C:Oracle) (e:E) (loc:Loc) (s:AH) (r:List Nat):Prop:=∃ i s',ev C e loc s=some (.obj i,s')/\Ext s s'/\s'[i]?=some (.list (iv r))
noncomputable def Nm (C:Oracle) (e:E) (loc:Loc) (s:AH) (x:Nat):Prop:=ev C e loc s=some (.int (x:Int),s)
section
variable {C:Oracle}{e e1 e2:E}{loc:Loc}{s:AH}{F m:Nat}{z:Int}{r:List Nat}
theorem pickV {vs:List V}(hm:0<m) (hl:m<=vs.length) (z:Int):∃ v∈vs,∀ s:AH,s[F]?=some (.list vs)->idxV (.obj F) (.int (Int.fmod z m)) s=some v:=
 nat_of (z:=z) (m:=(m:Int)) (by omega) (P:=λk=>∃ v∈vs,∀ s:AH,s[F]?=some (.list vs)->idxV (.obj F) (.int k) s=some v) λk hk=>by
  have h:k<vs.length:=Nat.lt_of_lt_of_le (Int.ofNat_lt.mp hk) hl
  exact⟨vs[k],List.getElem_mem h,λs hs=>idx_lst (lst_at hs) (List.getElem?_eq_getElem h)⟩
theorem pick (hm:0<m) (hl:m<=r.length) (z:Int):∃ x∈r,∀ s:AH,s[F]?=some (.list (iv r))->idxV (.obj F) (.int (Int.fmod z m)) s=some (.int (x:Int)):=by
 obtain⟨v,hv,h⟩:=pickV (F:=F) (vs:=iv r) hm (by rw[List.length_map];exact hl) z
 obtain⟨x,hx,rfl⟩:=List.mem_map.mp hv
 exact⟨x,hx,h⟩
theorem mk_two {x y:Nat}(h1:Nm C e1 loc s x) (h2:Nm C e2 loc s y):Mk C (.list [e1,e2]) loc s [x,y]:=⟨_,_,ev_list (evs_cons h1 (evs_one h2)) (lim_of rfl),.app _ _,top_at ..⟩
theorem divmod {n:Int}{i:Nat}{a b:Int}(hn:loc[i]?=some (some (.int n))) (ha:¬(a=0∨BIG<=a.natAbs)) (hb:b≠0):ev C (.bin .Mod (.bin .FloorDiv (.var i) (.lit (.int a))) (.lit (.int b))) loc s=some (.int (Int.fmod (Int.fdiv n a) b),s):=ev_bin (ev_bin (ev_var hn) ev_lit (fdiv_ok ha)) ev_lit (mod_ok hb)
theorem mod1 {n:Int}{i:Nat}{b:Int}(hn:loc[i]?=some (some (.int n))) (hb:b≠0):ev C (.bin .Mod (.var i) (.lit (.int b))) loc s=some (.int (Int.fmod n b),s):=ev_bin (ev_var hn) ev_lit (mod_ok hb)
theorem slc_list {u q:V}{r':List Nat}(h:s[F]?=some (.list (iv r))) (hc:cut (iv r) u q .none=some (iv r')) (hl:r'.length<=LIM):slcV (.obj F) u q .none s=some (.obj s.length,s++[.list (iv r')]):=bindI (show seqAt (.obj F) s=_ from lst_at h) (bindI hc (newL_ok' (by rw[List.length_map];exact hl)))
theorem slc_rev (h:s[F]?=some (.list (iv r))) (hl:r.length<=LIM):slcV (.obj F) .none .none (.int (-1)) s=some (.obj s.length,s++[.list (iv r.reverse)]):=bindI (show seqAt (.obj F) s=_ from lst_at h) (bindI (show some (iv r).reverse=some (iv r.reverse)from congrArg some (List.map_reverse ..).symm) (newL_ok' (by rw[List.length_map,List.length_reverse];exact hl)))
theorem neg1:ev C (.neg (.lit (.int 1))) loc s=some (.int (-1),s):=ev_neg rfl
theorem mk_turn {Γ:Prop}{c:E}{i k:Nat}{q:Int}(hi:loc[i]?=some (some (.obj k))) (hk:s[k]?=some (.list (iv r))) (hl:r.length<=LIM) (hc:ev C c loc s=some (.int q,s))
  (kk:∀ r',(r'=r∨r'=r.reverse)->Mk C (.ite c (.slc (.var i) (.lit .none) (.lit .none) (.neg (.lit (.int (1))))) (.var i)) loc s r'->Γ):Γ:=by
 by_cases h:q=0
 ·exact kk r (.inl rfl) ⟨k,s,ev_iteF hc (congrArg some (decide_eq_false λn=>n h)) (ev_var hi),.refl _,hk⟩
 ·exact kk r.reverse (.inr rfl) ⟨_,_,ev_iteT hc (congrArg some (decide_eq_true h)) (ev_slc (ev_var hi) ev_lit ev_lit neg1 (slc_rev hk hl)),.app _ _,top_at ..⟩
end
end Mine.Pu
end
section
namespace Mine.Pu
open PySem Mine.Th
noncomputable def KL (s s':AH):Prop:=∀ (i:Nat) (vs:List V),s[i]?=some (.list vs)->s'[i]?=some (.list vs)
theorem KL.of {s s':AH}(x:Ext s s'):KL s s':=λ_ _ h=>x.get h
theorem KL.trans {a b c:AH}(x:KL a b) (y:KL b c):KL a c:=λi vs h=>y i vs (x i vs h)
theorem KL.set {s:AH}{D:Nat}{kvs:List (Kx×V)}(h:s[D]?=some (.dict kvs)) (o:O):KL s (s.set D o):=λi vs hi=>(List.getElem?_set_ne λe=>by rw[<-e,h]at hi;cases hi).trans hi
theorem KL.rs {s s':AH}(x:KL s s'){j:Nat}{rs:List (List Nat)}(h:RsAt s j rs):RsAt s' j rs:=h.imp λ_ h=>⟨x _ _ h.1,h.2.1,λk i r a b=>x _ _ (h.2.2 k i r a b)⟩
noncomputable def Few (b:Nat) (r:List Nat):Prop:=(∀ l∈r,Let 255 b l)/\r.length<=2
section
variable {C:Oracle}{loc:Loc}{s:AH}{b:Nat}
theorem evs_mk {G:List Nat->Prop}:∀ {es:List E}{s:AH},(∀ e∈es,∀ s',Ext s s'->∃ r,G r/\Mk C e loc s' r)->∃ vs s',evs C es loc s=some (vs,s')/\Ext s s'/\vs.length=es.length/\∀ v∈vs,∃ i r,v = .obj i/\G r/\s'[i]?=some (.list (iv r))
 | [],s,_=>⟨[],s,rfl,.refl s,rfl,λ_ h=>absurd h List.not_mem_nil⟩
 | e::es,s,H=>by
  obtain⟨r,hr,i,s1,e1,x1,h1⟩:=H e (List.mem_cons_self ..) s (.refl s)
  obtain⟨vs,s2,e2,x2,l2,h2⟩:=evs_mk (es:=es) (s:=s1) λe he s' x=>H e (List.mem_cons_of_mem _ he) s' (x1.trans x)
  refine⟨.obj i::vs,s2,evs_cons e1 e2,x1.trans x2,congrArg Nat.succ l2,λv hv=>?_⟩
  rcases mC hv with rfl|hv
  ·exact⟨i,r,rfl,hr,x2.get h1⟩
  ·exact h2 v hv
theorem mk_twice {e:E}{r:List Nat}(h:Mk C e loc s r) (hl:r.length<=2):Mk C (.bin .Mult e (.lit (.int 2))) loc s (rep 2 r):=by
 obtain⟨i,s1,e1,x1,h1⟩:=h
 refine⟨s1.length,s1++[.list (rep 2 (iv r))],ev_bin e1 ev_lit (bindI (lst_at h1) (bindI (a:=(2:Int)) rfl ((if_pos ⟨?_,lim_of rfl⟩).trans (newL_ok' ?_)))),x1.trans (.app _ _),?_⟩
 ·show(iv r++(iv r++[])).length<=LIM
  rw[List.append_nil,List.length_append,List.length_map]
  exact nT (Nat.add_le_add hl hl) (lim_of rfl)
 ·rw[top_at]
  show some (O.list (iv r++(iv r++[])))=some (O.list ((r++(r++[])).map _))
  rw[List.map_append,List.map_append];rfl
 ·rw[List.length_map];exact nT (Nat.mul_le_mul_right _ hl) (lim_of rfl)
noncomputable abbrev shortE:E:=.list [(.list []),(.slc (.var 2) (.lit .none) (.lit (.int (1))) (.lit .none)),(.slc (.var 2) (.lit (.int (1))) (.lit (.int (2))) (.lit .none)),(.bin .Mult (.slc (.var 2) (.lit .none) (.lit (.int (1))) (.lit .none)) (.lit (.int (2)))),(.var 1),(.slc (.var 1) (.lit .none) (.lit .none) (.neg (.lit (.int (1))))),(.bin .Mult (.slc (.var 2) (.lit (.int (1))) (.lit (.int (2))) (.lit .none)) (.lit (.int (2))))]
theorem short_ok {Γ:Prop}{F A:Nat}(h1:loc[1]?=some (some (.obj A))) (h2:loc[2]?=some (some (.obj F))) (hA:s[A]?=some (.list (iv [255,b]))) (hF:s[F]?=some (.list (iv [255,b,257,258,256])))
  (kk:∀ vs s',evs C [(.list []),(.slc (.var 2) (.lit .none) (.lit (.int (1))) (.lit .none)),(.slc (.var 2) (.lit (.int (1))) (.lit (.int (2))) (.lit .none)),(.bin .Mult (.slc (.var 2) (.lit .none) (.lit (.int (1))) (.lit .none)) (.lit (.int (2)))),(.var 1),(.slc (.var 1) (.lit .none) (.lit .none) (.neg (.lit (.int (1))))),(.bin .Mult (.slc (.var 2) (.lit (.int (1))) (.lit (.int (2))) (.lit .none)) (.lit (.int (2))))] loc s=some (vs,s')->Ext s s'->vs.length=7->(∀ v∈vs,∃ i r,v = .obj i/\Few b r/\s'[i]?=some (.list (iv r)))->Γ):Γ:=by
 have s1:∀ {s':AH},Ext s s'->Mk C (.slc (.var 2) (.lit .none) (.lit (.int (1))) (.lit .none)) loc s' [255]:=λx=>⟨_,_,ev_slc (ev_var h2) ev_lit ev_lit ev_lit (slc_list (x.get hF) rfl (lim_of rfl)),.app _ _,top_at ..⟩
 have s2:∀ {s':AH},Ext s s'->Mk C (.slc (.var 2) (.lit (.int (1))) (.lit (.int (2))) (.lit .none)) loc s' [b]:=λx=>⟨_,_,ev_slc (ev_var h2) ev_lit ev_lit ev_lit (slc_list (x.get hF) rfl (lim_of rfl)),.app _ _,top_at ..⟩
 have fa:∀ l∈[255],Let 255 b l:=λl h=>.inl (mS h)
 have fb:∀ l∈[b],Let 255 b l:=λl h=>.inr (mS h)
 have fab:∀ l∈[255,b],Let 255 b l:=λl h=>(mC h).imp id mS
 have two:∀ {x:Nat},(∀ l∈[x],Let 255 b l)->∀ l∈rep 2 [x],Let 255 b l:=λ{x} f l h=>by
  have h:l∈[x,x]:=h
  rcases mC h with h|h
  ·exact f l (List.mem_singleton.mpr h)
  ·exact f l h
 have key:∀ e∈[(.list []),(.slc (.var 2) (.lit .none) (.lit (.int (1))) (.lit .none)),(.slc (.var 2) (.lit (.int (1))) (.lit (.int (2))) (.lit .none)),(.bin .Mult (.slc (.var 2) (.lit .none) (.lit (.int (1))) (.lit .none)) (.lit (.int (2)))),(.var 1),(.slc (.var 1) (.lit .none) (.lit .none) (.neg (.lit (.int (1))))),(.bin .Mult (.slc (.var 2) (.lit (.int (1))) (.lit (.int (2))) (.lit .none)) (.lit (.int (2))))],∀ s',Ext s s'->∃ r,Few b r/\Mk C e loc s' r:=λe he s' x=>by
  rcases mC he with rfl|he
  ·exact⟨[],⟨λ_ h=>(absurd h List.not_mem_nil),Nat.zero_le _⟩,_,_,ev_list rfl (lim_of rfl),.app _ _,top_at ..⟩
  rcases mC he with rfl|he
  ·exact⟨_,⟨fa,Nat.le_succ 1⟩,s1 x⟩
  rcases mC he with rfl|he
  ·exact⟨_,⟨fb,Nat.le_succ 1⟩,s2 x⟩
  rcases mC he with rfl|he
  ·exact⟨_,⟨two fa,Nat.le_refl 2⟩,mk_twice (s1 x) (Nat.le_succ 1)⟩
  rcases mC he with rfl|he
  ·exact⟨_,⟨fab,Nat.le_refl 2⟩,A,s',ev_var h1,.refl _,x.get hA⟩
  rcases mC he with rfl|he
  ·exact⟨_,⟨λl h=>fab l (List.mem_reverse.mp h),Nat.le_refl 2⟩,_,_,ev_slc (ev_var h1) ev_lit ev_lit neg1 (slc_rev (x.get hA) (lim_of rfl)),.app _ _,top_at ..⟩
  ·rw[mS he]
   exact⟨_,⟨two fb,Nat.le_refl 2⟩,mk_twice (s2 x) (Nat.le_succ 1)⟩
 obtain⟨vs,s',k1,k2,k3,k4⟩:=evs_mk key
 exact kk vs s' k1 k2 k3 k4
end
theorem set_new {s:AH}{D:Nat}{kvs:List (Kx×V)}{k:Int}{v:V}(h:s[D]?=some (.dict kvs)) (hl:kvs.length<LIM):setKeyV (.obj D) (.int k) v s=some (s.set D (.dict (putK kvs (.inl k) v))):=bindI rfl (bindI rfl (bindI (dict_at h) (if_pos hl)))
theorem setIdx_dict {s:AH}{D:Nat}{kvs:List (Kx×V)}{k:Int}{v:V}(h:s[D]?=some (.dict kvs)) (hl:kvs.length<LIM):setIdxV (.obj D) (.int k) v s=some (s.set D (.dict (putK kvs (.inl k) v))):=by
 unfold setIdxV
 rw[dict_at h]
 exact set_new h hl
theorem half_of {b x y:Nat}{r:List Nat}(hx:Let 255 b x) (hy:Sy 255 b y) (h:r=[x,y]∨r=[x,y].reverse):Half 255 b r:=⟨x,y,hx,hy,h⟩
theorem five_sy {b x:Nat}(h:x∈[255,b,257,258,256]):Sy 255 b x:=by
 rcases mC h with h|h
 ·exact .inl (.inl h)
 rcases mC h with h|h
 ·exact .inl (.inr h)
 refine .inr ?_
 rcases mC h with rfl|h
 ·exact .tail _ (.head _)
 rcases mC h with rfl|h
 ·exact .tail _ (.tail _ (.head _))
 ·cases mS h;exact .head _
theorem two_let {b x:Nat}(h:x∈[255,b]):Let 255 b x:=(mC h).imp id mS
noncomputable abbrev loc147 (S A F:Nat) (v3 v4 v5 v6 v7 v8:Option V):Loc:=some (.obj S)::some (.obj A)::some (.obj F)::v3::v4::v5::v6::v7::v8::List.replicate 8 none
noncomputable abbrev body147:List S:=[(.assign (.var 3) (.idx (.var 0) (.bin .Sub (.var 6) (.lit (.int (256)))))),(.assign (.var 7) (.list [(.idx (.var 1) (.bin .Mod (.var 3) (.lit (.int (2))))),(.idx (.var 2) (.bin .Mod (.bin .FloorDiv (.var 3) (.lit (.int (2)))) (.lit (.int (5)))))])),(.assign (.var 8) (.idx shortE (.bin .Mod (.bin .FloorDiv (.var 3) (.lit (.int (20)))) (.lit (.int (7)))))),(.setIdx (.var 5) (.var 6) (.list [(.ite (.bin .Mod (.bin .FloorDiv (.var 3) (.lit (.int (10)))) (.lit (.int (2)))) (.slc (.var 7) (.lit .none) (.lit .none) (.neg (.lit (.int (1))))) (.var 7)),(.var 8)]))]
section
variable {C:Oracle}{s0 s:AH}{S A F D b:Nat}{L:List Int}{kvs:List (Kx×V)}
theorem step147 {Γ:Prop}{N k:Nat}(hN:N=256+k) (hS:s[S]?=some (.list (L.map V.int))) (hk:k<L.length) (hA:s[A]?=some (.list (iv [255,b]))) (hF:s[F]?=some (.list (iv [255,b,257,258,256]))) (hD:s[D]?=some (.dict kvs)) (hl:kvs.length<LIM) (x0:Ext s0 s) (hD0:s0.length<=D) (v3 v4 v6 v7 v8:Option V)
  (kk:∀ (v3' v7' v8':Option V) (j:Nat) (q u:List Nat) (s':AH),forB C (.var 6) body147 (.int (N:Int)) (loc147 S A F v3 v4 (some (.obj D)) v6 v7 v8) s=some (.inl (loc147 S A F v3' v4 (some (.obj D)) (some (.int (N:Int))) v7' v8'),s')->KL s s'->Ext s0 s'->s'[D]?=some (.dict (putK kvs (.inl (N:Int)) (.obj j)))->RsAt s' j [q,u]->Half 255 b q->Few b u->Γ):Γ:=by
 have g1:ev C (.idx (.var 0) (.bin .Sub (.var 6) (.lit (.int (256))))) (loc147 S A F v3 v4 (some (.obj D)) (some (.int (N:Int))) v7 v8) s=some (.int L[k],s):=ev_idx rfl (ev_bin rfl rfl (show some (V.int ((N:Int)-256),s)=some (V.int (k:Int),s)by rw[hN];congr 3;omega)) (idx_lst (lst_at hS) (ints_get hk))
 obtain⟨x,hx,ex_⟩:=pick (F:=A) (r:=[255,b]) (m:=2) (by decide) (Nat.le_refl 2) L[k]
 obtain⟨y,hy,ey⟩:=pick (F:=F) (r:=[255,b,257,258,256]) (m:=5) (by decide) (Nat.le_refl 5) (Int.fdiv L[k] 2)
 obtain⟨i,s1,g2,x1,hi⟩:Mk C (.list [(.idx (.var 1) (.bin .Mod (.var 3) (.lit (.int (2))))),(.idx (.var 2) (.bin .Mod (.bin .FloorDiv (.var 3) (.lit (.int (2)))) (.lit (.int (5)))))]) (loc147 S A F (some (.int L[k])) v4 (some (.obj D)) (some (.int (N:Int))) v7 v8) s [x,y]:=mk_two (ev_idx rfl (mod1 rfl (by decide)) (ex_ s hA)) (ev_idx rfl (divmod rfl (by decide) (by decide)) (ey s hF))
 refine short_ok (C:=C) (loc:=loc147 S A F (some (.int L[k])) v4 (some (.obj D)) (some (.int (N:Int))) (some (.obj i)) v8) (b:=b) rfl rfl (x1.get hA) (x1.get hF) λvs s2 g3 x2 hl7 hv=>?_
 obtain⟨v,hvm,ev_⟩:=pickV (F:=s2.length) (vs:=vs) (m:=7) (by decide) (Nat.le_of_eq hl7.symm) (Int.fdiv L[k] 20)
 obtain⟨i2,u,rfl,hu,hi2⟩:=hv v hvm
 have x3:=Ext.app s2 [O.list vs]
 have g4:ev C (.idx shortE (.bin .Mod (.bin .FloorDiv (.var 3) (.lit (.int (20)))) (.lit (.int (7))))) (loc147 S A F (some (.int L[k])) v4 (some (.obj D)) (some (.int (N:Int))) (some (.obj i)) v8) s1=some (.obj i2,s2++[O.list vs]):=ev_idx (ev_list g3 (by rw[hl7];exact lim_of rfl)) (divmod rfl (by decide) (by decide)) (ev_ _ (top_at ..))
 have hi3:=x3.get hi2
 have hi1:=x3.get (x2.get hi)
 have x13:=x1.trans (x2.trans x3)
 generalize s2++[O.list vs]=s3 at g4 hi3 hi1 x13
 refine mk_turn (C:=C) (loc:=loc147 S A F (some (.int L[k])) v4 (some (.obj D)) (some (.int (N:Int))) (some (.obj i)) (some (.obj i2))) (i:=7) (r:=[x,y]) rfl hi1 (lim_of rfl) (divmod (n:=L[k]) (i:=3) (a:=10) (b:=2) rfl (by decide) (by decide)) λq hq e_2=>?_
 obtain⟨j1,s4,g5,x4,h4⟩:=e_2
 have g6:ev C (.list [(.ite (.bin .Mod (.bin .FloorDiv (.var 3) (.lit (.int (10)))) (.lit (.int (2)))) (.slc (.var 7) (.lit .none) (.lit .none) (.neg (.lit (.int (1))))) (.var 7)),(.var 8)]) (loc147 S A F (some (.int L[k])) v4 (some (.obj D)) (some (.int (N:Int))) (some (.obj i)) (some (.obj i2))) s3=some (.obj s4.length,s4++[O.list [.obj j1,.obj i2]]):=ev_list (evs_cons g5 (evs_one rfl)) (lim_of rfl)
 have x5:=Ext.app s4 [O.list [.obj j1,.obj i2]]
 have x05:=x13.trans (x4.trans x5)
 have hr:RsAt (s4++[O.list [.obj j1,.obj i2]]) s4.length [q,u]:=.two (top_at ..) (x5.get h4) (x5.get (x4.get hi3))
 generalize s4++[O.list [.obj j1,.obj i2]]=s5 at g6 x05 hr
 have hD5:=x05.get hD
 refine kk (some (.int L[k])) (some (.obj i)) (some (.obj i2)) s4.length q u _ (for_next (exs_cons (ex_set g1) (exs_cons (ex_set g2) (exs_cons (ex_set g4) (exs_one (ex_setIdx g6 rfl rfl (setIdx_dict hD5 hl))))))) ((KL.of x05).trans (.set hD5 _)) ((x0.trans x05).set hD0 _) ?_ ((KL.set hD5 _).rs hr) (half_of (two_let hx) (five_sy hy) hq) hu
 exact List.getElem?_set_self (List.getElem?_eq_some_iff.mp hD5).1
end
end Mine.Pu
end
section
namespace Mine.Pu
open PySem Mine.Th
theorem c147 {Γ:Prop}(d:Nat){S A b:Nat}{L:List Int}{s:AH}(hS:s[S]?=some (.list (L.map V.int))) (hL:L.length=4) (hA:s[A]?=some (.list (iv [255,b])))
  (kk:∀ D R s',callN T01 (d+1) 147 [.obj S,.obj A] s=some (.obj D,s')->Ext s s'->RulesAt s' D R->Shape R 255 b->Γ):Γ:=by
 have k0:0<L.length:=hL▸by decide
 have e1:ev (callN T01 d) (.bin .Add (.var 1) (.list [(.lit (.int (257))),(.lit (.int (258))),(.lit (.int (256)))])) (some (.obj S)::some (.obj A)::List.replicate 15 none) s=some (.obj (s++[O.list (iv [257,258,256])]).length,(s++[O.list (iv [257,258,256])])++[O.list (iv [255,b,257,258,256])]):=
  ev_bin rfl (ev_list rfl (lim_of rfl)) (bindI (lst_at ((Ext.app s [O.list (iv [257,258,256])]).get hA)) (bindI (new_at s (iv [257,258,256])) (newL_ok' (lim_of rfl))))
 have x1:Ext s ((s++[O.list (iv [257,258,256])])++[O.list (iv [255,b,257,258,256])]):=(Ext.app s _).trans (.app _ _)
 have hF:((s++[O.list (iv [257,258,256])])++[O.list (iv [255,b,257,258,256])])[(s++[O.list (iv [257,258,256])]).length]?=some (.list (iv [255,b,257,258,256])):=top_at ..
 generalize (s++[O.list (iv [257,258,256])])++[O.list (iv [255,b,257,258,256])]=s1 at e1 x1 hF
 generalize (s++[O.list (iv [257,258,256])]).length=F at e1 hF
 have e2:ev (callN T01 d) (.idx (.var 0) (.lit (.int 0))) (loc147 S A F none none none none none none) s1=some (.int L[0],s1):=ev_idx rfl rfl (idx_lst (k:=0) (lst_at (x1.get hS)) (ints_get k0))
 obtain⟨x,hx,ex_⟩:=pick (F:=A) (r:=[255,b]) (m:=2) (by decide) (Nat.le_refl 2) (Int.fdiv L[0] 25)
 obtain⟨y,hy,ey⟩:=pick (F:=F) (r:=[255,b,257,258,256]) (m:=4) (by decide) (Nat.le_succ 4) (Int.fdiv L[0] 50)
 obtain⟨i,s2,e3,x2,hi⟩:Mk (callN T01 d) (.list [(.idx (.var 1) (.bin .Mod (.bin .FloorDiv (.var 3) (.lit (.int (25)))) (.lit (.int (2))))),(.idx (.var 2) (.bin .Mod (.bin .FloorDiv (.var 3) (.lit (.int (50)))) (.lit (.int (4)))))]) (loc147 S A F (some (.int L[0])) none none none none none) s1 [x,y]:=mk_two (ev_idx rfl (divmod rfl (by decide) (by decide)) (ex_ s1 (x1.get hA))) (ev_idx rfl (divmod rfl (by decide) (by decide)) (ey s1 hF))
 have x2':=x1.trans x2
 have hF2:=x2.get hF
 clear e2 ex_ ey
 have x3:=Ext.app s2 [O.dict []]
 have hD:(s2++[O.dict []])[s2.length]?=some (.dict []):=top_at ..
 have x03:=x2'.trans x3
 have hi3:=x3.get hi
 have hF3:=x3.get hF2
 obtain⟨u,hu,eu⟩:=pick (F:=F) (r:=[255,b,257,258,256]) (m:=5) (by decide) (Nat.le_refl 5) L[0]
 obtain⟨v,hv,ev_⟩:=pick (F:=F) (r:=[255,b,257,258,256]) (m:=5) (by decide) (Nat.le_refl 5) (Int.fdiv L[0] 5)
 have e2:ev (callN T01 d) (.idx (.var 0) (.lit (.int 0))) (loc147 S A F none none none none none none) s1=some (.int L[0],s1):=ev_idx rfl rfl (idx_lst (k:=0) (lst_at (x1.get hS)) (ints_get k0))
 obtain⟨D,hDe⟩:∃ D,D=s2.length:=⟨_,rfl⟩
 generalize hs3:s2++[O.dict []]=s3 at x3 hD x03 hi3 hF3
 rw[<-hDe]at hD
 obtain⟨i1,s4,e4,x4,h4⟩:Mk (callN T01 d) (.list [(.idx (.var 2) (.bin .Mod (.var 3) (.lit (.int (5))))),(.idx (.var 2) (.bin .Mod (.bin .FloorDiv (.var 3) (.lit (.int (5)))) (.lit (.int (5)))))]) (loc147 S A F (some (.int L[0])) (some (.obj i)) none none none none) s3 [u,v]:=mk_two (ev_idx rfl (mod1 rfl (by decide)) (eu s3 hF3)) (ev_idx rfl (divmod rfl (by decide) (by decide)) (ev_ s3 hF3))
 refine mk_turn (C:=callN T01 d) (loc:=loc147 S A F (some (.int L[0])) (some (.obj i)) none none none none) (i:=4) (r:=[x,y]) rfl (x4.get hi3) (lim_of rfl) (divmod (n:=L[0]) (i:=3) (a:=200) (b:=2) rfl (by decide) (by decide)) λq hq e_2=>?_
 obtain⟨i2,s5,e5,x5,h5⟩:=e_2
 have x6:=Ext.app s5 [O.list [.obj i1,.obj i2]]
 have hr:RsAt (s5++[O.list [.obj i1,.obj i2]]) s5.length [[u,v],q]:=.two (top_at ..) (x6.get (x5.get h4)) (x6.get h5)
 have x36:=x4.trans (x5.trans x6)
 have e6:evs (callN T01 d) [(.lit (.int (256))),(.list [(.list [(.idx (.var 2) (.bin .Mod (.var 3) (.lit (.int (5))))),(.idx (.var 2) (.bin .Mod (.bin .FloorDiv (.var 3) (.lit (.int (5)))) (.lit (.int (5)))))]),(.ite (.bin .Mod (.bin .FloorDiv (.var 3) (.lit (.int (200)))) (.lit (.int (2)))) (.slc (.var 4) (.lit .none) (.lit .none) (.neg (.lit (.int (1))))) (.var 4))])] (loc147 S A F (some (.int L[0])) (some (.obj i)) none none none none) s3=some ([.int 256,.obj s5.length],s5++[O.list [.obj i1,.obj i2]]):=evs_cons ev_lit (evs_one (ev_list (evs_cons e4 (evs_one e5)) (lim_of rfl)))
 generalize s5++[O.list [.obj i1,.obj i2]]=s6 at hr x36 e6
 have hD6:=x36.get hD
 have k6:KL s6 (s6.set D (.dict [(.inl 256,.obj s5.length)])):=.set hD6 _
 have hD7:(s6.set D (.dict [(.inl 256,.obj s5.length)]))[D]?=some (.dict [(.inl 256,.obj s5.length)]):=List.getElem?_set_self (List.getElem?_eq_some_iff.mp hD6).1
 have hD0:s.length<=D:=hDe▸x2'.1
 have x7:Ext s (s6.set D (.dict [(.inl 256,.obj s5.length)])):=(x03.trans x36).set hD0 _
 have e7:ev (callN T01 d) (.dict [(.lit (.int (256))),(.list [(.list [(.idx (.var 2) (.bin .Mod (.var 3) (.lit (.int (5))))),(.idx (.var 2) (.bin .Mod (.bin .FloorDiv (.var 3) (.lit (.int (5)))) (.lit (.int (5)))))]),(.ite (.bin .Mod (.bin .FloorDiv (.var 3) (.lit (.int (200)))) (.lit (.int (2)))) (.slc (.var 4) (.lit .none) (.lit .none) (.neg (.lit (.int (1))))) (.var 4))])]) (loc147 S A F (some (.int L[0])) (some (.obj i)) none none none none) s2=some (.obj D,s6.set D (.dict [(.inl 256,.obj s5.length)])):=by
  refine bindI (a:=([.int 256,.obj s5.length],s6)) (hs3▸e6) ?_
  rw[<-hDe]
  exact bindI (show fillK (.obj D) [.int 256,.obj s5.length] s6=some (s6.set D (.dict [(.inl 256,.obj s5.length)]))from bindI (set_new hD6 (lim_of (n:=1) rfl)) rfl) rfl
 have r7:=k6.rs hr
 have f7:KL s1 (s6.set D (.dict [(.inl 256,.obj s5.length)])):=(KL.of (x2.trans (x3.trans x36))).trans k6
 generalize s6.set D (.dict [(.inl 256,.obj s5.length)])=s7 at hD7 x7 e7 r7 f7
 refine step147 (C:=callN T01 d) (N:=257) (k:=1) rfl (x7.get hS) (hL▸by decide) (x7.get hA) (f7 _ _ hF) hD7 (lim_of (n:=2) rfl) x7 hD0 (some (.int L[0])) (some (.obj i)) none none none λv3 v7 v8 j2 q2 u2 s8 e8 k8 x8 hD8 r8 hq2 hu2=>?_
 refine step147 (C:=callN T01 d) (N:=258) (k:=2) rfl (x8.get hS) (hL▸by decide) (x8.get hA) ((f7.trans k8) _ _ hF) hD8 (lim_of (n:=3) rfl) x8 hD0 v3 (some (.obj i)) (some (.int (257:Nat))) v7 v8 λv3' v7' v8' j3 q3 u3 s9 e9 k9 x9 hD9 r9 hq3 hu3=>?_
 have hR:∀ {a b c:List (List Nat)},∃ R:Nat->List (List Nat),R 256=a/\R 257=b/\R 258=c:=λ{a b c}=>⟨λn=>if n=256 then a else if n=257 then b else c,rfl,rfl,rfl⟩
 obtain⟨R,R1,R2,R3⟩:=hR (a:=[[u,v],q]) (b:=[q2,u2]) (c:=[q3,u3])
 refine kk D R s9 (call_ret (np:=2) (ns:=15) (A:=b147) (l:=loc147 S A F v3' (some (.obj i)) (some (.obj D)) (some (.int (258:Nat))) v7' v8') rfl rfl (exs_cons (ex_set e1) (exs_cons (ex_set e2) (exs_cons (ex_set e3) (exs_cons (ex_set e7) (exs_cons (ex_for rfl rfl (lv_go e8 (lv_go e9 lv_nil))) (exs_ret rfl))))))) x9 ⟨_,j2,j3,hD9,?_,?_,?_⟩ ⟨⟨u,v,q,five_sy hu,five_sy hv,half_of (two_let hx) (five_sy hy) hq,R1⟩,λN hN=>?_⟩
 ·rw[R1];exact(k8.trans k9).rs r7
 ·rw[R2];exact k9.rs r8
 ·rw[R3];exact r9
 ·rcases hN with rfl|rfl
  ·exact⟨q2,u2,hq2,hu2.1,hu2.2,R2⟩
  ·exact⟨q3,u3,hq3,hu3.1,hu3.2,R3⟩
end Mine.Pu
end
section
namespace Mine.Th
open Mine Mine.Pu PySem
theorem pre_dec (x l:Cs):x.isPrefixOf l=true↔x <+: l:=List.isPrefixOf_iff_prefix
theorem find_cases (x s:Cs) (lo fin:Nat):(findS x s lo fin = -1/\∀ i,lo<=i->i+x.length<=fin->¬x <+: s.drop i)∨∃ j:Nat,findS x s lo fin=(j:Int)/\lo<=j/\j+x.length<=fin/\x <+: s.drop j/\∀ k,lo<=k->k+x.length<=fin->x <+: s.drop k->j<=k:=by
 unfold findS
 rw[StrLaws.occ_eq]
 rcases StrLaws.occ_first ⟨s.toArray⟩ ⟨x.toArray⟩ fin 1 (Nat.le_refl 1) (List.range' lo (fin+1-lo)) lo (λi hi=>(List.mem_range'_1.mp hi).1)with⟨h0,hn⟩|⟨pre,a,post,e,h0,ha,hn⟩
 ·refine .inl ⟨by rw[h0];rfl,λi h1 h2 h3=>hn i (List.mem_range'_1.mpr ⟨h1,?_⟩) (at_iff.mpr ⟨h2,h3⟩)⟩
  have hi:=nT (Nat.le_add_right ..) h2
  rw[Nat.add_sub_of_le (Nat.le_succ_of_le (nT h1 hi))]
  exact Nat.lt_succ_of_le hi
 ·obtain⟨h1,h2⟩:=StrLaws.range'_split_from e
  obtain⟨h3,h4⟩:=at_iff.mp ha
  refine .inr ⟨a,?_,h1,h3,h4,λk k1 k2 k3=>Nat.le_of_not_lt λc=>hn k (h2 k k1 c) (at_iff.mpr ⟨k2,k3⟩)⟩
  generalize (forIn (m:=Id) (List.range' lo (fin+1-lo)) ((#[]:Array Nat),lo) (StrLaws.occBody ⟨s.toArray⟩ ⟨x.toArray⟩ fin 1)).run.fst=arr at h0
  rw[<-Array.getElem?_toList]at h0
  cases hL:arr.toList with
  | nil=>rw[hL]at h0;exact noneE h0
  | cons b t=>rw[hL]at h0;exact congrArg Int.ofNat (oJ h0)
noncomputable def EmbP (t:Cs):List Cs->Nat->Nat->Prop
 | [],a,b=>a<=b
 | p::ps,a,b=>∃ i,a<=i/\p <+: t.drop i/\EmbP t ps (i+p.length) b
theorem embP_map {P:Nat->Cs}{t:Cs}:∀ {w:Cs}{a b:Nat},EmbP t (w.map P) a b↔Emb P t w a b
 | [],_,_=>Iff.rfl
 | _::_,_,_=>exists_congr λ_=>and_congr_right λ_=>and_congr_right λ_=>embP_map
theorem EmbP.le {t:Cs}:∀ {ps:List Cs}{a b:Nat},EmbP t ps a b->a<=b
 | [],_,_,h=>h
 | _::_,_,_,⟨_,h1,_,h2⟩=>nT h1 (nT (Nat.le_add_right ..) h2.le)
theorem EmbP.from {t:Cs}{ps:List Cs}{a a' b:Nat}(h:EmbP t ps a b) (ha:a'<=a):EmbP t ps a' b:=by
 cases ps with
 | nil=>exact nT ha h
 | cons l w=>obtain⟨i,h1,h2⟩:=h;exact⟨i,nT ha h1,h2⟩
theorem embP_nil {t:Cs}{ps:List Cs}{a b:Nat}:EmbP t ([]::ps) a b↔EmbP t ps a b:=⟨λ⟨_,h1,_,h2⟩=>h2.from h1,λh=>⟨a,Nat.le_refl a,List.nil_prefix,h⟩⟩
theorem embP_end {t:Cs}:∀ {ps:List Cs}{a b:Nat},EmbP t (ps++[[]]) a b↔EmbP t ps a b
 | [],_,_=>embP_nil
 | _::_,_,_=>exists_congr λ_=>and_congr_right λ_=>and_congr_right λ_=>embP_end
theorem findAll_iff {t:Cs}{fin:Nat}(hf:fin<=t.length):∀ {ps:List Cs}{a:Nat},a<=fin->(findAll t fin a ps=true↔EmbP t ps a fin)
 | [],a,h=>⟨λ_=>h,λ_=>rfl⟩
 | p::ps,a,h=>by
  show(if findS p t a fin<0 then false else findAll t fin (findS p t a fin+p.length) ps)=true↔_
  rcases find_cases p t a fin with⟨e,hn⟩|⟨j,e,h1,h2,h3,h4⟩
  ·rw[e,if_pos (by decide)]
   exact⟨λe=>(absurd e Bool.false_ne_true),λ⟨i,k1,k2,k3⟩=>absurd k2 (hn i k1 k3.le)⟩
  ·rw[e,if_neg (Int.not_lt.mpr (Int.natCast_nonneg j))]
   exact(findAll_iff hf (ps:=ps) (a:=j+p.length) h2).trans ⟨λh=>⟨j,h1,h3,h⟩,λ⟨i,k1,k2,k3⟩=>k3.from (Nat.add_le_add_right (h4 i k1 k3.le k2) _)⟩
theorem ell_open {P:Nat->Cs}{t w:Cs}:ell [] (w.map P) [] t=true↔Emb P t w 0 t.length:=by
 have e:ell [] (w.map P) [] t=findAll t t.length 0 ([]::w.map P++[[]]):=by
  show(true&&([].isSuffixOf t&&(decide (0+0<=t.length)&&findAll t (t.length-0) 0 ([]::w.map P++[[]]))))=_
  rw[List.isSuffixOf_iff_suffix.mpr (List.nil_suffix ..),decide_eq_true (Nat.zero_le t.length)]
  rfl
 rw[e]
 exact(findAll_iff (a:=0) (Nat.le_refl _) (Nat.zero_le _)).trans (embP_end.trans (embP_nil.trans embP_map))
theorem ell_shut {p0 pl t:Cs}(h0:p0≠[]) (hl:pl≠[]) (ms:List Cs):ell p0 ms pl t=true↔p0 <+: t/\pl <:+ t/\p0.length+pl.length<=t.length/\EmbP t ms p0.length (t.length-pl.length):=by
 have e:rest p0 ms pl=ms:=by
  unfold rest del0 delL
  rw[if_neg h0,if_neg hl]
  exact List.dropLast_concat
 unfold ell
 rw[e,Bool.and_eq_true,Bool.and_eq_true,Bool.and_eq_true,decide_eq_true_eq,pre_dec,List.isSuffixOf_iff_suffix]
 exact and_congr_right λ_=>and_congr_right λ_=>and_congr_right λh=>findAll_iff (Nat.sub_le ..) (by omega)
theorem ell_mark {t:Cs}{c N:Nat}:ell [0] [[c,N]] [] (0::t)=true↔[c,N] <:+: t:=by
 have e:ell [0] [[c,N]] [] (0::t)=findAll (0::t) (t.length+1) 1 [[c,N],[]]:=by
  show(true&&([].isSuffixOf (0::t)&&(decide (1+0<=t.length+1)&&findAll (0::t) (t.length+1-0) 1 [[c,N],[]])))=_
  rw[List.isSuffixOf_iff_suffix.mpr (List.nil_suffix ..),decide_eq_true (Nat.le_add_left ..)]
  rfl
 rw[e]
 refine(findAll_iff (t:=0::t) (fin:=t.length+1) (a:=1) (Nat.le_refl _) (Nat.le_add_left ..)).trans ((embP_end (ps:=[[c,N]])).trans ⟨λ⟨i,h1,h2,h3⟩=>?_,λ⟨x,y,h⟩=>?_⟩)
 ·obtain⟨k,rfl⟩:∃ k,i=k+1:=⟨i-1,by omega⟩
  exact h2.isInfix.trans (List.drop_suffix k t).isInfix
 ·refine⟨x.length+1,Nat.le_add_left ..,⟨y,?_⟩,?_⟩
  ·show[c,N]++y=t.drop x.length
   rw[<-h,List.append_assoc,List.drop_left]
  ·show x.length+1+2<=t.length+1
   rw[<-h,List.length_append,List.length_append]
   show x.length+1+2<=x.length+2+y.length+1
   omega
end Mine.Th
end
section
namespace Mine.Th
open Mine Mine.Pu
variable {P:Nat->Cs}{t:Cs}
theorem emb_take {m b:Nat}(w:Cs):∀ {a:Nat},b<=m->(Emb P (t.take m) w a b↔Emb P t w a b):=by
 induction w with
 | nil=>exact λ_=>Iff.rfl
 | cons l w ih=>
  exact λh=>exists_congr λi=>and_congr_right λ_=>by
   rw[ih h,List.drop_take,List.prefix_take_iff]
   exact⟨λq=>⟨q.1.1,q.2⟩,λq=>⟨⟨q.1,Nat.le_sub_of_add_le' (nT q.2.le h)⟩,q.2⟩⟩
theorem emb_drop {k b:Nat}(w:Cs):∀ {a:Nat},Emb P (t.drop k) w a b↔Emb P t w (k+a) (k+b):=by
 induction w with
 | nil=>exact⟨λh=>Nat.add_le_add_left h k,λh=>Nat.le_of_add_le_add_left h⟩
 | cons l w ih=>
  refine⟨λ⟨i,h1,h2,h3⟩=>⟨k+i,Nat.add_le_add_left h1 k,?_,?_⟩,λ⟨i,h1,h2,h3⟩=>?_⟩
  ·rw[<-List.drop_drop];exact h2
  ·rw[Nat.add_assoc];exact ih.mp h3
  ·obtain⟨j,rfl⟩:=Nat.exists_eq_add_of_le (nT (Nat.le_add_right k _) h1)
   rw[Nat.add_assoc]at h3
   exact⟨j,Nat.le_of_add_le_add_left h1,by rw[List.drop_drop];exact h2,ih.mpr h3⟩
noncomputable def tell (P:Nat->Cs):Cs->Cs->Bool
 | [],g=>decide ([]=g)
 | l::u,g=>match u.getLast? with
  | none=>decide (P l=g)
  | some z=>ell (P l) (u.dropLast.map P) (P z) g
theorem tell_more (l:Nat) (v:Cs) (z:Nat) (g:Cs):tell P (l::(v++[z])) g=ell (P l) (v.map P) (P z) g:=by
 have e:∀ o:Option Nat,o=some z->(match o with|none=>decide (P l=g)|some z'=>ell (P l) ((v++[z]).dropLast.map P) (P z') g)=ell (P l) (v.map P) (P z) g:=λo h=>by rw[h];show ell (P l) ((v++[z]).dropLast.map P) (P z) g=_;rw[List.dropLast_concat]
 exact e _ List.getLast?_concat
theorem word_cases {M:Cs->Prop}(h0:M []) (h1:∀ l,M [l]) (h2:∀ l v z,M (l::(v++[z]))):∀ w,M w
 | []=>h0
 | l::u=>(List.eq_nil_or_concat u).elim (λe=>e▸h1 l) λ⟨v,z,e⟩=>by rw[e,List.concat_eq_append];exact h2 l v z
structure Good (P:Nat->Cs):Prop where
 ne:∀ l,P l≠[]
 dot:∀ l,46∉P l
 le:∀ l,(P l).length<=2
theorem Good.of (G:Good P){w:Cs}{p:Cs}(h:p∈w.map P):46∉p/\p.length<=2:=by obtain⟨l,_,rfl⟩:=List.mem_map.mp h;exact⟨G.dot l,G.le l⟩
theorem tail_full (G:Good P){a:Nat}:∀ w:Cs,Emb P t w a t.length->¬Emb P t w (a+1) t.length->(∀ b,b<t.length->¬Emb P t w a b)->tell P w (t.drop a)=true:=by
 have hi:∀ {l:Nat}{u:Cs}{i:Nat},¬Emb P t (l::u) (a+1) t.length->a<=i->P l <+: t.drop i->Emb P t u (i+(P l).length) t.length->i=a:=λh1 k1 k2 k3=>Nat.le_antisymm (Nat.le_of_not_lt λc=>h1 ⟨_,c,k2,k3⟩) k1
 refine word_cases (λ_ h1 _=>decide_eq_true (List.drop_eq_nil_of_le (Nat.le_of_not_lt h1)).symm) (λl h h1 h2=>?_) λl v z h h1 h2=>?_
 ·obtain⟨i,k1,k2,k3⟩:=h
  cases hi h1 k1 k2 k3
  have e:=Nat.le_antisymm k3.le (Nat.le_of_not_lt λc=>h2 _ c ⟨a,k1,k2,Nat.le_refl _⟩)
  exact decide_eq_true (k2.eq_of_length (by rw[List.length_drop];exact Nat.eq_sub_of_add_eq' e))
 ·obtain⟨i,k1,k2,k3⟩:=h
  cases hi h1 k1 k2 k3
  obtain⟨c,m1,j,m2,m3,m4⟩:=emb_app.mp k3
  have e:j+(P z).length=t.length:=Nat.le_antisymm m4 (Nat.le_of_not_lt λq=>h2 _ q ⟨a,k1,k2,emb_app.mpr ⟨c,m1,j,m2,m3,Nat.le_refl _⟩⟩)
  have ez:P z=t.drop j:=m3.eq_of_length (by rw[List.length_drop];exact Nat.eq_sub_of_add_eq' e)
  have hj:a+(P l).length<=j:=nT m1.le m2
  obtain⟨q,rfl⟩:=Nat.exists_eq_add_of_le (nT (Nat.le_add_right a _) hj)
  have hlen:(t.drop a).length=q+(P z).length:=by rw[List.length_drop,<-e,Nat.add_assoc,Nat.add_sub_cancel_left]
  rw[tell_more]
  refine(ell_shut (G.ne l) (G.ne z) _).mpr ⟨k2,?_,?_,?_⟩
  ·rw[ez,<-List.drop_drop]
   exact List.drop_suffix ..
  ·rw[hlen];exact Nat.add_le_add_right (Nat.le_of_add_le_add_left hj) _
  ·rw[hlen,Nat.add_sub_cancel]
   exact embP_map.mpr ((emb_drop v).mpr (m1.to m2))
theorem not_full_left {c:Nat}(hc:∀ l,c∉P l) (G:Good P){g:Cs}:∀ w,tell P w (c::g)=false:=by
 have no:∀ {l},¬P l <+: c::g:=λ{l} h=>by
  cases e:P l with
  | nil=>exact G.ne l e
  | cons x r=>exact hc l (by rw[e]at h ⊢;rw[(List.cons_prefix_cons.mp h).1];exact List.mem_cons_self ..)
 refine word_cases rfl (λl=>decide_eq_false λe=>no (l:=l) ⟨[],by rw[e,List.append_nil]⟩) λl v z=>?_
 rw[tell_more]
 exact Bool.eq_false_iff.mpr λe=>no ((ell_shut (G.ne l) (G.ne z) _).mp e).1
theorem not_full_right {c:Nat}(hc:∀ l,c∉P l) (G:Good P){g:Cs}:∀ w,tell P w (g++[c])=false:=by
 have tl:c∈g++[c]:=List.mem_append_right _ (List.mem_cons_self ..)
 refine word_cases (decide_eq_false λe=>absurd (e▸tl:c∈[]) List.not_mem_nil) (λl=>decide_eq_false λe=>hc l (e▸tl)) λl v z=>?_
 rw[tell_more]
 refine Bool.eq_false_iff.mpr λe=>?_
 have h:=List.reverse_prefix.mpr ((ell_shut (G.ne l) (G.ne z) _).mp e).2.1
 rw[List.reverse_append]at h
 cases e:(P z).reverse with
 | nil=>exact G.ne z (List.reverse_eq_nil_iff.mp e)
 | cons x r=>
  rw[e]at h
  exact hc z (List.mem_reverse.mp (by rw[e,(List.cons_prefix_cons.mp h).1];exact List.mem_cons_self ..))
theorem joinL_jn:∀ (ps:List Cs) (l:Cs),joinL dots (ps++[l])=jn ps l
 | [],_=>rfl
 | [p],l=>by show p++dots++l=p++(dots++l);rw[List.append_assoc]
 | p::q::ps,l=>by
  show p++dots++joinL dots (q::ps++[l])=p++(dots++jn (q::ps) l)
  rw[joinL_jn (q::ps) l,List.append_assoc]
theorem jn_len (k:Nat) (ps:List Cs) (l:Cs):(∀ p∈ps++[l],p.length<=k)->(jn ps l).length<=(k+3)*ps.length+k:=by
 induction ps with
 | nil=>exact λh=>nT (h l (List.mem_cons_self ..)) (Nat.le_add_left ..)
 | cons p ps ih=>
  intro h
  show(p++(dots++jn ps l)).length<=(k+3)*(ps.length+1)+k
  rw[List.length_append,List.length_append,Nat.mul_succ,Nat.add_right_comm,Nat.add_comm _ (k+3),<-Nat.add_assoc]
  exact Nat.add_le_add (Nat.add_le_add_right (h p (List.mem_cons_self ..)) 3) (ih λq hq=>h q (List.mem_cons_of_mem _ hq))
theorem c28_open (d:Nat) (s:AH) (G:Good P){w g:Cs}(hw:w.length<=100) (hg:g.length<=LIM):∃ s' r,callN T01 (d+1) 28 [.str (jn ([]::w.map P) []),.str g] s=some (.bool r,s')/\Ext s s'/\(r=true↔Emb P g w 0 g.length):=by
 have hp:∀ p∈[]::w.map P++[[]],46∉p/\p.length<=2:=λp h=>by
  rcases List.mem_append.mp h with h|h
  ·rcases mC h with rfl|h
   ·exact⟨List.not_mem_nil,Nat.zero_le _⟩
   ·exact G.of h
  ·cases mS h;exact⟨List.not_mem_nil,Nat.zero_le _⟩
 have hl:=jn_len 2 ([]::w.map P) [] λp h=>(hp p h).2
 rw[List.length_cons,List.length_map]at hl
 refine c28 d s [] (w.map P) [] g (λp h=>⟨(hp p h).1,nT (hp p h).2 (by decide)⟩) (by rw[List.length_map];exact Nat.lt_of_le_of_lt (Nat.add_le_add_right hw 2) (by decide)) (nT hl (nT (show _<=600 by omega) (by decide))) hg λs' e x=>?_
 exact⟨s',_,e,x,ell_open⟩
theorem c28_word {Γ:Prop}(d:Nat) (s:AH) (G:Good P){g:Cs}(hg:g.length<=LIM):∀ w:Cs,w.length<=100->
  (∀ s',callN T01 (d+1) 28 [.str (joinL dots (w.map P)),.str g] s=some (.bool (tell P w g),s')->Ext s s'->Γ)->Γ:=by
 refine word_cases (λ_ kk=>kk s (c28_no d s [] g List.not_mem_nil) (.refl s)) (λl _ kk=>kk s (c28_no d s (P l) g (G.dot l)) (.refl s)) λl v z hw kk=>?_
 have e0:(l::(v++[z])).map P=P l::v.map P++[P z]:=by rw[List.map_cons,List.map_append];rfl
 rw[tell_more,e0,joinL_jn]at kk
 have hv:v.length+2<=100:=by rw[List.length_cons,List.length_append]at hw;exact hw
 have hp:∀ p∈P l::v.map P++[P z],46∉p/\p.length<=2:=λp h=>G.of (e0▸h)
 have hl:=jn_len 2 (P l::v.map P) (P z) λp h=>(hp p h).2
 rw[List.length_cons,List.length_map]at hl
 exact c28 d s (P l) (v.map P) (P z) g (λp h=>⟨(hp p h).1,nT (hp p h).2 (by decide)⟩) (by rw[List.length_map];exact Nat.lt_of_le_of_lt hv (by decide)) (nT hl (nT (Nat.add_le_add_right (Nat.mul_le_mul_left 5 (Nat.le_of_succ_le hv)) 2) (by decide))) hg kk
end Mine.Th
end
section
namespace Mine.Pu
open PySem Mine.Th
structure Pcs (b:Nat) (P:Nat->Cs):Prop extends Good P where
 chars:∀ l,∀ c∈P l,Let 255 b c
noncomputable def PiecesAt (s:AH) (D b:Nat) (P:Nat->Cs):Prop:=s[D]?=some (.dict [(.inr [255],.str (P 255)),(.inr [b],.str (P b))])
noncomputable abbrev six (b:Nat):List Cs:=[[255],[b],[255,255],[255,b],[b,255],[b,b]]
theorem six_ok {b:Nat}{p:Cs}(h:p∈six b):p≠[]/\p.length<=2/\∀ c∈p,Let 255 b c:=by
 have A:Let 255 b 255:=.inl rfl
 have B:Let 255 b b:=.inr rfl
 have one:∀ {x:Nat},Let 255 b x->∀ c∈[x],Let 255 b c:=λhx c hc=>mS hc▸hx
 have two:∀ {x y:Nat},Let 255 b x->Let 255 b y->∀ c∈[x,y],Let 255 b c:=λhx hy c hc=>(mC hc).elim (λe=>e▸hx) (one hy c)
 rcases mC h with rfl|h
 ·exact⟨List.cons_ne_nil _ _,Nat.le_succ 1,one A⟩
 rcases mC h with rfl|h
 ·exact⟨List.cons_ne_nil _ _,Nat.le_succ 1,one B⟩
 rcases mC h with rfl|h
 ·exact⟨List.cons_ne_nil _ _,Nat.le_refl 2,two A A⟩
 rcases mC h with rfl|h
 ·exact⟨List.cons_ne_nil _ _,Nat.le_refl 2,two A B⟩
 rcases mC h with rfl|h
 ·exact⟨List.cons_ne_nil _ _,Nat.le_refl 2,two B A⟩
 cases mS h
 exact⟨List.cons_ne_nil _ _,Nat.le_refl 2,two B B⟩
theorem pickS {F:Nat}{l:List Cs}{m:Nat}(hm:0<m) (hl:m<=l.length) (z:Int):∃ p∈l,∀ s:AH,s[F]?=some (.list (l.map V.str))->idxV (.obj F) (.int (Int.fmod z m)) s=some (.str p):=by
 obtain⟨v,hv,h⟩:=pickV (F:=F) (vs:=l.map V.str) hm (by rw[List.length_map];exact hl) z
 obtain⟨x,hx,rfl⟩:=List.mem_map.mp hv
 exact⟨x,hx,h⟩
theorem set_newS {s:AH}{D:Nat}{kvs:List (Kx×V)}{k:Cs}{v:V}(h:s[D]?=some (.dict kvs)) (hl:kvs.length<LIM):setKeyV (.obj D) (.str k) v s=some (s.set D (.dict (putK kvs (.inr k) v))):=bindI rfl (bindI rfl (bindI (dict_at h) (if_pos hl)))
theorem c154 {Γ:Prop}(d:Nat){A b:Nat}(hb:47<=b/\b<=254) (n:Int){s:AH}(hA:s[A]?=some (.list (iv [255,b])))
  (kk:∀ D P s',callN T01 (d+1) 154 [.obj A,.int n] s=some (.obj D,s')->Ext s s'->PiecesAt s' D b P->Pcs b P->Γ):Γ:=by
 have hA':=lst_at hA
 have e1:ev (callN T01 d) (.tup [(.bcall .chr [(.idx (.var 0) (.lit (.int (0))))]),(.bcall .chr [(.idx (.var 0) (.lit (.int (1))))])]) (some (.obj A)::some (.int n)::List.replicate 11 none) s=some (.tup [.str [255],.str [b]],s):=
  ev_tup (evs_cons (ev_bcall (evs_one (ev_idx rfl rfl (idx_lst (k:=0) hA' rfl))) (chr_int (i:=((255:Nat):Int)) (by decide))) (evs_one (ev_bcall (evs_one (ev_idx rfl rfl (idx_lst (k:=1) hA' rfl))) (chr_int (i:=(b:Int)) ⟨Int.natCast_nonneg b,Int.ofNat_lt.mpr (Nat.lt_of_le_of_lt hb.2 (by decide))⟩)))) (lim_of rfl)
 have add2:∀ {x y:Cs}{s:AH},x.length+y.length<=2->binV .Add (.str x) (.str y) s=some (.str (x++y),s):=λh=>add_str (nT h (lim_of rfl))
 have e2:ev (callN T01 d) (.list [(.var 2),(.var 3),(.bin .Add (.var 2) (.var 2)),(.bin .Add (.var 2) (.var 3)),(.bin .Add (.var 3) (.var 2)),(.bin .Add (.var 3) (.var 3))]) (some (.obj A)::some (.int n)::some (.str [255])::some (.str [b])::List.replicate 9 none) s=some (.obj s.length,s++[O.list ((six b).map V.str)]):=
  ev_list (evs_cons rfl (evs_cons rfl (evs_cons (ev_bin rfl rfl (add2 (Nat.le_refl 2))) (evs_cons (ev_bin rfl rfl (add2 (Nat.le_refl 2))) (evs_cons (ev_bin rfl rfl (add2 (Nat.le_refl 2))) (evs_one (ev_bin rfl rfl (add2 (Nat.le_refl 2))))))))) (lim_of rfl)
 have x1:=Ext.app s [O.list ((six b).map V.str)]
 have hF:(s++[O.list ((six b).map V.str)])[s.length]?=some (.list ((six b).map V.str)):=top_at ..
 generalize s++[O.list ((six b).map V.str)]=s1 at e2 x1 hF
 have x2:=Ext.app s1 [O.dict []]
 have hD:(s1++[O.dict []])[s1.length]?=some (.dict []):=top_at ..
 have hF2:=x2.get hF
 obtain⟨p1,h1,e3⟩:=pickS (F:=s.length) (l:=six b) (m:=6) (by decide) (Nat.le_refl 6) n
 obtain⟨p2,h2,e4⟩:=pickS (F:=s.length) (l:=six b) (m:=6) (by decide) (Nat.le_refl 6) (n+1+Int.fmod (Int.fdiv n 6) 5)
 have e5:evs (callN T01 d) [(.var 2),(.idx (.var 4) (.bin .Mod (.var 1) (.lit (.int (6))))),(.var 3),(.idx (.var 4) (.bin .Mod (.bin .Add (.bin .Add (.var 1) (.lit (.int (1)))) (.bin .Mod (.bin .FloorDiv (.var 1) (.lit (.int (6)))) (.lit (.int (5))))) (.lit (.int (6)))))] (some (.obj A)::some (.int n)::some (.str [255])::some (.str [b])::some (.obj s.length)::List.replicate 8 none) (s1++[O.dict []])=some ([.str [255],.str p1,.str [b],.str p2],s1++[O.dict []]):=
  evs_cons rfl (evs_cons (ev_idx rfl (mod1 rfl (by decide)) (e3 _ hF2)) (evs_cons rfl (evs_one (ev_idx rfl (ev_bin (ev_bin (ev_bin rfl rfl rfl) (divmod rfl (by decide) (by decide)) rfl) rfl (mod_ok (by decide))) (e4 _ hF2)))))
 have hD1:((s1++[O.dict []]).set s1.length (.dict [(.inr [255],.str p1)]))[s1.length]?=some (.dict [(.inr [255],.str p1)]):=List.getElem?_set_self (List.getElem?_eq_some_iff.mp hD).1
 have hput:putK [(.inr [255],.str p1)] (.inr [b]) (.str p2)=[(.inr [255],V.str p1),(.inr [b],.str p2)]:=by
  have:¬(decide ((Sum.inr [255]:Kx) = .inr [b])||false)=true:=by
   rw[Bool.or_false,decide_eq_true_eq]
   intro e
   exact absurd ((List.cons.inj (Sum.inr.inj e)).1▸hb.2) (by decide)
  exact if_neg this
 have f5:=set_newS (k:=[b]) (v:=.str p2) hD1 (lim_of (n:=2) rfl)
 rw[hput]at f5
 have e6:ev (callN T01 d) (.dict [(.var 2),(.idx (.var 4) (.bin .Mod (.var 1) (.lit (.int (6))))),(.var 3),(.idx (.var 4) (.bin .Mod (.bin .Add (.bin .Add (.var 1) (.lit (.int (1)))) (.bin .Mod (.bin .FloorDiv (.var 1) (.lit (.int (6)))) (.lit (.int (5))))) (.lit (.int (6)))))]) (some (.obj A)::some (.int n)::some (.str [255])::some (.str [b])::some (.obj s.length)::List.replicate 8 none) s1=some (.obj s1.length,((s1++[O.dict []]).set s1.length (.dict [(.inr [255],.str p1)])).set s1.length (.dict [(.inr [255],.str p1),(.inr [b],.str p2)])):=
  bindI e5 (bindI (bindI (set_newS hD (lim_of (n:=1) rfl)) (bindI f5 rfl)) rfl)
 have hP:∀ l,(if l=255 then p1 else p2)∈six b:=λl=>by
  by_cases h:l=255
  ·rw[if_pos h];exact h1
  ·rw[if_neg h];exact h2
 refine kk s1.length (λl=>if l=255 then p1 else p2) _ (call_ret (np:=2) (ns:=11) (A:=b154) rfl rfl (exs_cons (ex_sets (is:=[2,3]) e1 rfl) (exs_cons (ex_set e2) (exs_ret (ex_ret e6))))) (x1.trans ((x2.set (Nat.le_refl _) _).set (Nat.le_refl _) _)) ?_ ⟨⟨λl=>(six_ok (hP l)).1,λl h=>?_,λl=>(six_ok (hP l)).2.1⟩,λl=>(six_ok (hP l)).2.2⟩
 ·refine(List.getElem?_set_self (List.getElem?_eq_some_iff.mp hD1).1).trans ?_
  show _=some (O.dict [(.inr [255],.str (if 255=255 then p1 else p2)),(.inr [b],.str (if b=255 then p1 else p2))])
  rw[if_pos rfl,if_neg λe=>absurd (e▸hb.2) (by decide)]
 ·rcases(six_ok (hP l)).2.2 _ h with h|h
  ·exact absurd h (by decide)
  ·exact absurd (show 47<=46 from (h:46=b)▸hb.1) (by decide)
end Mine.Pu
end
section
namespace Mine.Th
open Mine
section
variable {R:Nat->List (List Nat)}{a b:Nat}
theorem Half.all {q:List Nat}(h:Half a b q):q.length<=2/\∀ p∈q,Sy a b p:=by
 obtain⟨l,z,hl,hz,rfl|rfl⟩:=h
 ·exact⟨Nat.le_refl 2,λp hp=>(mC hp).elim (λe=>e ▸ .inl hl) λh=>mS h▸hz⟩
 ·exact⟨Nat.le_refl 2,λp hp=>(mC hp).elim (λe=>e▸hz) λh=>mS h ▸ .inl hl⟩
theorem Shape.all (S:Shape R a b){N:Nat}(h:N∈full):(R N).length=2/\∀ r∈R N,r.length<=2/\∀ p∈r,Sy a b p:=by
 have two:∀ {q u:List Nat},(q.length<=2/\∀ p∈q,Sy a b p)->(u.length<=2/\∀ p∈u,Sy a b p)->R N=[q,u]->(R N).length=2/\∀ r∈R N,r.length<=2/\∀ p∈r,Sy a b p:=λhq hu e=>by
  rw[e]
  exact⟨rfl,λr hr=>(mC hr).elim (λe=>e▸hq) λh=>mS h▸hu⟩
 rcases mC h with rfl|h
 ·obtain⟨x,y,q,hx,hy,hq,e⟩:=S.top
  exact two (q:=[x,y]) ⟨Nat.le_refl 2,λp hp=>(mC hp).elim (λe=>e▸hx) λh=>mS h▸hy⟩ hq.all e
 ·obtain⟨q,u,hq,hu,hl,e⟩:=S.two N ((mC h).imp id mS)
  exact two hq.all ⟨hl,λp hp=>.inl (hu p hp)⟩ e
noncomputable def Bd (n m a b:Nat) (l:List Cs):Prop:=l.length<=n/\∀ w∈l,w.length<=m/\∀ c∈w,Let a b c
theorem mul_len (A B:List Cs):(mul A B).length=A.length*B.length:=by
 induction A with
 | nil=>exact(Nat.zero_mul _).symm
 | cons x A ih=>show(B.map (x ++ ·)++mul A B).length=_;rw[List.length_append,List.length_map,ih,List.length_cons,Nat.succ_mul,Nat.add_comm]
theorem Bd.mul {n m n' m':Nat}{A B:List Cs}(h:Bd n m a b A) (k:Bd n' m' a b B):Bd (n*n') (m+m') a b (mul A B):=by
 refine⟨?_,λw hw=>?_⟩
 ·rw[mul_len]
  exact Nat.mul_le_mul h.1 k.1
 ·obtain⟨x,hx,y,hy,rfl⟩:=mem_mul.mp hw
  rw[List.length_append]
  exact⟨Nat.add_le_add (h.2 x hx).1 (k.2 y hy).1,λc hc=>(List.mem_append.mp hc).elim ((h.2 x hx).2 c) ((k.2 y hy).2 c)⟩
theorem Bd.le {n m n' m':Nat}{A:List Cs}(h:Bd n m a b A) (hn:n<=n') (hm:m<=m'):Bd n' m' a b A:=⟨nT h.1 hn,λw hw=>⟨nT (h.2 w hw).1 hm,(h.2 w hw).2⟩⟩
theorem bd_one:Bd 1 0 a b [[]]:=⟨Nat.le_refl 1,λw hw=>by cases mS hw;exact⟨Nat.le_refl 0,λ_ h=>absurd h List.not_mem_nil⟩⟩
theorem Bd.pr {n m:Nat}(hn:1<=n){f:Nat->List Cs}:∀ {r:List Nat},r.length<=2->(∀ p∈r,Bd n m a b (f p))->Bd (n*n) (m+m) a b (pr (r.map f))
 | [],_,_=>bd_one.le (Nat.mul_le_mul hn hn) (Nat.zero_le _)
 | [x],_,h=>((h x (List.mem_cons_self ..)).mul bd_one).le (Nat.mul_le_mul_left n hn) (Nat.le_add_right ..)
 | [x,y],_,h=>((h x (List.mem_cons_self ..)).mul ((h y (List.mem_cons_of_mem _ (List.mem_cons_self ..))).mul bd_one)).le (by rw[Nat.mul_one];exact Nat.le_refl _) (Nat.le_refl _)
 | _::_::_::r,hl,_=>absurd hl (by show ¬r.length+3<=2;omega)
noncomputable def cap:Nat->Nat
 | 0=>1
 | k+1=>2*(cap k*cap k)
theorem cap_pos:∀ k,1<=cap k
 | 0=>Nat.le_refl 1
 | k+1=>nT (Nat.mul_le_mul (cap_pos k) (cap_pos k)) (Nat.le_mul_of_pos_left _ (by decide))
theorem thin_bd (S:Shape R a b) (k:Nat):∀ {s:Nat}{A:List Nat},A.length<=k->A⊆full->Sy a b s->Bd (cap k) (2 ^ k) a b (thin R s A):=by
 have lt:∀ {s:Nat}{A:List Nat}(k:Nat),s<256->Sy a b s->Bd (cap k) (2 ^ k) a b (thin R s A):=λ{s A} k h hs=>by
  rw[thin_let h]
  refine⟨cap_pos k,λw hw=>?_⟩
  cases mS hw
  exact⟨Nat.one_le_two_pow,λc hc=>by cases mS hc;exact hs.elim id λm=>absurd h (full_ge _ m)⟩
 have no:∀ {n m:Nat},Bd n m a b []:=⟨Nat.zero_le _,λ_ h=>absurd h List.not_mem_nil⟩
 induction k with
 | zero=>
  intro s A hA _ hs
  by_cases h:s<256
  ·exact lt 0 h hs
  ·rw[List.length_eq_zero_iff.mp (Nat.le_zero.mp hA),thin_no h List.not_mem_nil];exact no
 | succ k ih=>
  intro s A hA hf hs
  by_cases h:s<256
  ·exact lt _ h hs
  ·by_cases m:s∈A
   ·obtain⟨h2,hr⟩:=S.all (hf m)
    rw[thin_yes h m]
    have hp:∀ r∈R s,Bd (cap k*cap k) (2 ^ k+2 ^ k) a b (Th.pr (r.map λp=>thin R p (A.erase s))):=λr hm=>.pr (cap_pos k) (hr r hm).1 λp hp=>ih (by rw[List.length_erase_of_mem m];omega) (λx hx=>hf (List.mem_of_mem_erase hx)) ((hr r hm).2 p hp)
    match hR:R s,h2 with
    | [q,u],_=>
     rw[hR]at hp
     have h1:=hp q (List.mem_cons_self ..)
     have h2:=hp u (List.mem_cons_of_mem _ (List.mem_cons_self ..))
     show Bd _ _ a b (_++(_++[]))
     rw[List.append_nil]
     refine⟨?_,λw hw=>?_⟩
     ·rw[List.length_append]
      exact nT (Nat.add_le_add h1.1 h2.1) (Nat.le_of_eq (Nat.two_mul _).symm)
     ·rw[Nat.pow_succ,Nat.mul_two]
      exact(List.mem_append.mp hw).elim (h1.2 w) (h2.2 w)
   ·rw[thin_no h m];exact no
end
end Mine.Th
end
section
namespace Mine.Pu
open PySem Mine.Th
noncomputable abbrev tx (l:List Cs):List V:=l.map V.str
theorem tx_get {B X Y:List Cs}{y:Cs}(e:B=X++y::Y):(tx B)[X.length]?=some (.str y):=by rw[List.getElem?_map,e,List.getElem?_append_right (Nat.le_refl _),Nat.sub_self];rfl
theorem tx_none {B:List Cs}:(tx B)[B.length]?=none:=List.getElem?_eq_none (by rw[List.length_map];exact Nat.le_refl _)
noncomputable abbrev loc164 (D sy A:Nat) (v3 v4 v5 v6 v7:Option V):Loc:=some (.obj D)::some (.int sy)::some (.obj A)::v3::v4::v5::v6::v7::List.replicate 8 none
noncomputable abbrev crossE:E:=.bin .Add (.var 8) (.var 9)
section
variable {C:Oracle}{D sy a:Nat}{v3 v4 v6:Option V}{s:AH}{f e:Nat}{A B:List Cs}
theorem cross_in {u:Cs}(hB:s[e]?=some (.list (tx B))) (hl:∀ y∈B,u.length+y.length<=LIM) (Y:List Cs):
  ∀ (k:Nat) (X:List Cs) (acc:List V),B=X++Y->Y.length<k->acc.length+Y.length<=LIM->loopM (genB C (λl s=>ev C crossE l s) (.var 9) [] [] ((loc164 D sy a v3 v4 (some (.obj f)) v6 (some (.obj e))).set 8 (some (.str u)))) k (.lst e X.length) acc s=some (.inl (acc++tx (Y.map (u ++ ·))),s):=by
 induction Y with
 | nil=>
  intro k X acc e hk _
  cases k with
  | zero=>exact absurd hk (Nat.lt_irrefl _)
  | succ k=>
   rw[List.append_nil]at e
   show _=some (Sum.inl (acc++[]),s)
   rw[List.append_nil,<-e]
   exact ll_nil (lst_at hB) tx_none
 | cons y Y ih=>
  intro k X acc e hk ha
  cases k with
  | zero=>exact absurd hk (Nat.not_lt_zero _)
  | succ k=>
   have h:=ih k (X++[y]) (acc++[.str (u++y)]) (by rw[e,List.append_assoc];rfl) (Nat.lt_of_succ_lt_succ hk) (by rw[List.length_append];exact nT (Nat.le_of_eq (Nat.succ_add_eq_add_succ ..)) ha)
   rw[List.length_append,List.append_assoc]at h
   exact ll_go (lst_at hB) (tx_get e) (gen_yes rfl (gens_end (ev_bin (ev_var rfl) (ev_var rfl) (add_str (hl y (by rw[e];exact List.mem_append_right _ (List.mem_cons_self ..))))) (Nat.lt_of_lt_of_le (Nat.lt_add_of_pos_right (Nat.succ_pos _)) ha))) h
theorem cross_out (hA:s[f]?=some (.list (tx A))) (hB:s[e]?=some (.list (tx B))) (hl:∀ x∈A,∀ y∈B,x.length+y.length<=LIM) (hb:B.length<FUEL) (Y:List Cs):
  ∀ (k:Nat) (X:List Cs) (acc:List V),A=X++Y->Y.length<k->acc.length+Y.length*B.length<=LIM->loopM (genB C (λl s=>ev C crossE l s) (.var 8) [] [.mk (.var 9) (.var 7) []] (loc164 D sy a v3 v4 (some (.obj f)) v6 (some (.obj e)))) k (.lst f X.length) acc s=some (.inl (acc++tx (mul Y B)),s):=by
 induction Y with
 | nil=>
  intro k X acc e hk _
  cases k with
  | zero=>exact absurd hk (Nat.lt_irrefl _)
  | succ k=>
   rw[List.append_nil]at e
   show _=some (Sum.inl (acc++[]),s)
   rw[List.append_nil,<-e]
   exact ll_nil (lst_at hA) tx_none
 | cons x Y ih=>
  intro k X acc e hk ha
  cases k with
  | zero=>exact absurd hk (Nat.not_lt_zero _)
  | succ k=>
   rw[List.length_cons,Nat.succ_mul,Nat.add_comm (Y.length*_),<-Nat.add_assoc]at ha
   have h:=ih k (X++[x]) (acc++tx (B.map (x ++ ·))) (by rw[e,List.append_assoc];rfl) (Nat.lt_of_succ_lt_succ hk) (by rw[List.length_append,List.length_map,List.length_map];exact ha)
   rw[List.length_append,List.append_assoc]at h
   have g:=cross_in (C:=C) (D:=D) (sy:=sy) (a:=a) (v3:=v3) (v4:=v4) (v6:=v6) (f:=f) (u:=x) hB (λy hy=>hl x (by rw[e];exact List.mem_append_right _ (List.mem_cons_self ..)) y hy) B FUEL [] acc rfl hb (nT (Nat.le_add_right ..) ha)
   show _=some (Sum.inl (acc++tx (B.map (x ++ ·)++mul Y B)),s)
   rw[show tx (B.map (x ++ ·)++mul Y B)=tx (B.map (x ++ ·))++tx (mul Y B)from List.map_append]
   exact ll_go (lst_at hA) (tx_get e) (gen_yes rfl (gens_mk rfl (ev_var rfl) (iter_lst (lst_at hB)) g)) h
theorem cross (hA:s[f]?=some (.list (tx A))) (hB:s[e]?=some (.list (tx B))) (ha:A.length<=64) (hb:B.length<=64) (hl:∀ x∈A,∀ y∈B,x.length+y.length<=LIM):ev C (.comp crossE [.mk (.var 8) (.var 5) [],.mk (.var 9) (.var 7) []]) (loc164 D sy a v3 v4 (some (.obj f)) v6 (some (.obj e))) s=some (.obj s.length,s++[.list (tx (mul A B))]):=by
 have hm:A.length*B.length<=4096:=Nat.mul_le_mul ha hb
 have g:=cross_out (C:=C) (D:=D) (sy:=sy) (a:=a) (v3:=v3) (v4:=v4) (v6:=v6) hA hB hl (Nat.lt_of_le_of_lt hb (by decide)) A FUEL [] [] rfl (Nat.lt_of_le_of_lt ha (by decide)) (nT (Nat.le_of_eq (Nat.zero_add _)) (nT hm (lim_of rfl)))
 refine ev_comp (gens_mk rfl (ev_var rfl) (iter_lst (lst_at hA)) g) ?_
 show(tx (mul A B)).length<=LIM
 rw[List.length_map,mul_len]
 exact nT hm (lim_of rfl)
end
theorem pr_snoc (L:List (List Cs)) (B:List Cs):pr (L++[B])=mul (pr L) B:=by
 induction L with
 | nil=>exact(mul_one B).trans (one_mul B).symm
 | cons A L ih=>show mul A (pr (L++[B]))=mul (mul A (pr L)) B;rw[ih,mul_assoc]
noncomputable abbrev body164:List S:=[(.assign (.var 7) (.fcall 164 [(.var 0),(.var 6),(.bin .Add (.var 2) (.list [(.var 1)]))])),(.assign (.var 5) (.comp (.bin .Add (.var 8) (.var 9)) [(.mk (.var 8) (.var 5) []),(.mk (.var 9) (.var 7) [])]))]
noncomputable def Made (C:Oracle) (D y A:Nat) (s:AH) (l:List Cs):Prop:=∃ F s',C 164 [.obj D,.int (y:Int),.obj A] s=some (.obj F,s')/\Ext s s'/\s'[F]?=some (.list (tx l))
section
variable {C:Oracle}{s0 s1:AH}{D sy A b i fr:Nat}{ab r:List Nat}{f:Nat->List Cs}
theorem parts164 {Γ:Prop}(h0:Ext s0 s1) (hA:s0[A]?=some (.list (iv ab))) (hab:ab.length<=3) (hi:s1[i]?=some (.list (iv r))) (hr:r.length<=2) (hf:∀ p∈r,Bd 8 4 255 b (f p))
  (hC:∀ (p:Nat) (s:AH) (A':Nat),p∈r->Ext s0 s->s[A']?=some (.list (iv (ab++[sy])))->Made C D p A' s (f p)) (v3 v6 v7:Option V) (hfr:s1[fr]?=some (.list (tx [[]])))
  (kk:∀ v6' v7' fr' s',ex C (.forS (.var 6) (.var 4) body164) (loc164 D sy A v3 (some (.obj i)) (some (.obj fr)) v6 v7) s1=some (.next,loc164 D sy A v3 (some (.obj i)) (some (.obj fr')) v6' v7',s')->Ext s1 s'->s'[fr']?=some (.list (tx (pr (r.map f))))->fr<=fr'->Γ):Γ:=by
 obtain⟨l,s',e,v6',v7',fr',rfl,x,hp,hg⟩:=loop_lst (f:=forB C (.var 6) body164) (i:=i) (vs:=iv r) (λk l s=>∃ v6 v7 fr',l=loc164 D sy A v3 (some (.obj i)) (some (.obj fr')) v6 v7/\Ext s1 s/\s[fr']?=some (.list (tx (pr ((r.take k).map f))))/\fr<=fr')
  (λk l s ⟨_,_,_,_,x,_⟩=>lst_at (x.get hi)) (λk v l s hv ⟨v6,v7,fr,hl,x,hp,_⟩=>by
   subst hl
   obtain⟨hk,hv⟩:=List.getElem?_eq_some_iff.mp hv
   rw[List.length_map]at hk
   rw[List.getElem_map]at hv
   subst hv
   have hm:r[k]∈r:=List.getElem_mem hk
   have g1:ev C (.bin .Add (.var 2) (.list [.var 1])) (loc164 D sy A v3 (some (.obj i)) (some (.obj fr)) (some (.int r[k])) v7) s=some (.obj (s++[O.list (iv [sy])]).length,(s++[O.list (iv [sy])])++[O.list (iv (ab++[sy]))]):=
    ev_bin rfl (ev_list rfl (lim_of rfl)) (bindI (lst_at ((Ext.app s _).get ((h0.trans x).get hA))) (bindI (new_at s (iv [sy])) (by
     rw[show iv (ab++[sy])=iv ab++iv [sy]from List.map_append]
     exact newL_ok' (by rw[List.length_append,List.length_map];exact nT (Nat.add_le_add_right hab 1) (lim_of rfl)))))
   have x2:=(Ext.app s [O.list (iv [sy])]).trans (.app _ [O.list (iv (ab++[sy]))])
   have hA2:((s++[O.list (iv [sy])])++[O.list (iv (ab++[sy]))])[(s++[O.list (iv [sy])]).length]?=some (.list (iv (ab++[sy]))):=top_at ..
   generalize (s++[O.list (iv [sy])])++[O.list (iv (ab++[sy]))]=s2 at g1 x2 hA2
   obtain⟨e,s3,e3,x3,h3⟩:=hC r[k] s2 _ hm (h0.trans (x.trans x2)) hA2
   have xx:=x2.trans x3
   have hb:=Bd.pr (n:=8) (m:=4) (r:=r.take k) (f:=f) (by decide) (nT (List.length_take_le' ..) hr) λp hp=>hf p (List.mem_of_mem_take hp)
   have hq:=hf _ hm
   have g2:=cross (C:=C) (D:=D) (sy:=sy) (a:=A) (v3:=v3) (v4:=some (.obj i)) (v6:=some (.int r[k])) (xx.get hp) h3 hb.1 (nT hq.1 (by decide)) λx hx y hy=>nT (Nat.add_le_add (hb.2 x hx).1 (hq.2 y hy).1) (lim_of rfl)
   rw[<-pr_snoc,show(r.take k).map f++[f r[k]]=(r.take (k+1)).map f by rw[List.take_succ_eq_append_getElem hk,List.map_append];rfl]at g2
   exact⟨_,_,for_next (exs_cons (ex_set (ev_fcall (evs_cons rfl (evs_cons rfl (evs_one g1))) e3)) (exs_one (ex_set g2))),_,_,_,rfl,x.trans (xx.trans (.app _ _)),top_at ..,Nat.le_of_lt (Nat.lt_of_lt_of_le (List.getElem?_eq_some_iff.mp hfr).1 (x.trans xx).1)⟩) r.length FUEL 0 _ s1 (by rw[List.length_map,Nat.zero_add]) (Nat.lt_of_le_of_lt hr (by decide)) ⟨v6,v7,fr,rfl,.refl _,hfr,Nat.le_refl _⟩
 rw[List.length_map,List.take_length]at hp
 exact kk v6' v7' fr' s' (ex_for rfl (iter_lst (lst_at hi)) e) x hp hg
theorem flat_le {α:Type}{g:α->List Cs}{n:Nat}:∀ {l:List α},(∀ r∈l,(g r).length<=n)->(l.flatMap g).length<=l.length*n
 | [],_=>Nat.zero_le _
 | a::l,h=>by
  rw[List.flatMap_cons,List.length_append,List.length_cons,Nat.succ_mul,Nat.add_comm]
  exact Nat.add_le_add (flat_le λr hr=>h r (List.mem_cons_of_mem _ hr)) (h a (List.mem_cons_self ..))
noncomputable abbrev bodyR164:List S:=[(.assign (.var 5) (.list [(.lit (.str []))])),(.forS (.var 6) (.var 4) body164),(.expr (.mcall (.var 3) .extend [(.var 5)]))]
theorem ext_lst {s:AH}{i j:Nat}{vs us:List V}(h:s[i]?=some (.list vs)) (hij:¬i=j) (hj:s[j]?=some (.list us)) (hl:vs.length+us.length<=LIM):callM (.obj i) .extend [.obj j] s=some (.none,s.set i (.list (vs++us))):=bindI h ((if_neg hij).trans (bindI (lst_at hj) (if_pos hl)))
theorem rights164 {Γ:Prop}{j W:Nat}{rs:List (List Nat)}(v4 v5 v6 v7:Option V) (hA:s0[A]?=some (.list (iv ab))) (hab:ab.length<=3) (hj:RsAt s0 j rs) (hl:rs.length<=2) (hr:∀ r∈rs,r.length<=2/\∀ p∈r,Bd 8 4 255 b (f p))
  (hC:∀ r∈rs,∀ (p:Nat) (s:AH) (A':Nat),p∈r->Ext s0 s->s[A']?=some (.list (iv (ab++[sy])))->Made C D p A' s (f p)) (oW:Own s0 W (.list (tx [])) s1)
  (kk:∀ l s',loopM (forB C (.var 4) bodyR164) FUEL (.lst j 0) (loc164 D sy A (some (.obj W)) v4 v5 v6 v7) s1=some (.inl l,s')->l[3]?=some (some (.obj W))->(Own s0 W (.list (tx (rs.flatMap λr=>pr (r.map f)))) s')->Γ):Γ:=by
 obtain⟨is,hj,hjl,hjr⟩:=hj
 have hb:∀ r∈rs,(pr (r.map f)).length<=64:=λr h=>(Bd.pr (n:=8) (m:=4) (by decide) (hr r h).1 (hr r h).2).1
 obtain⟨l,s',e,⟨v4',v5',v6',v7',rfl⟩,o⟩:=loop_lst (f:=forB C (.var 4) bodyR164) (i:=j) (vs:=is.map V.obj) (λk l s=>(∃ v4 v5 v6 v7,l=loc164 D sy A (some (.obj W)) v4 v5 v6 v7)/\Own s0 W (.list (tx ((rs.take k).flatMap λr=>pr (r.map f)))) s)
  (λk l s h=>lst_at (h.2.ext.get hj)) (λk v l s hv ⟨⟨v4,v5,v6,v7,hl⟩,o⟩=>by
   subst hl
   obtain⟨hk,hv⟩:=List.getElem?_eq_some_iff.mp hv
   rw[List.length_map]at hk
   rw[List.getElem_map]at hv
   subst hv
   have hk2:k<rs.length:=hjl▸hk
   have hm:rs[k]∈rs:=List.getElem_mem hk2
   have hi:=hjr k is[k] rs[k] (List.getElem?_eq_getElem hk) (List.getElem?_eq_getElem hk2)
   have o2:=o.step (Ext.app s [O.list (tx [[]])])
   have hW:W<s.length:=(List.getElem?_eq_some_iff.mp o.at_).1
   refine parts164 (C:=C) (D:=D) o2.ext hA hab (o2.ext.get hi) (hr _ hm).1 (hr _ hm).2 (hC _ hm) (some (.obj W)) v6 v7 (top_at s (O.list (tx [[]]))) λv6' v7' fr s' e x h hg=>?_
   have o3:=o2.step x
   have hll:(tx ((rs.take k).flatMap λr=>pr (r.map f))).length+(tx (pr (rs[k].map f))).length<=LIM:=by
    rw[List.length_map,List.length_map]
    exact nT (Nat.add_le_add (nT (flat_le λr h=>hb r (List.mem_of_mem_take h)) (Nat.mul_le_mul_right 64 (nT (List.length_take_le' ..) hl))) (hb _ hm)) (lim_of rfl)
   have g:ev C (.mcall (.var 3) .extend [.var 5]) (loc164 D sy A (some (.obj W)) (some (.obj is[k])) (some (.obj fr)) v6' v7') s'=some (.none,s'.set W (.list (tx ((rs.take k).flatMap λr=>pr (r.map f))++tx (pr (rs[k].map f))))):=
    ev_mcall rfl (evs_one (ev_var rfl)) rfl (ext_lst o3.at_ (Nat.ne_of_lt (Nat.lt_of_lt_of_le hW hg)) h hll)
   have oo:=o3.set (.list (tx ((rs.take k).flatMap λr=>pr (r.map f))++tx (pr (rs[k].map f))))
   refine⟨_,_,for_next (exs_cons (ex_set (ev_list rfl (lim_of rfl))) (exs_cons e (exs_one (ex_expr g)))),⟨_,_,_,_,rfl⟩,?_⟩
   rw[List.take_succ_eq_append_getElem hk2,List.flatMap_append,List.flatMap_cons,List.flatMap_nil,List.append_nil,show tx (((rs.take k).flatMap λr=>pr (r.map f))++pr (rs[k].map f))=_ from List.map_append]
   exact oo) is.length FUEL 0 _ s1 (by rw[List.length_map,Nat.zero_add]) (by rw[hjl];exact Nat.lt_of_le_of_lt hl (by decide)) ⟨⟨v4,v5,v6,v7,rfl⟩,oW⟩
 rw[List.length_map,hjl,List.take_length]at o
 exact kk _ s' e rfl o
end
noncomputable def avl (ab:List Nat):List Nat:=full.filter λx => !ab.contains x
theorem ints_of:∀ ab:List Nat,intsOf (iv ab)=some (ab.map λ(n:Nat)=>(n:Int))
 | []=>rfl
 | _::ab=>bindI rfl (bindI (ints_of ab) rfl)
theorem avl_snoc (ab:List Nat) (x:Nat):avl (ab++[x])=(avl ab).erase x:=by
 have h:(full:List Nat).Nodup:=by decide
 rw[List.Nodup.erase_eq_filter (l:=avl ab) (h.filter _)]
 unfold avl
 rw[List.filter_filter]
 refine List.filter_congr λy _=>?_
 rw[List.contains_append,Bool.not_or,Bool.and_comm]
 congr 1
 show(!(y==x||false))=(y != x)
 rw[Bool.or_false]
 rfl
theorem rules_at {s:AH}{D N:Nat}{R:Nat->List (List Nat)}(h:RulesAt s D R) (hN:N∈full):∃ j,RsAt s j (R N)/\∀ s',Ext s s'->idxV (.obj D) (.int (N:Int)) s'=some (.obj j):=by
 obtain⟨j1,j2,j3,h,h1,h2,h3⟩:=h
 rcases mC hN with rfl|hN
 ·exact⟨j1,h1,λs' x=>idxV_dict (x.get h) rfl rfl⟩
 rcases mC hN with rfl|hN
 ·exact⟨j2,h2,λs' x=>idxV_dict (x.get h) rfl rfl⟩
 ·cases mS hN
  exact⟨j3,h3,λs' x=>idxV_dict (x.get h) rfl rfl⟩
theorem any_cast (y:Nat):∀ ab:List Nat,(ab.map λ(n:Nat)=>(n:Int)).any (· == (y:Int))=ab.contains y
 | []=>rfl
 | a::ab=>by
  show(((a:Int)==(y:Int))||(ab.map λ(n:Nat)=>(n:Int)).any (· == (y:Int)))=((y==a)||ab.contains y)
  rw[any_cast y ab]
  congr 1
  rw[Bool.eq_iff_iff,beq_iff_eq,beq_iff_eq]
  exact Int.ofNat_inj.trans eq_comm
theorem not_in {C:Oracle}{s:AH}{D y A:Nat}{ab:List Nat}(v3 v4 v5 v6 v7:Option V) (hA:s[A]?=some (.list (iv ab))):ev C (.cmp (.var 1) [.NotIn] [.var 2]) (loc164 D y A v3 v4 v5 v6 v7) s=some (.bool (!ab.contains y),s):=
 ev_cmp1 rfl rfl (bindI (bindI (lst_at hA) (bindI (a:=(y:Int)) rfl (bindI (ints_of ab) (congrArg some (any_cast y ab))))) rfl)
theorem c164 {D b:Nat}{R:Nat->List (List Nat)}(S:Shape R 255 b) (hb:b<256) (k:Nat):∀ (d:Nat) (s:AH) (y:Nat) (ab:List Nat) (A:Nat),k<=d->RulesAt s D R->s[A]?=some (.list (iv ab))->(avl ab).length<=k->ab.length+k<=3->Sy 255 b y->
  Made (callN T01 (d+1)) D y A s (thin R y (avl ab)):=by
 have lt:∀ (d:Nat) (s:AH) (y:Nat) (ab:List Nat) (A:Nat),y<256->Made (callN T01 (d+1)) D y A s (thin R y (avl ab)):=λd s y ab A h=>by
  refine⟨s.length,s++[.list (tx [[y]])],call_ret (np:=3) (ns:=13) (A:=b164) rfl rfl (exs_ret (ex_ifT (x:=.bool true) (s1:=s) (ev_cmp1 rfl rfl (congrArg some (decide_eq_true (show(y:Int)<256 from Int.ofNat_lt.mpr h)))) rfl (exs_ret (ex_ret (ev_list (evs_one (ev_bcall (evs_one rfl) (chr_int (i:=(y:Int)) ⟨Int.natCast_nonneg y,Int.ofNat_lt.mpr (Nat.lt_trans h (by decide))⟩))) (lim_of rfl)))))),.app ..,?_⟩
  rw[top_at,thin_let h]
 have ge:∀ {d:Nat}{s:AH}{y A:Nat},¬y<256->ev (callN T01 d) (.cmp (.var 1) [.Lt] [.lit (.int 256)]) (loc164 D y A none none none none none) s=some (.bool false,s):=λ{d s y A} h=>ev_cmp1 rfl rfl (congrArg some (decide_eq_false (show ¬(y:Int)<256 from λe=>h (Int.ofNat_lt.mp e))))
 have no:∀ (d:Nat) (s:AH) (y:Nat) (ab:List Nat) (A:Nat),¬y<256->s[A]?=some (.list (iv ab))->ab.contains y=true->y∉avl ab->Made (callN T01 (d+1)) D y A s (thin R y (avl ab)):=λd s y ab A h hA hc hn=>by
  have x1:=Ext.app s [O.list (tx [])]
  have g:ev (callN T01 d) (.ite (.cmp (.var 1) [.NotIn] [.var 2]) (.idx (.var 0) (.var 1)) (.list [])) (loc164 D y A (some (.obj s.length)) none none none none) (s++[O.list (tx [])])=some (.obj (s++[O.list (tx [])]).length,(s++[O.list (tx [])])++[O.list (tx [])]):=
   ev_iteF (not_in _ _ _ _ _ (x1.get hA)) (by rw[hc];rfl) (ev_list rfl (lim_of rfl))
  refine⟨s.length,_,call_ret (np:=3) (ns:=13) (A:=b164) rfl rfl (exs_cons (ex_no (ge h)) (exs_cons (ex_set (ev_list rfl (lim_of rfl))) (exs_cons (ex_for g (iter_lst (new_at ..)) (ll_nil (new_at ..) rfl)) (exs_ret (ex_ret rfl))))),x1.trans (.app ..),?_⟩
  rw[thin_no h hn]
  exact(Ext.app (s++[O.list (tx [])]) _).get (top_at ..)
 have mem:∀ {y:Nat}{ab:List Nat},Sy 255 b y->¬y<256->(y∈full/\(ab.contains y=true/\y∉avl ab∨ab.contains y=false/\y∈avl ab)):=λ{y ab} hy h=>by
  have hf:y∈full:=hy.elim (λl=>absurd (let_lt (by decide) hb l) h) id
  refine⟨hf,?_⟩
  unfold avl
  rw[List.mem_filter]
  cases ab.contains y with
  | true=>exact .inl ⟨rfl,λm=>absurd m.2 Bool.false_ne_true⟩
  | false=>exact .inr ⟨rfl,hf,rfl⟩
 induction k with
 | zero=>
  intro d s y ab A hd hR hA hk h3 hy
  by_cases h:y<256
  ·exact lt d s y ab A h
  ·rcases(mem (ab:=ab) hy h).2 with⟨hc,hn⟩|⟨_,hn⟩
   ·exact no d s y ab A h hA hc hn
   ·rw[List.length_eq_zero_iff.mp (Nat.le_zero.mp hk)]at hn;cases hn
 | succ k ih=>
  intro d s y ab A hd hR hA hk h3 hy
  by_cases h:y<256
  ·exact lt d s y ab A h
  ·obtain⟨hf,⟨hc,hn⟩|⟨hc,hn⟩⟩:=mem (ab:=ab) hy h
   ·exact no d s y ab A h hA hc hn
   ·obtain⟨d,rfl⟩:∃ d',d=d'+1:=⟨d-1,by omega⟩
    obtain⟨j,hj,ej⟩:=rules_at hR hf
    have hlen:(avl (ab++[y])).length<=k:=by rw[avl_snoc,List.length_erase_of_mem hn];exact Nat.sub_le_of_le_add hk
    have hsub:avl (ab++[y])⊆full:=λx hx=>(List.mem_filter.mp hx).1
    have hall:=S.all hf
    have x1:=Ext.app s [O.list (tx [])]
    refine rights164 (C:=callN T01 (d+1)) (D:=D) (sy:=y) (b:=b) (f:=λp=>thin R p (avl (ab++[y]))) (W:=s.length) none none none none hA (nT (Nat.le_add_right ..) h3) hj (Nat.le_of_eq hall.1) (λr hr=>⟨(hall.2 r hr).1,λp hp=>thin_bd S 2 (nT hlen (Nat.le_of_succ_le_succ (nT (Nat.le_add_left ..) h3))) hsub ((hall.2 r hr).2 p hp)⟩)
     (λr hr p s2 A' hp x2 hA'=>ih d s2 p (ab++[y]) A' (Nat.le_of_succ_le_succ hd) (hR.ext x2) hA' hlen (by rw[List.length_append];exact nT (Nat.le_of_eq (Nat.succ_add_eq_add_succ ..)) h3) ((hall.2 r hr).2 p hp)) (.new s (.list (tx []))) λl s' e hl3 o=>?_
    have g:ev (callN T01 (d+1)) (.ite (.cmp (.var 1) [.NotIn] [.var 2]) (.idx (.var 0) (.var 1)) (.list [])) (loc164 D y A (some (.obj s.length)) none none none none) (s++[O.list (tx [])])=some (.obj j,s++[O.list (tx [])]):=
     ev_iteT (not_in _ _ _ _ _ (x1.get hA)) (by rw[hc];rfl) (ev_idx rfl rfl (ej _ x1))
    refine⟨s.length,s',call_ret (np:=3) (ns:=13) (A:=b164) rfl rfl (exs_cons (ex_no (ge h)) (exs_cons (ex_set (ev_list rfl (lim_of rfl))) (exs_cons (ex_for g (iter_lst (lst_at (x1.get hj.choose_spec.1))) e) (exs_ret (ex_ret (ev_var hl3)))))),o.ext,?_⟩
    rw[o.at_,thin_yes h hn,avl_snoc]
end Mine.Pu
end
section
namespace Mine.Pu
open PySem Mine.Th
theorem strs_of:∀ l:List Cs,strsOf (tx l)=some l
 | []=>rfl
 | _::l=>bindI rfl (bindI (strs_of l) rfl)
theorem joinL_nil:∀ l:List Cs,joinL [] l=l.flatten
 | []=>rfl
 | [x]=>(List.append_nil x).symm
 | x::y::l=>by show x++[]++joinL [] (y::l)=x++(y::l).flatten;rw[joinL_nil (y::l),List.append_nil]
theorem jn_flat (P:Nat->Cs):∀ w:Cs,(w.map λc=>P c++dots).flatten=jn (w.map P) []
 | []=>rfl
 | c::w=>by show P c++dots++(w.map λc=>P c++dots).flatten=P c++(dots++jn (w.map P) []);rw[jn_flat P w,List.append_assoc]
theorem pieces_at {s:AH}{D b:Nat}{P:Nat->Cs}(h:PiecesAt s D b P) (hb:b<=254){c:Nat}(hc:Let 255 b c):idxV (.obj D) (chV c) s=some (.str (P c)):=by
 refine idxV_dict h rfl ?_
 rcases hc with rfl|rfl
 ·rfl
 ·have e:¬decide ((Sum.inr [255]:Kx) = .inr [c])=true:=λe=>absurd ((List.cons.inj (Sum.inr.inj (of_decide_eq_true e))).1▸hb) (by decide)
  exact congrArg (Option.map λp:Kx×V=>p.2) ((List.find?_cons_of_neg (p:=λp:Kx×V=>decide (p.1 = .inr [c])) e).trans (List.find?_cons_of_pos (decide_eq_true rfl)))
theorem chars_loop {C:Oracle}{elt:Loc->AH->Option (V×AH)}{n:Nat}{loc:Loc}{s:AH}{g:Nat->Cs}(u:Cs) (h:∀ c∈u,elt (loc.set n (some (chV c))) s=some (.str (g c),s)):
  ∀ (k:Nat) (acc:List V),u.length<k->acc.length+u.length<=LIM->loopM (genB C elt (.var n) [] [] loc) k (.vals (u.map chV)) acc s=some (.inl (acc++tx (u.map g)),s):=by
 induction u with
 | nil=>
  intro k acc hk _
  cases k with
  | zero=>exact absurd hk (Nat.lt_irrefl _)
  | succ k=>show _=some (Sum.inl (acc++[]),s);rw[List.append_nil];rfl
 | cons c u ih=>
  intro k acc hk ha
  cases k with
  | zero=>exact absurd hk (Nat.not_lt_zero _)
  | succ k=>
   have e:=ih (λc hc=>h c (List.mem_cons_of_mem _ hc)) k (acc++[.str (g c)]) (Nat.lt_of_succ_lt_succ hk) (by rw[List.length_append];exact nT (Nat.le_of_eq (Nat.succ_add_eq_add_succ ..)) ha)
   rw[List.append_assoc]at e
   exact lv_go (gen_yes rfl (gens_end (h c (List.mem_cons_self ..)) (Nat.lt_of_lt_of_le (Nat.lt_add_of_pos_right (Nat.succ_pos _)) ha))) e
noncomputable abbrev loc174 (W D:Nat) (t:Cs) (c:Nat) (v4 v5 v6 v7:Option V):Loc:=some (.obj W)::some (.obj D)::some (.str t)::some (.obj c)::v4::v5::v6::v7::List.replicate 8 none
noncomputable abbrev wantE:E:=.bin .Add (.lit (.str [46,46,46])) (.mcall (.lit (.str [])) .join [(.comp (.bin .Add (.idx (.var 1) (.var 8)) (.lit (.str [46,46,46]))) [(.mk (.var 8) (.var 6) [])])])
noncomputable abbrev moreE:E:=.andE [(.cmp (.var 4) [.Gt] [(.lit (.int (0)))]),(.cmp (.fcall 28 [(.var 7),(.vcall (.var 3) [(.var 2),(.bin .Sub (.var 4) (.lit (.int (1))))])]) [.Is] [(.lit (.bool true))])]
noncomputable abbrev lessS:List S:=[(.assign (.vars [4,5]) (.tup [(.bin .Sub (.var 4) (.lit (.int (1)))),(.var 6)]))]
noncomputable abbrev want (P:Nat->Cs) (w:Cs):Cs:=jn ([]::w.map P) []
section
variable {C:Oracle}{W D c b:Nat}{t w:Cs}{P:Nat->Cs}{s:AH}
theorem want_ok {Γ:Prop}(hD:PiecesAt s D b P) (hb:b<=254) (G:Good P) (hw:w.length<=100) (hl:∀ c∈w,Let 255 b c) (v4 v5 v7:Option V)
  (kk:∀ s',ev C wantE (loc174 W D t c v4 v5 (some (.str w)) v7) s=some (.str (want P w),s')->Ext s s'->Γ):Γ:=by
 have hp:∀ p∈w.map P++[[]],p.length<=2:=λp h=>(List.mem_append.mp h).elim (λh=>(G.of h).2) λh=>mS h▸Nat.zero_le _
 have hj:(jn (w.map P) []).length<=600:=by
  have:=jn_len 2 (w.map P) [] hp
  rw[List.length_map]at this
  exact nT this (nT (Nat.add_le_add_right (Nat.mul_le_mul_left 5 hw) 2) (by decide))
 have hlim:w.length<=LIM:=nT hw (lim_of rfl)
 have g:=chars_loop (C:=C) (elt:=λl s=>ev C (.bin .Add (.idx (.var 1) (.var 8)) (.lit (.str [46,46,46]))) l s) (n:=8) (loc:=loc174 W D t c v4 v5 (some (.str w)) v7) (s:=s) (g:=λc=>P c++dots) w
  (λc hc=>ev_bin (ev_idx rfl rfl (pieces_at hD hb (hl c hc))) ev_lit (add_str (nT (Nat.add_le_add_right (G.le c) 3) (lim_of rfl)))) FUEL [] (Nat.lt_of_le_of_lt hw (by decide)) (nT (Nat.le_of_eq (Nat.zero_add _)) hlim)
 have hc:ev C (.comp (.bin .Add (.idx (.var 1) (.var 8)) (.lit (.str [46,46,46]))) [(.mk (.var 8) (.var 6) [])]) (loc174 W D t c v4 v5 (some (.str w)) v7) s=some (.obj s.length,s++[.list (tx (w.map λc=>P c++dots))]):=
  ev_comp (gens_mk rfl (ev_var rfl) rfl g) (by show(tx (w.map λc=>P c++dots)).length<=LIM;rw[List.length_map,List.length_map];exact hlim)
 have e:joinL [] (w.map λc=>P c++dots)=jn (w.map P) []:=(joinL_nil _).trans (jn_flat P w)
 have hk:=join_ok (s:=s++[.list (tx (w.map λc=>P c++dots))]) [] (new_at ..) (strs_of (w.map λc=>P c++dots)) (by rw[e];exact nT hj (lim_of rfl)) (Nat.zero_le _)
 rw[e]at hk
 exact kk _ (ev_bin ev_lit (ev_mcall ev_lit (evs_one hc) rfl hk) (add_str (nT (Nat.add_le_add_left hj 3) (lim_of rfl)))) (.app ..)
theorem while174 {Γ:Prop}{d n:Nat}{s0:AH}{M:Nat->Prop}{cf:Nat->Cs}{lam:E}(hl0:s0[c]?=some (.lam lam)) (hcut:∀ (k:Nat) (s:AH),k<=n->Ext s0 s->callN T01 (d+1) 0 [.obj c,.str t,.int (k:Int)] s=some (.str (cf k),s))
  (hM:∀ (k:Nat) (s:AH),k<=n->∃ s' r,callN T01 (d+1) 28 [.str (want P w),.str (cf k)] s=some (.bool r,s')/\Ext s s'/\(r=true↔M k)) (hmono:∀ k,k<n->M k->M (k+1)) (v7:Option V) (hv:v7=some (.str (want P w))):
  ∀ (m f:Nat) (u:Cs) (s:AH),m<f->m<=n+1->Ext s0 s->(∀ (m':Nat) (u':Cs) (s':AH),whileM (wC (callN T01 (d+1)) moreE) (λl s=>exs (callN T01 (d+1)) lessS l s) f (loc174 W D t c (some (.int (m:Int))) (some (.str u)) (some (.str w)) v7) s=some (.next,loc174 W D t c (some (.int (m':Int))) (some (.str u')) (some (.str w)) v7,s')->Ext s s'->m'<=m->(∀ k:Nat,k<m'->k<=n->¬M k)->(m'=m/\u'=u∨m'<=n/\u'=w/\M m')->Γ)->Γ:=by
 subst hv
 have gt:∀ {m:Nat}{u:Cs}{s:AH}{b:Bool},decide (m>0)=b->ev (callN T01 (d+1)) (.cmp (.var 4) [.Gt] [.lit (.int 0)]) (loc174 W D t c (some (.int (m:Int))) (some (.str u)) (some (.str w)) (some (.str (want P w)))) s=some (.bool b,s):=λ{m u s b} h=>ev_cmp1 rfl rfl (by
  show some (decide ((m:Int)>0))=_
  rw[<-h]
  exact congrArg some (decide_eq_decide.mpr (Int.ofNat_lt (n:=0))))
 have dn:∀ {m:Nat}{u:Cs}{s:AH},ev (callN T01 (d+1)) (.bin .Sub (.var 4) (.lit (.int 1))) (loc174 W D t c (some (.int ((m+1:Nat):Int))) (some (.str u)) (some (.str w)) (some (.str (want P w)))) s=some (.int (m:Int),s):=λ{m u s}=>ev_bin rfl rfl (by
  show some (V.int (((m+1:Nat):Int)-1),s)=_
  rw[Int.natCast_add,Int.natCast_one,Int.add_sub_cancel])
 intro m
 induction m with
 | zero=>
  intro f u s hf _ x kk
  obtain⟨f,rfl⟩:=fuel1 hf
  exact kk 0 u s (while_end (wC_ok (log_stop (gt (m:=0) rfl) rfl) rfl)) (.refl s) (Nat.le_refl 0) (λk h=>absurd h (Nat.not_lt_zero k)) (.inl ⟨rfl,rfl⟩)
 | succ m ih=>
  intro f u s hf hn x kk
  obtain⟨f,rfl⟩:=fuel1 hf
  have hmn:m<=n:=Nat.le_of_succ_le_succ hn
  obtain⟨s1,r,e,x1,hr⟩:=hM m s hmn
  have g:ev (callN T01 (d+1)) (.cmp (.fcall 28 [(.var 7),(.vcall (.var 3) [(.var 2),(.bin .Sub (.var 4) (.lit (.int (1))))])]) [.Is] [(.lit (.bool true))]) (loc174 W D t c (some (.int ((m+1:Nat):Int))) (some (.str u)) (some (.str w)) (some (.str (want P w)))) s=some (.bool (r==true),s1):=
   ev_cmp1 (ev_fcall (evs_cons rfl (evs_one (bindI (ev_var rfl) (bindI (evs_cons rfl (evs_one dn)) (bindI (a:=lam) (bindI (o:=asObj (.obj c)) rfl (bindI (x.get hl0) rfl)) (hcut m s hmn x)))))) e) rfl rfl
  have hb:(r==true)=r:=by cases r<;>rfl
  rw[hb]at g
  have hc:wC (callN T01 (d+1)) moreE (loc174 W D t c (some (.int ((m+1:Nat):Int))) (some (.str u)) (some (.str w)) (some (.str (want P w)))) s=some (r,s1):=wC_ok (log_go (gt (decide_eq_true (Nat.succ_pos m))) rfl (log_last g)) rfl
  cases r with
  | false=>
   refine kk (m+1) u s1 (while_end hc) x1 (Nat.le_refl _) (λk hk _ hM=>?_) (.inl ⟨rfl,rfl⟩)
   have up:∀ j,k+j<=n->M (k+j):=λj=>by
    induction j with
    | zero=>exact λ_=>hM
    | succ j ih=>exact λh=>hmono _ h (ih (Nat.le_of_succ_le h))
   have ek:=Nat.add_sub_of_le (Nat.le_of_lt_succ hk)
   have:=up (m-k) (ek.symm▸hmn)
   rw[ek]at this
   exact absurd (hr.mpr this) Bool.false_ne_true
  | true=>
   refine ih f w s1 (Nat.lt_of_succ_lt_succ hf) (Nat.le_of_succ_le hn) (x.trans x1) λm' u' s' e' x' h1 h2 h3=>kk m' u' s' (while_go hc (exs_one (ex_sets (is:=[4,5]) (ev_tup (evs_cons dn (evs_one rfl)) (lim_of rfl)) rfl)) e') (x1.trans x') (Nat.le_succ_of_le h1) h2 (.inr ?_)
   rcases h3 with⟨rfl,rfl⟩|h3
   ·exact⟨hmn,rfl,hr.mp rfl⟩
   ·exact h3
noncomputable abbrev body174:List S:=[(.assign (.var 7) wantE),(.whileS moreE lessS)]
noncomputable def Least (M:Cs->Nat->Prop) (n:Nat) (ws:List Cs) (m:Nat) (u:Cs):Prop:=m<=n+1/\(∀ w∈ws,∀ k,k<m->k<=n->¬M w k)/\(m<=n->u∈ws/\M u m)/\(u=[]∨u∈ws)
noncomputable def M174 (P:Nat->Cs) (cf:Nat->Cs) (w:Cs) (k:Nat):Prop:=Emb P (cf k) w 0 (cf k).length
noncomputable def Inv174 (s0:AH) (W D c n:Nat) (t:Cs) (ws:List Cs) (M:Cs->Nat->Prop) (j:Nat) (l:Loc) (s:AH):Prop:=∃ (m:Nat) (u:Cs) (v6 v7:Option V),l=loc174 W D t c (some (.int (m:Int))) (some (.str u)) v6 v7/\Ext s0 s/\Least M n (ws.take j) m u
theorem Least.next {M:Cs->Nat->Prop}{n j m m':Nat}{ws:List Cs}{u u':Cs}(L:Least M n (ws.take j) m u) (hj:j<ws.length) (k1:m'<=m) (k2:∀ k:Nat,k<m'->k<=n->¬M ws[j] k) (k3:m'=m/\u'=u∨m'<=n/\u'=ws[j]/\M ws[j] m'):Least M n (ws.take (j+1)) m' u':=by
 rw[List.take_succ_eq_append_getElem hj]
 obtain⟨h1,h2,h3,h4⟩:=L
 have hin:ws[j]∈ws.take j++[ws[j]]:=List.mem_append_right _ (List.mem_singleton.mpr rfl)
 refine⟨nT k1 h1,λw hw k hk hkn=>?_,λhm'=>?_,?_⟩
 ·rcases List.mem_append.mp hw with h|h
  ·exact h2 w h k (Nat.lt_of_lt_of_le hk k1) hkn
  ·rw[mS h];exact k2 k hk hkn
 ·rcases k3 with⟨rfl,rfl⟩|⟨_,rfl,h⟩
  ·exact⟨List.mem_append_left _ (h3 hm').1,(h3 hm').2⟩
  ·exact⟨hin,h⟩
 ·rcases k3 with⟨_,rfl⟩|⟨_,rfl,_⟩
  ·exact h4.imp id (List.mem_append_left _)
  ·exact .inr hin
theorem c174 {Γ:Prop}{d n W D c b:Nat}{t:Cs}{P:Nat->Cs}{s0:AH}{cf:Nat->Cs}{lam:E}{ws:List Cs}(hn:t.length=n) (hn8:n<=8) (hW:s0[W]?=some (.list (tx ws))) (hws:ws.length<FUEL) (hD:PiecesAt s0 D b P) (hb:b<=254) (G:Good P) (hw:∀ w∈ws,w.length<=100/\∀ c∈w,Let 255 b c) (hl0:s0[c]?=some (.lam lam))
  (hcut:∀ (k:Nat) (s:AH),k<=n->Ext s0 s->callN T01 (d+1) 0 [.obj c,.str t,.int (k:Int)] s=some (.str (cf k),s)) (hcl:∀ k,k<=n->(cf k).length<=LIM) (hmono:∀ w k,k<n->M174 P cf w k->M174 P cf w (k+1))
  (kk:∀ (m:Nat) (u:Cs) (s':AH),callN T01 (d+2) 174 [.obj W,.obj D,.str t,.obj c] s0=some (.tup [.int (m:Int),.str u],s')->Ext s0 s'->(Least (M174 P cf) n ws m u)->Γ):Γ:=by
 have ht:t.length<=LIM:=by rw[hn];exact nT hn8 (lim_of rfl)
 obtain⟨l,s',e,hI⟩:=loop_lst (f:=forB (callN T01 (d+1)) (.var 6) body174) (i:=W) (vs:=tx ws) (Inv174 s0 W D c n t ws (M174 P cf))
  (λk l s ⟨_,_,_,_,_,x,_⟩=>lst_at (x.get hW)) (λj v l s hv hI=>cps λ_ go=>by
   obtain⟨m,u,v6,v7,hl,x,L⟩:=hI
   subst hl
   obtain⟨hj,hv⟩:=List.getElem?_eq_some_iff.mp hv
   rw[List.length_map]at hj
   rw[List.getElem_map]at hv
   subst hv
   have hwj:=hw _ (List.getElem_mem hj)
   exact want_ok (C:=callN T01 (d+1)) (W:=W) (t:=t) (c:=c) (hD:=(show PiecesAt s D b P from x.get hD)) hb G hwj.1 hwj.2 (some (.int (m:Int))) (some (.str u)) v7 λs1 e1 x1=>
    while174 (W:=W) (D:=D) (c:=c) (t:=t) (w:=ws[j]) (P:=P) (M:=M174 P cf ws[j]) hl0 hcut (λk s hk=>c28_open d s G hwj.1 (hcl k hk)) (hmono _) _ rfl m FUEL u s1 (Nat.lt_of_le_of_lt L.1 (Nat.lt_of_le_of_lt (Nat.succ_le_succ hn8) (by decide))) L.1 (x.trans x1) λm' u' s2 e2 x2 k1 k2 k3=>
     go ⟨_,s2,for_next (exs_cons (ex_set e1) (exs_one (ex_while e2))),m',u',_,_,rfl,x.trans (x1.trans x2),L.next hj k1 k2 k3⟩) ws.length FUEL 0 (loc174 W D t c (some (.int ((n+1:Nat):Int))) (some (.str [])) none none) s0 (by rw[List.length_map,Nat.zero_add]) hws ⟨n+1,[],none,none,rfl,.refl _,Nat.le_refl _,λw hw=>absurd (show w∈([]:List Cs)from hw) List.not_mem_nil,λh=>absurd h (Nat.not_succ_le_self n),.inl rfl⟩
 obtain⟨m,u,v6,v7,rfl,x,L⟩:=hI
 rw[List.length_map,List.take_length]at L
 have g:ev (callN T01 (d+1)) (.tup [.bin .Add (.bcall .len [.var 2]) (.lit (.int 1)),.lit (.str [])]) (loc174 W D t c none none none none) s0=some (.tup [.int ((n+1:Nat):Int),.str []],s0):=
  ev_tup (evs_cons (ev_bin (ev_bcall (evs_one rfl) (if_pos ht)) ev_lit (by rw[hn];rfl)) (evs_one rfl)) (lim_of rfl)
 exact kk m u s' (call_ret (np:=4) (ns:=12) (A:=b174) rfl rfl (exs_cons (ex_sets (is:=[4,5]) g rfl) (exs_cons (ex_for rfl (iter_lst (lst_at hW)) e) (exs_ret (ex_ret (ev_tup (evs_cons rfl (evs_one rfl)) (lim_of rfl))))))) x L
end
end Mine.Pu
end
section
namespace Mine.Th
open Mine Mine.Pu
section
variable (P:Nat->Cs) (t:Cs)
noncomputable def lendR (p:Nat):Nat->Nat
 | 0=>9
 | k+1=>if P p <+: t.drop (7-k)then 7-k+(P p).length else lendR p k
noncomputable def lend (p a:Nat):Nat:=lendR P t p (8-a)
end
variable {P:Nat->Cs}{t:Cs}{R:Nat->List (List Nat)}{E E0:Nat->Nat->Nat}
theorem lend_step (p:Nat){a:Nat}(ha:a<=7):lend P t p a=if P p <+: t.drop a then a+(P p).length else lend P t p (a+1):=by
 unfold lend
 rw[show 8-a=7-a+1 from Nat.succ_sub ha,show 8-(a+1)=7-a from Nat.succ_sub_succ 7 a]
 show(if P p <+: t.drop (7-(7-a))then 7-(7-a)+(P p).length else lendR P t p (7-a))=_
 rw[Nat.sub_sub_self ha]
theorem lendR_le (ht:t.length=8) (G:Good P) (p:Nat):∀ k,lendR P t p k<=9
 | 0=>Nat.le_refl 9
 | k+1=>by
  show(if P p <+: t.drop (7-k)then 7-k+(P p).length else lendR P t p k)<=9
  by_cases h:P p <+: t.drop (7-k)
  ·rw[if_pos h]
   have:=G.le p
   exact Nat.add_le_add (Nat.sub_le ..) this
  ·rw[if_neg h];exact lendR_le ht G p k
theorem lend_iff (ht:t.length=8) (G:Good P){p a b:Nat}(hb:b<=8):lend P t p a<=b↔Emb P t [p] a b:=by
 have n9:¬9<=b:=λh=>absurd (nT h hb) (by decide)
 have main:∀ k a,a+k=8->(lend P t p a<=b↔Emb P t [p] a b):=λk=>by
  induction k with
  | zero=>
   intro a e
   cases (e:a=8)
   refine⟨λh=>absurd h n9,λ⟨i,h1,h2,_⟩=>absurd ?_ (G.ne p)⟩
   rw[List.drop_eq_nil_of_le (ht▸h1)]at h2
   exact List.prefix_nil.mp h2
  | succ k ih=>
   intro a e
   have ha:a<=7:=Nat.le_of_succ_le_succ (e▸Nat.succ_le_succ (Nat.le_add_right a k):a+1<=8)
   rw[lend_step p ha]
   by_cases h:P p <+: t.drop a
   ·rw[if_pos h]
    exact⟨λhb=>⟨a,Nat.le_refl a,h,hb⟩,λ⟨i,h1,_,h3⟩=>nT (Nat.add_le_add_right h1 _) h3⟩
   ·rw[if_neg h,ih (a+1) ((Nat.succ_add_eq_add_succ a k).trans e)]
    exact⟨λh=>h.from (Nat.le_succ a),λ⟨i,h1,h2,h3⟩=>⟨i,Nat.lt_of_le_of_ne h1 λe=>h (e▸h2),h2,h3⟩⟩
 by_cases ha:a<=8
 ·exact main (8-a) a (Nat.add_sub_of_le ha)
 ·unfold lend
  rw[Nat.sub_eq_zero_of_le (Nat.le_of_not_le ha)]
  exact⟨λh=>absurd h n9,λh=>absurd (nT h.le hb) ha⟩
structure GoodE (R:Nat->List (List Nat)) (P:Nat->Cs) (t:Cs) (E:Nat->Nat->Nat):Prop where
 let_:∀ q,q<256->∀ c,E q c=lend P t q c
 le:∀ q c,E q c<=9
 sound:∀ p a b,b<=8->E p a<=b->Lies R P t full p a b
noncomputable def upd (E:Nat->Nat->Nat) (N a v:Nat):Nat->Nat->Nat:=λq c=>if q=N/\c=a then v else E q c
noncomputable def tot (E:Nat->Nat->Nat):Nat:=(full.map λN=>((List.range 10).map (E N)).sum).sum
theorem good_start (ht:t.length=8) (G:Good P):GoodE R P t λq c=>if q<256 then lend P t q c else 9 where
 let_ q h c:=if_pos h
 le q c:=by
  by_cases h:q<256
  ·rw[if_pos h];exact lendR_le ht G q _
  ·rw[if_neg h];exact Nat.le_refl 9
 sound p a b hb h:=by
  by_cases hp:p<256
  ·rw[if_pos hp]at h
   exact⟨[p],by rw[thin_let hp];exact List.mem_singleton.mpr rfl,(lend_iff ht G hb).mp h⟩
  ·rw[if_neg hp]at h
   exact absurd (nT h hb) (by decide)
theorem sum_le {f g:Nat->Nat}:∀ {l:List Nat},(∀ i∈l,f i<=g i)->(l.map f).sum<=(l.map g).sum/\∀ i∈l,f i<g i->(l.map f).sum<(l.map g).sum
 | [],_=>⟨Nat.le_refl 0,λ_ h=>absurd h List.not_mem_nil⟩
 | a::l,h=>by
  obtain⟨h1,h2⟩:=sum_le λi hi=>h i (List.mem_cons_of_mem _ hi)
  have h0:=h a (List.mem_cons_self ..)
  refine⟨Nat.add_le_add h0 h1,λi hi hl=>?_⟩
  rcases mC hi with rfl|hi
  ·exact Nat.add_lt_add_of_lt_of_le hl h1
  ·exact Nat.add_lt_add_of_le_of_lt h0 (h2 i hi hl)
theorem tot_upd {N a v:Nat}(hN:N∈full) (ha:a<10) (h:v<E N a):tot (upd E N a v)<tot E:=by
 have pw:∀ q c,upd E N a v q c<=E q c:=λq c=>by
  unfold upd
  by_cases e:q=N/\c=a
  ·rw[if_pos e,e.1,e.2];exact Nat.le_of_lt h
  ·rw[if_neg e];exact Nat.le_refl _
 exact(sum_le (l:=full) λq _=>(sum_le (l:=List.range 10) λc _=>pw q c).1).2 N hN ((sum_le (l:=List.range 10) λc _=>pw N c).2 a (List.mem_range.mpr ha) (Nat.lt_of_le_of_lt (Nat.le_of_eq (if_pos ⟨rfl,rfl⟩)) h))
theorem GoodE.upd (g:GoodE R P t E){N a:Nat}{r:List Nat}(hN:N∈full) (hr:r∈R N) (h:along E r a<E N a):GoodE R P t (Th.upd E N a (along E r a)) where
 let_ q hq c:=(if_neg λe:q=N/\c=a=>full_ge N hN (e.1▸hq)).trans (g.let_ q hq c)
 le q c:=by
  unfold Th.upd
  by_cases e:q=N/\c=a
  ·rw[if_pos e];exact nT (Nat.le_of_lt h) (g.le ..)
  ·rw[if_neg e];exact g.le ..
 sound p c b hb hh:=by
  unfold Th.upd at hh
  by_cases e:p=N/\c=a
  ·rw[if_pos e]at hh
   rw[e.1,e.2]
   exact sound_step g.sound (full_ge N hN) hN hr hb hh
  ·rw[if_neg e]at hh;exact g.sound p c b hb hh
theorem GoodE.least (g:GoodE R P t E) (ht:t.length=8) (G:Good P) (hc:∀ N∈full,∀ a,a<=8->∀ r∈R N,E N a<=along E r a){a b:Nat}(hb:b<=8):E 256 a<=b↔Lies R P t full 256 a b:=
 ⟨g.sound 256 a b hb,λ⟨w,hw,he⟩=>closed_le (λs a b hs hb he=>by rw[g.let_ s hs];exact(lend_iff ht G hb).mpr he) hc 3 256 full w a b (Nat.le_refl 3) (List.Sublist.refl _) hw hb he⟩
theorem along_snoc (p:Nat):∀ (r:List Nat) (a:Nat),along E (r++[p]) a=E p (along E r a)
 | [],_=>rfl
 | _::r,_=>along_snoc p r _
theorem along_le (h:∀ q c,E q c<=9):∀ (r:List Nat) (a:Nat),a<=9->along E r a<=9
 | [],_,ha=>ha
 | p::r,a,_=>along_le h r (E p a) (h p a)
end Mine.Th
end
section
namespace Mine.Pu
open PySem Mine.Th
noncomputable def rowV (f:Nat->Nat):List V:=(List.range 10).map λa=>V.int (f a:Int)
noncomputable def keysV (j:Nat->Nat) (ks:List Nat):List (Kx×V):=ks.map λ(p:Nat)=>(.inl (p:Int),.obj (j p))
structure Tab (s0:AH) (D:Nat) (j:Nat->Nat) (ks:List Nat) (E:Nat->Nat->Nat) (s:AH):Prop where
 ext:Ext s0 s
 hD:s0.length<=D
 dict:s[D]?=some (.dict (keysV j ks))
 row:∀ p∈ks,s[j p]?=some (.list (rowV (E p)))
 own:∀ p∈ks,s0.length<=j p
 inj:∀ p∈ks,∀ q∈ks,j p=j q->p=q
theorem key_eq {k p:Nat}:((.inl (k:Int):Kx) = .inl (p:Int))↔k=p:=⟨λe=>Int.ofNat.inj (Sum.inl.inj e),λe=>e▸rfl⟩
theorem getK_keys {j:Nat->Nat}{p:Nat}:∀ {ks:List Nat},p∈ks->getK (keysV j ks) (.inl (p:Int))=some (.obj (j p))
 | [],h=>absurd h List.not_mem_nil
 | k::ks,h=>by
  by_cases e:k=p
  ·subst e
   exact congrArg (Option.map λq:Kx×V=>q.2) (List.find?_cons_of_pos (p:=λq:Kx×V=>decide (q.1 = .inl (k:Int))) (a:=(.inl (k:Int),.obj (j k))) (decide_eq_true rfl))
  ·have ih:=getK_keys (j:=j) (ks:=ks) ((mC h).resolve_left (Ne.symm e))
   exact(congrArg (Option.map λq:Kx×V=>q.2) (List.find?_cons_of_neg (p:=λq:Kx×V=>decide (q.1 = .inl (p:Int))) (a:=(.inl (k:Int),.obj (j k))) λc=>e (key_eq.mp (of_decide_eq_true c)))).trans ih
theorem putK_keys {j:Nat->Nat}{ks:List Nat}{p:Nat}(h:p∉ks) (v:V):putK (keysV j ks) (.inl (p:Int)) v=keysV j ks++[(.inl (p:Int),v)]:=by
 refine if_neg λc=>h ?_
 obtain⟨q,hq,e⟩:=List.any_eq_true.mp c
 obtain⟨k,hk,rfl⟩:=List.mem_map.mp hq
 exact key_eq.mp (of_decide_eq_true e)▸hk
section
variable {s0 s:AH}{D:Nat}{j:Nat->Nat}{ks:List Nat}{E:Nat->Nat->Nat}{p a:Nat}
theorem Tab.idx (T:Tab s0 D j ks E s) (hp:p∈ks):idxV (.obj D) (.int (p:Int)) s=some (.obj (j p)):=idxV_dict T.dict rfl (getK_keys hp)
theorem row_get {f:Nat->Nat}(ha:a<=9):(rowV f)[a]?=some (.int (f a:Int)):=by
 show((List.range 10).map λa=>V.int (f a:Int))[a]?=_
 rw[List.getElem?_map,List.getElem?_range (Nat.lt_succ_of_le ha)]
 rfl
theorem Tab.get (T:Tab s0 D j ks E s) (hp:p∈ks) (ha:a<=9):idxV (.obj (j p)) (.int (a:Int)) s=some (.int (E p a:Int)):=idx_lst (lst_at (T.row p hp)) (row_get ha)
theorem row_set {f:Nat->Nat}{v:Nat}:(rowV f).set a (.int (v:Int))=rowV λc=>if c=a then v else f c:=by
 unfold rowV
 refine List.ext_getElem (by rw[List.length_set,List.length_map,List.length_map]) λi h1 h2=>?_
 rw[List.getElem_set,List.getElem_map,List.getElem_range,List.getElem_map,List.getElem_range]
 show(if a=i then V.int (v:Int)else V.int (f i:Int))=V.int ((if i=a then v else f i:Nat):Int)
 by_cases e:a=i
 ·rw[if_pos e,if_pos e.symm]
 ·rw[if_neg e,if_neg (Ne.symm e)]
theorem Tab.set (T:Tab s0 D j ks E s) (hp:p∈ks) (ha:a<=9) (v:Nat):∃ s',setIdxV (.obj (j p)) (.int (a:Int)) (.int (v:Int)) s=some s'/\Tab s0 D j ks (upd E p a v) s':=by
 have h:=T.row p hp
 have hn:dictAt (.obj (j p)) s=none:=dict_no (lst_at h)
 have hlt:=(List.getElem?_eq_some_iff.mp h).1
 refine⟨s.set (j p) (.list (rowV λc=>if c=a then v else E p c)),?_,T.ext.set (T.own p hp) _,T.hD,?_,λq hq=>?_,T.own,T.inj⟩
 ·unfold setIdxV
  rw[hn]
  rw[<-row_set]
  exact set_lst (lst_at h) (Nat.lt_succ_of_le ha)
 ·exact(List.getElem?_set_ne λe=>by rw[e,T.dict]at h;cases h).trans T.dict
 ·by_cases e:q=p
  ·subst e
   refine(List.getElem?_set_self hlt).trans (congrArg some (congrArg O.list (congrArg rowV (funext λc=>?_))))
   show(if c=a then v else E q c)=if q=q/\c=a then v else E q c
   by_cases hc:c=a
   ·rw[if_pos hc,if_pos ⟨rfl,hc⟩]
   ·rw[if_neg hc,if_neg λh=>hc h.2]
  ·refine(List.getElem?_set_ne λc=>e (T.inj q hq p hp c.symm)).trans ((T.row q hq).trans (congrArg some (congrArg O.list (congrArg rowV (funext λc=>?_)))))
   exact(if_neg λh=>e h.1).symm
theorem Tab.congr {E':Nat->Nat->Nat}(T:Tab s0 D j ks E s) (h:∀ p∈ks,∀ a,E p a=E' p a):Tab s0 D j ks E' s:=⟨T.ext,T.hD,T.dict,λp hp=>(T.row p hp).trans (congrArg some (congrArg O.list (congrArg rowV (funext (h p hp))))),T.own,T.inj⟩
end
end Mine.Pu
end
section
namespace Mine.Pu
open PySem Mine.Th
noncomputable abbrev loc169 (D Dp:Nat) (t:Cs) (v3 v4 v5 v6 v7 v8 v9 v10 v11 v12:Option V):Loc:=some (.obj D)::some (.obj Dp)::some (.str t)::v3::v4::v5::v6::v7::v8::v9::v10::v11::v12::List.replicate 8 none
noncomputable abbrev nines:Nat->Nat->Nat:=λ_ _=>9
noncomputable def dcB (C:Oracle) (k v:E) (t:Tgt) (loc:Loc) (D:Nat):V->List V->AH->Option ((List V⊕Empty)×AH):=λx acc s=>(assignT t x loc s).bind λl=>(((ev C k l s).bind λq=>(ev C v l q.2).bind λr=>(setKeyV (.obj D) q.1 r.1 r.2).bind λs'=>some (V.none,s')).bind λq=>if acc.length<LIM then some (acc++[q.1],q.2)else none).bind λr=>some (.inl r.1,r.2)
section
variable {C:Oracle}{k v it:E}{t:Tgt}{loc:Loc}{s s1 s2 s3:AH}{x y z:V}{acc:List V}{j:It}{n D:Nat}
theorem ev_dcomp (hu:unsetT t loc=true) (h:ev C it loc s=some (x,s1)) (hi:iterOf x s1=some j) (hl:loopM (dcB C k v t loc s1.length) FUEL j [] (s1++[.dict []])=some (.inl acc,s2)):ev C (.dcomp k v t it) loc s=some (.obj s1.length,s2):=(if_pos hu).trans (bindI h (bindI hi (bindI hl rfl)))
theorem dc_go (hk:ev C k (loc.set n (some x)) s=some (y,s1)) (hv:ev C v (loc.set n (some x)) s1=some (z,s2)) (hs:setKeyV (.obj D) y z s2=some s3) (ha:acc.length<LIM):dcB C k v (.var n) loc D x acc s=some (.inl (acc++[.none]),s3):=bindI rfl (bindI (bindI (bindI hk (bindI hv (bindI hs rfl))) (if_pos ha)) rfl)
theorem ld_go {α β:Type}{f:V->α->AH->Option ((α⊕β)×AH)}{a a1:α}{i k m:Nat}{r:Option ((α⊕β)×AH)}{kvs:List (Kx×V)}{p:Kx×V}(h:s[i]?=some (.dict kvs)) (hn:kvs.length=n) (hp:kvs[k]?=some p) (hf:f (ofKx p.1) a s=some (.inl a1,s1)) (q:loopM f m (.dct i n (k+1)) a1 s1=r):loopM f (m+1) (.dct i n k) a s=r:=
 bindI (a:=some (ofKx p.1,.dct i n (k+1))) (bindI (dict_at h) ((if_pos hn).trans (by rw[hp]))) (bindI hf q)
theorem ld_nil {α β:Type}{f:V->α->AH->Option ((α⊕β)×AH)}{a:α}{i m:Nat}{kvs:List (Kx×V)}(h:s[i]?=some (.dict kvs)):loopM f (m+1) (.dct i kvs.length kvs.length) a s=some (.inl a,s):=
 bindI (a:=none) (bindI (dict_at h) ((if_pos rfl).trans (by rw[List.getElem?_eq_none (Nat.le_refl _)]))) rfl
theorem iter_dict {i:Nat}{kvs:List (Kx×V)}(h:s[i]?=some (.dict kvs)):iterOf (.obj i) s=some (.dct i kvs.length 0):=by
 show(match dictAt (.obj i) s with|some kvs=>some (It.dct i kvs.length 0)|none=>(lstAt (.obj i) s).bind λ_=>some (.lst i 0))=_
 rw[dict_at h]
end
noncomputable abbrev rowE:E:=.bin .Mult (.list [(.var 3)]) (.bin .Add (.var 3) (.lit (.int (1))))
section
variable {C:Oracle}{s0:AH}{D Dr Dp i:Nat}{t:Cs}{loc:Loc}{all:List Nat}
theorem keys_loop (h3:∀ x:V,(loc.set 13 (some x))[3]?=some (some (.int 9))) (h13:∀ x:V,(loc.set 13 (some x))[13]?=some (some x)) (hi:s0[i]?=some (.list (iv all))) (hall:all.Nodup) (hl:all.length<=9) (ks:List Nat):
  ∀ (n:Nat) (done:List Nat) (j:Nat->Nat) (acc:List V) (s:AH),all=done++ks->ks.length<n->acc.length=done.length->Tab s0 D j done nines s->∃ j' acc' s',loopM (dcB C (.var 13) rowE (.var 13) loc D) n (.lst i done.length) acc s=some (.inl acc',s')/\Tab s0 D j' all nines s':=by
 induction ks with
 | nil=>
  intro n done j acc s e hn _ T
  cases n with
  | zero=>exact absurd hn (Nat.lt_irrefl _)
  | succ n=>
   rw[List.append_nil]at e
   exact⟨j,acc,s,ll_nil (lst_at (T.ext.get hi)) (List.getElem?_eq_none (by rw[List.length_map,e];exact Nat.le_refl _)),e▸T⟩
 | cons p ks ih=>
  intro n done j acc s e hn ha T
  cases n with
  | zero=>exact absurd hn (Nat.not_lt_zero _)
  | succ n=>
   have hp:p∉done:=λh=>(List.nodup_append.mp (e▸hall)).2.2 p h p (List.mem_cons_self ..) rfl
   have hd:done.length<LIM:=Nat.lt_of_lt_of_le (Nat.lt_of_lt_of_le (by rw[e,List.length_append];exact Nat.lt_add_of_pos_right (Nat.succ_pos _)) hl) (lim_of rfl)
   have hv:(iv all)[done.length]?=some (.int (p:Int)):=by rw[List.getElem?_map,e,List.getElem?_append_right (Nat.le_refl _),Nat.sub_self];rfl
   have x2:Ext s ((s++[O.list [.int 9]])++[O.list (rowV (nines p))]):=(Ext.app s _).trans (.app _ _)
   have g:ev C rowE (loc.set 13 (some (.int (p:Int)))) s=some (.obj (s.length+1),(s++[O.list [.int 9]])++[O.list (rowV (nines p))]):=
    ev_bin (ev_list (evs_one (ev_var (h3 _))) (lim_of rfl)) (ev_bin (ev_var (h3 _)) ev_lit rfl) (bindI (new_at s [V.int 9]) (bindI (a:=(10:Int)) rfl ((if_pos ⟨lim_of rfl,lim_of rfl⟩).trans ((newL_ok' (vs:=rep 10 [V.int 9]) (lim_of rfl)).trans (by rw[List.length_append];rfl)))))
   have htop:((s++[O.list [.int 9]])++[O.list (rowV (nines p))])[s.length+1]?=some (.list (rowV (nines p))):=by
    have:=top_at (s++[O.list [.int 9]]) (O.list (rowV (nines p)))
    rwa [List.length_append]at this
   generalize (s++[O.list [.int 9]])++[O.list (rowV (nines p))]=s2 at g x2 htop
   have hD:=x2.get T.dict
   have hs:setKeyV (.obj D) (.int (p:Int)) (.obj (s.length+1)) s2=some (s2.set D (.dict (keysV j done++[(.inl (p:Int),.obj (s.length+1))]))):=by
    rw[<-putK_keys hp]
    exact set_new hD (by unfold keysV;rw[List.length_map];exact hd)
   have lt:∀ q∈done,j q<s.length:=λq hq=>(List.getElem?_eq_some_iff.mp (T.row q hq)).1
   have ne:∀ {q:Nat}{vs:List V},s2[q]?=some (.list vs)->D≠q:=λh e=>by rw[<-e,hD]at h;cases h
   obtain⟨jn,jd,jp⟩:∃ jn:Nat->Nat,(∀ q∈done,jn q=j q)/\jn p=s.length+1:=⟨λq=>if q=p then s.length+1 else j q,λq hq=>if_neg λe:q=p=>hp (e▸hq),if_pos rfl⟩
   have T1:Tab s0 D jn (done++[p]) nines (s2.set D (.dict (keysV j done++[(.inl (p:Int),.obj (s.length+1))]))):=
    ⟨(T.ext.trans x2).set T.hD _,T.hD,by
     rw[show keysV jn (done++[p])=keysV j done++[(.inl (p:Int),.obj (s.length+1))]from List.map_append.trans (congr (congrArg HAppend.hAppend (List.map_congr_left λq hq=>by rw[jd q hq])) (by rw[<-jp];rfl))]
     exact List.getElem?_set_self (List.getElem?_eq_some_iff.mp hD).1,λq hq=>by
     rcases List.mem_append.mp hq with h|h
     ·rw[jd q h]
      have:=x2.get (T.row q h)
      exact(List.getElem?_set_ne (ne this)).trans this
     ·rw[mS h,jp]
      exact(List.getElem?_set_ne (ne htop)).trans htop,λq hq=>by
     rcases List.mem_append.mp hq with h|h
     ·rw[jd q h];exact T.own q h
     ·rw[mS h,jp];exact Nat.le_succ_of_le T.ext.1,λq hq r hr h=>by
     rcases List.mem_append.mp hq with h1|h1<;>rcases List.mem_append.mp hr with h2|h2
     ·rw[jd q h1,jd r h2]at h
      exact T.inj q h1 r h2 h
     ·rw[jd q h1,mS h2,jp]at h
      exact absurd (lt q h1) (h▸Nat.not_lt_of_le (Nat.le_succ _))
     ·rw[jd r h2,mS h1,jp]at h
      exact absurd (lt r h2) (h▸Nat.not_lt_of_le (Nat.le_succ _))
     ·rw[mS h1,mS h2]⟩
   obtain⟨j',acc',s',e2,T2⟩:=ih n (done++[p]) jn (acc++[.none]) _ (by rw[e,List.append_assoc];rfl) (Nat.lt_of_succ_lt_succ hn) (by rw[List.length_append,List.length_append,ha];rfl) T1
   rw[List.length_append]at e2
   exact⟨j',acc',s',ll_go (lst_at (T.ext.get hi)) hv (dc_go (ev_var (h13 _)) g hs (ha▸hd)) e2,T2⟩
end
theorem slc_any {w:Cs}{k m:Nat}{s:AH}(hw:w.length<=LIM) (hk:k<=w.length):slcV (.str w) (.int (k:Int)) (.int (m:Int)) .none s=some (.str ((w.take m).drop k),s):=
 (if_pos hw).trans (bindI (show(clip (.int (k:Int)) w.length 0).bind (λa=>(clip (.int (m:Int)) w.length w.length).bind λb=>some ((w.take b).drop a))=_ from bindI (clip_nat hk) (bindI (congrArg some (if_pos (Int.natCast_nonneg m))) (congrArg (λl=>some (List.drop k l)) (show w.take (min m w.length)=w.take m from List.take_eq_take_iff.mpr (by rw[Nat.min_assoc,Nat.min_self]))))) rfl)
theorem cut_iff {p w:Cs}{k:Nat}:(w.take (k+p.length)).drop k=p↔p <+: w.drop k:=by
 rw[List.drop_take,Nat.add_sub_cancel_left,List.prefix_iff_eq_take]
 exact eq_comm
noncomputable abbrev rowE6:E:=.idx (.var 6) (.bcall .ord [(.var 4)])
noncomputable abbrev rowsS:List S:=[(.assign (.var 8) (.bcall .len [(.idx (.var 1) (.var 4))])),(.setIdx rowE6 (.var 7) (.ite (.cmp (.slc (.var 2) (.var 7) (.bin .Add (.var 7) (.var 8)) (.lit .none)) [.Eq] [(.idx (.var 1) (.var 4))]) (.bin .Add (.var 7) (.var 8)) (.idx rowE6 (.bin .Add (.var 7) (.lit (.int (1)))))))]
section
variable {C:Oracle}{s0 s:AH}{D Dr Dp b l:Nat}{t:Cs}{ks:List Nat}{j:Nat->Nat}{E:Nat->Nat->Nat}{P:Nat->Cs}
theorem rows_ok {Γ:Prop}(ht:t.length=8) (G:Good P) (hP:PiecesAt s0 Dp b P) (hb:b<=254) (hl:Let 255 b l) (hm:l∈ks) (T:Tab s0 D j ks E s) (hE:∀ c,8<=c->E l c=9) (v5 v7 v8 v9 v10 v11 v12:Option V)
  (kk:∀ v7' v8' s',ex C (.forS (.var 7) (.bcall .range [(.bin .Sub (.bcall .len [(.var 2)]) (.lit (.int (1)))),(.neg (.lit (.int (1)))),(.neg (.lit (.int (1))))]) rowsS) (loc169 Dr Dp t (some (.int 9)) (some (chV l)) v5 (some (.obj D)) v7 v8 v9 v10 v11 v12) s=some (.next,loc169 Dr Dp t (some (.int 9)) (some (chV l)) v5 (some (.obj D)) v7' v8' v9 v10 v11 v12,s')->(Tab s0 D j ks (λq c=>if q=l then lend P t l c else E q c) s')->Γ):Γ:=by
 have hlim:t.length<=LIM:=ht▸lim_of rfl
 have hz:(P l).length<=LIM:=nT (G.le l) (lim_of rfl)
 refine loop_range (n:=8) (by decide) (f:=forB C (.var 7) rowsS) (g:=λ(k:Nat)=>.int (7+(k:Int)*(-1))) (λk lo s=>(∃ v7 v8,lo=loc169 Dr Dp t (some (.int 9)) (some (chV l)) v5 (some (.obj D)) v7 v8 v9 v10 v11 v12)/\Tab s0 D j ks (λq c=>if q=l/\8-k<=c then lend P t l c else E q c) s)
  (λk lo s hk ⟨⟨v7,v8,hlo⟩,T⟩=>by
   subst hlo
   have h8:8-k=7-k+1:=Nat.succ_sub (Nat.le_of_lt_succ hk)
   have h7:8-(k+1)=7-k:=Nat.succ_sub_succ 7 k
   rw[show(7:Int)+(k:Int)*(-1)=((7-k:Nat):Int)by rw[Int.mul_neg,Int.mul_one,<-Int.sub_eq_add_neg];exact(Int.ofNat_sub (n:=7) (Nat.le_of_lt_succ hk)).symm]
   have ha8:7-k<=8:=nT (Nat.sub_le ..) (by decide)
   have ha9:=Nat.le_succ_of_le ha8
   have ls:=lend_step (P:=P) (t:=t) l (a:=7-k) (Nat.sub_le ..)
   generalize 7-k=a at h8 h7 ls ha8 ha9⊢
   have hp:=pieces_at (show PiecesAt s Dp b P from T.ext.get hP) hb hl
   have g1:∀ {v7:Option V},ev C (.bcall .len [(.idx (.var 1) (.var 4))]) (loc169 Dr Dp t (some (.int 9)) (some (chV l)) v5 (some (.obj D)) v7 v8 v9 v10 v11 v12) s=some (.int ((P l).length:Int),s):=ev_bcall (evs_one (ev_idx rfl rfl hp)) (if_pos hz)
   have g6:∀ {v7 v8:Option V},ev C rowE6 (loc169 Dr Dp t (some (.int 9)) (some (chV l)) v5 (some (.obj D)) v7 v8 v9 v10 v11 v12) s=some (.obj (j l),s):=ev_idx rfl (ev_bcall (evs_one rfl) rfl) (T.idx hm)
   obtain⟨s',es,T'⟩:=T.set hm ha9 (lend P t l a)
   have gc:∀ c,decide (P l <+: t.drop a)=c->ev C (.cmp (.slc (.var 2) (.var 7) (.bin .Add (.var 7) (.var 8)) (.lit .none)) [.Eq] [(.idx (.var 1) (.var 4))]) (loc169 Dr Dp t (some (.int 9)) (some (chV l)) v5 (some (.obj D)) (some (.int (a:Int))) (some (.int ((P l).length:Int))) v9 v10 v11 v12) s=some (.bool c,s):=λc hc=>
    ev_cmp1 (ev_slc rfl rfl (ev_bin (r:=some (.int ((a+(P l).length:Nat):Int),s)) rfl rfl rfl) rfl (slc_any hlim (ht▸ha8))) (ev_idx rfl rfl hp) (by
     show some (decide _)=_
     rw[<-hc]
     exact congrArg some (decide_eq_decide.mpr cut_iff))
   have gv:ev C (.ite (.cmp (.slc (.var 2) (.var 7) (.bin .Add (.var 7) (.var 8)) (.lit .none)) [.Eq] [(.idx (.var 1) (.var 4))]) (.bin .Add (.var 7) (.var 8)) (.idx rowE6 (.bin .Add (.var 7) (.lit (.int (1)))))) (loc169 Dr Dp t (some (.int 9)) (some (chV l)) v5 (some (.obj D)) (some (.int (a:Int))) (some (.int ((P l).length:Int))) v9 v10 v11 v12) s=some (.int (lend P t l a:Int),s):=by
    rw[ls]
    by_cases c:P l <+: t.drop a
    ·rw[if_pos c]
     exact ev_iteT (gc _ (decide_eq_true c)) rfl (ev_bin rfl rfl rfl)
    ·rw[if_neg c]
     have:=T.get hm (Nat.succ_le_succ ha8)
     rw[if_pos ⟨rfl,Nat.le_of_eq h8⟩]at this
     exact ev_iteF (gc _ (decide_eq_false c)) rfl (ev_idx g6 (ev_bin (r:=some (.int ((a+1:Nat):Int),s)) rfl rfl rfl) this)
   refine⟨_,s',for_next (exs_cons (ex_set g1) (exs_one (ex_setIdx gv g6 rfl es))),⟨_,_,rfl⟩,T'.congr λq _ c=>?_⟩
   show(if q=l/\c=a then _ else if q=l/\8-k<=c then lend P t l c else E q c)=if q=l/\8-(k+1)<=c then lend P t l c else E q c
   by_cases h:q=l/\c=a
   ·rw[if_pos h,if_pos ⟨h.1,Nat.le_of_eq (h7.trans h.2.symm)⟩,h.2]
   ·rw[if_neg h]
    by_cases h2:q=l/\8-k<=c
    ·rw[if_pos h2,if_pos ⟨h2.1,nT (Nat.sub_le_sub_left (Nat.le_succ k) 8) h2.2⟩]
    ·rw[if_neg h2,if_neg λh3=>h ⟨h3.1,Nat.le_antisymm (Nat.le_of_lt_succ (Nat.lt_of_not_le λh4=>h2 ⟨h3.1,h8▸h4⟩)) (h7▸h3.2)⟩]) (a:=loc169 Dr Dp t (some (.int 9)) (some (chV l)) v5 (some (.obj D)) v7 v8 v9 v10 v11 v12) (s:=s) ⟨⟨v7,v8,rfl⟩,T.congr λq _ c=>by
    show _=if q=l/\8-0<=c then lend P t l c else E q c
    by_cases h:q=l/\8-0<=c
    ·rw[if_pos h,h.1,hE c h.2]
     unfold lend
     rw[Nat.sub_eq_zero_of_le h.2]
     rfl
    ·rw[if_neg h]⟩ λlo s' e e_3=>?_
 obtain⟨⟨v7',v8',rfl⟩,T'⟩:=e_3
 refine kk v7' v8' s' (ex_for (ev_bcall (evs_cons (ev_bin (ev_bcall (evs_one rfl) (if_pos hlim)) ev_lit (by rw[ht];rfl)) (evs_cons neg1 (evs_one neg1))) (r:=some (.rng 7 (-1) (-1),s)) rfl) rfl e) (T'.congr λq _ c=>?_)
 show(if q=l/\8-8<=c then lend P t l c else E q c)=_
 by_cases h:q=l
 ·rw[if_pos h,if_pos ⟨h,Nat.zero_le c⟩]
 ·rw[if_neg h,if_neg λh2=>h h2.1]
end
end Mine.Pu
end
section
namespace Mine.Pu
open PySem Mine.Th
noncomputable abbrev five (b:Nat):List Nat:=[255,b,256,257,258]
theorem five_of {b p:Nat}(h:Sy 255 b p):p∈five b:=by
 rcases h with(rfl|rfl)|h
 ·exact .head _
 ·exact .tail _ (.head _)
 ·exact .tail _ (.tail _ h)
noncomputable abbrev alongS:List S:=[(.assign (.var 7) (.idx (.idx (.var 6) (.var 12)) (.var 7)))]
noncomputable abbrev entryE:E:=.idx (.idx (.var 6) (.var 5)) (.var 10)
noncomputable abbrev rightS:List S:=[(.assign (.var 7) (.var 10)),(.forS (.var 12) (.var 11) alongS),(.ifS (.cmp (.var 7) [.Lt] [entryE]) [(.setIdx (.idx (.var 6) (.var 5)) (.var 10) (.var 7)),(.assign (.var 9) (.lit (.bool true)))] [])]
noncomputable abbrev symS:List S:=[.forS (.var 10) (.bcall .range [.var 3]) [.forS (.var 11) (.idx (.var 0) (.var 5)) rightS]]
noncomputable abbrev passS:List S:=[(.assign (.var 9) (.lit (.bool false))),(.forS (.var 5) (.var 0) symS)]
structure K9 where
 s0:AH
 D:Nat
 Dr:Nat
 Dp:Nat
 b:Nat
 t:Cs
 j:Nat->Nat
 P:Nat->Cs
 R:Nat->List (List Nat)
 v4:Option V
 v8:Option V
 E:Nat->Nat->Nat
noncomputable def K9.loc (K:K9) (v5 v7 v9 v10 v11 v12:Option V):Loc:=loc169 K.Dr K.Dp K.t (some (.int 9)) K.v4 v5 (some (.obj K.D)) v7 K.v8 v9 v10 v11 v12
structure InvT (K:K9) (S:Prop) (s:AH) (E:Nat->Nat->Nat) (mv:Bool):Prop where
 T:Tab K.s0 K.D K.j (five K.b) E s
 g:GoodE K.R K.P K.t E
 h0:mv=false->E=K.E/\S
 h1:mv=true->tot E<tot K.E
noncomputable def Inv (K:K9) (S:Prop) (v5 v10:Option V) (lo:Loc) (s:AH):Prop:=∃ E mv,InvT K S s E mv/\∃ v7 v11 v12,lo=K.loc v5 v7 (some (.bool mv)) v10 v11 v12
noncomputable abbrev Cl (K:K9) (N a:Nat) (r:List Nat):Prop:=K.E N a<=along K.E r a
section
variable {Γ:Prop}{C:Oracle}{K:K9}{S:Prop}{s:AH}{lo:Loc}{v5 v10:Option V}
theorem Inv.ext (I:Inv K S v5 v10 lo s):Ext K.s0 s:=by obtain⟨_,_,h,_⟩:=I;exact h.T.ext
theorem along_run {r:List Nat}{E:Nat->Nat->Nat}{i a:Nat}{v9 v12:Option V}(T:Tab K.s0 K.D K.j (five K.b) E s) (hi:s[i]?=some (.list (iv r))) (hr:r.length<=2) (hm:∀ p∈r,p∈five K.b) (hE:∀ q c,E q c<=9) (ha:a<=9)
  (kk:∀ v12',ex C (.forS (.var 12) (.var 11) alongS) (K.loc v5 (some (.int (a:Int))) v9 v10 (some (.obj i)) v12) s=some (.next,K.loc v5 (some (.int (along E r a:Int))) v9 v10 (some (.obj i)) v12',s)->Γ):Γ:=by
 obtain⟨l,s',e,⟨v12',rfl⟩,rfl⟩:=loop_lst (f:=forB C (.var 12) alongS) (i:=i) (vs:=iv r) (λk l s'=>(∃ v12,l=K.loc v5 (some (.int (along E (r.take k) a:Int))) v9 v10 (some (.obj i)) v12)/\s'=s)
  (λk l s' h=>h.2▸lst_at hi) (λk v l s' hv ⟨⟨v12,hl⟩,hs⟩=>by
   subst hl hs
   obtain⟨hk,hv⟩:=List.getElem?_eq_some_iff.mp hv
   rw[List.length_map]at hk
   rw[List.getElem_map]at hv
   subst hv
   have hp:=hm _ (List.getElem_mem hk)
   refine⟨_,s',for_next (exs_one (ex_set (ev_idx (ev_idx rfl rfl (T.idx hp)) rfl (T.get hp (along_le hE _ _ ha))))),⟨some (.int (r[k]:Int)),?_⟩,rfl⟩
   rw[List.take_succ_eq_append_getElem hk,along_snoc]
   rfl) r.length FUEL 0 _ s (by rw[List.length_map,Nat.zero_add]) (Nat.lt_of_le_of_lt hr (by decide)) ⟨⟨v12,rfl⟩,rfl⟩
 rw[List.length_map,List.take_length]at e
 exact kk v12' (ex_for rfl (iter_lst (lst_at hi)) e)
theorem right_step {r:List Nat}{N a i:Nat}(hN:N∈full) (ha:a<=8) (hi:K.s0[i]?=some (.list (iv r))) (hr:r∈K.R N) (hl:r.length<=2) (hm:∀ p∈r,p∈five K.b) (I:Inv K S (some (.int (N:Int))) (some (.int (a:Int))) lo s)
  (kk:∀ lo' s',forB C (.var 11) rightS (.obj i) lo s=some (.inl lo',s')->Inv K (S/\Cl K N a r) (some (.int (N:Int))) (some (.int (a:Int))) lo' s'->Γ):Γ:=by
 obtain⟨E,mv,⟨T,g,h0,h1⟩,v7,v11,v12,rfl⟩:=I
 have hN5:N∈five K.b:=.tail _ (.tail _ hN)
 have ha9:=Nat.le_succ_of_le ha
 refine along_run (C:=C) (v5:=some (.int (N:Int))) (v9:=some (.bool mv)) (v10:=some (.int (a:Int))) (v12:=v12) T (T.ext.get hi) hl hm g.le ha9 λv12' e1=>?_
 have gl:∀ c,decide (along E r a<E N a)=c->ev C (.cmp (.var 7) [.Lt] [entryE]) (K.loc (some (.int (N:Int))) (some (.int (along E r a:Int))) (some (.bool mv)) (some (.int (a:Int))) (some (.obj i)) v12') s=some (.bool c,s):=λc hc=>
  ev_cmp1 rfl (ev_idx (ev_idx rfl rfl (T.idx hN5)) rfl (T.get hN5 ha9)) (congrArg some ((decide_eq_decide.mpr Int.ofNat_lt).trans hc))
 by_cases h:along E r a<E N a
 ·obtain⟨s',es,T'⟩:=T.set hN5 ha9 (along E r a)
  refine kk _ s' (for_next (exs_cons (ex_set rfl) (exs_cons e1 (exs_one (ex_ifT (gl _ (decide_eq_true h)) rfl (exs_cons (ex_setIdx rfl (ev_idx rfl rfl (T.idx hN5)) rfl es) (exs_one (ex_set rfl)))))))) ⟨_,true,⟨T',g.upd hN hr h,λe=>(absurd e.symm Bool.false_ne_true),λ_=>Nat.lt_of_lt_of_le (tot_upd hN (Nat.lt_succ_of_le ha9) h) ?_⟩,_,_,_,rfl⟩
  cases mv with
  | false=>exact Nat.le_of_eq (congrArg tot (h0 rfl).1)
  | true=>exact Nat.le_of_lt (h1 rfl)
 ·refine kk _ s (for_next (exs_cons (ex_set rfl) (exs_cons e1 (exs_one (ex_no (gl _ (decide_eq_false h))))))) ⟨E,mv,⟨T,g,λe=>?_,h1⟩,_,_,_,rfl⟩
  obtain⟨rfl,hS⟩:=h0 e
  exact⟨rfl,hS,Nat.le_of_not_lt h⟩
theorem Inv.imp {S':Prop}(I:Inv K S v5 v10 lo s) (h:S->S'):Inv K S' v5 v10 lo s:=by
 obtain⟨E,mv,I,l⟩:=I
 exact⟨E,mv,⟨I.T,I.g,λm=>⟨(I.h0 m).1,h (I.h0 m).2⟩,I.h1⟩,l⟩
theorem rights_run {N a:Nat}(S':Shape K.R 255 K.b) (hR:RulesAt K.s0 K.Dr K.R) (hN:N∈full) (ha:a<=8) (I:Inv K S (some (.int (N:Int))) (some (.int (a:Int))) lo s)
  (kk:∀ lo' s',exs C [.forS (.var 11) (.idx (.var 0) (.var 5)) rightS] lo s=some (.next,lo',s')->Inv K (S/\∀ r∈K.R N,Cl K N a r) (some (.int (N:Int))) (some (.int (a:Int))) lo' s'->Γ):Γ:=by
 obtain⟨jN,hj,ej⟩:=rules_at hR hN
 obtain⟨is,hj,hjl,hjr⟩:=hj
 have hall:=S'.all hN
 have hloc:ev C (.idx (.var 0) (.var 5)) lo s=some (.obj jN,s):=by
  have hx:=I.ext
  obtain⟨_,_,_,_,_,_,rfl⟩:=I
  exact ev_idx rfl rfl (ej s hx)
 obtain⟨lo',s',e,I'⟩:=loop_lst (f:=forB C (.var 11) rightS) (i:=jN) (vs:=is.map V.obj) (λk lo s=>Inv K (S/\∀ r∈(K.R N).take k,Cl K N a r) (some (.int (N:Int))) (some (.int (a:Int))) lo s)
  (λk lo s h=>lst_at (h.ext.get hj)) (λk v lo s hv I=>cps λ_ go=>by
   obtain⟨hk,hv⟩:=List.getElem?_eq_some_iff.mp hv
   rw[List.length_map]at hk
   rw[List.getElem_map]at hv
   subst hv
   have hk2:k<(K.R N).length:=hjl▸hk
   have hm:(K.R N)[k]∈K.R N:=List.getElem_mem hk2
   have hq:=hall.2 _ hm
   refine right_step (C:=C) hN ha (hjr k is[k] (K.R N)[k] (List.getElem?_eq_getElem hk) (List.getElem?_eq_getElem hk2)) hm hq.1 (λp hp=>five_of (hq.2 p hp)) I λlo' s' e I'=>go ⟨lo',s',e,I'.imp λh=>⟨h.1.1,λr hr=>?_⟩⟩
   rw[List.take_succ_eq_append_getElem hk2]at hr
   rcases List.mem_append.mp hr with hr|hr
   ·exact h.1.2 r hr
   ·rw[mS hr];exact h.2) is.length FUEL 0 lo s (by rw[List.length_map,Nat.zero_add]) (by rw[hjl,hall.1];decide) (I.imp λh=>⟨h,λr hr=>absurd hr List.not_mem_nil⟩)
 rw[List.length_map,hjl,List.take_length]at I'
 exact kk lo' s' (exs_one (ex_for hloc (iter_lst (lst_at (I.ext.get hj))) e)) I'
theorem Inv.set5 {v:Option V}(I:Inv K S v5 v10 lo s):Inv K S v v10 (lo.set 5 v) s:=by
 obtain⟨E,mv,I,v7,v11,v12,rfl⟩:=I
 exact⟨E,mv,I,v7,v11,v12,rfl⟩
theorem Inv.set10 {v:Option V}(I:Inv K S v5 v10 lo s):Inv K S v5 v (lo.set 10 v) s:=by
 obtain⟨E,mv,I,v7,v11,v12,rfl⟩:=I
 exact⟨E,mv,I,v7,v11,v12,rfl⟩
theorem sym_run {N:Nat}(S':Shape K.R 255 K.b) (hR:RulesAt K.s0 K.Dr K.R) (hN:N∈full) (I:Inv K S v5 v10 lo s)
  (kk:∀ lo' s' v10',forB C (.var 5) symS (.int (N:Int)) lo s=some (.inl lo',s')->Inv K (S/\∀ a,a<=8->∀ r∈K.R N,Cl K N a r) (some (.int (N:Int))) v10' lo' s'->Γ):Γ:=by
 have hr:ev C (.bcall .range [.var 3]) (lo.set 5 (some (.int (N:Int)))) s=some (.rng 0 9 1,s):=by
  obtain⟨_,_,_,_,_,_,rfl⟩:=I
  rfl
 refine for_rng0 (n:=9) hr rfl (by decide) (λk lo s=>∃ v10,Inv K (S/\∀ a,a<k->∀ r∈K.R N,Cl K N a r) (some (.int (N:Int))) v10 lo s)
  (λk lo s hk ⟨v10,I⟩=>cps λ_ go=>rights_run (C:=C) S' hR hN (Nat.le_of_lt_succ hk) (I.set10 (v:=some (.int (k:Int)))) λlo' s' e I'=>go ⟨lo',s',for_next e,_,I'.imp λh=>⟨h.1.1,λa ha=>by
   rcases Nat.lt_or_eq_of_le (Nat.le_of_lt_succ ha)with h2|rfl
   ·exact h.1.2 a h2
   ·exact h.2⟩⟩) ⟨v10,I.set5.imp λh=>⟨h,λa ha=>absurd ha (Nat.not_lt_zero a)⟩⟩ λlo' s' e ⟨v10',I'⟩=>?_
 exact kk lo' s' v10' (for_next (exs_one e)) (I'.imp λh=>⟨h.1,λa ha=>h.2 a (Nat.lt_succ_of_le ha)⟩)
end
end Mine.Pu
end
section
namespace Mine.Pu
open PySem Mine.Th
noncomputable def Closed (R:Nat->List (List Nat)) (E:Nat->Nat->Nat) (N:Nat):Prop:=∀ a,a<=8->∀ r∈R N,E N a<=along E r a
theorem pass_run {Γ:Prop}{C:Oracle}{K:K9}{s:AH}{v5 v7 v9 v10 v11 v12:Option V}(S:Shape K.R 255 K.b) (hR:RulesAt K.s0 K.Dr K.R) (T:Tab K.s0 K.D K.j (five K.b) K.E s) (g:GoodE K.R K.P K.t K.E)
  (kk:∀ lo s' v5' v10',exs C passS (K.loc v5 v7 v9 v10 v11 v12) s=some (.next,lo,s')->Inv K (∀ N∈full,Closed K.R K.E N) v5' v10' lo s'->Γ):Γ:=by
 have I0:Inv K True v5 v10 (K.loc v5 v7 (some (.bool false)) v10 v11 v12) s:=⟨K.E,false,⟨T,g,λ_=>⟨rfl,trivial⟩,λe=>absurd e Bool.false_ne_true⟩,v7,v11,v12,rfl⟩
 obtain⟨j1,j2,j3,hd,_⟩:=id hR
 refine sym_run (C:=C) S hR (N:=256) (.head _) I0 λl1 s1 v1 e1 I1=>sym_run (C:=C) S hR (N:=257) (.tail _ (.head _)) I1 λl2 s2 v2 e2 I2=>sym_run (C:=C) S hR (N:=258) (.tail _ (.tail _ (.head _))) I2 λl3 s3 v3 e3 I3=>
  kk l3 s3 _ _ (exs_cons (ex_set rfl) (exs_one (ex_for rfl (iter_dict (T.ext.get hd)) (ld_go (T.ext.get hd) rfl rfl e1 (ld_go (I1.ext.get hd) rfl rfl e2 (ld_go (I2.ext.get hd) rfl rfl e3 (ld_nil (I3.ext.get hd)))))))) (I3.imp λh N hN=>?_)
 rcases mC hN with rfl|hN
 ·exact h.1.1.2
 rcases mC hN with rfl|hN
 ·exact h.1.2
 ·rw[mS hN];exact h.2
theorem passes_run {Γ:Prop}{C:Oracle}(m:Nat):∀ (K:K9) (f:Nat) (s:AH) (v5 v7 v10 v11 v12:Option V),Shape K.R 255 K.b->RulesAt K.s0 K.Dr K.R->tot K.E<m->m<f->Tab K.s0 K.D K.j (five K.b) K.E s->GoodE K.R K.P K.t K.E->
  (∀ lo s' E',whileM (wC C (.var 9)) (λl s=>exs C passS l s) f (K.loc v5 v7 (some (.bool true)) v10 v11 v12) s=some (.next,lo,s')->lo[6]?=some (some (.obj K.D))->Tab K.s0 K.D K.j (five K.b) E' s'->GoodE K.R K.P K.t E'->(∀ N∈full,Closed K.R E' N)->Γ)->Γ:=by
 induction m with
 | zero=>exact λ_ _ _ _ _ _ _ _ _ _ h=>absurd h (Nat.not_lt_zero _)
 | succ m ih=>
  intro K f s v5 v7 v10 v11 v12 S hR hm hf T g kk
  obtain⟨f,rfl⟩:=fuel2 (Nat.lt_of_le_of_lt (Nat.succ_le_succ (Nat.zero_le m)) hf)
  refine pass_run (C:=C) (v5:=v5) (v7:=v7) (v9:=some (.bool true)) (v10:=v10) (v11:=v11) (v12:=v12) S hR T g λlo s' v5' v10' e ⟨E',mv,I,v7',v11',v12',hl⟩=>?_
  subst hl
  cases mv with
  | true=>exact ih {K with E:=E'} (f+1) s' v5' v7' v10' v11' v12' S hR (Nat.lt_of_lt_of_le (I.h1 rfl) (Nat.le_of_lt_succ hm)) (Nat.lt_of_succ_lt_succ hf) I.T I.g λlo s2 E2 e2=>kk lo s2 E2 (while_go (wC_ok rfl rfl) e e2)
  | false=>exact kk _ s' _ (while_go (wC_ok rfl rfl) e (while_end (wC_ok rfl rfl))) rfl I.T I.g ((I.h0 rfl).1▸(I.h0 rfl).2)
theorem tot_le {E:Nat->Nat->Nat}(h:∀ q c,E q c<=9):tot E<=270:=(sum_le (l:=full) (g:=λ_=>90) λ_ _=>(sum_le (l:=List.range 10) (g:=λ_=>9) λ_ _=>h _ _).1).1
theorem c169 {Γ:Prop}(d:Nat){Dr Dp b:Nat}{t:Cs}{s:AH}{P:Nat->Cs}{R:Nat->List (List Nat)}(hb:47<=b/\b<=254) (ht:t.length=8) (S:Shape R 255 b) (G:Good P) (hR:RulesAt s Dr R) (hP:PiecesAt s Dp b P)
  (kk:∀ (F:Nat) (E:Nat->Nat) (s':AH),callN T01 (d+1) 169 [.obj Dr,.obj Dp,.str t] s=some (.obj F,s')->Ext s s'->s'[F]?=some (.list (rowV E))->(∀ a,E a<=9/\∀ c,c<=8->(E a<=c↔Lies R P t full 256 a c))->Γ):Γ:=by
 have hbn:b≠255:=λe=>absurd (e▸hb.2) (by decide)
 have hbl:b<256:=Nat.lt_succ_of_le (Nat.le_succ_of_le hb.2)
 have hlim:t.length<=LIM:=ht▸lim_of rfl
 have e3:ex (callN T01 d) (.assign (.var 3) (.bin .Add (.bcall .len [(.var 2)]) (.lit (.int (1))))) (loc169 Dr Dp t none none none none none none none none none none) s=some (.next,loc169 Dr Dp t (some (.int 9)) none none none none none none none none none,s):=ex_set (ev_bin (ev_bcall (evs_one rfl) (if_pos hlim)) ev_lit (by rw[ht];rfl))
 have ord:∀ {c:Nat}{s:AH},ev (callN T01 d) (.bcall .ord [.var 13]) ((loc169 Dr Dp t (some (.int 9)) none none none none none none none none none).set 13 (some (chV c))) s=some (.int (c:Int),s):=ev_bcall (evs_one rfl) rfl
 have k1:ev (callN T01 d) (.comp (.bcall .ord [(.var 13)]) [(.mk (.var 13) (.var 1) [])]) (loc169 Dr Dp t (some (.int 9)) none none none none none none none none none) s=some (.obj s.length,s++[.list (iv [255,b])]):=
  ev_comp (gens_mk rfl (ev_var rfl) (iter_dict hP) (ld_go hP rfl rfl (gen_yes rfl (gens_end ord (lim_of (n:=1) rfl))) (ld_go hP rfl rfl (gen_yes rfl (gens_end ord (lim_of (n:=2) rfl))) (ld_nil hP)))) (lim_of rfl)
 have x1:=Ext.app s [O.list (iv [255,b])]
 have h1:=new_at s (iv [255,b])
 generalize s++[O.list (iv [255,b])]=s1 at k1 x1 h1
 have x2:=Ext.app s1 [O.list (iv full)]
 have k2:ev (callN T01 d) (.bin .Add (.comp (.bcall .ord [(.var 13)]) [(.mk (.var 13) (.var 1) [])]) (.list [(.lit (.int (256))),(.lit (.int (257))),(.lit (.int (258)))])) (loc169 Dr Dp t (some (.int 9)) none none none none none none none none none) s=some (.obj (s1++[O.list (iv full)]).length,(s1++[O.list (iv full)])++[.list (iv (five b))]):=
  ev_bin k1 (ev_list rfl (lim_of rfl)) (bindI (lst_at (x2.get (at_of h1))) (bindI (new_at s1 (iv full)) (newL_ok' (lim_of rfl))))
 have x3:=Ext.app (s1++[O.list (iv full)]) [O.list (iv (five b))]
 have h3:=top_at (s1++[O.list (iv full)]) (O.list (iv (five b)))
 generalize (s1++[O.list (iv full)]).length=i at k2 h3
 have x03:=x1.trans (x2.trans x3)
 generalize (s1++[O.list (iv full)])++[O.list (iv (five b))]=s3 at k2 h3 x03
 have hnd:(five b).Nodup:=List.nodup_cons.mpr ⟨λh=>(mC h).elim (λe=>hbn e.symm) λh=>absurd h (by decide),List.nodup_cons.mpr ⟨λh=>full_ge b h hbl,by decide⟩⟩
 obtain⟨j,acc,s4,e4,T4⟩:=keys_loop (C:=callN T01 d) (loc:=loc169 Dr Dp t (some (.int 9)) none none none none none none none none none) (λ_=>rfl) (λ_=>rfl) h3 hnd (Nat.le_of_ble_eq_true rfl) (five b) FUEL [] id [] (s3++[.dict []]) rfl (show 5<FUEL by decide) rfl ⟨.app ..,Nat.le_refl _,top_at ..,λ_ h=>(absurd h List.not_mem_nil),λ_ h=>(nomatch h),λ_ h=>nomatch h⟩
 have k4:=ev_dcomp (C:=callN T01 d) (t:=.var 13) (loc:=loc169 Dr Dp t (some (.int 9)) none none none none none none none none none) rfl k2 (iter_lst (lst_at h3)) e4
 have hP3:PiecesAt s3 Dp b P:=x03.get hP
 refine rows_ok (C:=callN T01 d) (Dr:=Dr) ht G hP3 hb.2 (.inl rfl) (.head _) T4 (λ_ _=>rfl) none none none none none none none λv7 v8 s5 e5 T5=>?_
 refine rows_ok (C:=callN T01 d) (Dr:=Dr) ht G hP3 hb.2 (.inr rfl) (.tail _ (.head _)) T5 (λ_ _=>if_neg hbn) none v7 v8 none none none none λv7' v8' s6 e6 T6=>?_
 have T7:=T6.congr (E':=λq c=>if q<256 then lend P t q c else 9) λp hp c=>by
  rcases mC hp with rfl|hp
  ·exact(if_neg (Ne.symm hbn)).trans (if_pos rfl)
  rcases mC hp with rfl|hp
  ·exact(if_pos rfl).trans (if_pos hbl).symm
  ·have:=full_ge p hp
   exact(if_neg λe:p=b=>this (e▸hbl)).trans ((if_neg λe:p=255=>this (by rw[e];decide)).trans (if_neg this).symm)
 have g7:=good_start (R:=R) ht G
 refine passes_run (C:=callN T01 d) 300 ⟨s3,s3.length,Dr,Dp,b,t,j,P,R,some (chV b),v8',λq c=>if q<256 then lend P t q c else 9⟩ FUEL s6 none v7' none none none S (hR.ext x03) (Nat.lt_of_le_of_lt (tot_le g7.le) (by decide)) (by decide) T7 g7 λlo s8 E e8 hlo T8 g8 hc=>?_
 exact kk (j 256) (E 256) s8 (call_ret (np:=3) (ns:=18) (A:=b169) rfl rfl (exs_cons e3 (exs_cons (ex_set k4) (exs_cons (ex_for rfl (iter_dict (T4.ext.get hP3)) (ld_go (T4.ext.get hP3) rfl rfl (for_next (exs_one e5)) (ld_go (T5.ext.get hP3) rfl rfl (for_next (exs_one e6)) (ld_nil (T6.ext.get hP3))))) (exs_cons (ex_set rfl) (exs_cons (ex_while e8) (exs_ret (ex_ret (ev_idx (ev_var hlo) rfl (T8.idx (.tail _ (.tail _ (.head _))))))))))))) (x03.trans T8.ext) (T8.row _ (.tail _ (.tail _ (.head _)))) (λa=>⟨g8.le _ _,λc hcc=>g8.least ht G hc hcc⟩)
end Mine.Pu
end
section
namespace Mine.Pu
open PySem Mine.Th
noncomputable abbrev pv (q:Nat×Nat):V:=.tup [.str [q.1],.str [q.2]]
noncomputable def pileV (p:Pile):List V:=.tup [.str [],.str [0]]::p.reverse.map pv
noncomputable def flat (p:Pile):Cs:=p.reverse.flatMap λq=>[q.1,q.2]
theorem pileV_cons (a:Nat×Nat) (p:Pile):pileV (a::p)=pileV p++[pv a]:=congrArg (List.cons _) (by rw[List.reverse_cons,List.map_append];rfl)
theorem str_pv:∀ l:List (Nat×Nat),strOfAcc (l.map pv)=some (l.flatMap λq=>[q.1,q.2])
 | []=>rfl
 | _::l=>bindI rfl (bindI rfl (bindI (str_pv l) rfl))
theorem str_pile (p:Pile):strOfAcc (pileV p)=some (0::flat p):=bindI rfl (bindI rfl (bindI (str_pv p.reverse) rfl))
theorem pile_len (p:Pile):(pileV p).length=p.length+1:=by unfold pileV;rw[List.length_cons,List.length_map,List.length_reverse]
theorem flat_len:∀ l:List (Nat×Nat),(l.flatMap λq=>[q.1,q.2]).length=2*l.length
 | []=>rfl
 | _::l=>by show(l.flatMap λq=>[q.1,q.2]).length+2=2*(l.length+1);rw[flat_len l];rfl
noncomputable def Vp (b:Nat) (p:Pile):Prop:=∀ q∈p,(q.1=60∨q.1=32)/\Sy 255 b q.2
theorem mark_in {N:Nat}(hN:256<=N):∀ {l:List (Nat×Nat)},(∀ q∈l,q.1=60∨q.1=32)->([60,N] <:+: (l.flatMap λq=>[q.1,q.2])↔(60,N)∈l)
 | [],_=>⟨λh=>absurd (List.infix_nil.mp h) (List.cons_ne_nil _ _),λh=>absurd h List.not_mem_nil⟩
 | (c,x)::l,h=>by
  have ih:=mark_in hN (l:=l) λq hq=>h q (List.mem_cons_of_mem _ hq)
  show[60,N] <:+: c::x::(l.flatMap λq=>[q.1,q.2])↔_
  rw[List.infix_cons_iff,List.infix_cons_iff,ih,List.mem_cons,List.cons_prefix_cons,List.cons_prefix_cons,List.cons_prefix_cons]
  refine⟨λh1=>?_,λh1=>?_⟩
  ·rcases h1 with⟨rfl,rfl,_⟩|⟨_,h2⟩|h2
   ·exact .inl rfl
   ·cases l with
    | nil=>nomatch h2
    | cons q l=>
     have:=(List.cons_prefix_cons.mp (show N::[] <+: q.1::q.2::(l.flatMap λq=>[q.1,q.2])from h2)).1
     rcases h q (List.mem_cons_of_mem _ (List.mem_cons_self ..))with e|e<;>exact absurd hN (by rw[this,e];decide)
   ·exact .inr h2
  ·rcases h1 with e|h1
   ·cases e;exact .inl ⟨rfl,rfl,List.nil_prefix⟩
   ·exact .inr (.inr h1)
noncomputable abbrev loc159 (D:Nat) (fst:Int) (F Wd Wt:Nat) (v5 v6 v7 v8 v9:Option V):Loc:=some (.obj D)::some (.int fst)::some (.obj F)::some (.obj Wd)::some (.obj Wt)::v5::v6::v7::v8::v9::List.replicate 8 none
noncomputable abbrev stripE:E:=.orE [(.cmp (.var 7) [.Eq] [(.lit (.str [60]))]),(.andE [(.cmp (.fcall 119 [(.bcall .ord [(.var 8)])]) [.Is] [(.lit (.bool true))]),(.cmp (.fcall 133 [(.bcall .ord [(.var 8)])]) [.Is] [(.lit (.bool false))])])]
noncomputable abbrev stripS:List S:=[(.augVar 6 .Add (.ite (.cmp (.var 7) [.Eq] [(.lit (.str [32]))]) (.var 8) (.lit (.str [])))),(.assign (.vars [7,8]) (.mcall (.var 2) .pop []))]
noncomputable def topV:Pile->Cs×Nat
 | []=>([],0)
 | q::_=>([q.1],q.2)
noncomputable def restV:Pile->List V
 | []=>[]
 | _::r=>pileV r
section
variable {C:Oracle}{D F Wd Wt d:Nat}{fst:Int}{v5 v9:Option V}{s:AH}{b:Nat}
theorem pop_pile {p:Pile}(h:s[F]?=some (.acc 0 (pileV p))):callM (.obj F) .pop [] s=some (.tup [.str (topV p).1,.str [(topV p).2]],s.set F (.acc 0 (restV p))):=by
 refine bindI h ?_
 show(match (pileV p).getLast? with|some v=>some (v,s.set F (.acc 0 (pileV p).dropLast))|none=>some (.tup [.str [],.str []],s))=_
 cases p with
 | nil=>rfl
 | cons a p=>rw[pileV_cons,List.getLast?_concat,List.dropLast_concat];rfl
theorem is_true (c:Bool):(c==true)=c:=by cases c<;>rfl
theorem is_false (c:Bool):(c==false) = !c:=by cases c<;>rfl
theorem strip_cond {ld:Cs}{x:Nat}{v6:Option V}:wC (callN T01 (d+1)) stripE (loc159 D fst F Wd Wt v5 v6 (some (.str ld)) (some (chV x)) v9) s=some (decide (ld=[60])||(decide ((x:Int)<256) && !decide ((x:Int)=0)),s):=by
 have g1:ev (callN T01 (d+1)) (.cmp (.var 7) [.Eq] [(.lit (.str [60]))]) (loc159 D fst F Wd Wt v5 v6 (some (.str ld)) (some (chV x)) v9) s=some (.bool (decide (ld=[60])),s):=ev_cmp1 rfl rfl rfl
 have g2:ev (callN T01 (d+1)) (.cmp (.fcall 119 [(.bcall .ord [(.var 8)])]) [.Is] [(.lit (.bool true))]) (loc159 D fst F Wd Wt v5 v6 (some (.str ld)) (some (chV x)) v9) s=some (.bool (decide ((x:Int)<256)),s):=ev_cmp1 (ev_fcall (evs_one (ev_bcall (evs_one rfl) rfl)) (c119 d s x)) rfl (congrArg some (is_true _))
 have g3:ev (callN T01 (d+1)) (.cmp (.fcall 133 [(.bcall .ord [(.var 8)])]) [.Is] [(.lit (.bool false))]) (loc159 D fst F Wd Wt v5 v6 (some (.str ld)) (some (chV x)) v9) s=some (.bool (!decide ((x:Int)=0)),s):=ev_cmp1 (ev_fcall (evs_one (ev_bcall (evs_one rfl) rfl)) (c133 d s x)) rfl (congrArg some (is_false _))
 cases h1:decide (ld=[60])with
 | true=>rw[h1]at g1;exact wC_ok (log_stop g1 rfl) rfl
 | false=>
  rw[h1]at g1
  cases h2:decide ((x:Int)<256)with
  | false=>rw[h2]at g2;exact wC_ok (log_go g1 rfl (log_last (log_stop g2 rfl))) rfl
  | true=>rw[h2]at g2;exact wC_ok (log_go g1 rfl (log_last (log_go g2 rfl (log_last g3)))) rfl
noncomputable def But (F:Nat) (s s':AH):Prop:=s'.length=s.length/\∀ i,i≠F->s'[i]?=s[i]?
theorem But.refl (F:Nat) (s:AH):But F s s:=⟨rfl,λ_ _=>rfl⟩
theorem But.trans {a b c:AH}(x:But F a b) (y:But F b c):But F a c:=⟨y.1.trans x.1,λi h=>(y.2 i h).trans (x.2 i h)⟩
theorem But.set (F:Nat) (s:AH) (o:O):But F s (s.set F o):=⟨List.length_set,λ_ h=>List.getElem?_set_ne (Ne.symm h)⟩
noncomputable def endX:Option (Nat×Pile)->Nat
 | none=>0
 | some q=>q.1
noncomputable def endA:Option (Nat×Pile)->List V
 | none=>[]
 | some q=>pileV q.2
theorem strip_run (hb:47<=b/\b<=254){o:Option (Nat×Pile)}{w':Cs}{Γ:Prop}(p:Pile):∀ (w:Cs) (n:Nat) (s:AH),strip p w=(w',o)->p.length<n->s[F]?=some (.acc 0 (restV p))->Vp b p->p.length+w.length<=100->
  (∀ ld s',whileM (wC (callN T01 (d+1)) stripE) (λl s=>exs (callN T01 (d+1)) stripS l s) n (loc159 D fst F Wd Wt v5 (some (.str w)) (some (.str (topV p).1)) (some (chV (topV p).2)) v9) s=some (.next,loc159 D fst F Wd Wt v5 (some (.str w')) (some (.str ld)) (some (chV (endX o))) v9,s')->s'[F]?=some (.acc 0 (endA o))->But F s s'->Γ)->Γ:=by
 induction p with
 | nil=>
  intro w n s hs hn h _ _ kk
  obtain⟨n,rfl⟩:∃ k,n=k+1:=⟨n-1,(Nat.sub_add_cancel hn).symm⟩
  cases hs
  exact kk [] s (while_end strip_cond) h (.refl F s)
 | cons q r ih=>
  obtain⟨c,x⟩:=q
  intro w n s hs hn h hv hl kk
  obtain⟨n,rfl⟩:∃ k,n=k+1:=⟨n-1,(Nat.sub_add_cancel (nT (Nat.succ_pos _) (Nat.le_of_lt hn))).symm⟩
  have hq:=hv (c,x) (List.mem_cons_self ..)
  have go:∀ {y:Cs},ev (callN T01 (d+1)) (.ite (.cmp (.var 7) [.Eq] [(.lit (.str [32]))]) (.var 8) (.lit (.str []))) (loc159 D fst F Wd Wt v5 (some (.str w)) (some (.str [c])) (some (chV x)) v9) s=some (.str y,s)->y.length<=1->(decide (([c]:Cs)=[60])||(decide ((x:Int)<256) && !decide ((x:Int)=0)))=true->strip r (w++y)=(w',o)->Γ:=λ{y} g hy hc e=>
   have hyl:(w++y).length<=w.length+1:=List.length_append▸Nat.add_le_add_left hy _
   have hl':r.length+(w++y).length<=100:=nT (Nat.add_le_add_left hyl _) (nT (Nat.le_of_eq (Nat.succ_add ..).symm) hl)
   ih (w++y) n (s.set F (.acc 0 (restV r))) e (Nat.lt_of_succ_lt_succ hn) (set_get h) (λq hq=>hv q (List.mem_cons_of_mem _ hq)) hl' λld s' e2 h2 b2=>
    kk ld s' (while_go (strip_cond.trans (by rw[<-hc];rfl)) (exs_cons (ex_aug rfl g (if_pos (List.length_append (as:=w)▸nT (nT (Nat.le_add_left ..) hl') (lim_of rfl)))) (exs_one (ex_sets (is:=[7,8]) (ev_mcall rfl rfl rfl (pop_pile h)) rfl))) e2) h2 ((But.set F s _).trans b2)
  have gq:∀ {z:Bool},decide (([c]:Cs)=[32])=z->ev (callN T01 (d+1)) (.cmp (.var 7) [.Eq] [(.lit (.str [32]))]) (loc159 D fst F Wd Wt v5 (some (.str w)) (some (.str [c])) (some (chV x)) v9) s=some (.bool z,s):=λhz=>ev_cmp1 rfl rfl (congrArg some hz)
  by_cases hc:c=60
  ·subst hc
   exact go (ev_iteF (gq rfl) rfl rfl) (Nat.zero_le 1) rfl (by rw[List.append_nil];exact hs)
  ·by_cases hx:x<256
   ·obtain rfl:=hq.1.resolve_left hc
    refine go (ev_iteT (gq rfl) rfl rfl) (Nat.le_refl 1) ?_ (((if_neg hc).trans (if_pos hx)).symm.trans hs)
    rw[decide_eq_true (show(x:Int)<256 from Int.ofNat_lt.mpr hx),decide_eq_false (show ¬(x:Int)=0 from λe=>?_)];rfl
    cases Int.ofNat.inj (e:(x:Int)=((0:Nat):Int))
    rcases hq.2 with(e1|e1)|e1
    ·cases e1
    ·exact absurd (e1▸hb.1) (by decide)
    ·exact absurd e1 (by decide)
   ·cases ((if_neg hc).trans (if_neg hx)).symm.trans hs
    exact kk [c] s (while_end ((strip_cond (ld:=[c]) (x:=x)).trans (by
     rw[decide_eq_false (show ¬([c]:Cs)=[60]from λe=>hc (List.cons.inj e).1),decide_eq_false (show ¬(x:Int)<256 from λe=>hx (Int.ofNat_lt.mp e))];rfl))) h (.refl F s)
end
end Mine.Pu
end
section
namespace Mine.Pu
open PySem Mine.Th
noncomputable abbrev Ent:=Nat×Pile×Cs
noncomputable abbrev ent (e:Ent):V:=.tup [.obj e.1,.str e.2.2]
noncomputable abbrev rightE:E:=.comp (.tup [(.lit (.str [32])),(.bcall .chr [(.var 11)])]) [(.mk (.var 11) (.slc (.var 10) (.lit .none) (.lit .none) (.neg (.lit (.int (1))))) [])]
noncomputable abbrev kidE:E:=.tup [(.bin .Add (.var 9) rightE),(.var 6)]
noncomputable abbrev kidsE:E:=.comp kidE [(.mk (.var 10) (.idx (.var 0) (.bcall .ord [(.var 8)])) [])]
section
variable {C:Oracle}{D F Wd Wt i b:Nat}{fst:Int}{v5 v7 v8:Option V}{s:AH}{r:List Nat}{w:Cs}
theorem list_comp {elt:Loc->AH->Option (V×AH)}{n:Nat}{loc:Loc}{g:Nat->V}(hi:s[i]?=some (.list (iv r))) (hl:r.length<FUEL) (h:∀ x∈r,elt (loc.set n (some (.int (x:Int)))) s=some (g x,s)):
  loopM (genB C elt (.var n) [] [] loc) FUEL (.lst i 0) [] s=some (.inl (r.map g),s):=by
 obtain⟨a,s',e,rfl,rfl⟩:=loop_lst (f:=genB C elt (.var n) [] [] loc) (i:=i) (vs:=iv r) (λk acc s'=>acc=(r.take k).map g/\s'=s) (λk acc s' h=>h.2▸lst_at hi) (λk v acc s' hv ⟨ha,hs⟩=>by
  subst ha hs
  obtain⟨hk,hv⟩:=List.getElem?_eq_some_iff.mp hv
  rw[List.length_map]at hk
  rw[List.getElem_map]at hv
  subst hv
  refine⟨_,s',gen_yes rfl (gens_end (h _ (List.getElem_mem hk)) ?_),?_,rfl⟩
  ·rw[List.length_map,List.length_take]
   exact Nat.lt_of_lt_of_le (Nat.lt_of_le_of_lt (Nat.min_le_right ..) hl) fuel_lim
  ·rw[List.take_succ_eq_append_getElem hk,List.map_append];rfl) r.length FUEL 0 [] s (by rw[List.length_map,Nat.zero_add]) hl ⟨rfl,rfl⟩
 rw[List.length_map,List.take_length]at e
 exact e
theorem pile_sy (r:List Nat) (Q:Pile):pileV (sy r++Q)=pileV Q++r.reverse.map λx=>pv (32,x):=by
 unfold pileV sy
 rw[List.reverse_append,List.map_append,<-List.map_reverse,List.map_map]
 rfl
theorem kid_ok {Γ:Prop}{Q:Pile}{ah:Nat}(hi:s[i]?=some (.list (iv r))) (hr:r.length<=2) (hs:∀ x∈r,x<0x110000) (ha:s[ah]?=some (.list (pileV Q))) (hQ:Q.length<=100)
  (kk:∀ h s',ev C kidE ((loc159 D fst F Wd Wt v5 (some (.str w)) v7 v8 (some (.obj ah))).set 10 (some (.obj i))) s=some (.tup [.obj h,.str w],s')->Ext s s'->s'[h]?=some (.list (pileV (sy r++Q)))->Γ):Γ:=by
 have x1:=Ext.app s [O.list (iv r.reverse)]
 have h1:=top_at s (O.list (iv r.reverse))
 have e1:ev C (.slc (.var 10) (.lit .none) (.lit .none) (.neg (.lit (.int (1))))) ((loc159 D fst F Wd Wt v5 (some (.str w)) v7 v8 (some (.obj ah))).set 10 (some (.obj i))) s=some (.obj s.length,s++[O.list (iv r.reverse)]):=ev_slc rfl ev_lit ev_lit neg1 (slc_rev hi (nT hr (lim_of rfl)))
 have hrl:r.reverse.length<=2:=by rw[List.length_reverse];exact hr
 have e2:=list_comp (C:=C) (elt:=λl s=>ev C (.tup [(.lit (.str [32])),(.bcall .chr [(.var 11)])]) l s) (n:=11) (loc:=(loc159 D fst F Wd Wt v5 (some (.str w)) v7 v8 (some (.obj ah))).set 10 (some (.obj i))) (g:=λx=>pv (32,x)) h1 (Nat.lt_of_le_of_lt hrl (by decide)) λx hx=>
  ev_tup (evs_cons ev_lit (evs_one (ev_bcall (evs_one rfl) (chr_int (i:=(x:Int)) ⟨Int.natCast_nonneg x,Int.ofNat_lt.mpr (hs x (List.mem_reverse.mp hx))⟩)))) (lim_of rfl)
 have e3:ev C rightE ((loc159 D fst F Wd Wt v5 (some (.str w)) v7 v8 (some (.obj ah))).set 10 (some (.obj i))) s=some (.obj (s++[O.list (iv r.reverse)]).length,(s++[O.list (iv r.reverse)])++[O.list (r.reverse.map λx=>pv (32,x))]):=
  ev_comp (gens_mk rfl e1 (iter_lst (lst_at h1)) e2) (by rw[List.length_map];exact nT hrl (lim_of rfl))
 have x2:=x1.trans (.app _ [O.list (r.reverse.map λx=>pv (32,x))])
 have h2:=new_at (s++[O.list (iv r.reverse)]) (r.reverse.map λx=>pv (32,x))
 generalize (s++[O.list (iv r.reverse)]).length=k at e3 h2
 generalize (s++[O.list (iv r.reverse)])++[O.list (r.reverse.map λx=>pv (32,x))]=s2 at e3 x2 h2
 refine kk s2.length (s2++[.list (pileV (sy r++Q))]) (ev_tup (evs_cons (ev_bin rfl e3 (bindI (lst_at (x2.get ha)) (bindI h2 ?_))) (evs_one rfl)) (lim_of rfl)) (x2.trans (.app ..)) (top_at ..)
 rw[pile_sy]
 exact newL_ok' (by rw[List.length_append,pile_len,List.length_map];exact nT (Nat.add_le_add (Nat.succ_le_succ hQ) hrl) (lim_of rfl))
theorem kids_ok {Γ:Prop}{Q:Pile}{ah j x:Nat}{rs:List (List Nat)}(hD:idxV (.obj D) (.int (x:Int)) s=some (.obj j)) (hj:RsAt s j rs) (hl:rs.length<=2) (hr:∀ r∈rs,r.length<=2/\∀ p∈r,p<0x110000) (ha:s[ah]?=some (.list (pileV Q))) (hQ:Q.length<=100)
  (kk:∀ (k:Nat) (es:List Ent) (s':AH),ev C kidsE (loc159 D fst F Wd Wt v5 (some (.str w)) v7 (some (chV x)) (some (.obj ah))) s=some (.obj k,s')->Ext s s'->s.length<=k->s'[k]?=some (.list (es.map ent))->(es.map (λe:Ent=>e.2)=rs.map (λr=>(sy r++Q,w)))->(∀ e∈es,s'[e.1]?=some (.list (pileV e.2.1)))->Γ):Γ:=by
 obtain⟨is,hj,hjl,hjr⟩:=hj
 obtain⟨acc,s',e,es,rfl,hx,he,hh⟩:=loop_lst (f:=genB C (λl s=>ev C kidE l s) (.var 10) [] [] (loc159 D fst F Wd Wt v5 (some (.str w)) v7 (some (chV x)) (some (.obj ah)))) (i:=j) (vs:=is.map V.obj)
  (λk acc s'=>∃ es:List Ent,acc=es.map ent/\Ext s s'/\es.map (λe=>e.2)=(rs.take k).map (λr=>(sy r++Q,w))/\∀ e∈es,s'[e.1]?=some (.list (pileV e.2.1)))
  (λk acc s' ⟨_,_,hx,_⟩=>lst_at (hx.get hj)) (λk v acc s' hv ⟨es,hacc,hx,he,hh⟩=>by
   subst hacc
   obtain⟨hk,hv⟩:=List.getElem?_eq_some_iff.mp hv
   rw[List.length_map]at hk
   rw[List.getElem_map]at hv
   subst hv
   have hk2:k<rs.length:=hjl▸hk
   have hq:=hr _ (List.getElem_mem hk2)
   refine kid_ok (C:=C) (D:=D) (F:=F) (Wd:=Wd) (Wt:=Wt) (fst:=fst) (v5:=v5) (v7:=v7) (v8:=some (chV x)) (w:=w) (hx.get (hjr k is[k] rs[k] (List.getElem?_eq_getElem hk) (List.getElem?_eq_getElem hk2))) hq.1 hq.2 (hx.get ha) hQ λh s2 e2 x2 h2=>?_
   have hel:es.length<=2:=by
    have:=congrArg List.length he
    rw[List.length_map,List.length_map]at this
    exact this▸nT (List.length_take_le' ..) hl
   refine⟨_,s2,gen_yes rfl (gens_end e2 (by rw[List.length_map];exact Nat.lt_of_le_of_lt hel (lim_of (n:=3) rfl))),es++[(h,sy rs[k]++Q,w)],by rw[List.map_append];rfl,hx.trans x2,?_,λe he=>?_⟩
   ·rw[List.map_append,he,List.take_succ_eq_append_getElem hk2,List.map_append];rfl
   ·rcases List.mem_append.mp he with he|he
    ·exact x2.get (hh e he)
    ·rw[mS he];exact h2) is.length FUEL 0 [] s (by rw[List.length_map,Nat.zero_add]) (by rw[hjl];exact Nat.lt_of_le_of_lt hl (by decide)) ⟨[],rfl,.refl s,rfl,λ_ h=>absurd h List.not_mem_nil⟩
 rw[List.length_map,hjl,List.take_length]at he
 have hel:es.length<=2:=by
  have:=congrArg List.length he
  rw[List.length_map,List.length_map]at this
  exact this▸hl
 exact kk s'.length es (s'++[.list (es.map ent)]) (ev_comp (gens_mk rfl (ev_idx rfl (ev_bcall (evs_one rfl) rfl) hD) (iter_lst (lst_at hj)) e) (by rw[List.length_map];exact nT hel (lim_of rfl))) (hx.trans (.app ..)) hx.1 (top_at ..) he (λe h=>(Ext.app s' _).get (hh e h))
end
end Mine.Pu
end
section
namespace Mine.Pu
open PySem Mine.Th
noncomputable def Kp (X:List Nat) (s s':AH):Prop:=s.length<=s'.length/\∀ i,i<s.length->i∉X->s'[i]?=s[i]?
section
variable {X:List Nat}{s s' s2:AH}
theorem Kp.trans (x:Kp X s s') (y:Kp X s' s2):Kp X s s2:=⟨nT x.1 y.1,λi h n=>(y.2 i (Nat.lt_of_lt_of_le h x.1) n).trans (x.2 i h n)⟩
theorem Kp.of (x:Ext s s'):Kp X s s':=⟨x.1,λi h _=>x.2 i h⟩
theorem Kp.but {F:Nat}(h:F∈X) (x:But F s s'):Kp X s s':=⟨Nat.le_of_eq x.1.symm,λi _ n=>x.2 i λe=>n (e▸h)⟩
theorem Kp.set {F:Nat}(h:F∈X) (s:AH) (o:O):Kp X s (s.set F o):=.but h (.set F s o)
theorem Kp.get (x:Kp X s s'){i:Nat}{o:O}(h:s[i]?=some o) (n:i∉X):s'[i]?=some o:=(x.2 i (List.getElem?_eq_some_iff.mp h).1 n).trans h
theorem Kp.ext {s0:AH}(x:Kp X s s') (e:Ext s0 s) (h:∀ i∈X,s0.length<=i):Ext s0 s':=⟨nT e.1 x.1,λi hi=>(x.2 i (Nat.lt_of_lt_of_le hi e.1) λm=>Nat.not_lt_of_le (h i m) hi).trans (e.2 i hi)⟩
end
noncomputable abbrev wf (R:Nat->List (List Nat)) (e:Ent):List Cs:=(Ws R e.2.1).map (e.2.2 ++ ·)
noncomputable abbrev tn (R:Nat->List (List Nat)) (e:Ent):Nat:=Tn R e.2.1
noncomputable def Held (R:Nat->List (List Nat)) (b:Nat) (s:AH) (e:Ent):Prop:=s[e.1]?=some (.list (pileV e.2.1))/\Vp b e.2.1/\e.2.1.length+e.2.2.length+3*tn R e<=100
structure Sp (s0:AH) (F Wd Wt b:Nat) (R:Nat->List (List Nat)) (L:List Ent) (ws:List Cs) (s:AH):Prop where
 ext:Ext s0 s
 low:∀ i∈[F,Wd,Wt],s0.length<=i
 ne:Wd≠Wt
 acc:∃ n vs,s[F]?=some (.acc n vs)
 words:s[Wd]?=some (.list (tx ws))
 wait:s[Wt]?=some (.list (L.reverse.map ent))
 held:∀ e∈L,Held R b s e
 perm:(ws++L.flatMap (wf R)).Perm (thin R 256 full)
 num:ws.length+(L.map (tn R)).sum<=23
section
variable {s0 s s':AH}{F Wd Wt b:Nat}{R:Nat->List (List Nat)}{L:List Ent}{ws:List Cs}{e:Ent}
theorem Sp.ne_of (S:Sp s0 F Wd Wt b R L ws s){h:Nat}{p:Pile}(hh:s[h]?=some (.list (pileV p))):h∉[F,Wd,Wt]:=λm=>by
 obtain⟨n,vs,ha⟩:=S.acc
 rcases mC m with rfl|m
 ·rw[ha]at hh;cases hh
 rcases mC m with rfl|m
 ·rw[S.words]at hh
  cases ws<;>cases hh
 ·cases mS m
  rw[S.wait]at hh
  cases h:L.reverse with
  | nil=>rw[h]at hh;cases hh
  | cons _ _=>rw[h]at hh;cases hh
theorem Sp.next (S:Sp s0 F Wd Wt b R (e::L) ws s) (k:Kp [F,Wd,Wt] s s'){es:List Ent}{ws':List Cs}(ha:∃ n vs,s'[F]?=some (.acc n vs)) (hw:s'[Wd]?=some (.list (tx ws'))) (ht:s'[Wt]?=some (.list (L.reverse.map ent++es.map ent)))
  (he:∀ x∈es,Held R b s' x) (hp:(ws'++es.reverse.flatMap (wf R)).Perm (ws++wf R e)) (hn:ws'.length+(es.map (tn R)).sum<=ws.length+tn R e):Sp s0 F Wd Wt b R (es.reverse++L) ws' s' where
 ext:=k.ext S.ext S.low
 low:=S.low
 ne:=S.ne
 acc:=ha
 words:=hw
 wait:=by rw[ht,List.reverse_append,List.reverse_reverse,List.map_append]
 held x hx:=by
  rcases List.mem_append.mp hx with hx|hx
  ·exact he x (List.mem_reverse.mp hx)
  ·have:=S.held x (List.mem_cons_of_mem _ hx)
   exact⟨k.get this.1 (S.ne_of this.1),this.2⟩
 perm:=by
  rw[List.flatMap_append,<-List.append_assoc]
  exact(hp.append_right _).trans (by rw[List.append_assoc];exact S.perm)
 num:=by
  rw[List.map_append,List.sum_append_nat,((List.reverse_perm es).map (tn R)).sum_nat,<-Nat.add_assoc]
  exact nT (Nat.add_le_add_right hn _) (by rw[Nat.add_assoc];exact S.num)
theorem sum_down {es:List Ent}(h:(es.map (tn R)).sum<tn R e):((es.reverse++L).map (tn R)).sum<((e::L).map (tn R)).sum:=by
 rw[List.map_append,List.sum_append_nat,((List.reverse_perm es).map (tn R)).sum_nat]
 exact Nat.add_lt_add_right h _
end
noncomputable abbrev doneS:List S:=[(.ifS (.cmp (.tup [(.mcall (.var 2) .part_count []),(.bcall .len [(.var 2)]),(.bcall .str [(.var 2)]),(.mcall (.var 2) .pop [])]) [.NotEq] [(.tup [(.lit (.int (0))),(.lit (.int (0))),(.lit (.str [])),(.tup [(.lit (.str [])),(.lit (.str []))])])]) [(.ret (.list []))] []),(.expr (.mcall (.var 3) .append [(.var 6)]))]
noncomputable abbrev markE:E:=.andE [(.cmp (.fcall 126 [(.bcall .ord [(.var 8)])]) [.Is] [(.lit (.bool true))]),(.cmp (.fcall 28 [(.bin .Add (.bin .Add (.bin .Add (.bcall .chr [(.lit (.int (0)))]) (.lit (.str [46,46,46,60]))) (.var 8)) (.lit (.str [46,46,46]))),(.bcall .str [(.var 2)])]) [.Is] [(.lit (.bool false))])]
noncomputable abbrev growS:List S:=[(.expr (.mcall (.var 2) .push [(.lit (.str [60])),(.var 8)])),(.assign (.var 9) (.mcall (.var 2) .pop_from [(.lit (.int (0)))])),(.ifS (.cmp (.mcall (.var 2) .part_count []) [.NotEq] [(.lit (.int (0)))]) [(.ret (.list []))] []),(.expr (.mcall (.var 4) .extend [kidsE]))]
noncomputable abbrev endS:S:=.ifS (.cmp (.fcall 133 [(.bcall .ord [(.var 8)])]) [.Is] [(.lit (.bool true))]) doneS [(.ifS markE growS [])]
noncomputable abbrev turnS:List S:=[(.assign (.vars [5,6]) (.mcall (.var 4) .pop [])),(.expr (.mcall (.var 2) .reset [(.var 5)])),(.assign (.vars [7,8]) (.mcall (.var 2) .pop [])),(.whileS stripE stripS),endS]
section
variable {s0 s:AH}{D F Wd Wt b d:Nat}{fst:Int}{R:Nat->List (List Nat)}{L:List Ent}{ws:List Cs}{e:Ent}{v5 v7 v8 v9:Option V}{w:Cs}
theorem eof_at {C:Oracle}{x:Nat}(h:C 133 [.int (x:Int)] s=some (.bool (decide ((x:Int)=0)),s)):ev C (.cmp (.fcall 133 [(.bcall .ord [(.var 8)])]) [.Is] [(.lit (.bool true))]) (loc159 D fst F Wd Wt v5 (some (.str w)) v7 (some (chV x)) v9) s=some (.bool (decide ((x:Int)=0)),s):=
 ev_cmp1 (ev_fcall (evs_one (ev_bcall (evs_one rfl) rfl)) h) rfl (congrArg some (is_true _))
theorem done_run {C:Oracle}(hF:s[F]?=some (.acc 0 [])) (hW:s[Wd]?=some (.list (tx ws))) (hl:ws.length<=23):exs C doneS (loc159 D fst F Wd Wt v5 (some (.str w)) v7 v8 v9) s=some (.next,loc159 D fst F Wd Wt v5 (some (.str w)) v7 v8 v9,s.set Wd (.list (tx (ws++[w])))):=by
 have hacc:accAt (.obj F) s=some (0,[]):=bindI rfl (bindI hF rfl)
 have hk:kindV (.obj F) s=3:=by show(match s[F]? with|some o=>kindO o|none=>0)=3;rw[hF];rfl
 have h1:callM (.obj F) .part_count [] s=some (.int 0,s):=bindI hF rfl
 have h2:callB .len [.obj F] s=some (.int 0,s):=by
  show lenO (.obj F) s=_
  unfold lenO
  rw[hacc]
  rfl
 have h3:callB .str [.obj F] s=some (.str [],s):=bindI hacc rfl
 have h4:callM (.obj F) .pop [] s=some (.tup [.str [],.str []],s):=bindI hF rfl
 have g:ev C (.cmp (.tup [(.mcall (.var 2) .part_count []),(.bcall .len [(.var 2)]),(.bcall .str [(.var 2)]),(.mcall (.var 2) .pop [])]) [.NotEq] [(.tup [(.lit (.int (0))),(.lit (.int (0))),(.lit (.str [])),(.tup [(.lit (.str [])),(.lit (.str []))])])]) (loc159 D fst F Wd Wt v5 (some (.str w)) v7 v8 v9) s=some (.bool false,s):=
  ev_cmp1 (ev_tup (evs_cons (ev_mcall rfl rfl rfl h1) (evs_cons (ev_bcall (evs_one rfl) h2) (evs_cons (ev_bcall (evs_one rfl) h3) (evs_one (ev_mcall rfl rfl rfl h4))))) (lim_of rfl)) (ev_tup rfl (lim_of rfl)) rfl
 rw[show tx (ws++[w])=tx ws++[V.str w]from List.map_append]
 exact exs_cons (ex_no g) (exs_one (ex_expr (ev_mcall rfl (evs_one rfl) rfl (app_lst hW (by rw[List.length_map];exact Nat.lt_of_le_of_lt hl (lim_of (n:=24) rfl))))))
theorem lst_inj {a b:List V}(h:some (O.list a)=some (O.list b)):a=b:=by cases h;rfl
theorem pile_ne {p:Pile}:∀ {l:List Ent},pileV p≠l.map ent
 | [],h=>nomatch h
 | _::_,h=>nomatch h
theorem grow_run {Γ:Prop}{C:Oracle}{x:Nat}{q:Pile}(hx:Ext s0 s) (hF:s[F]?=some (.acc 0 (pileV q))) (hF0:s0.length<=F) (hW:s[Wd]?=some (.list (tx ws))) (hT:s[Wt]?=some (.list (L.reverse.map ent))) (hn:Wd≠Wt) (hL:L.length<=23) (hR:RulesAt s0 D R) (S:Shape R 255 b) (hb:b<=254) (hm:x∈full) (hq:q.length<=99)
  (kk:∀ (es:List Ent) (v9':Option V) (s':AH),exs C growS (loc159 D fst F Wd Wt v5 (some (.str w)) v7 (some (chV x)) v9) s=some (.next,loc159 D fst F Wd Wt v5 (some (.str w)) v7 (some (chV x)) v9',s')->Kp [F,Wd,Wt] s s'->(∃ n vs,s'[F]?=some (.acc n vs))->s'[Wd]?=some (.list (tx ws))->s'[Wt]?=some (.list (L.reverse.map ent++es.map ent))->es.map (λe:Ent=>e.2)=(kids R x q).map (λk=>(k,w))->(∀ e∈es,s'[e.1]?=some (.list (pileV e.2.1)))->Γ):Γ:=by
 have hall:=S.all hm
 have hcp:∀ r∈R x,r.length<=2/\∀ p∈r,p<0x110000:=λr hr=>⟨(hall.2 r hr).1,λp hp=>by
  rcases(hall.2 r hr).2 p hp with(h|h)|h
  ·rw[h];decide
  ·have h:p=b:=h;omega
  ·rcases mC h with rfl|h
   ·decide
   rcases mC h with rfl|h
   ·decide
   ·cases mS h;decide⟩
 have hFW:F≠Wd:=λe=>by rw[<-e,hF]at hW;cases hW
 have hFT:F≠Wt:=λe=>by rw[<-e,hF]at hT;cases hT
 have p1:callM (.obj F) .push [.str [60],.str [x]] s=some (.none,s.set F (.acc 0 (pileV ((60,x)::q)))):=by
  rw[pileV_cons]
  exact bindI hF (if_pos (by rw[pile_len];exact Nat.lt_of_le_of_lt (Nat.succ_le_succ hq) (lim_of (n:=101) rfl)))
 have h1:=set_get (o':=O.acc 0 (pileV ((60,x)::q))) hF
 have b1:=But.set F s (.acc 0 (pileV ((60,x)::q)))
 generalize s.set F (.acc 0 (pileV ((60,x)::q)))=s1 at p1 h1 b1
 have p2:callM (.obj F) .pop_from [.int 0] s1=some (.obj s1.length,s1.set F (.acc 0 [])++[.list (pileV ((60,x)::q))]):=bindI h1 rfl
 have b2:=b1.trans (.set F s1 (.acc 0 []))
 have h2:=set_get (o':=O.acc 0 []) h1
 rw[<-(But.set F s1 (.acc 0 [])).1]at p2
 generalize s1.set F (.acc 0 [])=s2 at p2 b2 h2
 have x3:=Ext.app s2 [O.list (pileV ((60,x)::q))]
 have h3:=top_at s2 (O.list (pileV ((60,x)::q)))
 generalize s2++[O.list (pileV ((60,x)::q))]=s3 at p2 x3 h3
 have p3:callM (.obj F) .part_count [] s3=some (.int 0,s3):=bindI (x3.get h2) rfl
 have k3:Kp [F] s s3:=(Kp.but (.head _) b2).trans (.of x3)
 have x03:=k3.ext hx λi h=>mS h▸hF0
 obtain⟨j,hj,ej⟩:=rules_at hR hm
 refine kids_ok (C:=C) (F:=F) (Wd:=Wd) (Wt:=Wt) (fst:=fst) (v5:=v5) (v7:=v7) (w:=w) (ej s3 x03) (hj.ext x03) (Nat.le_of_eq hall.1) hcp h3 (Nat.succ_le_succ hq) λk es s4 e4 x4 hk h4 he hh=>?_
 have hT3:s3[Wt]?=some (.list (L.reverse.map ent)):=k3.get hT λm=>hFT (mS m).symm
 have hT4:=x4.get hT3
 have hel:es.length<=2:=by
  have:=congrArg List.length he
  rw[List.length_map,List.length_map,hall.1]at this
  exact Nat.le_of_eq this
 have p4:=ext_lst (i:=Wt) (j:=k) hT4 (Nat.ne_of_lt (Nat.lt_of_lt_of_le (List.getElem?_eq_some_iff.mp hT3).1 hk)) h4 (by
  rw[List.length_map,List.length_map,List.length_reverse]
  exact nT (Nat.add_le_add hL hel) (lim_of rfl))
 have ne4:∀ {i:Nat}{p:Pile},s4[i]?=some (.list (pileV p))->i≠Wt:=λh e=>by
  rw[e,hT4]at h
  exact pile_ne (lst_inj h).symm
 refine kk es (some (.obj s2.length)) (s4.set Wt (.list (L.reverse.map ent++es.map ent))) (exs_cons (ex_expr (ev_mcall rfl (evs_cons rfl (evs_one rfl)) rfl p1)) (exs_cons (ex_set (ev_mcall rfl (evs_one rfl) rfl p2)) (exs_cons (ex_no (ev_cmp1 (ev_mcall rfl rfl rfl p3) rfl rfl)) (exs_one (ex_expr (ev_mcall rfl (evs_one e4) ((kind_at hT3).trans (kind_at hT4).symm) p4))))))
  ?_ ⟨0,[],(List.getElem?_set_ne hFT.symm).trans (x4.get (x3.get h2))⟩ ((List.getElem?_set_ne hn.symm).trans (x4.get (k3.get hW λm=>hFW (mS m).symm))) (set_get hT4) ?_ λe h=>?_
 ·exact(Kp.but (.head _) b2).trans ((Kp.of (x3.trans x4)).trans (.set (.tail _ (.tail _ (.head _))) _ _))
 ·rw[he]
  unfold kids
  rw[List.map_map]
  rfl
 ·exact(List.getElem?_set_ne (ne4 (hh e h)).symm).trans (hh e h)
end
end Mine.Pu
end
section
namespace Mine.Pu
open PySem Mine.Th
theorem pop_last {s:AH}{i:Nat}{vs:List V}{v:V}(h:s[i]?=some (.list (vs++[v]))):callM (.obj i) .pop [] s=some (v,s.set i (.list vs)):=bindI h (bindI List.getLast?_concat (by rw[List.dropLast_concat]))
theorem mem_le_sum {a:Nat}:∀ {l:List Nat},a∈l->a<=l.sum
 | [],h=>absurd h List.not_mem_nil
 | _::l,h=>by
  rcases mC h with rfl|h
  ·exact Nat.le_add_right ..
  ·exact nT (mem_le_sum h) (Nat.le_add_left ..)
theorem len_le_sum {R:Nat->List (List Nat)}:∀ L:List Ent,L.length<=(L.map (tn R)).sum
 | []=>Nat.le_refl 0
 | e::L=>by
  show L.length+1<=tn R e+(L.map (tn R)).sum
  rw[Nat.add_comm]
  exact Nat.add_le_add (tn_pos _) (len_le_sum L)
section
variable {s0 s:AH}{D F Wd Wt b d:Nat}{fst:Int}{R:Nat->List (List Nat)}{L:List Ent}{ws:List Cs}{e:Ent}{v5 v6 v7 v8 v9:Option V}{w:Cs}
theorem mark_run {Γ:Prop}{x:Nat}{q:Pile}(hF:s[F]?=some (.acc 0 (pileV q))) (hv:Vp b q) (hq:q.length<=99) (hm:x∈full)
  (kk:∀ s',ev (callN T01 (d+1)) markE (loc159 D fst F Wd Wt v5 (some (.str w)) v7 (some (chV x)) v9) s=some (.bool (decide (x∈av q)),s')->Ext s s'->Γ):Γ:=by
 have hx:256<=x:=Nat.le_of_not_lt (full_ge x hm)
 have hfl:(0::flat q).length<=LIM:=by
  show(flat q).length+1<=LIM
  unfold flat
  rw[flat_len,List.length_reverse]
  exact nT (Nat.succ_le_succ (Nat.mul_le_mul_left 2 hq)) (lim_of rfl)
 refine c28 d s [0] [[60,x]] [] (0::flat q) (λp hp=>by
  rcases mC hp with rfl|hp
  ·exact⟨by decide,lim_of rfl⟩
  rcases mC hp with rfl|hp
  ·exact⟨λh=>(mC h).elim (by decide) λh=>by cases mS h;exact absurd hx (by decide),lim_of (n:=2) rfl⟩
  ·cases mS hp;exact⟨List.not_mem_nil,lim_of rfl⟩) (show 3<FUEL by decide) (lim_of (n:=9) rfl) hfl λs' e hs'=>?_
 have hr:decide (x∈av q) = !ell [0] [[60,x]] [] (0::flat q):=by
  rw[Bool.eq_iff_iff,decide_eq_true_eq,av_iff hm,Bool.not_eq_true',<-Bool.not_eq_true,ell_mark]
  exact not_congr ((List.mem_reverse (as:=q)).symm.trans (mark_in hx λp hp=>(hv p (List.mem_reverse.mp hp)).1).symm)
 have h1:callB .str [.obj F] s=some (.str (0::flat q),s):=bindI (show accAt (.obj F) s=some (0,pileV q)from bindI rfl (bindI hF rfl)) (bindI (str_pile q) (if_pos ⟨hfl,by rw[pile_len];exact nT (Nat.succ_le_succ hq) (lim_of rfl)⟩))
 have g1:ev (callN T01 (d+1)) (.cmp (.fcall 126 [(.bcall .ord [(.var 8)])]) [.Is] [(.lit (.bool true))]) (loc159 D fst F Wd Wt v5 (some (.str w)) v7 (some (chV x)) v9) s=some (.bool true,s):=
  ev_cmp1 (ev_fcall (evs_one (ev_bcall (evs_one rfl) rfl)) (c126 d s x)) rfl (congrArg some ((is_true _).trans (decide_eq_true (Int.ofNat_le.mpr hx))))
 have g2:ev (callN T01 (d+1)) (.bin .Add (.bin .Add (.bin .Add (.bcall .chr [(.lit (.int (0)))]) (.lit (.str [46,46,46,60]))) (.var 8)) (.lit (.str [46,46,46]))) (loc159 D fst F Wd Wt v5 (some (.str w)) v7 (some (chV x)) v9) s=some (.str (jn ([0]::[[60,x]]) []),s):=
  ev_bin (ev_bin (ev_bin (ev_bcall (evs_one ev_lit) (chr_int (i:=((0:Nat):Int)) (by decide))) ev_lit (add_str (lim_of (n:=5) rfl))) rfl (add_str (lim_of (n:=6) rfl))) ev_lit (add_str (lim_of (n:=9) rfl))
 exact kk s' (log_go g1 rfl (log_last (ev_cmp1 (ev_fcall (evs_cons g2 (evs_one (ev_bcall (evs_one rfl) h1))) e) rfl (congrArg some ((is_false _).trans hr.symm))))) hs'
theorem turn_run {Γ:Prop}(hb:47<=b/\b<=254) (S:Shape R 255 b) (hR:RulesAt s0 D R) (A:Sp s0 F Wd Wt b R (e::L) ws s)
  (kk:∀ (L':List Ent) (ws':List Cs) (s':AH) (v5' v6' v7' v8' v9':Option V),exs (callN T01 (d+1)) turnS (loc159 D fst F Wd Wt v5 v6 v7 v8 v9) s=some (.next,loc159 D fst F Wd Wt v5' v6' v7' v8' v9',s')->Sp s0 F Wd Wt b R L' ws' s'->(L'.map (tn R)).sum<((e::L).map (tn R)).sum->Γ):Γ:=by
 obtain⟨h,p,w⟩:=e
 obtain⟨hp,hv,hl⟩:=A.held _ (List.mem_cons_self ..)
 have hL:L.length<=23:=nT (len_le_sum L) (nT (Nat.le_add_left _ _) (nT (Nat.le_add_left _ _) A.num))
 have hws:ws.length<=23:=nT (Nat.le_add_right ..) A.num
 obtain⟨n,vs,hF⟩:=A.acc
 have hT:=A.wait
 have hFT:F≠Wt:=λe=>by rw[<-e,hF]at hT;cases hT
 have hFW:F≠Wd:=λe=>by have:=A.words;rw[<-e,hF]at this;cases this
 rw[List.reverse_cons,List.map_append]at hT
 have p1:=pop_last hT
 have k1:Kp [F,Wd,Wt] s (s.set Wt (.list (L.reverse.map ent))):=.set (.tail _ (.tail _ (.head _))) s _
 have hp1:=k1.get hp (A.ne_of hp)
 have hF1:(s.set Wt (.list (L.reverse.map ent)))[F]?=some (.acc n vs):=(List.getElem?_set_ne hFT.symm).trans hF
 have hW1:(s.set Wt (.list (L.reverse.map ent)))[Wd]?=some (.list (tx ws)):=(List.getElem?_set_ne A.ne.symm).trans A.words
 have hT1:=set_get (o':=O.list (L.reverse.map ent)) hT
 generalize s.set Wt (.list (L.reverse.map ent))=s1 at p1 k1 hp1 hF1 hW1 hT1
 have p2:callM (.obj F) .reset [.obj h] s1=some (.none,s1.set F (.acc 0 (pileV p))):=bindI hF1 (bindI (lst_at hp1) rfl)
 have h2:=set_get (o':=O.acc 0 (pileV p)) hF1
 have b2:=But.set F s1 (.acc 0 (pileV p))
 generalize s1.set F (.acc 0 (pileV p))=s2 at p2 h2 b2
 have p3:=pop_pile h2
 have h3:=set_get (o':=O.acc 0 (restV p)) h2
 have b3:=b2.trans (.set F s2 (.acc 0 (restV p)))
 generalize s2.set F (.acc 0 (restV p))=s3 at p3 h3 b3
 have hpw:p.length+w.length<=97:=Nat.le_of_add_le_add_right (b:=3) (nT (Nat.add_le_add_left (Nat.mul_le_mul_left 3 (tn_pos p)) _) hl)
 cases hs:strip p w with
 | mk w' o=>
  refine strip_run (d:=d) (D:=D) (F:=F) (Wd:=Wd) (Wt:=Wt) (fst:=fst) (v5:=some (.obj h)) (v9:=v9) hb p w FUEL s3 hs (Nat.lt_of_le_of_lt (nT (Nat.le_add_right ..) hpw) (by decide)) h3 hv (nT hpw (by decide)) λld s4 e4 h4 b4=>?_
  have b14:=b3.trans b4
  have hW4:s4[Wd]?=some (.list (tx ws)):=(b14.2 _ hFW.symm).trans hW1
  have hT4:s4[Wt]?=some (.list (L.reverse.map ent)):=(b14.2 _ hFT.symm).trans hT1
  have k4:=k1.trans (.but (.head _) b14)
  have ahead:∀ {r},exs (callN T01 (d+1)) [endS] (loc159 D fst F Wd Wt (some (.obj h)) (some (.str w')) (some (.str ld)) (some (chV (endX o))) v9) s4=r->exs (callN T01 (d+1)) turnS (loc159 D fst F Wd Wt v5 v6 v7 v8 v9) s=r:=λg=>
   exs_cons (ex_sets (is:=[5,6]) (ev_mcall rfl rfl rfl p1) rfl) (exs_cons (ex_expr (ev_mcall rfl (evs_one rfl) rfl p2)) (exs_cons (ex_sets (is:=[7,8]) (ev_mcall rfl rfl rfl p3) rfl) (exs_cons (ex_while e4) g)))
  have hwf:wf R (h,p,w)=(Ws R p).map (w ++ ·):=rfl
  cases o with
  | none=>
   obtain⟨q1,q2⟩:=strip_none (R:=R) p w hs
   have g:=done_run (D:=D) (fst:=fst) (Wt:=Wt) (v5:=some (.obj h)) (v7:=some (.str ld)) (v8:=some (chV 0)) (v9:=v9) (w:=w') (C:=callN T01 (d+1)) h4 hW4 hws
   refine kk _ (ws++[w']) _ _ _ _ _ _ (ahead (exs_one (ex_ifT (eof_at (c133 d s4 (0:Nat))) rfl g))) (A.next (k4.trans (.set (.tail _ (.head _)) _ _)) (es:=[]) ⟨0,[],(List.getElem?_set_ne hFW.symm).trans h4⟩ (set_get hW4) ?_ (λ_ h=>absurd h List.not_mem_nil) ?_ ?_) (sum_down ?_)
   ·rw[List.map_nil,List.append_nil]
    exact(List.getElem?_set_ne A.ne).trans hT4
   ·rw[hwf,q1]
    exact .of_eq (List.append_nil _)
   ·show(ws++[w']).length+0<=ws.length+Tn R p
    rw[q2,List.length_append]
    exact Nat.le_refl _
   ·exact tn_pos p
  | some xq=>
   obtain⟨x,q⟩:=xq
   obtain⟨q1,q2,q3,q4,hsub,c,hmem⟩:=strip_some (R:=R) p w hs
   have hsx:=(hv _ hmem).2
   have hvq:Vp b q:=λy hy=>hv y (hsub y hy)
   have hm:x∈full:=hsx.elim (λl=>absurd (let_lt (by decide) (Nat.lt_succ_of_le (Nat.le_succ_of_le hb.2)) l) q4) id
   have hq:q.length+w'.length<=96:=Nat.le_of_succ_le_succ (nT q3 hpw)
   have hq99:q.length<=99:=nT (Nat.le_add_right ..) (nT hq (by decide))
   refine mark_run (d:=d) (D:=D) (F:=F) (Wd:=Wd) (Wt:=Wt) (fst:=fst) (v5:=some (.obj h)) (v7:=some (.str ld)) (v9:=v9) (w:=w') h4 hvq hq99 hm λs5 g5 x5=>?_
   have gx:=eof_at (D:=D) (F:=F) (Wd:=Wd) (Wt:=Wt) (fst:=fst) (v5:=some (.obj h)) (v7:=some (.str ld)) (v9:=v9) (w:=w') (c133 d s4 (x:Nat))
   rw[decide_eq_false (show ¬(x:Int)=0 from λe=>q4 (by rw[Int.ofNat.inj (e:(x:Int)=((0:Nat):Int))];decide))]at gx
   have k5:=k4.trans (.of x5)
   by_cases mm:x∈av q
   ·rw[decide_eq_true mm]at g5
    refine grow_run (C:=callN T01 (d+1)) (D:=D) (fst:=fst) (v5:=some (.obj h)) (v7:=some (.str ld)) (v9:=v9) (w:=w') (k5.ext A.ext A.low) (x5.get h4) (A.low _ (.head _)) (x5.get hW4) (x5.get hT4) A.ne hL hR S hb.2 hm hq99 λes v9' s6 g6 k6 ha hW6 hT6 he hh=>?_
    have hsum:(es.map (tn R)).sum=((kids R x q).map (Tn R)).sum:=by
     have:=congrArg (λl:List (Pile×Cs)=>(l.map λk=>Tn R k.1).sum) he
     rw[List.map_map,List.map_map]at this
     exact this
    have htn:tn R (h,p,w)=1+(es.map (tn R)).sum:=by rw[hsum];exact q2.trans (tn_kids q4 mm)
    have hflat:es.flatMap (wf R)=wf R (h,p,w):=by
     have:=congrArg (λl:List (Pile×Cs)=>l.flatMap λk=>(Ws R k.1).map (k.2 ++ ·)) he
     rw[List.flatMap_map,List.flatMap_map]at this
     refine Eq.trans this ?_
     rw[hwf,q1,ws_kids q4 mm,List.map_flatMap]
    refine kk _ ws s6 _ _ _ _ _ (ahead (exs_one (ex_ifF gx rfl (exs_one (ex_ifT g5 rfl g6))))) (A.next (k5.trans k6) ha hW6 hT6 (λy hy=>?_) ?_ ?_) (sum_down ?_)
    ·have hy2:y.2∈(kids R x q).map λk=>(k,w'):=he▸List.mem_map_of_mem hy
     obtain⟨k,hk,ek⟩:=List.mem_map.mp hy2
     obtain⟨r,hr,rfl⟩:=List.mem_map.mp hk
     have hr2:=(S.all hm).2 r hr
     have h1:y.2.1=sy r++(60,x)::q:=by rw[<-ek]
     have h2:y.2.2=w':=by rw[<-ek]
     have ht:tn R y<=(es.map (tn R)).sum:=mem_le_sum (List.mem_map_of_mem hy)
     refine⟨hh y hy,λz hz=>?_,?_⟩
     ·rw[h1]at hz
      rcases List.mem_append.mp hz with hz|hz
      ·obtain⟨u,hu,rfl⟩:=List.mem_map.mp hz
       exact⟨.inr rfl,hr2.2 u hu⟩
      rcases mC hz with rfl|hz
      ·exact⟨.inl rfl,.inr hm⟩
      ·exact hvq z hz
     ·have hlen:y.2.1.length<=q.length+3:=by
       rw[h1,List.length_append]
       unfold sy
       rw[List.length_map,List.length_cons]
       exact nT (Nat.add_le_add_right hr2.1 _) (Nat.le_of_eq (Nat.add_comm ..))
      rw[h2]
      refine nT (Nat.add_le_add (Nat.add_le_add_right hlen _) (Nat.mul_le_mul_left 3 ht)) (nT ?_ hl)
      show q.length+3+w'.length+3*_<=p.length+w.length+3*tn R (h,p,w)
      rw[htn,Nat.mul_add,<-Nat.add_assoc,Nat.add_right_comm q.length]
      exact Nat.add_le_add_right (Nat.add_le_add_right (Nat.le_of_succ_le q3) 3) _
    ·rw[<-hflat]
     exact(((List.reverse_perm es).flatMap_right (wf R)).append_left ws)
    ·rw[htn]
     exact Nat.add_le_add_left (Nat.le_add_left _ _) _
    ·rw[htn,Nat.add_comm]
     exact Nat.lt_succ_self _
   ·rw[decide_eq_false mm]at g5
    refine kk _ ws s5 _ _ _ _ _ (ahead (exs_one (ex_ifF gx rfl (exs_one (ex_no g5))))) (A.next k5 (es:=[]) ⟨0,_,x5.get h4⟩ (x5.get hW4) ?_ (λ_ h=>absurd h List.not_mem_nil) ?_ ?_) (sum_down ?_)
    ·rw[List.map_nil,List.append_nil]
     exact x5.get hT4
    ·rw[hwf,q1,thin_no q4 mm]
     exact .refl _
    ·exact Nat.add_le_add_left (Nat.zero_le _) _
    ·exact tn_pos p
end
end Mine.Pu
end
section
namespace Mine.Pu
open PySem Mine.Th
noncomputable abbrev goE:E:=.andE [(.var 4),(.cmp (.bin .Add (.bcall .len [(.var 4)]) (.bcall .len [(.var 3)])) [.Lt] [(.lit (.int (99)))])]
section
variable {s0:AH}{D F Wd Wt b d:Nat}{fst:Int}{R:Nat->List (List Nat)}
theorem turns_run (hb:47<=b/\b<=254) (S:Shape R 255 b) (hR:RulesAt s0 D R) (m:Nat):∀ (f:Nat) (L:List Ent) (ws:List Cs) (s:AH) (v5 v6 v7 v8 v9:Option V),(L.map (tn R)).sum<m->m<f->Sp s0 F Wd Wt b R L ws s->
  ∃ lo ws' s',whileM (wC (callN T01 (d+1)) goE) (λl s=>exs (callN T01 (d+1)) turnS l s) f (loc159 D fst F Wd Wt v5 v6 v7 v8 v9) s=some (.next,lo,s')/\lo[3]?=some (some (.obj Wd))/\Sp s0 F Wd Wt b R [] ws' s':=by
 induction m with
 | zero=>exact λ_ _ _ _ _ _ _ _ _ h=>absurd h (Nat.not_lt_zero _)
 | succ m ih=>
  intro f L ws s v5 v6 v7 v8 v9 hm hf A
  obtain⟨f,rfl⟩:∃ k,f=k+1:=⟨f-1,(Nat.sub_add_cancel (nT (Nat.succ_pos _) (Nat.le_of_lt hf))).symm⟩
  have hW:=lst_at A.wait
  cases L with
  | nil=>exact⟨_,ws,s,while_end (wC_ok (log_stop rfl (truth_lst hW)) (truth_lst hW)),rfl,A⟩
  | cons e L=>
   refine turn_run (d:=d) (D:=D) (fst:=fst) (v5:=v5) (v6:=v6) (v7:=v7) (v8:=v8) (v9:=v9) hb S hR A λL' ws' s1 v5' v6' v7' v8' v9' e1 A1 h1=>?_
   obtain⟨lo,ws2,s2,e2,h2⟩:=ih f L' ws' s1 v5' v6' v7' v8' v9' (Nat.lt_of_lt_of_le h1 (Nat.le_of_lt_succ hm)) (Nat.lt_of_succ_lt_succ hf) A1
   have hn:(e::L).length+ws.length<=23:=by
    rw[Nat.add_comm]
    exact nT (Nat.add_le_add_left (len_le_sum (R:=R) _) _) A.num
   have ht:truth (.obj Wt) s=some true:=by
    rw[truth_lst hW,List.isEmpty_eq_false_iff.mpr λh=>absurd (List.map_eq_nil_iff.mp h) λh=>absurd (List.reverse_eq_nil_iff.mp h) (List.cons_ne_nil _ _)]
    rfl
   have g:ev (callN T01 (d+1)) (.cmp (.bin .Add (.bcall .len [(.var 4)]) (.bcall .len [(.var 3)])) [.Lt] [(.lit (.int (99)))]) (loc159 D fst F Wd Wt v5 v6 v7 v8 v9) s=some (.bool true,s):=
    ev_cmp1 (ev_bin (ev_bcall (evs_one rfl) (len_lst hW)) (ev_bcall (evs_one rfl) (len_lst (lst_at A.words))) rfl) rfl (by
     rw[List.length_map,List.length_map,List.length_reverse]
     show some (decide (((e::L).length:Int)+(ws.length:Int)<99))=_
     exact congrArg some (decide_eq_true (Int.ofNat_lt.mpr (Nat.lt_of_le_of_lt hn (by decide)))))
   exact⟨lo,ws2,s2,while_go (wC_ok (log_go rfl ht (log_last g)) rfl) e1 e2,h2⟩
end
theorem c159 {Γ:Prop}(d:Nat){D b:Nat}{fst:Int}{R:Nat->List (List Nat)}{s:AH}(hf:0<=fst/\fst<=1000) (hb:47<=b/\b<=254) (S:Shape R 255 b) (hR:RulesAt s D R)
  (kk:∀ (W:Nat) (ws:List Cs) (s':AH),callN T01 (d+2) 159 [.obj D,.int fst] s=some (.obj W,s')->Ext s s'->s'[W]?=some (.list (tx ws))->ws.Perm (thin R 256 full)->ws.length<=23->Γ):Γ:=by
 have h1:=top_at s (O.acc fst [])
 have x1:=Ext.app s [O.acc fst []]
 have e1:ev (callN T01 (d+1)) (.fcall 108 [(.var 1)]) (some (.obj D)::some (.int fst)::List.replicate 16 none) s=some (.obj s.length,s++[O.acc fst []]):=ev_fcall (evs_one rfl) rfl
 have hF:s.length<=s.length:=Nat.le_refl _
 generalize hFe:s.length=F at h1 e1 hF
 generalize s++[O.acc fst []]=s1 at h1 x1 e1
 have p1:callM (.obj F) .push [.str [],.str [0]] s1=some (.none,s1.set F (.acc fst (pileV []))):=bindI h1 rfl
 have h2:=set_get (o':=O.acc fst (pileV [])) h1
 have x2:=x1.set (Nat.le_of_eq hFe) (.acc fst (pileV []))
 generalize s1.set F (.acc fst (pileV []))=s2 at p1 h2 x2
 have p2:callM (.obj F) .push [.str [32],.str [256]] s2=some (.none,s2.set F (.acc fst (pileV [(32,256)]))):=bindI h2 rfl
 have h3:=set_get (o':=O.acc fst (pileV [(32,256)])) h2
 have x3:=x2.set (Nat.le_of_eq hFe) (.acc fst (pileV [(32,256)]))
 generalize s2.set F (.acc fst (pileV [(32,256)]))=s3 at p2 h3 x3
 have p3:callB .len [.obj F] s3=some (.int (3+fst),s3):=by
  show lenO (.obj F) s3=_
  unfold lenO
  rw[show accAt (.obj F) s3=some (fst,pileV [(32,256)])from bindI rfl (bindI h3 rfl)]
  exact bindI (str_pile _) (if_pos ⟨lim_of rfl,lim_of rfl,hf⟩)
 have g3:ev (callN T01 (d+1)) (.cmp (.bcall .len [(.var 2)]) [.NotEq] [(.bin .Add (.var 1) (.lit (.int (3))))]) (some (.obj D)::some (.int fst)::some (.obj F)::List.replicate 15 none) s3=some (.bool false,s3):=
  ev_cmp1 (ev_bcall (evs_one rfl) p3) (ev_bin rfl ev_lit rfl) (by
   show(some (decide (3+fst=fst+3))).bind (λt=>some (!t))=_
   rw[decide_eq_true (Int.add_comm ..)]
   rfl)
 have x4:=Ext.app s3 [O.list (tx [])]
 have hW:=top_at s3 (O.list (tx []))
 have e4:ev (callN T01 (d+1)) (.list []) (some (.obj D)::some (.int fst)::some (.obj F)::List.replicate 15 none) s3=some (.obj s3.length,s3++[O.list (tx [])]):=ev_list rfl (lim_of rfl)
 have hFW:F<s3.length:=(List.getElem?_eq_some_iff.mp h3).1
 generalize s3.length=Wd at hW e4 hFW
 have x04:=x3.trans x4
 have h4:=x4.get h3
 generalize s3++[O.list (tx [])]=s4 at e4 x04 hW h4
 have p5:callM (.obj F) .pop_from [.int 0] s4=some (.obj s4.length,s4.set F (.acc fst [])++[.list (pileV [(32,256)])]):=bindI h4 rfl
 have h5:=set_get (o':=O.acc fst []) h4
 have hW5:=(But.set F s4 (.acc fst [])).2 Wd (Nat.ne_of_gt hFW) |>.trans hW
 have x5:=x04.set (Nat.le_of_eq hFe) (.acc fst [])
 rw[<-(But.set F s4 (.acc fst [])).1]at p5
 generalize s4.set F (.acc fst [])=s5 at p5 h5 hW5 x5
 have x6:=Ext.app s5 [O.list (pileV [(32,256)])]
 have h6:=top_at s5 (O.list (pileV [(32,256)]))
 have k6:kindV (.obj F) s4=kindV (.obj F) s4:=rfl
 generalize s5.length=h at p5 h6
 have hW6:=x6.get hW5
 have h56:=x6.get h5
 have x06:=x5.trans x6
 generalize s5++[O.list (pileV [(32,256)])]=s6 at p5 h6 hW6 h56 x06
 have x7:=Ext.app s6 [O.list [.tup [.obj h,.str []]]]
 have hT:=top_at s6 (O.list [.tup [.obj h,.str []]])
 have hWT:Wd<s6.length:=(List.getElem?_eq_some_iff.mp hW6).1
 have e7:ev (callN T01 (d+1)) (.tup [(.list []),(.list [(.tup [(.mcall (.var 2) .pop_from [(.lit (.int (0)))]),(.lit (.str []))])])]) (some (.obj D)::some (.int fst)::some (.obj F)::List.replicate 15 none) s3=some (.tup [.obj Wd,.obj s6.length],s6++[O.list [.tup [.obj h,.str []]]]):=
  ev_tup (evs_cons e4 (evs_one (ev_list (evs_one (ev_tup (evs_cons (ev_mcall rfl (evs_one rfl) rfl p5) (evs_one rfl)) (lim_of rfl))) (lim_of rfl)))) (lim_of rfl)
 have hWl:s.length<=Wd:=hFe▸Nat.le_of_lt hFW
 have A:Sp s F Wd s6.length b R [(h,[(32,256)],[])] [] (s6++[O.list [.tup [.obj h,.str []]]]):=by
  have hT23:=turns (by decide) (Nat.lt_succ_of_le (Nat.le_succ_of_le hb.2)) S
  refine⟨x06.trans x7,λi hi=>?_,Nat.ne_of_lt hWT,⟨fst,[],x7.get h56⟩,x7.get hW6,hT,λe he=>?_,?_,?_⟩
  ·rcases mC hi with rfl|hi
   ·exact Nat.le_of_eq hFe
   rcases mC hi with rfl|hi
   ·exact hWl
   ·rw[mS hi];exact nT hWl (Nat.le_of_lt hWT)
  ·cases mS he
   exact⟨x7.get h6,λq hq=>by cases mS hq;exact⟨.inr rfl,.inr (.head _)⟩,nT (Nat.add_le_add_left (Nat.mul_le_mul_left 3 hT23) _) (show 70<=100 by decide)⟩
  ·refine .of_eq ((List.append_nil _).trans ?_)
   show(mul (thin R 256 full) [[]]).map ([] ++ ·)=_
   rw[mul_one]
   exact List.map_id _
  ·exact nT (Nat.le_of_eq (Nat.zero_add _)) hT23
 obtain⟨lo,ws,s',e8,hlo,B⟩:=turns_run (d:=d) (D:=D) (fst:=fst) hb S hR 24 FUEL _ _ _ none none none none none (Nat.lt_succ_of_le (nT (Nat.le_add_left _ _) A.num)) (by decide) A
 exact kk Wd ws s' (call_ret (np:=2) (ns:=16) (A:=b159) rfl rfl (exs_cons (ex_set e1) (exs_cons (ex_expr (ev_mcall rfl (evs_cons rfl (evs_one rfl)) rfl p1)) (exs_cons (ex_expr (ev_mcall rfl (evs_cons rfl (evs_one rfl)) rfl p2)) (exs_cons (ex_no g3) (exs_cons (ex_sets (is:=[3,4]) e7 rfl) (exs_cons (ex_while e8) (exs_ret (ex_ret (ev_var hlo)))))))))) B.ext B.words (by have:=B.perm;rwa [List.flatMap_nil,List.append_nil]at this) (nT (Nat.le_add_right ..) B.num)
end Mine.Pu
end
section
namespace Mine.Th
open Mine Mine.Pu
theorem sort_same {a l:List Cs}(p:a.Perm l):sortS a=sortS l:=sort_one ((sortS_perm a).trans p) (sortS_sorted a)
theorem mem_dedup {x:Cs}:∀ {l acc:List Cs},x∈dedupS l acc↔x∈acc∨x∈l
 | [],_=>⟨.inl,λh=>h.resolve_right List.not_mem_nil⟩
 | c::l,acc=>by
  show x∈dedupS l (if acc.any (· == c)then acc else acc++[c])↔_
  rw[mem_dedup,List.mem_cons,<-or_assoc]
  refine or_congr_left ?_
  by_cases h:acc.any (· == c)=true
  ·rw[if_pos h]
   obtain⟨y,hy,e⟩:=List.any_eq_true.mp h
   exact⟨.inl,λh=>h.elim id λe2=>e2▸eq_of_beq e▸hy⟩
  ·rw[if_neg h,List.mem_append,List.mem_singleton]
theorem mem_words {x:Cs}{l:List Cs}:x∈sortS (dedupS l [])↔x∈l:=(sortS_perm _).mem_iff.trans (mem_dedup.trans ⟨λh=>h.resolve_left List.not_mem_nil,.inr⟩)
theorem min_is {y:Int}:∀ {l:List Int}{m:Int},y∈m::l->(∀ z∈m::l,y<=z)->minI l m=y
 | [],m,h,_=>(mS h).symm
 | c::l,m,h,hl=>by
  show minI l (if c<m then c else m)=y
  have hm:=hl m (List.mem_cons_self ..)
  have hc:=hl c (List.mem_cons_of_mem _ (List.mem_cons_self ..))
  have ht:∀ z∈l,y<=z:=λz hz=>hl z (List.mem_cons_of_mem _ (List.mem_cons_of_mem _ hz))
  by_cases hcm:c<m
  ·rw[if_pos hcm]
   refine min_is ?_ λz hz=>(mC hz).elim (λe=>e▸hc) (ht z)
   rcases mC h with rfl|h
   ·exact absurd (Int.lt_of_lt_of_le hcm hc) (Int.lt_irrefl _)
   ·exact h
  ·rw[if_neg hcm]
   refine min_is ?_ λz hz=>(mC hz).elim (λe=>e▸hm) (ht z)
   rcases mC h with rfl|h
   ·exact List.mem_cons_self ..
   rcases mC h with rfl|h
   ·rw[Int.le_antisymm hm (Int.not_lt.mp hcm)];exact List.mem_cons_self ..
   ·exact List.mem_cons_of_mem _ h
section
variable {P:Nat->Cs}{t:Cs}{R:Nat->List (List Nat)}{ws:List Cs}{m:Nat}{u:Cs}{E:Nat->Nat}
theorem emb_head {k:Nat}{w:Cs}(h:k<=t.length):Emb P (t.take k) w 0 (t.take k).length↔Emb P t w 0 k:=by
 rw[List.length_take,Nat.min_eq_left h]
 exact emb_take w (Nat.le_refl k)
theorem emb_back {k:Nat}{w:Cs}(h:k<=t.length):Emb P (t.drop (t.length-k)) w 0 (t.drop (t.length-k)).length↔Emb P t w (t.length-k) t.length:=by
 rw[List.length_drop,Nat.sub_sub_self h,emb_drop,Nat.add_zero,Nat.sub_add_cancel h]
theorem front_is (ht:t.length=8) (hw:∀ w,w∈ws↔w∈thin R 256 full) (L:Least (λw k=>Emb P (t.take k) w 0 (t.take k).length) 8 ws m u) (hE:∀ a,E a<=9/\∀ c,c<=8->(E a<=c↔Lies R P t full 256 a c)):m=E 0:=by
 obtain⟨h1,h2,h3,_⟩:=L
 have hk:∀ {k:Nat}{w:Cs},k<=8->(Emb P (t.take k) w 0 (t.take k).length↔Emb P t w 0 k):=λh=>emb_head (ht▸h)
 refine Nat.le_antisymm (Nat.le_of_not_lt λc=>?_) (Nat.le_of_not_lt λc=>?_)
 ·have h8:E 0<=8:=Nat.le_of_lt_succ (Nat.lt_of_lt_of_le c h1)
  obtain⟨w,hw',he⟩:=((hE 0).2 _ h8).mp (Nat.le_refl _)
  exact h2 w ((hw w).mpr hw') _ c h8 ((hk h8).mpr he)
 ·have h8:m<=8:=Nat.le_of_lt_succ (Nat.lt_of_lt_of_le c (hE 0).1)
  obtain⟨hu,he⟩:=h3 h8
  exact Nat.not_le_of_lt c (((hE 0).2 m h8).mpr ⟨u,(hw u).mp hu,(hk h8).mp he⟩)
variable {st:Cs}{b:Nat}{v:Cs}
theorem back_is (G:Good P) (hst:st=t.take (E 0)) (ht:t.length=8) (hw:∀ w,w∈ws↔w∈thin R 256 full) (L:Least (λw k=>Emb P (st.drop (st.length-k)) w 0 (st.drop (st.length-k)).length) st.length ws b v) (hE:∀ a,E a<=9/\∀ c,c<=8->(E a<=c↔Lies R P t full 256 a c)):
  (b=st.length+1∨b<=st.length/\E (st.length-b)<=st.length)/\b<=st.length+1/\(∀ a,a<=st.length->E a<=st.length->b<=st.length-a)/\(b<=st.length->tell P v (st.drop (st.length-b))=true):=by
 obtain⟨h1,h2,h3,_⟩:=L
 have hn:st.length<=E 0:=by rw[hst,List.length_take];exact Nat.min_le_left ..
 have h8:st.length<=8:=by rw[hst,List.length_take,ht];exact Nat.min_le_right ..
 have hk:∀ {k:Nat}{w:Cs},k<=st.length->(Emb P (st.drop (st.length-k)) w 0 (st.drop (st.length-k)).length↔Emb P st w (st.length-k) st.length):=emb_back
 have hs:∀ {a c:Nat}{w:Cs},c<=st.length->(Emb P st w a c↔Emb P t w a c):=λ{a c w} h=>by
  rw[hst]
  exact emb_take w (nT h hn)
 have lie:∀ {a c:Nat}{w:Cs},c<=st.length->w∈ws->Emb P st w a c->E a<=c:=λ{a c w} h hm he=>((hE a).2 c (nT h h8)).mpr ⟨w,(hw w).mp hm,(hs h).mp he⟩
 refine⟨?_,h1,λa ha hEa=>Nat.le_of_not_lt λc=>?_,λhb=>?_⟩
 ·by_cases hb:b<=st.length
  ·exact .inr ⟨hb,lie (Nat.le_refl _) (h3 hb).1 ((hk hb).mp (h3 hb).2)⟩
  ·exact .inl (Nat.le_antisymm h1 (Nat.lt_of_not_le hb))
 ·obtain⟨w,hw',he⟩:=((hE a).2 _ h8).mp hEa
  refine h2 w ((hw w).mpr hw') _ c (Nat.sub_le ..) ((hk (Nat.sub_le ..)).mpr ?_)
  rw[Nat.sub_sub_self ha]
  exact(hs (Nat.le_refl _)).mpr he
 ·obtain⟨hv,he⟩:=h3 hb
  have he:=(hk hb).mp he
  refine tail_full G v he (λh=>?_) λc hc h=>?_
  ·cases b with
   | zero=>exact Nat.not_succ_le_self _ h.le
   | succ k=>
    refine h2 v hv k (Nat.lt_succ_self k) (Nat.le_of_succ_le hb) ((hk (Nat.le_of_succ_le hb)).mpr ?_)
    rwa [show st.length-k=st.length-(k+1)+1 from (Nat.succ_pred_eq_of_pos (Nat.sub_pos_of_lt hb)).symm]
  ·exact Nat.not_le_of_lt (Nat.lt_of_lt_of_le hc hn) (lie (Nat.le_of_lt hc) hv (h.from (Nat.zero_le _)))
end
end Mine.Th
end
section
namespace Mine.Pu
open PySem Mine.Th
noncomputable abbrev headL:E:=.slc (.var 0) (.lit .none) (.var 1) (.lit .none)
noncomputable abbrev backL:E:=.slc (.var 0) (.bin .Sub (.bcall .len [(.var 0)]) (.var 1)) (.lit .none) (.lit .none)
section
variable {s:AH}{c k m:Nat}{w:Cs}{d:Nat}{C:Oracle}{loc:Loc}
theorem sub_int {a b:Nat}(h:b<=a):binV .Sub (.int (a:Int)) (.int (b:Int)) s=some (.int ((a-b:Nat):Int),s):=congrArg (λz=>some (V.int z,s)) (Int.ofNat_sub h).symm
theorem cut_lam {e:E}(hc:s[c]?=some (.lam e)){v:V}{r:Option (V×AH)}(h:ev (callN T01 d) e [some (.str w),some v] s=r):callN T01 (d+1) 0 [.obj c,.str w,v] s=r:=by
 show(lamAt (.obj c) s).bind (λe=>ev (callN T01 d) e [some (.str w),some v] s)=r
 exact bindI (bindI (o:=asObj (.obj c)) rfl (bindI hc rfl)) h
theorem cut_head (hc:s[c]?=some (.lam headL)) (hw:w.length<=LIM) (hk:k<=w.length):callN T01 (d+1) 0 [.obj c,.str w,.int (k:Int)] s=some (.str (w.take k),s):=cut_lam hc (ev_slc rfl ev_lit rfl ev_lit (slc_head hw hk))
theorem cut_back (hc:s[c]?=some (.lam backL)) (hw:w.length<=LIM) (hk:k<=w.length):callN T01 (d+1) 0 [.obj c,.str w,.int (k:Int)] s=some (.str (w.drop (w.length-k)),s):=cut_lam hc (ev_slc rfl (ev_bin (ev_bcall (evs_one rfl) (if_pos hw)) rfl (sub_int hk)) ev_lit ev_lit (slc_tail hw (Nat.sub_le ..)))
theorem len_str {n:Nat}(hl:w.length<=LIM) (hw:w.length=n):callB .len [.str w] s=some (.int (n:Int),s):=hw▸if_pos hl
noncomputable abbrev lenE:E:=.bcall .len [(.var 12)]
noncomputable abbrev atsE:E:=.comp (.bin .Sub lenE (.var 16)) [(.mk (.var 16) (.bcall .range [(.bin .Add lenE (.lit (.int (1))))]) [(.cmp (.idx (.var 9) (.var 16)) [.LtE] [lenE])])]
noncomputable def ats (E:Nat->Nat) (n:Nat):List Int:=((List.range (n+1)).filter λa=>decide (E a<=n)).map λa=>((n-a:Nat):Int)
theorem ats_ok {F n:Nat}{E:Nat->Nat}(hF:s[F]?=some (.list (rowV E))) (hn:n<=8) (h9:loc[9]?=some (some (.obj F))) (h12:loc[12]?=some (some (.str w))) (hw:w.length=n) (hu:unsetT (.var 16) loc=true) (h16:16<loc.length):
  ev C atsE loc s=some (.obj s.length,s++[.list ((ats E n).map V.int)]):=by
 have hlim:w.length<=LIM:=hw▸nT hn (lim_of rfl)
 have gl:∀ {l:Loc},l[12]?=some (some (.str w))->ev C lenE l s=some (.int (n:Int),s):=λh=>ev_bcall (evs_one (ev_var h)) (len_str hlim hw)
 refine loop_range (n:=n+1) (Nat.lt_of_le_of_lt (Nat.succ_le_succ hn) (by decide)) (f:=genB C (λl s=>ev C (.bin .Sub lenE (.var 16)) l s) (.var 16) [(.cmp (.idx (.var 9) (.var 16)) [.LtE] [lenE])] [] loc) (g:=λk=>V.int (k:Int)) (λk acc s'=>acc=(((List.range k).filter λa=>decide (E a<=n)).map λa=>V.int ((n-a:Nat):Int))/\s'=s) (λk acc s' hk ⟨ha,hs⟩=>by
  subst ha hs
  have h16':(loc.set 16 (some (.int (k:Int))))[16]?=some (some (.int (k:Int))):=List.getElem?_set_self h16
  have hk9:k<=9:=Nat.le_of_lt_succ (Nat.lt_of_lt_of_le hk (nT (Nat.succ_le_succ hn) (by decide)))
  have gl':=gl (l:=loc.set 16 (some (.int (k:Int)))) (get_ne h12)
  have gc:∀ c,decide (E k<=n)=c->ev C (.cmp (.idx (.var 9) (.var 16)) [.LtE] [lenE]) (loc.set 16 (some (.int (k:Int)))) s'=some (.bool c,s'):=λc hc=>ev_cmp1 (ev_idx (ev_var (get_ne h9)) (ev_var h16') (idx_lst (lst_at hF) (row_get hk9))) gl' (by
   show some (decide ((E k:Int)<=(n:Int)))=_
   rw[<-hc]
   exact congrArg some (decide_eq_decide.mpr Int.ofNat_le))
  rw[List.range_succ,List.filter_append,List.map_append]
  by_cases h:E k<=n
  ·rw[List.filter_cons_of_pos (p:=λa=>decide (E a<=n)) (a:=k) (l:=[]) (decide_eq_true h)]
   refine⟨_,s',gen_yes (ifs_go (gc _ (decide_eq_true h)) rfl rfl) (gens_end (ev_bin gl' (ev_var h16') (sub_int (Nat.le_of_lt_succ hk))) ?_),rfl,rfl⟩
   rw[List.length_map]
   exact Nat.lt_of_le_of_lt (List.length_filter_le ..) (by rw[List.length_range];exact Nat.lt_of_lt_of_le hk (nT (Nat.succ_le_succ hn) (lim_of rfl)))
  ·rw[List.filter_cons_of_neg (p:=λa=>decide (E a<=n)) (a:=k) (l:=[]) λh2=>h (of_decide_eq_true h2)]
   exact⟨_,s',gen_no (ifs_stop (gc _ (decide_eq_false h)) rfl),(List.append_nil _).symm,rfl⟩) (a:=[]) (s:=s) ⟨rfl,rfl⟩ λacc s' e e_3=>?_
 obtain⟨rfl,rfl⟩:=e_3
 have hr:ev C (.bcall .range [(.bin .Add lenE (.lit (.int (1))))]) loc s'=some (.rng 0 ((n+1:Nat):Int) 1,s'):=ev_bcall (evs_one (ev_bin (gl h12) ev_lit rfl)) rfl
 have hm:(((List.range (n+1)).filter λa=>decide (E a<=n)).map λa=>V.int ((n-a:Nat):Int))=(ats E n).map V.int:=by unfold ats;rw[List.map_map];rfl
 rw[hm]at e
 refine ev_comp (gens_mk hu hr (iter_rng (Nat.zero_le _) (nT (Nat.succ_le_succ hn) (lim_of rfl))) (by rw[rng_0];exact e)) ?_
 unfold ats
 rw[List.length_map,List.length_map]
 exact nT (List.length_filter_le ..) (by rw[List.length_range];exact nT (Nat.succ_le_succ hn) (lim_of rfl))
theorem ints_list:∀ l:List Int,intsOf (l.map V.int)=some l
 | []=>rfl
 | _::l=>bindI rfl (bindI (ints_list l) rfl)
noncomputable abbrev minE:E:=.bcall .min [(.bin .Add (.list [(.bin .Add lenE (.lit (.int (1))))]) atsE)]
theorem min_ok {Γ:Prop}{F n:Nat}{E:Nat->Nat}(hF:s[F]?=some (.list (rowV E))) (hn:n<=8) (h9:loc[9]?=some (some (.obj F))) (h12:loc[12]?=some (some (.str w))) (hw:w.length=n) (hu:unsetT (.var 16) loc=true) (h16:16<loc.length)
  (kk:∀ s',ev C minE loc s=some (.int (minI (ats E n) ((n+1:Nat):Int)),s')->Ext s s'->Γ):Γ:=by
 have hlim:w.length<=LIM:=hw▸nT hn (lim_of rfl)
 have x1:=Ext.app s [O.list [V.int ((n+1:Nat):Int)]]
 have e1:ev C (.list [(.bin .Add lenE (.lit (.int (1))))]) loc s=some (.obj s.length,s++[.list [V.int ((n+1:Nat):Int)]]):=ev_list (evs_one (ev_bin (ev_bcall (evs_one (ev_var h12)) (len_str hlim hw)) ev_lit rfl)) (lim_of rfl)
 have h1:=top_at s (O.list [V.int ((n+1:Nat):Int)])
 generalize s++[O.list [V.int ((n+1:Nat):Int)]]=s1 at x1 e1 h1
 have e2:=ats_ok (C:=C) (x1.get hF) hn h9 h12 hw hu h16
 have x2:=Ext.app s1 [O.list ((ats E n).map V.int)]
 have h2:=new_at s1 ((ats E n).map V.int)
 generalize s1++[O.list ((ats E n).map V.int)]=s2 at x2 e2 h2
 have hl:(ats E n).length<=9:=by
  unfold ats
  rw[List.length_map]
  exact nT (List.length_filter_le ..) (by rw[List.length_range];exact Nat.succ_le_succ hn)
 have e3:ev C (.bin .Add (.list [(.bin .Add lenE (.lit (.int (1))))]) atsE) loc s=some (.obj s2.length,s2++[.list ((((n+1:Nat):Int)::ats E n).map V.int)]):=
  ev_bin e1 e2 (bindI (lst_at (x2.get h1)) (bindI h2 (newL_ok' (by rw[List.length_append,List.length_map];exact nT (Nat.add_le_add_left hl 1) (lim_of rfl)))))
 exact kk _ (ev_bcall (evs_one e3) (bindI (lst_at (top_at ..)) (bindI (ints_list _) rfl))) (x1.trans (x2.trans (.app ..)))
end
end Mine.Pu
end
section
namespace Mine.Pu
open PySem Mine.Th
noncomputable abbrev loc179 (sc:List Int) (v1 v2 v3 v4 v5 v6 v7 v8 v9 v10 v11 v12 v13 v14 v15:Option V):Loc:=some (.flist (sc.map V.int))::v1::v2::v3::v4::v5::v6::v7::v8::v9::v10::v11::v12::v13::v14::v15::List.replicate 8 none
noncomputable abbrev wordE:E:=.mcall (.lit (.str [46,46,46])) .join [(.comp (.idx (.var 5) (.var 16)) [(.mk (.var 16) (.var 11) [])])]
noncomputable abbrev lastE:E:=.orE [(.cmp (.var 14) [.Gt] [lenE]),(.cmp (.comp (.fcall 28 [(.var 13),(.var 16)]) [(.mk (.var 16) (.tup [(.var 15),(.bin .Add (.lit (.str [33])) (.var 15)),(.bin .Add (.var 15) (.lit (.str [33])))]) [])]) [.Eq] [(.list [(.lit (.bool true)),(.lit (.bool false)),(.lit (.bool false))])])]
noncomputable abbrev dS:List S:=[(.assign (.vars [14,11]) (.fcall 174 [(.var 8),(.var 5),(.var 12),(.lam backL)])),
 (.ifS (.cmp (.var 14) [.NotEq] [minE]) [(.ret (.lit (.bool false)))] []),
 (.assign (.vars [15,13]) (.tup [(.slc (.var 12) (.bin .Sub lenE (.var 14)) (.lit .none) (.lit .none)),wordE])),
 (.ret lastE)]
structure Cx (Dp W F b:Nat) (P:Nat->Cs) (R:Nat->List (List Nat)) (t:Cs) (ws:List Cs) (E:Nat->Nat) (s:AH):Prop where
 hb:47<=b/\b<=254
 pc:Pcs b P
 ht:t.length=8
 hP:PiecesAt s Dp b P
 hW:s[W]?=some (.list (tx ws))
 hF:s[F]?=some (.list (rowV E))
 hw:∀ w∈ws,w.length<=100/\∀ c∈w,Let 255 b c
 hl:ws.length<FUEL
 mem:∀ w,w∈ws↔w∈thin R 256 full
 hE:∀ a,E a<=9/\∀ c,c<=8->(E a<=c↔Lies R P t full 256 a c)
section
variable {Dp W F b:Nat}{P:Nat->Cs}{R:Nat->List (List Nat)}{t:Cs}{ws:List Cs}{E:Nat->Nat}{s s':AH}
theorem Cx.ext (K:Cx Dp W F b P R t ws E s) (x:Ext s s'):Cx Dp W F b P R t ws E s':={K with hP:=x.get K.hP,hW:=x.get K.hW,hF:=x.get K.hF}
theorem str_inj {a b:Cs}(h:some (V.str a,s)=some (V.str b,s)):b=a:=by cases h;rfl
theorem slc_some {w:Cs}{z:Int}(hw:w.length<=LIM):∃ r,slcV (.str w) (.int z) .none .none s=some (.str r,s):=⟨_,if_pos hw⟩
variable {C:Oracle}{loc:Loc}
theorem word_ok {Γ:Prop}(K:Cx Dp W F b P R t ws E s){w:Cs}(hw:w.length<=100/\∀ c∈w,Let 255 b c) (h5:loc[5]?=some (some (.obj Dp))) (h11:loc[11]?=some (some (.str w))) (hu:unsetT (.var 16) loc=true) (h16:16<loc.length)
  (kk:∀ s',ev C wordE loc s=some (.str (joinL dots (w.map P)),s')->Ext s s'->Γ):Γ:=by
 have hlim:w.length<=LIM:=nT hw.1 (lim_of rfl)
 have g:=chars_loop (C:=C) (elt:=λl s=>ev C (.idx (.var 5) (.var 16)) l s) (n:=16) (loc:=loc) (s:=s) (g:=P) w (λc hc=>ev_idx (ev_var (get_ne h5)) (ev_var (List.getElem?_set_self h16)) (pieces_at K.hP K.hb.2 (hw.2 c hc))) FUEL [] (Nat.lt_of_le_of_lt hw.1 (by decide)) (nT (Nat.le_of_eq (Nat.zero_add _)) hlim)
 have hc:ev C (.comp (.idx (.var 5) (.var 16)) [(.mk (.var 16) (.var 11) [])]) loc s=some (.obj s.length,s++[.list (tx (w.map P))]):=ev_comp (gens_mk hu (ev_var h11) rfl g) (by show(tx (w.map P)).length<=LIM;rw[List.length_map,List.length_map];exact hlim)
 have hj:(joinL dots (w.map P)).length<=600:=by
  rcases List.eq_nil_or_concat w with rfl|⟨v,z,rfl⟩
  ·exact Nat.zero_le _
  ·have h:=hw.1
   rw[List.concat_eq_append,List.length_append]at h
   have h:v.length+1<=100:=h
   rw[List.concat_eq_append,List.map_append,show[z].map P=[P z]from rfl,joinL_jn]
   have:=jn_len 2 (v.map P) (P z) λp hp=>by
    rcases List.mem_append.mp hp with hp|hp
    ·exact(K.pc.of hp).2
    ·rw[mS hp];exact K.pc.le z
   rw[List.length_map]at this
   exact nT this (nT (Nat.add_le_add_right (Nat.mul_le_mul_left 5 (Nat.le_of_succ_le h)) 2) (by decide))
 exact kk _ (ev_mcall ev_lit (evs_one hc) rfl (join_ok _ (new_at ..) (strs_of _) (nT hj (lim_of rfl)) (lim_of rfl))) (.app ..)
theorem last_ok {st u tl:Cs}{m:Nat}{lo:Loc}(G:Good P) (h33:∀ l,33∉P l) (h12:lo[12]?=some (some (.str st))) (h13:lo[13]?=some (some (.str (joinL dots (u.map P))))) (h14:lo[14]?=some (some (.int (m:Int)))) (h15:lo[15]?=some (some (.str tl))) (hl:unsetT (.var 16) lo=true) (h16:16<lo.length)
  (hst:st.length<=LIM) (hu:u.length<=100) (ht:m<=st.length->tl.length<=8/\tell P u tl=true):∃ s',ev (callN T01 9) lastE lo s=some (.bool true,s'):=by
 have gg:∀ c,decide (m>st.length)=c->ev (callN T01 9) (.cmp (.var 14) [.Gt] [lenE]) lo s=some (.bool c,s):=λc hc=>ev_cmp1 (ev_var h14) (ev_bcall (evs_one (ev_var h12)) (len_str hst rfl)) (congrArg some ((decide_eq_decide.mpr Int.ofNat_lt).trans hc))
 by_cases hm:m<=st.length
 ·obtain⟨h8,ht⟩:=ht hm
  refine c28_word 8 s G (nT h8 (lim_of rfl)) u hu λs6 c1 _=>c28_word 8 s6 G (g:=33::tl) (nT (Nat.succ_le_succ h8) (lim_of rfl)) u hu λs7 c2 _=>c28_word 8 s7 G (g:=tl++[33]) (by rw[List.length_append];exact nT (Nat.succ_le_succ h8) (lim_of rfl)) u hu λs8 c3 _=>?_
  rw[ht]at c1
  rw[not_full_left h33 G]at c2
  rw[not_full_right h33 G]at c3
  have call:∀ {y:Cs}{b:Bool}{s s':AH},callN T01 9 28 [.str (joinL dots (u.map P)),.str y] s=some (.bool b,s')->ev (callN T01 9) (.fcall 28 [(.var 13),(.var 16)]) (lo.set 16 (some (.str y))) s=some (.bool b,s'):=λc=>ev_fcall (evs_cons (ev_var (get_ne h13)) (evs_one (ev_var (List.getElem?_set_self h16)))) c
  exact⟨_,log_go (gg _ (decide_eq_false (Nat.not_lt_of_le hm))) rfl (log_last (ev_cmp1 (ev_comp (gens_mk hl (ev_tup (evs_cons (ev_var h15) (evs_cons (ev_bin ev_lit (ev_var h15) (add_str (nT (Nat.add_le_add_left h8 1) (lim_of rfl)))) (evs_one (ev_bin (ev_var h15) ev_lit (add_str (nT (Nat.add_le_add_right h8 1) (lim_of rfl))))))) (lim_of rfl)) rfl
   (lv_go (gen_yes rfl (gens_end (call c1) (lim_of (n:=1) rfl))) (lv_go (gen_yes rfl (gens_end (call c2) (lim_of (n:=2) rfl))) (lv_go (gen_yes rfl (gens_end (call c3) (lim_of (n:=3) rfl))) lv_nil)))) (lim_of rfl)) (ev_list rfl (lim_of rfl)) (bindI (lst_at ((Ext.app (s8++[O.list [.bool true,.bool false,.bool false]]) _).get (top_at ..))) (bindI (lst_at (top_at ..)) rfl))))⟩
 ·exact⟨s,log_stop (gg _ (decide_eq_true (Nat.lt_of_not_le hm))) rfl⟩
theorem partD {Γ:Prop}{st:Cs}{sc:List Int}{v1 v2 v3 v4 v6 v7 v10 v11 v13 v14 v15:Option V}(K:Cx Dp W F b P R t ws E s) (hst:st=t.take (E 0))
  (kk:∀ l s',exs (callN T01 9) dS (loc179 sc v1 v2 v3 v4 (some (.obj Dp)) v6 v7 (some (.obj W)) (some (.obj F)) v10 v11 (some (.str st)) v13 v14 v15) s=some (.ret (.bool true),l,s')->Γ):Γ:=by
 have h8:st.length<=8:=by rw[hst,List.length_take,K.ht];exact Nat.min_le_right ..
 have hlim:st.length<=LIM:=nT h8 (lim_of rfl)
 have x1:=Ext.app s [O.lam backL]
 have hc:=top_at s (O.lam backL)
 have K1:=K.ext x1
 refine c174 (d:=7) (n:=st.length) (cf:=λk=>st.drop (st.length-k)) rfl h8 K1.hW K.hl K1.hP K.hb.2 K.pc.toGood K.hw hc (λk s' hk x=>cut_back (x.get hc) hlim hk) (λk _=>nT (by rw[List.length_drop];exact Nat.sub_le ..) hlim)
  (λw k hk h=>(emb_back hk).mpr (((emb_back (Nat.le_of_lt hk)).mp h).from (Nat.sub_le_sub_left (Nat.le_succ k) _))) λm u s2 e2 x2 L=>?_
 have e1:ev (callN T01 9) (.fcall 174 [(.var 8),(.var 5),(.var 12),(.lam backL)]) (loc179 sc v1 v2 v3 v4 (some (.obj Dp)) v6 v7 (some (.obj W)) (some (.obj F)) v10 v11 (some (.str st)) v13 v14 v15) s=some (.tup [.int (m:Int),.str u],s2):=ev_fcall (evs_cons rfl (evs_cons rfl (evs_cons rfl (evs_one rfl)))) e2
 obtain⟨b1,b2,b3,b4⟩:=back_is K.pc.toGood hst K.ht K.mem L K.hE
 have K2:=K1.ext x2
 refine min_ok (C:=callN T01 9) (loc:=loc179 sc v1 v2 v3 v4 (some (.obj Dp)) v6 v7 (some (.obj W)) (some (.obj F)) v10 (some (.str u)) (some (.str st)) v13 (some (.int (m:Int))) v15) (w:=st) K2.hF h8 rfl rfl rfl rfl (show 16<24 by decide) λs3 e3 x3=>?_
 have hmin:minI (ats E st.length) ((st.length+1:Nat):Int)=(m:Int):=by
  refine min_is ?_ λz hz=>?_
  ·rcases b1 with rfl|⟨h1,h2⟩
   ·exact List.mem_cons_self ..
   ·refine List.mem_cons_of_mem _ (List.mem_map.mpr ⟨st.length-m,List.mem_filter.mpr ⟨List.mem_range.mpr (Nat.lt_succ_of_le (Nat.sub_le ..)),decide_eq_true h2⟩,?_⟩)
    rw[Nat.sub_sub_self h1]
  ·rcases mC hz with rfl|hz
   ·exact Int.ofNat_le.mpr b2
   ·obtain⟨a,ha,rfl⟩:=List.mem_map.mp hz
    obtain⟨ha,hEa⟩:=List.mem_filter.mp ha
    exact Int.ofNat_le.mpr (b3 a (Nat.le_of_lt_succ (List.mem_range.mp ha)) (of_decide_eq_true hEa))
 rw[hmin]at e3
 have g3:ev (callN T01 9) (.cmp (.var 14) [.NotEq] [minE]) (loc179 sc v1 v2 v3 v4 (some (.obj Dp)) v6 v7 (some (.obj W)) (some (.obj F)) v10 (some (.str u)) (some (.str st)) v13 (some (.int (m:Int))) v15) s2=some (.bool false,s3):=ev_cmp1 rfl e3 (by
  show(some (decide ((m:Int)=(m:Int)))).bind (λt=>some (!t))=_
  rw[decide_eq_true rfl]
  rfl)
 have K3:=K2.ext x3
 obtain⟨tl,e4⟩:=slc_some (s:=s3) (w:=st) (z:=(st.length:Int)-(m:Int)) hlim
 have hu:u.length<=100/\∀ c∈u,Let 255 b c:=by
  rcases L.2.2.2 with rfl|h
  ·exact⟨Nat.zero_le _,λ_ h=>absurd h List.not_mem_nil⟩
  ·exact K.hw u h
 refine word_ok (C:=callN T01 9) (loc:=loc179 sc v1 v2 v3 v4 (some (.obj Dp)) v6 v7 (some (.obj W)) (some (.obj F)) v10 (some (.str u)) (some (.str st)) v13 (some (.int (m:Int))) v15) K3 hu rfl rfl rfl (show 16<24 by decide) λs5 e5 x5=>?_
 have g5:ev (callN T01 9) (.tup [(.slc (.var 12) (.bin .Sub lenE (.var 14)) (.lit .none) (.lit .none)),wordE]) (loc179 sc v1 v2 v3 v4 (some (.obj Dp)) v6 v7 (some (.obj W)) (some (.obj F)) v10 (some (.str u)) (some (.str st)) v13 (some (.int (m:Int))) v15) s3=some (.tup [.str tl,.str (joinL dots (u.map P))],s5):=
  ev_tup (evs_cons (ev_slc rfl (ev_bin (ev_bcall (evs_one rfl) (len_str hlim rfl)) rfl rfl) ev_lit ev_lit e4) (evs_one e5)) (lim_of rfl)
 have h33:∀ l,33∉P l:=λl h=>(K.pc.chars l 33 h).elim (λh=>absurd h (by decide)) λh=>absurd (show 47<=33 from (h:33=b)▸K.hb.1) (by decide)
 obtain⟨s',h⟩:=last_ok (s:=s5) (m:=m) (tl:=tl) (lo:=loc179 sc v1 v2 v3 v4 (some (.obj Dp)) v6 v7 (some (.obj W)) (some (.obj F)) v10 (some (.str u)) (some (.str st)) (some (.str (joinL dots (u.map P)))) (some (.int (m:Int))) (some (.str tl))) K.pc.toGood h33 rfl rfl rfl rfl rfl (show 16<24 by decide) hlim hu.1 λhm=>by
  rw[<-Int.ofNat_sub hm,slc_tail hlim (Nat.sub_le ..)]at e4
  rw[str_inj e4]
  exact⟨by rw[List.length_drop];exact nT (Nat.sub_le ..) h8,b4 hm⟩
 exact kk _ s' (exs_cons (ex_sets (is:=[14,11]) e1 rfl) (exs_cons (ex_no g3) (exs_cons (ex_sets (is:=[15,13]) g5 rfl) (exs_ret (ex_ret h)))))
end
end Mine.Pu
end
section
namespace Mine.Pu
open PySem Mine.Th
theorem rep_len {α:Type}(l:List α):∀ k,(rep k l).length=k*l.length
 | 0=>(Nat.zero_mul _).symm
 | k+1=>by show(l++rep k l).length=_;rw[List.length_append,rep_len l k,Nat.succ_mul,Nat.add_comm]
theorem self_ell (st:Cs):(ell st [] st (rep 2 st)=true/\ell st [] st (rep 1 st)=decide (st=[]))/\ell st [st] st (rep 3 st)=true/\ell st [st] st (rep 2 st)=decide (st=[]):=by
 by_cases h:st=[]
 ·subst h
  have e0:ell [] [] [] []=true:=(ell_open (P:=λ_=>[]) (w:=[])).mpr (Nat.le_refl 0)
  have e1:ell [] [[]] [] []=true:=(ell_open (P:=λ_=>[]) (w:=[0])).mpr ⟨0,Nat.le_refl 0,List.nil_prefix,Nat.le_refl 0⟩
  have ed:true=decide (([]:Cs)=[]):=(decide_eq_true rfl).symm
  exact⟨⟨e0,e0.trans ed⟩,e1,e1.trans ed⟩
 ·have hp:0<st.length:=List.length_pos_iff.mpr h
  have suf:∀ k,st <:+ rep (k+1) st:=λk=>by
   induction k with
   | zero=>exact⟨[],by show[]++st=st++[];rw[List.append_nil];rfl⟩
   | succ k ih=>exact ih.trans (List.suffix_append ..)
  have no:∀ {b:Bool},(b=true->False)->b=decide (st=[]):=λhb=>by rw[decide_eq_false h];exact Bool.eq_false_iff.mpr hb
  refine⟨⟨(ell_shut h h []).mpr ⟨List.prefix_append ..,suf 1,?_,?_⟩,no λe=>?_⟩,(ell_shut h h [st]).mpr ⟨List.prefix_append ..,suf 2,?_,st.length,Nat.le_refl _,?_,?_⟩,no λe=>?_⟩
  ·rw[rep_len,Nat.two_mul];exact Nat.le_refl _
  ·show st.length<=(st++rep 1 st).length-st.length
   rw[List.length_append,Nat.add_sub_cancel_left,rep_len,Nat.one_mul];exact Nat.le_refl _
  ·have:=((ell_shut h h []).mp e).2.2.1
   rw[rep_len,Nat.one_mul]at this
   exact absurd this (Nat.not_le_of_lt (Nat.lt_add_of_pos_left hp))
  ·rw[rep_len,<-Nat.two_mul];exact Nat.mul_le_mul_right _ (by decide)
  ·show st <+: (st++rep 2 st).drop st.length
   rw[List.drop_left]
   exact List.prefix_append ..
  ·show st.length+st.length<=(st++rep 2 st).length-st.length
   rw[List.length_append,Nat.add_sub_cancel_left,rep_len,Nat.two_mul];exact Nat.le_refl _
  ·obtain⟨i,h1,_,h3⟩:=((ell_shut h h [st]).mp e).2.2.2
   have h4:i+st.length<=(st++rep 1 st).length-st.length:=h3.le
   rw[List.length_append,Nat.add_sub_cancel_left,rep_len,Nat.one_mul]at h4
   exact absurd h4 (Nat.not_le_of_lt (Nat.lt_add_of_pos_left (Nat.lt_of_lt_of_le hp h1)))
noncomputable abbrev selfS:List S:=[(.assign (.var 13) (.mcall (.lit (.str [46,46,46])) .join [(.bin .Mult (.list [(.var 12)]) (.var 6))])),(.ifS (.orE [(.cmp (.fcall 28 [(.var 13),(.bin .Mult (.var 12) (.var 6))]) [.IsNot] [(.lit (.bool true))]),(.cmp (.fcall 28 [(.var 13),(.bin .Mult (.var 12) (.bin .Sub (.var 6) (.lit (.int (1)))))]) [.IsNot] [(.cmp (.var 12) [.Eq] [(.lit (.str []))])])]) [(.ret (.lit (.bool false)))] [])]
noncomputable abbrev cS:List S:=(.assign (.vars [10,11]) (.fcall 174 [(.var 8),(.var 5),(.var 7),(.lam headL)]))::(.ifS (.cmp (.var 10) [.NotEq] [(.idx (.var 9) (.lit (.int (0))))]) [(.ret (.lit (.bool false)))] [])::(.assign (.var 12) (.slc (.var 7) (.lit .none) (.var 10) (.lit .none)))::(.forS (.var 6) (.tup [(.lit (.int (2))),(.lit (.int (3)))]) selfS)::dS
section
variable {Dp W F b:Nat}{P:Nat->Cs}{R:Nat->List (List Nat)}{t ws' st:Cs}{ws ms:List Cs}{E:Nat->Nat}{s:AH}{sc:List Int}{v1 v2 v3 v4 v5 v6 v7 v8 v9 v10 v11 v12 v13 v14 v15:Option V}
theorem self_step {Γ:Prop}{k:Nat}(hd:46∉st) (hst:st.length<=8) (hk:1<=k/\k<=3) (hr:rep k [V.str st]=tx (st::(ms++[st]))) (hm:∀ p∈st::ms++[st],p=st) (hml:ms.length<=1) (h1:ell st ms st (rep k st)=true) (h2:ell st ms st (rep (k-1) st)=decide (st=[]))
  (kk:∀ v13' s',forB (callN T01 9) (.var 6) selfS (.int (k:Int)) (loc179 sc v1 v2 v3 v4 v5 v6 v7 v8 v9 v10 v11 (some (.str st)) v13 v14 v15) s=some (.inl (loc179 sc v1 v2 v3 v4 v5 (some (.int (k:Int))) v7 v8 v9 v10 v11 (some (.str st)) v13' v14 v15),s')->Ext s s'->Γ):Γ:=by
 have hlen:∀ {j:Nat},j<=3->st.length*j<=LIM/\((j:Int)).natAbs<=LIM:=λhj=>⟨nT (Nat.mul_le_mul hst hj) (lim_of rfl),nT hj (lim_of rfl)⟩
 have hrl:∀ {j:Nat},j<=3->(rep j st).length<=LIM:=λ{j} hj=>by rw[rep_len,Nat.mul_comm];exact(hlen hj).1
 have hmul:∀ {j:Nat}{s:AH},j<=3->binV .Mult (.str st) (.int (j:Int)) s=some (.str (rep j st),s):=λhj=>bindI rfl (if_pos (hlen hj))
 have hjn:joinL dots (st::(ms++[st]))=jn (st::ms) st:=joinL_jn (st::ms) st
 have hjl:(jn (st::ms) st).length<=LIM:=by
  have:=jn_len 8 (st::ms) st λp hp=>(hm p hp)▸hst
  rw[List.length_cons]at this
  exact nT this (nT (Nat.add_le_add_right (Nat.mul_le_mul_left 11 (Nat.succ_le_succ hml)) 8) (lim_of rfl))
 have x1:=(Ext.app s [O.list [V.str st]]).trans (.app _ [O.list (tx (st::(ms++[st])))])
 have e1:ev (callN T01 9) (.bin .Mult (.list [(.var 12)]) (.var 6)) (loc179 sc v1 v2 v3 v4 v5 (some (.int (k:Int))) v7 v8 v9 v10 v11 (some (.str st)) v13 v14 v15) s=some (.obj (s++[O.list [V.str st]]).length,(s++[O.list [V.str st]])++[O.list (tx (st::(ms++[st])))]):=by
  refine ev_bin (ev_list (evs_one rfl) (lim_of rfl)) rfl (bindI (new_at s [V.str st]) (bindI (a:=(k:Int)) rfl ((if_pos ⟨?_,(hlen hk.2).2⟩).trans ?_)))
  ·rw[show rep ((k:Int)).toNat [V.str st]=_ from hr]
   exact newL_ok' (by rw[List.length_map,List.length_cons,List.length_append];exact nT (Nat.succ_le_succ (Nat.add_le_add_right hml 1)) (lim_of rfl))
  ·exact nT (Nat.mul_le_mul_left 1 hk.2) (lim_of rfl)
 have h1':=new_at (s++[O.list [V.str st]]) (tx (st::(ms++[st])))
 generalize (s++[O.list [V.str st]]).length=i at e1 h1'
 generalize (s++[O.list [V.str st]])++[O.list (tx (st::(ms++[st])))]=s1 at x1 e1 h1'
 have e2:=join_ok dots h1' (strs_of _) (hjn▸hjl) (lim_of rfl)
 rw[hjn]at e2
 have hc:∀ p∈st::ms++[st],46∉p/\p.length<=LIM:=λp hp=>(hm p hp)▸⟨hd,nT hst (lim_of rfl)⟩
 have hf:ms.length+2<FUEL:=Nat.lt_of_le_of_lt (Nat.add_le_add_right hml 2) (by decide)
 refine c28 8 s1 st ms st (rep k st) hc hf hjl (hrl hk.2) λs2 c2 x2=>?_
 refine c28 8 s2 st ms st (rep (k-1) st) hc hf hjl (hrl (nT (Nat.sub_le ..) hk.2)) λs3 c3 x3=>?_
 rw[h1]at c2
 rw[h2]at c3
 have g2:ev (callN T01 9) (.cmp (.fcall 28 [(.var 13),(.bin .Mult (.var 12) (.var 6))]) [.IsNot] [(.lit (.bool true))]) (loc179 sc v1 v2 v3 v4 v5 (some (.int (k:Int))) v7 v8 v9 v10 v11 (some (.str st)) (some (.str (jn (st::ms) st))) v14 v15) s1=some (.bool false,s2):=ev_cmp1 (ev_fcall (evs_cons rfl (evs_one (ev_bin rfl rfl (hmul hk.2)))) c2) rfl rfl
 have g3:ev (callN T01 9) (.cmp (.fcall 28 [(.var 13),(.bin .Mult (.var 12) (.bin .Sub (.var 6) (.lit (.int (1)))))]) [.IsNot] [(.cmp (.var 12) [.Eq] [(.lit (.str []))])]) (loc179 sc v1 v2 v3 v4 v5 (some (.int (k:Int))) v7 v8 v9 v10 v11 (some (.str st)) (some (.str (jn (st::ms) st))) v14 v15) s2=some (.bool false,s3):=
  ev_cmp1 (y:=.bool (decide (st=[]))) (ev_fcall (evs_cons rfl (evs_one (ev_bin rfl (ev_bin rfl ev_lit (sub_int (b:=1) hk.1)) (hmul (nT (Nat.sub_le ..) hk.2))))) c3) (ev_cmp1 rfl rfl rfl) (by
   show some (!(decide (st=[])==decide (st=[])))=_
   rw[beq_self_eq_true]
   rfl)
 exact kk _ s3 (for_next (exs_cons (ex_set (ev_mcall ev_lit (evs_one e1) rfl e2)) (exs_one (ex_no (log_go g2 rfl (log_last g3)))))) (x1.trans (x2.trans x3))
theorem partC {Γ:Prop}(K:Cx Dp W F b P R t ws E s) (hd:46∉t)
  (kk:∀ l s',exs (callN T01 9) cS (loc179 sc v1 v2 v3 v4 (some (.obj Dp)) v6 (some (.str t)) (some (.obj W)) (some (.obj F)) v10 v11 v12 v13 v14 v15) s=some (.ret (.bool true),l,s')->Γ):Γ:=by
 have hlim:t.length<=LIM:=by rw[K.ht];exact lim_of rfl
 have x1:=Ext.app s [O.lam headL]
 have hc:=top_at s (O.lam headL)
 have K1:=K.ext x1
 refine c174 (d:=7) (n:=8) (cf:=λk=>t.take k) K.ht (Nat.le_refl 8) K1.hW K.hl K1.hP K.hb.2 K.pc.toGood K.hw hc (λk s' hk x=>cut_head (x.get hc) hlim (K.ht▸hk)) (λk _=>nT (List.length_take_le' ..) hlim)
  (λw k hk h=>(emb_head (K.ht▸hk)).mpr (((emb_head (K.ht▸Nat.le_of_lt hk)).mp h).to (Nat.le_succ k))) λm u s2 e2 x2 L=>?_
 have hm:=front_is K.ht K.mem L K.hE
 subst hm
 have e1:ev (callN T01 9) (.fcall 174 [(.var 8),(.var 5),(.var 7),(.lam headL)]) (loc179 sc v1 v2 v3 v4 (some (.obj Dp)) v6 (some (.str t)) (some (.obj W)) (some (.obj F)) v10 v11 v12 v13 v14 v15) s=some (.tup [.int (E 0:Int),.str u],s2):=ev_fcall (evs_cons rfl (evs_cons rfl (evs_cons rfl (evs_one rfl)))) e2
 have K2:=K1.ext x2
 have g3:ev (callN T01 9) (.cmp (.var 10) [.NotEq] [(.idx (.var 9) (.lit (.int (0))))]) (loc179 sc v1 v2 v3 v4 (some (.obj Dp)) v6 (some (.str t)) (some (.obj W)) (some (.obj F)) (some (.int (E 0:Int))) (some (.str u)) v12 v13 v14 v15) s2=some (.bool false,s2):=
  ev_cmp1 rfl (ev_idx rfl ev_lit (idx_lst (lst_at K2.hF) (row_get (a:=0) (Nat.zero_le 9)))) (by
   show(some (decide ((E 0:Int)=(E 0:Int)))).bind (λt=>some (!t))=_
   rw[decide_eq_true rfl]
   rfl)
 have e4:slcV (.str t) .none (.int (E 0:Int)) .none s2=some (.str (t.take (E 0)),s2):=(if_pos hlim).trans (bindI (show(clip (.int (E 0:Int)) t.length t.length).bind (λb=>some ((t.take b).drop 0))=some (t.take (E 0))from bindI (congrArg some (if_pos (Int.natCast_nonneg _))) (congrArg some (show t.take (min (E 0) t.length)=t.take (E 0)from List.take_eq_take_iff.mpr (by rw[Nat.min_assoc,Nat.min_self])))) rfl)
 have hst:∀ {st:Cs},st=t.take (E 0)->st.length<=8/\46∉st:=λe=>⟨by rw[e,List.length_take,K.ht];exact Nat.min_le_right ..,λh=>hd (List.mem_of_mem_take (e▸h))⟩
 generalize hse:t.take (E 0)=st at e4
 obtain⟨h8,hd'⟩:=hst hse.symm
 obtain⟨⟨i1,i2⟩,i3,i4⟩:=self_ell st
 refine self_step (s:=s2) (sc:=sc) (v1:=v1) (v2:=v2) (v3:=v3) (v4:=v4) (v5:=some (.obj Dp)) (v6:=v6) (v7:=some (.str t)) (v8:=some (.obj W)) (v9:=some (.obj F)) (v10:=some (.int (E 0:Int))) (v11:=some (.str u)) (v13:=v13) (v14:=v14) (v15:=v15) (k:=2) (ms:=[]) hd' h8 (by decide) rfl (λp hp=>(mC hp).elim id mS) (Nat.zero_le 1) i1 i2 λv13' s5 e5 x5=>?_
 refine self_step (s:=s5) (sc:=sc) (v1:=v1) (v2:=v2) (v3:=v3) (v4:=v4) (v5:=some (.obj Dp)) (v6:=some (.int ((2:Nat):Int))) (v7:=some (.str t)) (v8:=some (.obj W)) (v9:=some (.obj F)) (v10:=some (.int (E 0:Int))) (v11:=some (.str u)) (v13:=v13') (v14:=v14) (v15:=v15) (k:=3) (ms:=[st]) hd' h8 (by decide) rfl (λp hp=>(mC hp).elim id λh=>(mC h).elim id mS) (Nat.le_refl 1) i3 i4 λv13'' s6 e6 x6=>?_
 refine partD (sc:=sc) (v1:=v1) (v2:=v2) (v3:=v3) (v4:=v4) (v6:=some (.int ((3:Nat):Int))) (v7:=some (.str t)) (v10:=some (.int (E 0:Int))) (v11:=some (.str u)) (v13:=v13'') (v14:=v14) (v15:=v15) (K2.ext (x5.trans x6)) hse.symm λl s' h=>?_
 exact kk l s' (exs_cons (ex_sets (is:=[10,11]) e1 rfl) (exs_cons (ex_no g3) (exs_cons (ex_set (ev_slc rfl ev_lit rfl ev_lit e4)) (exs_cons (ex_for (ev_tup rfl (lim_of rfl)) rfl (lv_go e5 (lv_go e6 lv_nil))) h))))
end
end Mine.Pu
end
section
namespace Mine.Pu
open PySem Mine.Th
noncomputable abbrev checkS:List S:=[(.ifS (.orE [(.cmp (.fcall 133 [(.var 3)]) [.IsNot] [(.cmp (.var 3) [.Eq] [(.lit (.int (0)))])]),(.cmp (.fcall 119 [(.var 3)]) [.IsNot] [(.cmp (.var 3) [.Lt] [(.lit (.int (256)))])]),(.cmp (.fcall 126 [(.var 3)]) [.IsNot] [(.cmp (.var 3) [.Gt] [(.lit (.int (255)))])])]) [(.ret (.lit (.bool false)))] [])]
noncomputable abbrev textE:E:=.mcall (.lit (.str [])) .join [(.comp (.bcall .chr [(.idx (.var 2) (.bin .Mod (.bin .FloorDiv (.idx (.var 1) (.lit (.int (3)))) (.bin .Pow (.lit (.int (2))) (.var 16))) (.lit (.int (2)))))]) [(.mk (.var 16) (.bcall .range [(.lit (.int (8)))]) [])])]
noncomputable abbrev bS:List S:=(.ifS (.cmp (.bcall .sorted [(.var 8)]) [.NotEq] [(.bcall .sorted [(.fcall 164 [(.var 4),(.lit (.int (256))),(.list [])])])]) [(.ret (.lit (.bool false)))] [])::(.assign (.var 8) (.bcall .sorted [(.bcall .set [(.var 8)])]))::(.assign (.var 9) (.fcall 169 [(.var 4),(.var 5),(.var 7)]))::cS
theorem mod_nat {z m:Int}(h:0<m):∃ k:Nat,(k:Int)<m/\Int.fmod z m=(k:Int):=nat_of (P:=λz=>∃ k:Nat,(k:Int)<m/\z=(k:Int)) h λi hi=>⟨i,hi,rfl⟩
section
variable {sc:List Int}{s:AH}{v1 v2 v3 v4 v5 v6 v7 v8 v9 v10 v11 v12 v13 v14 v15:Option V}
theorem check_step (x:Nat):forB (callN T01 9) (.var 3) checkS (.int (x:Int)) (loc179 sc v1 v2 v3 v4 v5 v6 v7 v8 v9 v10 v11 v12 v13 v14 v15) s=some (.inl (loc179 sc v1 v2 (some (.int (x:Int))) v4 v5 v6 v7 v8 v9 v10 v11 v12 v13 v14 v15),s):=by
 have same:∀ {c:Bool},compareV .IsNot (.bool c) (.bool c) s=some false:=λ{c}=>by cases c<;>rfl
 have g1:ev (callN T01 9) (.cmp (.fcall 133 [(.var 3)]) [.IsNot] [(.cmp (.var 3) [.Eq] [(.lit (.int (0)))])]) (loc179 sc v1 v2 (some (.int (x:Int))) v4 v5 v6 v7 v8 v9 v10 v11 v12 v13 v14 v15) s=some (.bool false,s):=ev_cmp1 (ev_fcall (evs_one rfl) (c133 8 s x)) (ev_cmp1 rfl rfl rfl) same
 have g2:ev (callN T01 9) (.cmp (.fcall 119 [(.var 3)]) [.IsNot] [(.cmp (.var 3) [.Lt] [(.lit (.int (256)))])]) (loc179 sc v1 v2 (some (.int (x:Int))) v4 v5 v6 v7 v8 v9 v10 v11 v12 v13 v14 v15) s=some (.bool false,s):=ev_cmp1 (ev_fcall (evs_one rfl) (c119 8 s x)) (ev_cmp1 rfl rfl rfl) same
 have g3:ev (callN T01 9) (.cmp (.fcall 126 [(.var 3)]) [.IsNot] [(.cmp (.var 3) [.Gt] [(.lit (.int (255)))])]) (loc179 sc v1 v2 (some (.int (x:Int))) v4 v5 v6 v7 v8 v9 v10 v11 v12 v13 v14 v15) s=some (.bool false,s):=
  ev_cmp1 (ev_fcall (evs_one rfl) (c126 8 s x)) (ev_cmp1 (b:=decide ((x:Int)≥256)) rfl rfl (congrArg some (decide_eq_decide.mpr Int.lt_iff_add_one_le))) same
 exact for_next (exs_one (ex_no (log_go g1 rfl (log_go g2 rfl (log_last g3)))))
theorem text_ok {Γ:Prop}{S A b:Nat}{L:List Int}(hb:47<=b/\b<=254) (hS:s[S]?=some (.list (L.map V.int))) (hL:3<L.length) (hA:s[A]?=some (.list (iv [255,b])))
  (kk:∀ t s',ev (callN T01 9) textE (loc179 sc (some (.obj S)) (some (.obj A)) v3 v4 v5 v6 v7 v8 v9 v10 v11 v12 v13 v14 v15) s=some (.str t,s')->Ext s s'->t.length=8->46∉t->Γ):Γ:=by
 obtain⟨g,hg⟩:=Classical.skolem.mp λk:Nat=>pick (F:=A) (r:=[255,b]) (m:=2) (by decide) (Nat.le_refl 2) (Int.fdiv L[3] (2 ^ k))
 have hp:∀ k,k<8->¬((2:Int) ^ k=0∨BIG<=((2:Int) ^ k).natAbs):=by unfold BIG;decide
 have hl:∀ k,Let 255 b (g k):=λk=>two_let (hg k).1
 have h255:∀ k,g k<=255:=λk=>(hl k).elim (λh=>Nat.le_of_eq h) λh=>(h:g k=b)▸Nat.le_succ_of_le hb.2
 refine comp_rng (C:=callN T01 9) (elt:=λl s=>ev (callN T01 9) (.bcall .chr [(.idx (.var 2) (.bin .Mod (.bin .FloorDiv (.idx (.var 1) (.lit (.int (3)))) (.bin .Pow (.lit (.int (2))) (.var 16))) (.lit (.int (2)))))]) l s) (n:=16) (m:=8) (j:=8) rfl (by decide) (λk=>.str [g k]) (it:=.bcall .range [(.lit (.int (8)))]) (loc:=loc179 sc (some (.obj S)) (some (.obj A)) v3 v4 v5 v6 v7 v8 v9 v10 v11 v12 v13 v14 v15) (s:=s) (s1:=s) rfl rfl
  (λk s' hk x=>⟨s',ev_bcall (evs_one (ev_idx rfl (ev_bin (ev_bin (ev_idx rfl ev_lit (idx_lst (k:=3) (lst_at (x.get hS)) (ints_get hL))) (ev_bin ev_lit rfl (pow_ok ⟨Int.natCast_nonneg k,Int.ofNat_le.mpr (nT (Nat.le_of_lt hk) (by decide:8<=64)),by decide⟩)) (fdiv_ok (hp k hk))) ev_lit (mod_ok (by decide))) ((hg k).2 s' (x.get hA)))) (chr_int (i:=(g k:Int)) ⟨Int.natCast_nonneg _,Int.ofNat_lt.mpr (Nat.lt_of_le_of_lt (h255 k) (by decide))⟩),.refl _⟩) λs' e x=>?_
 refine kk ((List.range 8).map g) _ (ev_mcall ev_lit (evs_one (ev_comp e (lim_of rfl))) rfl (join_ok (l:=(List.range 8).map λk=>[g k]) [] (new_at ..) (strs_of ((List.range 8).map λk=>[g k])) (lim_of rfl) (Nat.zero_le _))) (x.trans (.app ..)) rfl (λh=>?_)
 obtain⟨k,_,hk⟩:=List.mem_map.mp h
 rcases hl k with h|h
 ·rw[h]at hk;exact absurd hk (by decide)
 ·exact absurd (show 47<=46 from hk▸(h:g k=b)▸hb.1) (by decide)
theorem sort_call {i:Nat}{l:List Cs}(h:s[i]?=some (.list (tx l))) (hl:l.length<64):callB .sorted [.obj i] s=some (.obj s.length,s++[.list (tx (sortS l))]):=by
 have h1:textsAt (.obj i) s=some l:=by
  have:((asObj (.obj i)).bind λi=>(s[i]?).bind asSet)=none:=by show(s[i]?).bind asSet=none;rw[h];rfl
  unfold textsAt
  rw[this]
  exact bindI (lst_at h) (strs_of l)
 exact bindI h1 ((if_pos hl).trans (newL_ok' (by rw[List.length_map,(sortS_perm l).length_eq];exact nT (Nat.le_of_lt hl) (lim_of rfl))))
theorem set_call {i:Nat}{l:List Cs}(h:s[i]?=some (.list (tx l))) (hl:l.length<64):callB .set [.obj i] s=some (.obj s.length,s++[.set (dedupS l [])]):=bindI (lst_at h) (bindI (strs_of l) (if_pos (by rw[List.length_map];exact hl)))
theorem sort_set {i:Nat}{l:List Cs}(h:s[i]?=some (.set l)) (hl:l.length<64):callB .sorted [.obj i] s=some (.obj s.length,s++[.list (tx (sortS l))]):=by
 have h1:textsAt (.obj i) s=some l:=by
  have:((asObj (.obj i)).bind λi=>(s[i]?).bind asSet)=some l:=by show(s[i]?).bind asSet=some l;rw[h];rfl
  unfold textsAt
  rw[this]
 exact bindI h1 ((if_pos hl).trans (newL_ok' (by rw[List.length_map,(sortS_perm l).length_eq];exact nT (Nat.le_of_lt hl) (lim_of rfl))))
theorem eqL_strs:∀ l:List Cs,eqL (eqP 3) (tx l) (tx l)=some true
 | []=>rfl
 | _::l=>bindI (a:=true) (congrArg some (decide_eq_true rfl)) (bindI (eqL_strs l) rfl)
theorem partB {Γ:Prop}{D Dp W b:Nat}{P:Nat->Cs}{R:Nat->List (List Nat)}{t:Cs}{ws:List Cs}(hb:47<=b/\b<=254) (S:Shape R 255 b) (pc:Pcs b P) (hR:RulesAt s D R) (hP:PiecesAt s Dp b P) (ht:t.length=8) (hd:46∉t) (hW:s[W]?=some (.list (tx ws))) (hp:ws.Perm (thin R 256 full)) (hl:ws.length<=23)
  (kk:∀ l s',exs (callN T01 9) bS (loc179 sc v1 v2 v3 (some (.obj D)) (some (.obj Dp)) v6 (some (.str t)) (some (.obj W)) v9 v10 v11 v12 v13 v14 v15) s=some (.ret (.bool true),l,s')->Γ):Γ:=by
 have hl64:ws.length<64:=Nat.lt_of_le_of_lt hl (by decide)
 have hlt:(thin R 256 full).length<64:=hp.length_eq▸hl64
 have e1:ev (callN T01 9) (.bcall .sorted [(.var 8)]) (loc179 sc v1 v2 v3 (some (.obj D)) (some (.obj Dp)) v6 (some (.str t)) (some (.obj W)) v9 v10 v11 v12 v13 v14 v15) s=some (.obj s.length,s++[.list (tx (sortS ws))]):=ev_bcall (evs_one rfl) (sort_call hW hl64)
 have x1:=Ext.app s [O.list (tx (sortS ws))]
 have h1:=top_at s (O.list (tx (sortS ws)))
 generalize s++[O.list (tx (sortS ws))]=s1 at e1 x1 h1
 have x2:=Ext.app s1 [O.list (iv [])]
 obtain⟨F2,s3,e3,x3,h3⟩:=c164 S (Nat.lt_succ_of_le (Nat.le_succ_of_le hb.2)) 3 8 (s1++[O.list (iv [])]) 256 [] s1.length (by decide) ((hR.ext x1).ext x2) (top_at ..) (by decide) (by decide) (.inr (.head _))
 rw[show avl []=full from rfl]at h3
 have x13:=x2.trans x3
 have e4:ev (callN T01 9) (.bcall .sorted [(.fcall 164 [(.var 4),(.lit (.int (256))),(.list [])])]) (loc179 sc v1 v2 v3 (some (.obj D)) (some (.obj Dp)) v6 (some (.str t)) (some (.obj W)) v9 v10 v11 v12 v13 v14 v15) s1=some (.obj s3.length,s3++[.list (tx (sortS (thin R 256 full)))]):=
  ev_bcall (evs_one (ev_fcall (evs_cons rfl (evs_cons rfl (evs_one (ev_list rfl (lim_of rfl))))) e3)) (sort_call h3 hlt)
 have x4:=Ext.app s3 [O.list (tx (sortS (thin R 256 full)))]
 have h4:=new_at s3 (tx (sortS (thin R 256 full)))
 generalize s3++[O.list (tx (sortS (thin R 256 full)))]=s4 at e4 x4 h4
 have x14:=x13.trans x4
 have g1:=ev_cmp1 (op:=.NotEq) (b:=false) e1 e4 (by
  refine bindI (a:=true) (bindI (lst_at (x14.get h1)) (bindI h4 ?_)) rfl
  rw[sort_same hp]
  exact(if_pos rfl).trans (eqL_strs _))
 have x04:=x1.trans x14
 have hW4:=x04.get hW
 have x5:=Ext.app s4 [O.set (dedupS ws [])]
 have h5:=top_at s4 (O.set (dedupS ws []))
 have hdl:(dedupS ws []).length<64:=Nat.lt_of_le_of_lt (dedupS_len ws []) (by rw[List.length_nil,Nat.zero_add];exact hl64)
 have e6:ev (callN T01 9) (.bcall .sorted [(.bcall .set [(.var 8)])]) (loc179 sc v1 v2 v3 (some (.obj D)) (some (.obj Dp)) v6 (some (.str t)) (some (.obj W)) v9 v10 v11 v12 v13 v14 v15) s4=some (.obj (s4++[O.set (dedupS ws [])]).length,(s4++[O.set (dedupS ws [])])++[.list (tx (sortS (dedupS ws [])))]):=ev_bcall (evs_one (ev_bcall (evs_one rfl) (set_call hW4 hl64))) (sort_set h5 hdl)
 have x6:=x5.trans (.app _ [O.list (tx (sortS (dedupS ws [])))])
 have h6:=top_at (s4++[O.set (dedupS ws [])]) (O.list (tx (sortS (dedupS ws []))))
 generalize (s4++[O.set (dedupS ws [])]).length=W' at e6 h6
 generalize (s4++[O.set (dedupS ws [])])++[O.list (tx (sortS (dedupS ws [])))]=s6 at e6 x6 h6
 have x06:=x04.trans x6
 refine c169 8 hb ht S pc.toGood (hR.ext x06) (show PiecesAt s6 Dp b P from x06.get hP) λF E s7 e7 x7 h7 hE=>?_
 have hwt:∀ w,w∈sortS (dedupS ws [])↔w∈thin R 256 full:=λw=>mem_words.trans hp.mem_iff
 have hbd:=thin_bd S 3 (s:=256) (A:=full) (Nat.le_refl 3) (λ_ h=>h) (.inr (.head _))
 refine partC (sc:=sc) (v1:=v1) (v2:=v2) (v3:=v3) (v4:=some (.obj D)) (v6:=v6) (v10:=v10) (v11:=v11) (v12:=v12) (v13:=v13) (v14:=v14) (v15:=v15) (s:=s7) {hb:=hb,pc:=pc,ht:=ht,hP:=x7.get (x06.get hP),hW:=x7.get h6,hF:=h7,hw:=λw hw=>⟨nT (hbd.2 w ((hwt w).mp hw)).1 (by decide),(hbd.2 w ((hwt w).mp hw)).2⟩,hl:=Nat.lt_of_le_of_lt (Nat.le_of_eq (sortS_perm _).length_eq) (Nat.lt_trans hdl (show 64<FUEL by decide)),mem:=hwt,hE:=hE} hd λl s' e8=>?_
 exact kk l s' (exs_cons (ex_no g1) (exs_cons (ex_set e6) (exs_cons (ex_set (ev_fcall (evs_cons rfl (evs_cons rfl (evs_one rfl))) e7)) e8)))
end
theorem pure01 (sc:List Int) (h:sc.length<=63):∃ σ,callN T01 10 179 [.flist (sc.map V.int)] []=some (.bool true,σ):=by
 refine c140 8 sc h [] λS L s1 hL e1 o1=>?_
 have hS1:=o1.at_
 obtain⟨k,hk,ek⟩:=mod_nat (z:=L.foldl (· + ·) 0) (m:=208) (by decide)
 obtain⟨f,hf,ef⟩:=mod_nat (z:=Int.fdiv (L.foldl (· + ·) 0) 208) (m:=3) (by decide)
 obtain⟨b,eb⟩:∃ b,b=47+k:=⟨_,rfl⟩
 have hb:47<=b/\b<=254:=⟨eb▸Nat.le_add_right ..,eb▸Nat.add_le_add_left (Nat.le_of_lt_succ (Int.ofNat_lt.mp hk)) 47⟩
 have sum_ok:∀ {s:AH},s[S]?=some (.list (L.map V.int))->callB .sum [.obj S] s=some (.int (L.foldl (· + ·) 0),s):=λh=>bindI (lst_at h) (bindI (ints_list L) rfl)
 have e2:ev (callN T01 9) (.list [(.lit (.int (255))),(.bin .Add (.lit (.int (47))) (.bin .Mod (.bcall .sum [(.var 1)]) (.lit (.int (208)))))]) (loc179 sc (some (.obj S)) none none none none none none none none none none none none none none) s1=some (.obj s1.length,s1++[.list (iv [255,b])]):=by
  refine ev_list (evs_cons ev_lit (evs_one (ev_bin ev_lit (ev_bin (ev_bcall (evs_one rfl) (sum_ok hS1)) ev_lit (mod_ok (by decide))) ?_))) (lim_of rfl)
  rw[ek,eb]
  rfl
 have x2:=Ext.app s1 [O.list (iv [255,b])]
 have hA2:=top_at s1 (O.list (iv [255,b]))
 generalize s1.length=A at e2 hA2
 have hS2:=x2.get hS1
 generalize s1++[O.list (iv [255,b])]=s2 at e2 hA2 hS2
 have x3:=(Ext.app s2 [O.list (iv [0,256,257,258])]).trans (.app _ [O.list (iv [255,b,0,256,257,258])])
 have e3:ev (callN T01 9) (.bin .Add (.var 2) (.list [(.lit (.int (0))),(.lit (.int (256))),(.lit (.int (257))),(.lit (.int (258)))])) (loc179 sc (some (.obj S)) (some (.obj A)) none none none none none none none none none none none none none) s2=some (.obj (s2++[O.list (iv [0,256,257,258])]).length,(s2++[O.list (iv [0,256,257,258])])++[.list (iv [255,b,0,256,257,258])]):=
  ev_bin rfl (ev_list rfl (lim_of rfl)) (bindI (lst_at ((Ext.app s2 _).get hA2)) (bindI (new_at s2 (iv [0,256,257,258])) (newL_ok' (lim_of rfl))))
 have h3:=top_at (s2++[O.list (iv [0,256,257,258])]) (O.list (iv [255,b,0,256,257,258]))
 generalize (s2++[O.list (iv [0,256,257,258])]).length=i at e3 h3
 generalize (s2++[O.list (iv [0,256,257,258])])++[O.list (iv [255,b,0,256,257,258])]=s3 at x3 e3 h3
 have hS3:=x3.get hS2
 have hA3:=x3.get hA2
 have e4:ex (callN T01 9) (.forS (.var 3) (.bin .Add (.var 2) (.list [(.lit (.int (0))),(.lit (.int (256))),(.lit (.int (257))),(.lit (.int (258)))])) checkS) (loc179 sc (some (.obj S)) (some (.obj A)) none none none none none none none none none none none none none) s2=some (.next,loc179 sc (some (.obj S)) (some (.obj A)) (some (.int (258:Nat))) none none none none none none none none none none none none,s3):=
  ex_for e3 (iter_lst (lst_at h3)) (ll_go (lst_at h3) rfl (check_step 255) (ll_go (lst_at h3) rfl (check_step b) (ll_go (lst_at h3) rfl (check_step 0) (ll_go (lst_at h3) rfl (check_step 256) (ll_go (lst_at h3) rfl (check_step 257) (ll_go (lst_at h3) rfl (check_step 258) (ll_nil (lst_at h3) rfl)))))))
 refine c147 8 hS3 hL hA3 λD R s4 e5 x4 hR4 Sh=>?_
 refine c154 8 hb (Int.fdiv (L[3]'(hL▸by decide)) 256) (x4.get hA3) λDp P s5 e6 x5 hP5 pc=>?_
 have e56:ev (callN T01 9) (.tup [(.fcall 147 [(.var 1),(.var 2)]),(.fcall 154 [(.var 2),(.bin .FloorDiv (.idx (.var 1) (.lit (.int (3)))) (.lit (.int (256))))])]) (loc179 sc (some (.obj S)) (some (.obj A)) (some (.int (258:Nat))) none none none none none none none none none none none none) s3=some (.tup [.obj D,.obj Dp],s5):=
  ev_tup (evs_cons (ev_fcall (evs_cons rfl (evs_one rfl)) e5) (evs_one (ev_fcall (evs_cons rfl (evs_one (ev_bin (ev_idx rfl ev_lit (idx_lst (k:=3) (lst_at (x4.get hS3)) (ints_get (hL▸by decide)))) ev_lit (fdiv_ok (by unfold BIG;decide))))) e6))) (lim_of rfl)
 have x35:=x4.trans x5
 refine text_ok (sc:=sc) (v3:=some (.int (258:Nat))) (v4:=some (.obj D)) (v5:=some (.obj Dp)) (v6:=none) (v7:=none) (v8:=none) (v9:=none) (v10:=none) (v11:=none) (v12:=none) (v13:=none) (v14:=none) (v15:=none) hb (x35.get hS3) (hL▸by decide) (x35.get hA3) λt s6 e7 x6 ht hd=>?_
 have hR6:=(hR4.ext x5).ext x6
 refine c159 7 (fst:=(f:Int)) ⟨Int.natCast_nonneg f,Int.le_trans (Int.le_of_lt hf) (by decide)⟩ hb Sh hR6 λW ws s7 e8 x7 hW hp hl=>?_
 have e9:ev (callN T01 9) (.fcall 159 [(.var 4),(.bin .Mod (.bin .FloorDiv (.bcall .sum [(.var 1)]) (.lit (.int (208)))) (.lit (.int (3))))]) (loc179 sc (some (.obj S)) (some (.obj A)) (some (.int (258:Nat))) (some (.obj D)) (some (.obj Dp)) none (some (.str t)) none none none none none none none none) s6=some (.obj W,s7):=by
  refine ev_fcall (evs_cons rfl (evs_one (ev_bin (ev_bin (ev_bcall (evs_one rfl) (sum_ok (x6.get (x35.get hS3)))) ev_lit (fdiv_ok (by unfold BIG;decide))) ev_lit ((mod_ok (by decide)).trans ?_)))) e8
  rw[ef]
 refine partB (sc:=sc) (v1:=some (.obj S)) (v2:=some (.obj A)) (v3:=some (.int (258:Nat))) (v6:=none) (v9:=none) (v10:=none) (v11:=none) (v12:=none) (v13:=none) (v14:=none) (v15:=none) hb Sh pc (hR6.ext x7) (show PiecesAt s7 Dp b P from x7.get (x6.get hP5)) ht hd hW hp hl λl s' e=>?_
 exact⟨s',call_ret (np:=1) (ns:=23) (A:=b179) rfl rfl (exs_cons (ex_set (ev_fcall (evs_one rfl) e1)) (exs_cons (ex_set e2) (exs_cons e4 (exs_cons (ex_sets (is:=[4,5]) e56 rfl) (exs_cons (ex_set e7) (exs_cons (ex_set e9) e))))))⟩
end Mine.Pu
end
section
end
open PySem PySem.W PyProof.Rows PySem.W.X PySem.Calls Mine
theorem PySem.Challenge.cw_uy0001_01_holds : PySem.Challenge.rw_uy0001_01.Holds := by
 w_on
 refine holds_law said01 λsaid=>?_
 refine holds_openX (q:=view01) (loose:=["_Accumulator"]) (XP:=XL view01 []) (Yf:=obsZ as01) (Ya:=valZ K01h 180 404) (N:=2*970+100) (d:=d01.1) (kwd:=d01.2) left01 (λs e=>xl_of s (Bool.and_eq_true_iff.mp e).1) XL.keeps (by kernel_rfl) (by kernel_rfl) (by kernel_rfl) (λs e=>recFacts_of (Bool.and_eq_true_iff.mp e).2) (by rfl) said (by decide +kernel) ⟨rfl,rfl,rfl,rfl,rfl,by decide +kernel⟩ ?hw (walk01 Mine.Pu.pure01)
 case hw=>w_witness2
