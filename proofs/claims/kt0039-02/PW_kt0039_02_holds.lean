import PyProof.Rows.All
import Wide.All
import OpenK.AllK
import Wide.FinOn
import PySem.Challenge.RW_kt0039_02
open Nat (add_assoc add_comm add_le_add add_le_add_left add_le_add_right add_lt_add_left add_mul_div_right add_right_comm add_sub_cancel_left ble div_lt_of_lt_mul le_add_left le_add_right le_of_ble_eq_true le_of_eq le_of_lt le_of_lt_succ le_of_not_lt le_of_succ_le le_refl le_succ le_trans lt_irrefl lt_min lt_of_le_of_lt lt_of_lt_of_le lt_succ_of_lt lt_succ_self lt_trans mod_eq_of_lt mod_lt mul_add_mod' mul_assoc mul_comm ne_of_gt ne_of_lt not_le not_lt not_lt_zero pow_pos sub_le sub_pos_of_lt sub_self sub_zero succ_le_succ succ_mul succ_ne_zero testBit_and zero_add zero_le)
open Bool (and_eq_true and_eq_true_iff eq_false_iff false_eq_true not_eq_true not_eq_true' or_eq_false_iff or_eq_true)
open List (all_eq_true any_cons any_eq_true append_assoc append_nil cons_append contains_iff_mem exists_cons_of_length_eq_add_one filter_congr filter_cons filter_eq_self filter_nil find?_some flatMap_cons forIn_cons getD_eq_getElem?_getD getElem?_append_right getElem?_eq_getElem getElem?_eq_none getElem?_map getElem?_range getElem?_set getElem?_take isEmpty_iff length_append length_cons length_drop length_filter_le length_map length_nil length_reverse length_set length_take lookup_cons mapM_cons map_append map_cons map_map map_nil map_set mem_append mem_append_left mem_append_right mem_cons mem_filter mem_iff_getElem? mem_map mem_map_of_mem mem_of_find?_eq_some mem_of_getElem? mem_of_mem_take mem_range mem_reverse mem_singleton nodup_append nodup_cons nodup_nil nodup_range not_mem_nil pairwise_cons prefix_append prefix_refl range' replicate reverse_cons set_append set_append_right size_toArray take_left' take_zero zipIdx_cons)
open Int (le_natAbs natAbs_natCast natCast_add natCast_nonneg ofNat ofNat_le ofNat_lt toNat_natCast)
open Option (isNone_iff_eq_none isSome_iff_exists isSome_some)
set_option Elab.async false
set_option linter.all false
set_option genSizeOf false
set_option genInjectivity false
set_option tactic.hygienic false
set_option genCtorIdx false
set_option backward.linearNoConfusionType false
set_option bootstrap.genMatcherCode false
set_option backward.eqns.nonrecursive false
set_option backward.eqns.deepRecursiveSplit false
section
set_option backward.match.sparseCases false
open PySem
namespace Mine.Lake
mutual
inductive Bn where
 |len|list|range|tuple|sum|min|sorted|isinstance|bool|bytes|str|type|set|iter|next
 |int|float|complex|bytearray|dict|frozenset|t6|stopIteration|repr
inductive RG where
 |x
end
noncomputable def Bn.ctorIdx (x:Bn):Nat:=Bn.casesOn x 0 1 2 3 4 5 6 7 8 9 10 11 12 13 14 15 16 17 18 19 20 21 22 23
noncomputable def FH:List Bn:=[.len,.list,.range,.tuple,.sum,.min,.sorted,.isinstance,.bool,.bytes,.str,.type,.set,.iter,.next,.int,.float,.complex,.bytearray,.dict,.frozenset,.t6,.stopIteration,.repr]
theorem Bn.gX (x:Bn):FH[x.ctorIdx]?=some x:=by induction x using Bn.casesOn<;>rfl
noncomputable instance:DecidableEq Bn:=λa b=>decidable_of_iff (a.ctorIdx=b.ctorIdx) ⟨λh=>Option.some.inj (by rw [<-Bn.gX a,h,Bn.gX]),λh=>h ▸ rfl⟩
mutual
inductive Nm where
 |append|pop|clear|get|values|add|me|prepare|nL|iO|lr|done
 |cF|bY|dD|d9|node|eb|succ|it|func|a8|bO|newline|init|iH
inductive RK where
 |x
end
noncomputable def Nm.ctorIdx (x:Nm):Nat:=Nm.casesOn x 0 1 2 3 4 5 6 7 8 9 10 11 12 13 14 15 16 17 18 19 20 21 22 23 24 25
noncomputable def ux:List Nm:=[.append,.pop,.clear,.get,.values,.add,.me,.prepare,.nL,.iO,.lr,.done,.cF,.bY,.dD,.d9,.node,.eb,.succ,.it,.func,.a8,.bO,.newline,.init,.iH]
theorem Nm.gX (x:Nm):ux[x.ctorIdx]?=some x:=by induction x using Nm.casesOn<;>rfl
noncomputable instance:DecidableEq Nm:=λa b=>decidable_of_iff (a.ctorIdx=b.ctorIdx) ⟨λh=>Option.some.inj (by rw [<-Nm.gX a,h,Nm.gX]),λh=>h ▸ rfl⟩
inductive D where
 |none
 |bool (b:Bool)
 |int (i:Int)
 |str (s:Str)
 |bytes (b:List UInt8)
 |bn (b:Bn)
 |fn (k:Nat)
 |cls (k:Nat)
 |tup (ds:List D)
 |lst (ds:List D)
 |bZ (a b:Int)
 |loc (i:Nat)
 |inst (k i:Nat)
 |bm (n:Nm) (self:D)
 |c7 (i:Nat)
 |e9 (msg:Str)
noncomputable def D.ctorIdx (x:D):Nat:=D.casesOn x 0 (λ_=>1) (λ_=>2) (λ_=>3) (λ_=>4) (λ_=>5) (λ_=>6) (λ_=>7) (λ_=>8) (λ_=>9) (λ_ _=>10) (λ_=>11) (λ_ _=>12) (λ_ _=>13) (λ_=>14) (λ_=>15)
inductive Ch where
 |list (ds:List D)
 |dict (b:Bool) (es:List (Int × D))
 |cC (es:List (Nm × D))
 |set (es:List Int)
 |slots (k:Nat) (fs:List (Option D))
 |bf (src:D) (pos:Nat)
noncomputable def Ch.ctorIdx (x:Ch):Nat:=Ch.casesOn x (λ_=>0) (λ_ _=>1) (λ_=>2) (λ_=>3) (λ_ _=>4) (λ_ _=>5)
abbrev ai:=List Ch
structure St where
 m:List (Option D)
 C:ai
inductive X where
 |stop|hV|value (msg:Str)
noncomputable def X.ctorIdx (x:X):Nat:=X.casesOn x 0 1 (λ_=>2)
inductive ak (α:Type) where
 |ok (a:α) (st:St)
 |exc (x:X) (st:St)
 |fail
noncomputable def ak.ctorIdx {α:Type} (x:ak α):Nat:=ak.casesOn x (λ_ _=>0) (λ_ _=>1) 2
inductive Fl where
 |next|brk|cont|ret (d:D)
noncomputable def Fl.ctorIdx (x:Fl):Nat:=Fl.casesOn x 0 1 2 (λ_=>3)
mutual
inductive Op where
 |add|sub|mul|fdiv|mod|pow|shl|shr|and|or
inductive RL where
 |x
end
noncomputable def Op.ctorIdx (x:Op):Nat:=Op.casesOn x 0 1 2 3 4 5 6 7 8 9
noncomputable def FK:List Op:=[.add,.sub,.mul,.fdiv,.mod,.pow,.shl,.shr,.and,.or]
theorem Op.gX (x:Op):FK[x.ctorIdx]?=some x:=by induction x using Op.casesOn<;>rfl
noncomputable instance:DecidableEq Op:=λa b=>decidable_of_iff (a.ctorIdx=b.ctorIdx) ⟨λh=>Option.some.inj (by rw [<-Op.gX a,h,Op.gX]),λh=>h ▸ rfl⟩
mutual
inductive Cm where
 |eq|ne|lt|le|gt|ge|is|mK|fG|xa
inductive RI where
 |x
end
noncomputable def Cm.ctorIdx (x:Cm):Nat:=Cm.casesOn x 0 1 2 3 4 5 6 7 8 9
noncomputable def FI:List Cm:=[.eq,.ne,.lt,.le,.gt,.ge,.is,.mK,.fG,.xa]
theorem Cm.gX (x:Cm):FI[x.ctorIdx]?=some x:=by induction x using Cm.casesOn<;>rfl
noncomputable instance:DecidableEq Cm:=λa b=>decidable_of_iff (a.ctorIdx=b.ctorIdx) ⟨λh=>Option.some.inj (by rw [<-Cm.gX a,h,Cm.gX]),λh=>h ▸ rfl⟩
inductive T where
 |one (n:Nat)
 |many (ns:List Nat)
noncomputable def T.ctorIdx (x:T):Nat:=T.casesOn x (λ_=>0) (λ_=>1)
mutual
inductive E where
 |bad
 |cst (d:D)
 |var (n:Nat)
 |bin (op:Op) (a b:E)
 |cmp (op:Cm) (a b:E)
 |not (a:E)
 |and (a b:E)
 |or (a b:E)
 |ite (c a b:E)
 |list (es:Es)
 |tup (es:Es)
 |l6
 |idx (a i:E)
 |slice (a lo hi:E)
 |comp (elt:E) (g:Gs)
 |attr (a:E) (n:Nm)
 |call (f:E) (es:Es) (ks:Ks)
 |a9 (o:E) (n:Nm) (es:Es)
 |eU (o:E) (n:Nm) (es:Es) (star:E)
 |ku (n:Nat) (a:E)
 |sd (es:Es)
 |D7 (a:E)
 |uQ (a:E)
inductive Es where
 |nil
 |cons (e:E) (es:Es)
inductive Ks where
 |nil
 |cons (n:Nm) (e:E) (ks:Ks)
inductive Gs where
 |nil
 |cons (t:T) (it:E) (ifs:Es) (g:Gs)
end
mutual
inductive S where
 |bad
 |pass
 |brk
 |cont
 |expr (e:E)
 |aL (n:Nat) (mu:Bool) (e:E)
 |o3 (ns:List Nat) (e:E)
 |cH (o:E) (a:Nm) (mu:Bool) (e:E)
 |kF (o i e:E)
 |oZ (o i:E) (n:Nat) (e:E)
 |kI (o:E) (a:Nm) (op:Op) (e:E)
 |ifs (c:E) (a b:Ss)
 |kx (c:E) (a b:Ss)
 |dO (t:T) (it:E) (a:Ss)
 |ret (e:E)
 |N5 (e:E)
 |qw (a b:E)
 |lP (b:Ss) (x:Nat) (n:Option Nat) (h:Ss)
 |pd (o i:E)
inductive Ss where
 |nil
 |cons (s:S) (ss:Ss)
end
structure Fn where
 bW:List Nat
 bL:List D
 cb:List (Nm × Nat)
 cj:Option Nat
 size:Nat
 body:Ss
structure gV where
 init:Nat
 meths:List (Nm × Nat)
 slots:Option (List Nm)
structure aP where
 fns:List Fn
 nF:List gV
noncomputable def Nm.mH:Nm->Bool
 |.cF|.bY|.dD|.d9=>true
 |_=>false
noncomputable def aP.dg (P:aP) (k:Nat):Option gV:=match P.nF[k]? with
 |some c=>if c.init<P.fns.length then some c else none
 |none=>none
noncomputable def D.isInt:D->Option Int
 |.int i=>some i
 |_=>Option.none
noncomputable def sW:D->Option Bool
 |.bool b=>some b
 |_=>none
noncomputable def n8:D->Option Nat
 |.loc j=>some j
 |_=>none
noncomputable def mJ:D->Option Str
 |.str s=>some s
 |_=>none
noncomputable def bK (C:ai):D->Option (List D)
 |.lst ds=>some ds
 |.tup ds=>some ds
 |.loc i=>match C[i]? with
  |some (.list ds)=>some ds
  |_=>none
 |_=>none
noncomputable def aT (C:ai):D->Option (List D)
 |.lst ds=>some ds
 |.loc i=>match C[i]? with
  |some (.list ds)=>some ds
  |_=>none
 |_=>none
noncomputable def nr (C:ai) (i:Nat):Option (List D):=match C[i]? with
 |some (.bf src _)=>aT C src
 |_=>none
mutual
noncomputable def toPy:Nat->D->Option PyData
 |_,.int i=>some (.int i)
 |n+1,.lst ds=>(toPys n ds).map .list
 |n+1,.tup ds=>(toPys n ds).map .tuple
 |_,_=>none
noncomputable def toPys:Nat->List D->Option (List PyData)
 |_,[]=>some []
 |n,d::ds=>(toPy n d).bind λx=>(toPys n ds).map λxs=>x::xs
end
noncomputable def pj (a b:D):Option Bool:=(toPy 8 a).bind λx=>(toPy 8 b).map λy=>PyData.eqv x y
noncomputable def nJ (a b:D):Option Bool:=match a with
 |.int x=>match b.isInt with
  |some y=>some (x==y)
  |none=>pj (.int x) b
 |.bool x=>(sW b).map λy=>x==y
 |.str x=>(mJ b).map λy=>decide (x=y)
 |a=>pj a b
noncomputable def gC (C:ai) (d:D):D:=match d with
 |.loc i=>match C[i]? with
  |some (.list ds)=>.lst ds
  |_=>.loc i
 |d=>d
noncomputable def d8:List D->Option (List Int)
 |[]=>some []
 |.int i::r=>(d8 r).map (i :: ·)
 |_=>none
noncomputable def ik (x:D) (ds:List D):Option Bool:=x.isInt.bind λi=>(d8 ds).map λxs=>xs.contains i
noncomputable def aF:Nat:=100000
noncomputable def small (a:Int):Bool:=decide (a.natAbs<2 ^ 64)
noncomputable def gK (op:Op) (a b:Int):Option Int:=match op with
 |.add=>some (a+b)
 |.sub=>some (a - b)
 |.mul=>if small a&&small b then some (a*b) else none
 |.fdiv=>if small b&&b != 0 then some (a.fdiv b) else none
 |.mod=>if b != 0 then some (a.fmod b) else none
 |.pow=>if small a&&decide (0<=b)&&decide (b<=1000) then some (a ^ b.toNat) else none
 |.shl=>if small a&&decide (0<=b)&&decide (b<=1000) then some (a*2 ^ b.toNat) else none
 |.shr=>if decide (0<=b)&&decide (b<=1000) then some (a.fdiv (2 ^ b.toNat)) else none
 |.and=>some (Builtin.bitAnd a b)
 |.or=>some (Builtin.bitOr a b)
noncomputable def oX (x y:Str):Option D:=if x.length+y.length<=aF then some (.str (x++y)) else none
noncomputable def rg (C:ai) (a b:D):Option D:=(aT C a).bind λxs=>(aT C b).bind λys=>if xs.length+ys.length<=aF then some (.lst (xs++ys)) else none
noncomputable def uG (C:ai) (a b:D):Option D:=match mJ a with
 |some x=>(mJ b).bind λy=>oX x y
 |none=>rg C a b
noncomputable def dz (C:ai) (op:Op) (a b:D):Option D:=match a.isInt with
 |some x=>b.isInt.bind λy=>(gK op x y).map .int
 |none=>match op with
  |.add=>uG C a b
  |_=>none
noncomputable def Bn.j6:Bn->Bool
 |.list|.range|.tuple|.bool|.bytes|.str|.type|.set|.int|.float|.complex|.bytearray|.dict|.frozenset=>true
 |_=>false
noncomputable def Cz:D->Option Bool
 |.none=>some true
 |.int _|.bool _|.lst _|.tup _|.loc _|.bm .. => some false
 |_=>none
noncomputable def wO (x:D) (b:Bn):Option Bool:=match x with
 |.bn a=>if a.j6 then some (a==b) else none
 |.bm .. => some false
 |_=>none
noncomputable def sX (x y:D):Option Bool:=match y with
 |.none=>Cz x
 |.bn b=>if b.j6 then wO x b else none
 |_=>none
noncomputable def LJ (x:D):Ch->Option Bool
 |.list ds=>ik x ds
 |.set es=>x.isInt.map es.contains
 |.dict _ es=>x.isInt.map λk=>es.any (·.1==k)
 |_=>none
noncomputable def wK (C:ai) (x c:D):Option Bool:=match c with
 |.loc i=>C[i]?.bind (LJ x)
 |.lst ds=>ik x ds
 |.tup ds=>ik x ds
 |_=>none
noncomputable def qt (f:Int->Int->Bool) (a b:D):Option Bool:=a.isInt.bind λx=>b.isInt.map λy=>f x y
noncomputable def g9 (C:ai) (op:Cm) (a b:D):Option Bool:=match op with
 |.eq=>nJ (gC C a) (gC C b)
 |.ne=>(nJ (gC C a) (gC C b)).map (!·)
 |.lt=>qt (λx y=>decide (x<y)) a b
 |.le=>qt (λx y=>decide (x<=y)) a b
 |.gt=>qt (λx y=>decide (x > y)) a b
 |.ge=>qt (λx y=>decide (x ≥ y)) a b
 |.is=>sX a b
 |.mK=>(sX a b).map (!·)
 |.fG=>wK C a b
 |.xa=>(wK C a b).map (!·)
noncomputable def tZ:Ch->Option Bool
 |.list ds=>some (!ds.isEmpty)
 |_=>none
noncomputable def bA (C:ai):D->Option Bool
 |.none=>some false
 |.bool b=>some b
 |.int i=>some (i != 0)
 |.lst ds=>some (!ds.isEmpty)
 |.tup ds=>some (!ds.isEmpty)
 |.loc i=>C[i]?.bind tZ
 |_=>none
noncomputable def gI (ds:List D) (i:Int):Option D:=
 if 0<=i then (if i<2 ^ 62 then ds[i.toNat]? else none)
 else if 0<=i+ds.length then ds[(i+ds.length).toNat]? else none
noncomputable def qa (b:List UInt8) (k:Int):Option D:=if 0<=k/\k<2 ^ 62 then (b[k.toNat]?).map λc=>.int c.toNat else none
noncomputable def wF (k:Int):Ch->Option D
 |.list ds=>gI ds k
 |.dict _ es=>es.lookup k
 |_=>none
noncomputable def Ly (C:ai) (a:D) (k:Int):Option D:=match a with
 |.bytes b=>qa b k
 |.loc j=>C[j]?.bind (wF k)
 |.lst ds=>gI ds k
 |.tup ds=>gI ds k
 |_=>none
noncomputable def i6 (C:ai) (a i:D):Option D:=i.isInt.bind λk=>Ly C a k
noncomputable def bound (d:D) (dflt n:Nat):Option Nat:=match d with
 |.none=>some dflt
 |.int k=>if 0<=k/\k<2 ^ 62 then some (min k.toNat n) else none
 |_=>none
noncomputable def fw {α:Type} (xs:List α) (lo hi:Nat):List α:=(xs.drop lo).take (hi - lo)
noncomputable def tV (C:ai) (a lo hi:D):Option D:=(aT C a).bind λds=>(bound lo 0 ds.length).bind λl=>(bound hi ds.length ds.length).map λh=>.lst (fw ds l h)
noncomputable def m6 (C:ai) (a lo hi:D):Option D:=match a with
 |.bytes b=>(bound lo 0 b.length).bind λl=>(bound hi b.length b.length).map λh=>.bytes (fw b l h)
 |a=>tV C a lo hi
noncomputable def ei (C:ai) (i:Nat):Option (List (Nm × D)):=match C[i]? with
 |some (.cC es)=>some es
 |_=>none
noncomputable def F8 (P:aP) (C:ai) (i:Nat) (n:Nm):Ch->Option D
 |.slots k fs=>(P.dg k).bind λc=>c.slots.bind λns=>if ns.contains n then (fs[ns.idxOf n]?).join else none
 |.list _=>match n with
  |.a8=>some (.bm .a8 (.loc i))
  |_=>none
 |.bf src _=>match n with
  |.bO=>if (aT C src).isSome then some (.bm .bO (.loc i)) else none
  |_=>none
 |_=>none
noncomputable def eI (P:aP) (C:ai) (o:D) (n:Nm):Option D:=match o with
 |.inst k i=>(P.dg k).bind λc=>(ei C i).bind λes=>if c.slots.isNone&&n.mH then es.lookup n else none
 |.loc i=>C[i]?.bind (F8 P C i n)
 |.lst ds=>match n with
  |.a8=>some (.bm .a8 (.lst ds))
  |_=>none
 |_=>none
noncomputable def gJ (x:Int):List Int->List Int
 |[]=>[x]
 |y::r=>if x<y then x::y::r else y::gJ x r
noncomputable def m8 (xs:List Int):List Int:=xs.foldl (λacc x=>gJ x acc) []
noncomputable def Sl:List Int->Option Int
 |[]=>none
 |x::r=>some (r.foldl (λa b=>if b<a then b else a) x)
noncomputable def gy:List Int->Option (List UInt8)
 |[]=>some []
 |i::r=>if 0<=i/\i<256 then (gy r).map (i.toNat.toUInt8 :: ·) else none
noncomputable def oD (a b:Int):Bool:=decide (a.natAbs<2 ^ 60)&&decide (b.natAbs<2 ^ 60)&&decide (b - a<=aF)
noncomputable def eD (a b:Int):List D:=(List.range (b - a).toNat).map λ(i:Nat)=>.int (a+(i:Int))
noncomputable def qe:Ch->Option (List D)
 |.list ds=>some ds
 |.dict true es=>some (es.map λe=>.int e.1)
 |_=>none
noncomputable def x9:Ch->Option (List D)
 |.dict true es=>some (es.map (·.2))
 |_=>none
noncomputable def bF (C:ai):D->Option (List D)
 |.lst ds=>some ds
 |.tup ds=>some ds
 |.bZ a b=>if oD a b then some (eD a b) else none
 |.bytes b=>some (b.map λc=>.int c.toNat)
 |.loc i=>C[i]?.bind qe
 |.c7 i=>C[i]?.bind x9
 |_=>none
noncomputable def Cx:D->Option (Nat × Nat)
 |.inst k i=>some (k,i)
 |_=>none
mutual
noncomputable def D.beq:D->D->Bool
 |.int x,b=>b.isInt==some x
 |.bool x,b=>sW b==some x
 |.str x,b=>mJ b==some x
 |.loc x,b=>n8 b==some x
 |.inst k i,b=>Cx b==some (k,i)
 |.lst as,b=>match b with
  |.lst bs=>D.lY as bs
  |_=>false
 |_,_=>false
noncomputable def D.lY:List D->List D->Bool
 |[],bs=>bs.isEmpty
 |a::as,bs=>match bs with
  |[]=>false
  |b::bs=>D.beq a b&&D.lY as bs
end
noncomputable def ny:List (Int × D)->List (Int × D)->Bool
 |[],bs=>bs.isEmpty
 |a::as,bs=>match bs with
  |[]=>false
  |b::bs=>a.1==b.1&&D.beq a.2 b.2&&ny as bs
noncomputable def Ee (c c':Ch):Bool:=match c with
 |.list a=>match c' with
  |.list b=>D.lY a b
  |_=>false
 |.dict true a=>match c' with
  |.dict true b=>ny a b
  |_=>false
 |_=>false
noncomputable def jF (C C':ai) (i:Nat):Bool:=match C[i]? with
 |some c=>match C'[i]? with
  |some c'=>Ee c c'
  |none=>false
 |none=>false
noncomputable def aY (C C':ai):D->Bool
 |.loc i=>jF C C' i
 |.c7 i=>jF C C' i
 |_=>true
noncomputable def gv (t:T) (d:D) (m:List (Option D)):Option (List (Option D)):=match t with
 |.one n=>if n<m.length then some (m.set n (some d)) else none
 |.many ns=>match d with
  |.tup ds=>if ns.length==ds.length&&ns.all (· < m.length) then some ((ns.zip ds).foldl (λm x=>m.set x.1 (some x.2)) m) else none
  |_=>none
structure Calls where
 call:Nat->List D->List (Nm × D)->ai->ak D
 fuel:Nat
noncomputable def iJ (cl:Calls) (k nx i:Nat):Nat->ai->List D->ak D
 |0,_,_=>.fail
 |n+1,C,acc=>match C[i]? with
  |some (.slots k' _)=>if k'==k then match cl.call nx [.loc i] [] C with
   |.ok d st=>if acc.length<aF then iJ cl k nx i n st.C (acc++[d]) else .fail
   |.exc .stop st=>.ok (.lst acc) st
   |_=>.fail else .fail
  |_=>.fail
noncomputable def RY (xs:List Int):List Int:=xs.foldl (λs x=>if s.contains x then s else s++[x]) []
noncomputable def Sr (d:D) (m:List (Option D)) (C:ai):ak D:=.ok d ⟨m,C⟩
noncomputable def cW (o:Option D) (st:St):ak D:=match o with
 |some d=>.ok d st
 |none=>.fail
noncomputable def eV (C:ai) (m:List (Option D)) (i:Nat):ak D:=match C[i]? with
  |some (.bf src p)=>match bK C src with
   |some ds=>match ds[p]? with
    |some d=>.ok d ⟨m,C.set i (.bf src (p+1))⟩
    |none=>.exc .stop ⟨m,C.set i (.bf .none 0)⟩
   |none=>.fail
  |_=>.fail
noncomputable def one (args:List D) (f:D->ak D):ak D:=match args with
 |[a]=>f a
 |_=>.fail
noncomputable def two (args:List D) (f:D->D->ak D):ak D:=match args with
 |[a,b]=>f a b
 |_=>.fail
noncomputable def aK {α:Type} (o:Option α) (f:α->ak D):ak D:=match o with
 |some x=>f x
 |none=>.fail
noncomputable def bp (b:Bool) (o:ak D):ak D:=match b with
 |true=>o
 |false=>.fail
noncomputable def j5 (C:ai) (a:D):Option (List Int):=(aT C a).bind d8
noncomputable def CK:Ch->Option Int
 |.list ds=>some ds.length
 |.set es=>some es.length
 |_=>none
noncomputable def tg (C:ai):D->Option Int
 |.bytes x=>some x.length
 |.loc i=>C[i]?.bind CK
 |.lst ds=>some ds.length
 |.tup ds=>some ds.length
 |_=>none
noncomputable def y8 (a:D) (st:St):ak D:=aK (tg st.C a) λn=>.ok (.int n) st
noncomputable def rn (P:aP) (cl:Calls) (i k:Nat) (st:St):ak D:=match P.dg k with
 |some c=>aK (c.meths.lookup .iH) λni=>aK (c.meths.lookup .bO) λnx=>match cl.call ni [.loc i] [] st.C with
  |.ok (.loc j) aa=>bp (decide (j=i)) (match iJ cl k nx i cl.fuel aa.C [] with
   |.ok d ae=>.ok d ⟨st.m,ae.C⟩
   |_=>.fail)
  |_=>.fail
 |none=>.fail
noncomputable def za (P:aP) (cl:Calls) (i:Nat) (st:St):Ch->ak D
 |.slots k _=>rn P cl i k st
 |.list ds=>.ok (.lst ds) st
 |_=>.fail
noncomputable def y9 (P:aP) (cl:Calls) (a:D) (st:St):ak D:=match a with
 |.bZ x y=>bp (oD x y) (.ok (.lst (eD x y)) st)
 |.bytes x=>.ok (.lst (x.map λc=>.int c.toNat)) st
 |.loc i=>aK st.C[i]? (za P cl i st)
 |.lst ds=>.ok (.lst ds) st
 |.tup ds=>.ok (.lst ds) st
 |_=>.fail
noncomputable def zc (args:List D) (st:St):ak D:=match args with
 |[a]=>aK a.isInt λn=>bp (small n) (.ok (.bZ 0 n) st)
 |[a,b]=>aK a.isInt λx=>aK b.isInt λy=>bp (small x&&small y) (.ok (.bZ x y) st)
 |_=>.fail
noncomputable def y1 (a t:D) (st:St):ak D:=match a with
 |.bytes _=>match t with
  |.bn .bytes=>.ok (.bool true) st
  |_=>.fail
 |.bool _=>match t with
  |.bn .bool=>.ok (.bool true) st
  |_=>.fail
 |_=>.fail
noncomputable def zf (a:D) (st:St):ak D:=match a with
 |.e9 msg=>.ok (.str msg) st
 |.int i=>bp (small i) (.ok (.str (Str.ofString (toString i))) st)
 |_=>.fail
noncomputable def zg (a:D) (st:St):ak D:=match a with
 |.bytes _=>.ok (.bn .bytes) st
 |.bool _=>.ok (.bn .bool) st
 |_=>.fail
noncomputable def ze (_:List D) (_:St):ak D:=.fail
noncomputable def zb (a:D) (st:St):ak D:=match a with
 |.loc i=>eV st.C st.m i
 |_=>.fail
noncomputable def rm (P:aP) (cl:Calls) (b:Bn) (args:List D) (st:St):ak D:=match b with
 |.len=>one args λa=>y8 a st
 |.list=>one args λa=>y9 P cl a st
 |.tuple=>one args λa=>aK (aT st.C a) λds=>.ok (.tup ds) st
 |.range=>zc args st
 |.sum=>one args λa=>aK (j5 st.C a) λxs=>bp (xs.all (λx=>decide (x.natAbs<2 ^ 32))&&decide (xs.length<=aF)) (.ok (.int xs.sum) st)
 |.sorted=>one args λa=>aK (j5 st.C a) λxs=>bp (decide (xs.length<64)) (.ok (.lst ((m8 xs).map .int)) st)
 |.isinstance=>two args λa t=>y1 a t st
 |.bool=>one args λa=>aK (aT st.C a) λds=>.ok (.bool (!ds.isEmpty)) st
 |.bytes=>one args λa=>aK ((j5 st.C a).bind gy) λb=>bp (decide (b.length<=aF)) (.ok (.bytes b) st)
 |.str=>one args λa=>zf a st
 |.type=>one args λa=>zg a st
 |.set=>match args with
  |[]=>.ok (.loc st.C.length) ⟨st.m,st.C++[.set []]⟩
  |args=>ze args st
 |.iter=>one args λa=>aK (bK st.C a) λu'=>.ok (.loc st.C.length) ⟨st.m,st.C++[.bf a 0]⟩
 |.next=>one args λa=>zb a st
 |_=>.fail
noncomputable def gA (P:aP) (cl:Calls) (b:Bn) (args:List D) (st:St):ak D:=if cl.fuel==0&&b != .str then .fail else rm P cl b args st
noncomputable def mF (o:D) (m:List (Option D)) (r:ak D):ak D:=match r with
 |.ok .none aB=>.ok o ⟨m,aB.C⟩
 |_=>.fail
noncomputable def nD (P:aP) (cl:Calls) (k:Nat) (args:List D) (st:St):ak D:=match P.dg k with
 |some c=>match c.slots with
  |some ns=>mF (.loc st.C.length) st.m (cl.call c.init (.loc st.C.length::args) [] (st.C++[.slots k (replicate ns.length none)]))
  |none=>mF (.inst k st.C.length) st.m (cl.call c.init (.inst k st.C.length::args) [] (st.C++[.cC []]))
 |none=>.fail
noncomputable def back (m:List (Option D)):ak D->ak D
 |.ok d st=>.ok d ⟨m,st.C⟩
 |.exc x st=>.exc x ⟨m,st.C⟩
 |.fail=>.fail
noncomputable def GN (P:aP) (cl:Calls) (n:Nm) (s:D) (args:List D) (st:St):ak D:=match n with
 |.a8=>one args λx=>aK ((aT st.C s).bind (ik x)) λb=>.ok (.bool b) st
 |.bO=>aK (n8 s) λi=>bp (args.isEmpty&&(nr st.C i).isSome) (gA P cl .next [.loc i] st)
 |_=>.fail
noncomputable def kL (P:aP) (cl:Calls) (f:D) (args:List D) (j7:List (Nm × D)) (st:St):ak D:=match f with
 |.fn k=>back st.m (cl.call k args j7 st.C)
 |.cls k=>if j7.isEmpty then nD P cl k args st else .fail
 |.bn b=>if j7.isEmpty then gA P cl b args st else .fail
 |.bm n s=>if j7.isEmpty then GN P cl n s args st else .fail
 |_=>.fail
noncomputable def putL {α β:Type} [BEq α] (k:α) (v:β):List (α × β)->List (α × β)
 |[]=>[(k,v)]
 |e::r=>if e.1==k then (e.1,v)::r else e::putL k v r
noncomputable def eK {α β:Type} [BEq α] (k:α):List (α × β)->List (α × β)
 |[]=>[]
 |e::r=>if e.1==k then r else e::eK k r
inductive MK where
 |own (k f:Nat)|ly|om|og|l4|nI|mX
noncomputable def MK.ctorIdx (x:MK):Nat:=MK.casesOn x (λ_ _=>0) 1 2 3 4 5 6
noncomputable def ki (n:Nm):Ch->Option MK
 |.list _=>match n with
  |.append=>some .ly
  |.pop=>some .om
  |.clear=>some .og
  |_=>none
 |.dict _ _=>match n with
  |.get=>some .l4
  |.values=>some .nI
  |_=>none
 |.set _=>match n with
  |.add=>some .mX
  |_=>none
 |_=>none
noncomputable def du (P:aP) (C:ai) (o:D) (n:Nm):Option MK:=match o with
 |.inst k i=>(P.dg k).bind λc=>(ei C i).bind λes=>(c.meths.lookup n).bind λf=>if (es.lookup n).isNone&&c.slots.isNone then some (.own k f) else none
 |.loc i=>C[i]?.bind (ki n)
 |_=>none
noncomputable def eB (C:ai) (i:Nat):Option (List D):=match C[i]? with
 |some (.list ds)=>some ds
 |_=>none
noncomputable def dictAt (C:ai) (i:Nat):Option (List (Int × D)):=match C[i]? with
 |some (.dict _ es)=>some es
 |_=>none
noncomputable def oE (C:ai) (i:Nat):Option (List Int):=match C[i]? with
 |some (.set es)=>some es
 |_=>none
noncomputable def MW (mk:MK) (i:Nat) (args:List D) (st:St):ak D:=match mk with
 |.own _ _=>.fail
 |.ly=>one args λd=>aK (eB st.C i) λds=>bp (decide (ds.length<aF)) (.ok .none ⟨st.m,st.C.set i (.list (ds++[d]))⟩)
 |.om=>bp args.isEmpty (aK (eB st.C i) λds=>aK ds.getLast? λd=>.ok d ⟨st.m,st.C.set i (.list ds.dropLast)⟩)
 |.og=>bp args.isEmpty (aK (eB st.C i) λu'=>.ok .none ⟨st.m,st.C.set i (.list [])⟩)
 |.l4=>one args λd=>aK d.isInt λk=>aK (dictAt st.C i) λes=>.ok ((es.lookup k).getD .none) st
 |.nI=>bp args.isEmpty (aK (dictAt st.C i) λu'=>.ok (.c7 i) st)
 |.mX=>one args λd=>aK d.isInt λk=>aK (oE st.C i) λes=>bp (decide (es.length<64)) (.ok .none ⟨st.m,st.C.set i (.set (if es.contains k then es else es++[k]))⟩)
noncomputable def oq (cl:Calls) (mk:MK) (o:D) (args:List D) (st:St):ak D:=match mk with
 |.own _ f=>back st.m (cl.call f (o::args) [] st.C)
 |mk=>aK (n8 o) λi=>MW mk i args st
noncomputable def Pl (P:aP) (i:Nat) (n:Nm) (d:D) (C:ai):Ch->Option ai
 |.slots k fs=>(P.dg k).bind λc=>c.slots.bind λns=>if ns.contains n&&decide (fs.length=ns.length) then some (C.set i (.slots k (fs.set (ns.idxOf n) (some d)))) else none
 |_=>none
noncomputable def eX (P:aP) (o:D) (n:Nm) (d:D) (C:ai):Option ai:=match o with
 |.inst k i=>(P.dg k).bind λc=>(ei C i).bind λes=>if c.slots.isNone&&n.mH&&decide (es.length<64) then some (C.set i (.cC (putL n d es))) else none
 |.loc i=>C[i]?.bind (Pl P i n d C)
 |_=>none
noncomputable def gh (o:Option ai) (m:List (Option D)):ak Unit:=match o with
 |some C=>.ok () ⟨m,C⟩
 |none=>.fail
noncomputable def dE (k:Nat) (d:D) (st:St):ak Unit:=if k<st.m.length then .ok () ⟨st.m.set k (some d),st.C⟩ else .fail
noncomputable def kJ (op:Op) (a b:D):Option D:=a.isInt.bind λx=>b.isInt.bind λy=>match op with
 |.add=>some (.int (x+y))
 |.sub=>some (.int (x - y))
 |_=>none
noncomputable def Po (j:Nat) (k:Int) (d:D) (C:ai):Ch->Option ai
 |.list ds=>if 0<=k/\k<ds.length then some (C.set j (.list (ds.set k.toNat d))) else none
 |.dict b es=>if es.length<64/\small k then some (C.set j (.dict b (putL k d es))) else none
 |_=>none
noncomputable def Pp (j:Nat) (k:Int) (d:D) (C:ai):Option ai:=C[j]?.bind (Po j k d C)
noncomputable def ko (o i d:D) (C:ai):Option ai:=(n8 o).bind λj=>i.isInt.bind λk=>Pp j k d C
noncomputable def Ai (j:Nat) (k:Int) (C:ai):Ch->Option ai
 |.dict _ es=>if (es.lookup k).isSome then some (C.set j (.dict false (eK k es))) else none
 |_=>none
noncomputable def HA (j:Nat) (k:Int) (C:ai):Option ai:=C[j]?.bind (Ai j k C)
noncomputable def nH (o i:D) (C:ai):Option ai:=(n8 o).bind λj=>i.isInt.bind λk=>HA j k C
noncomputable def fT (mu:Bool) (d:D) (st:St):ak D:=match mu with
 |true=>match d with
  |.lst ds=>.ok (.loc st.C.length) ⟨st.m,st.C++[.list ds]⟩
  |_=>.fail
 |false=>.ok d st
noncomputable def cD:E->Bool
 |.list _=>true
 |.comp _ _=>true
 |.bin .add _ _=>true
 |_=>false
set_option backward.match.sparseCases true
noncomputable def ak.bind {α β:Type} (o:ak α) (f:α->St->ak β):ak β:=match o with
 |.ok a st=>f a st
 |.exc x st=>.exc x st
 |.fail=>.fail
noncomputable def lK:List Nat->List D->St->ak Unit
 |n::ns,d::ds,st=>(dE n d st).bind λu' aa=>lK ns ds aa
 |_,_,st=>.ok () st
noncomputable def T.width:T->Nat
 |.one _=>1
 |.many ns=>ns.length
noncomputable def fq (t:T) (d:D) (st:St):ak Unit:=match t with
 |.one n=>dE n d st
 |.many ns=>match d with
  |.tup ds=>if ns.length==ds.length then lK ns ds st else .fail
  |_=>.fail
noncomputable def bD (tests:St->ak D) (inner:List D->St->ak D) (acc:List D) (st:St):ak D:=match tests st with
 |.ok (.bool true) ae=>inner acc ae
 |.ok (.bool false) ae=>.ok (.lst acc) ae
 |_=>.fail
noncomputable def cI (t:T) (turn:List D->St->ak D) (aS:ai->ai->Bool):List D->List D->St->ak D
 |[],acc,st=>.ok (.lst acc) st
 |d::ds,acc,st=>match fq t d ⟨st.m++replicate t.width none,st.C⟩ with
  |.ok _ aa=>match turn acc aa with
   |.ok (.lst aR) ae=>if aS st.C ae.C then cI t turn aS ds aR ⟨ae.m.take st.m.length,ae.C⟩ else .fail
   |_=>.fail
  |_=>.fail
mutual
noncomputable def ev (P:aP) (cl:Calls):E->St->ak D
 |.bad,_=>.fail
 |.cst d,st=>.ok d st
 |.var n,st=>match st.m[n]? with
  |some (some d)=>.ok d st
  |_=>.fail
 |.bin op a b,st=>(ev P cl a st).bind λx aa=>(ev P cl b aa).bind λy ae=>cW (dz ae.C op x y) ae
 |.cmp op a b,st=>(ev P cl a st).bind λx aa=>(ev P cl b aa).bind λy ae=>cW ((g9 ae.C op x y).map .bool) ae
 |.not a,st=>(ev P cl a st).bind λx aa=>cW ((bA aa.C x).map λb=>.bool (!b)) aa
 |.and a b,st=>(ev P cl a st).bind λx aa=>match bA aa.C x with
  |some true=>ev P cl b aa
  |some false=>.ok x aa
  |none=>.fail
 |.or a b,st=>(ev P cl a st).bind λx aa=>match bA aa.C x with
  |some true=>.ok x aa
  |some false=>ev P cl b aa
  |none=>.fail
 |.ite c a b,st=>(ev P cl c st).bind λx aa=>match bA aa.C x with
  |some true=>ev P cl a aa
  |some false=>ev P cl b aa
  |none=>.fail
 |.list es,st=>match bE P cl es st with
  |.ok (.lst ds) aa=>if ds.length<=aF then .ok (.lst ds) aa else .fail
  |.exc x aa=>.exc x aa
  |_=>.fail
 |.tup es,st=>match bE P cl es st with
  |.ok (.lst ds) aa=>if ds.length<=aF then .ok (.tup ds) aa else .fail
  |.exc x aa=>.exc x aa
  |_=>.fail
 |.l6,st=>.ok (.loc st.C.length) ⟨st.m,st.C++[.dict true []]⟩
 |.idx a i,st=>(ev P cl a st).bind λx aa=>(ev P cl i aa).bind λy ae=>cW (i6 ae.C x y) ae
 |.slice a lo hi,st=>(ev P cl a st).bind λx aa=>(ev P cl lo aa).bind λy ae=>(ev P cl hi ae).bind λz aH=>cW (m6 aH.C x y z) aH
 |.comp _ .nil,_=>.fail
 |.comp elt (.cons t it ifs g),st=>if cl.fuel==0 then .fail else (ev P cl it st).bind λy aa=>match bF aa.C y with
  |some items=>match cI t (bD (λae=>ck P cl ifs ae) (λacc ae=>dM P cl (λaH=>ev P cl elt aH) g acc ae)) (λC C'=>aY C C' y) items [] aa with
   |.ok (.lst ds) ae=>.ok (.lst ds) ⟨aa.m,ae.C⟩
   |_=>.fail
  |none=>.fail
 |.attr a n,st=>(ev P cl a st).bind λx aa=>cW (eI P aa.C x n) aa
 |.call f es ks,st=>(ev P cl f st).bind λg aa=>match bE P cl es aa with
  |.ok (.lst ds) ae=>rN P cl g ds [] ks ae
  |.exc x ae=>.exc x ae
  |_=>.fail
 |.a9 o n es,st=>(ev P cl o st).bind λx aa=>match du P aa.C x n with
  |none=>.fail
  |some mk=>(bE P cl es aa).bind λd ae=>match d with
   |.lst ds=>oq cl mk x ds ae
   |_=>.fail
 |.eU o n es e,st=>(ev P cl o st).bind λx aa=>match du P aa.C x n with
  |some (.own k f)=>((bE P cl es aa).bind λd ae=>match d with
   |.lst ds=>(ev P cl e ae).bind λy aH=>match bK aH.C y with
    |some ys=>(.ok (D.lst (ds++ys)) aH:ak D)
    |none=>.fail
   |_=>.fail).bind λ(d:D) aH=>match d with
    |.lst ds=>oq cl (.own k f) x ds aH
    |_=>.fail
  |_=>.fail
 |.ku n a,st=>(ev P cl a st).bind λx aa=>if n<aa.m.length then .ok x ⟨aa.m.set n (some x),aa.C⟩ else .fail
 |.sd es,st=>kP P cl Str.empty es st
 |.D7 a,st=>(ev P cl a st).bind λx aa=>match x with
  |.int i=>if small i then .ok (.str (Str.ofString (toString i))) aa else .fail
  |_=>.fail
 |.uQ a,st=>(ev P cl a st).bind λx aa=>fT (cD a) x aa
noncomputable def bE (P:aP) (cl:Calls):Es->St->ak D
 |.nil,st=>.ok (.lst []) st
 |.cons e es,st=>(ev P cl e st).bind λx aa=>match bE P cl es aa with
  |.ok (.lst ds) ae=>.ok (.lst (x::ds)) ae
  |.exc x ae=>.exc x ae
  |_=>.fail
noncomputable def kP (P:aP) (cl:Calls) (acc:Str):Es->St->ak D
 |.nil,st=>.ok (.str acc) st
 |.cons e es,st=>(ev P cl e st).bind λx aa=>match x with
  |.str y=>if acc.length+y.length<=aF then kP P cl (acc++y) es aa else .fail
  |_=>.fail
noncomputable def rN (P:aP) (cl:Calls) (g:D) (ds:List D) (acc:List (Nm × D)):Ks->St->ak D
 |.nil,st=>kL P cl g ds acc st
 |.cons n e ks,st=>(ev P cl e st).bind λx aa=>rN P cl g ds (acc++[(n,x)]) ks aa
noncomputable def dM (P:aP) (cl:Calls) (elt:St->ak D):Gs->List D->St->ak D
 |.nil,acc,st=>(elt st).bind λx aa=>if acc.length<aF then .ok (.lst (acc++[x])) aa else .fail
 |.cons t it ifs g,acc,st=>(ev P cl it st).bind λy aa=>match bF aa.C y with
  |some items=>cI t (bD (λae=>ck P cl ifs ae) (λacc ae=>dM P cl elt g acc ae)) (λC C'=>aY C C' y) items acc aa
  |none=>.fail
noncomputable def ck (P:aP) (cl:Calls):Es->St->ak D
 |.nil,st=>.ok (.bool true) st
 |.cons e es,st=>(ev P cl e st).bind λx aa=>match bA aa.C x with
  |some true=>ck P cl es aa
  |some false=>.ok (.bool false) aa
  |none=>.fail
end
noncomputable def forLoop (aS:ai->ai->Bool) (t:T) (f:St->ak Fl):List D->St->ak Fl
 |[],st=>.ok .next st
 |d::ds,st=>match gv t d st.m with
  |some m1=>match f ⟨m1,st.C⟩ with
   |.ok .next aa=>if aS st.C aa.C then forLoop aS t f ds aa else .fail
   |.ok .cont aa=>if aS st.C aa.C then forLoop aS t f ds aa else .fail
   |.ok .brk aa=>.ok .next aa
   |o=>o
  |none=>.fail
noncomputable def whileLoop (c:St->ak D) (f:St->ak Fl) (ek:St->ak Fl):Nat->St->ak Fl
 |0,_=>.fail
 |n+1,st=>match c st with
  |.ok d aa=>match bA aa.C d with
   |some true=>match f aa with
    |.ok .next ae=>whileLoop c f ek n ae
    |.ok .cont ae=>whileLoop c f ek n ae
    |.ok .brk ae=>.ok .next ae
    |o=>o
   |some false=>ek aa
   |none=>.fail
  |.exc x aa=>.exc x aa
  |.fail=>.fail
noncomputable def gk:Calls:=⟨λu' u' u' u'=>.fail,0⟩
noncomputable def nE (k:Nat) (x:X):Bool:=match k,x with
 |0,.stop=>true
 |1,.hV=>true
 |2,.value _=>true
 |_,_=>false
mutual
noncomputable def ex (P:aP) (cl:Calls):S->St->ak Fl
 |.bad,_=>.fail
 |.pass,st=>.ok .next st
 |.brk,st=>.ok .brk st
 |.cont,st=>.ok .cont st
 |.expr e,st=>(ev P cl e st).bind λu' aa=>.ok .next aa
 |.aL n mu e,st=>((ev P cl e st).bind λx aa=>fT (mu&&cD e) x aa).bind λd ae=>(dE n d ae).bind λu' aH=>.ok .next aH
 |.o3 ns e,st=>if cl.fuel==0 then .fail else (ev P cl e st).bind λx aa=>match x with
  |.tup ds=>if ns.length==ds.length then (lK ns ds aa).bind λu' ae=>.ok .next ae else .fail
  |_=>.fail
 |.cH o a mu e,st=>((ev P cl e st).bind λx aa=>fT (mu&&cD e) x aa).bind λd ae=>(ev P cl o ae).bind λy aH=>
   (gh (eX P y a d aH.C) aH.m).bind λu' eZ=>.ok .next eZ
 |.kF o i e,st=>(ev P cl e st).bind λx aa=>(ev P cl o aa).bind λy ae=>(ev P cl i ae).bind λz aH=>
   (gh (ko y z x aH.C) aH.m).bind λu' eZ=>.ok .next eZ
 |.oZ o i n e,st=>(ev P cl e st).bind λx aa=>((ev P cl o aa).bind λy ae=>(ev P cl i ae).bind λz aH=>
   gh (ko y z x aH.C) aH.m).bind λu' eZ=>(dE n x eZ).bind λu' QH=>.ok .next QH
 |.kI o a op e,st=>(ev P cl o st).bind λy aa=>(cW (eI P aa.C y a) aa).bind λold ae=>(ev P cl e ae).bind λx aH=>
   match kJ op old x with
   |some d=>(gh (eX P y a d aH.C) aH.m).bind λu' eZ=>.ok .next eZ
   |none=>.fail
 |.ifs c a b,st=>(ev P cl c st).bind λx aa=>match bA aa.C x with
  |some true=>aq P cl a aa
  |some false=>aq P cl b aa
  |none=>.fail
 |.kx c a b,st=>whileLoop (λaa=>ev P cl c aa) (λaa=>aq P cl a aa) (λaa=>aq P cl b aa) cl.fuel st
 |.dO t it a,st=>if cl.fuel==0 then .fail else (ev P cl it st).bind λy aa=>match bF aa.C y with
  |some items=>forLoop (λC C'=>aY C C' y) t (λae=>aq P cl a ae) items aa
  |none=>.fail
 |.ret e,st=>(ev P cl e st).bind λx aa=>.ok (.ret x) aa
 |.N5 e,st=>if cl.fuel==0 then .fail else (ev P cl e st).bind λx aa=>match x with
  |.str s=>.exc (.value s) aa
  |_=>.fail
 |.qw a b,st=>if cl.fuel==0 then .fail else (ev P cl a st).bind λu' aa=>(ev P cl b aa).bind λu' ae=>.exc .hV ae
 |.lP b k n h,st=>if cl.fuel==0 then .fail else match aq P cl b st with
  |.exc x aa=>if nE k x then
    match n with
    |none=>match aq P gk h aa with
     |.ok f ae=>.ok f ae
     |_=>.fail
    |some n=>match x with
     |.value s=>if n<aa.m.length then (match aq P gk h ⟨aa.m.set n (some (.e9 s)),aa.C⟩ with
      |.ok f ae=>.ok f ⟨ae.m.set n none,ae.C⟩
      |_=>.fail) else .fail
     |_=>.fail
   else .fail
  |o=>o
 |.pd o i,st=>(ev P cl o st).bind λy aa=>(ev P cl i aa).bind λz ae=>(gh (nH y z ae.C) ae.m).bind λu' aH=>.ok .next aH
noncomputable def aq (P:aP) (cl:Calls):Ss->St->ak Fl
 |.nil,st=>.ok .next st
 |.cons s ss,st=>match ex P cl s st with
  |.ok .next aa=>aq P cl ss aa
  |o=>o
end
noncomputable def gO (xs:List (Nat × D)) (m:List (Option D)):List (Option D):=xs.foldl (λm x=>m.set x.1 (some x.2)) m
noncomputable def fR (f:Fn) (pos:List D) (j7:List (Nm × D)):Option (List (Option D)):=
 let np:=f.bW.length
 let miss:=np - pos.length
 let vals:=pos.take np++f.bL.drop (f.bL.length - miss)
 let m0:=replicate f.size none
 if vals.length==np&&decide (pos.length<=aF)&&decide (miss<=f.bL.length)&&(f.cj.isSome||decide (pos.length<=np))&&decide (j7.map (·.1)=f.cb.map (·.1)) then
  let m1:=gO (f.bW.zip vals) m0
  let m2:=gO ((f.cb.map (·.2)).zip (j7.map (·.2))) m1
  match f.cj with
  |some v=>some (m2.set v (some (.tup (pos.drop np))))
  |none=>some m2
 else none
noncomputable def di:ak Fl->ak D
 |.ok (.ret d) st=>.ok d st
 |.ok .next st=>.ok .none st
 |.ok _ _=>.fail
 |.exc x st=>.exc x st
 |.fail=>.fail
noncomputable def aC (P:aP) (fuel:Nat):Nat->Nat->List D->List (Nm × D)->ai->ak D
 |0,_,_,_,_=>.fail
 |n+1,k,pos,j7,C=>match P.fns[k]? with
  |some f=>match fR f pos j7 with
   |some m=>di (aq P ⟨aC P fuel n,fuel⟩ f.body ⟨m,C⟩)
   |none=>.fail
  |none=>.fail
theorem iC {C:ai} {i:Nat} {ds:List D} (h:C[i]?=some (.list ds)):aT C (.loc i)=some ds:=by
 unfold aT; dsimp only; rw [h]
theorem F4 {C:ai} {i:Nat} {ds:List D} (h:C[i]?=some (.list ds)):bK C (.loc i)=some ds:=by
 unfold bK; dsimp only; rw [h]
theorem cps {G:Prop} (h : ∀ Q:Prop,(G->Q)->Q):G:=h G id
end Mine.Lake
end
section
open PySem
namespace Mine.Lake
structure aV where
 glob:List (Str × D)
 mu:List Str
 zC:List (Str × Nat)
noncomputable def Dq:List (Str × Nm):=[("append",.append),("pop",.pop),("clear",.clear),("get",.get),("values",.values),("add",.add),("_get_nodeinfo",.me),
 ("prepare",.prepare),("_find_cycle",.nL),("get_ready",.iO),("is_active",.lr),("done",.done),
 ("_node2info",.cF),("_ready_nodes",.bY),("_npassedout",.dD),("_nfinished",.d9),("node",.node),("npredecessors",.eb),
 ("successors",.succ),("_it",.it),("_func",.func),("__contains__",.a8),("__next__",.bO),("newline",.newline),("__init__",.init),("__iter__",.iH)]
noncomputable def cJ (x:Str):Option Nm:=Dq.lookup x
noncomputable def jb:Operator->Option Op
 |.Add=>some .add|.Sub=>some .sub|.Mult=>some .mul|.FloorDiv=>some .fdiv|.Mod=>some .mod|.Pow=>some .pow
 |.LShift=>some .shl|.RShift=>some .shr|.BitAnd=>some .and|.BitOr=>some .or
 |_=>none
noncomputable def rE:CmpOp->Cm
 |.Eq=>.eq|.NotEq=>.ne|.Lt=>.lt|.LtE=>.le|.Gt=>.gt|.GtE=>.ge|.Is=>.is|.IsNot=>.mK|.In=>.fG|.NotIn=>.xa
structure aI where
 names:List (Str × NameKind)
 slots:List (Str × Nat)
 base:Nat
noncomputable def lB (G:aV) (c:aI) (x:Str):E:=match c.names.lookup x with
 |some .local|some .cell|some .free=>match c.slots.lookup x with
  |some n=>.var n
  |none=>.bad
 |some .globalImplicit=>match G.glob.lookup x with
  |some d=>.cst d
  |none=>.bad
 |_=>.bad
noncomputable def cZ (c:aI) (x:Str):Option Nat:=match c.names.lookup x with
 |some .local|some .cell=>c.slots.lookup x
 |_=>none
noncomputable def rG:Const->E
 |.none=>.cst .none
 |.bool b=>.cst (.bool b)
 |.int i=>.cst (.int i)
 |.str s=>.cst (.str s)
 |_=>.bad
noncomputable def cK:List (Str × NameKind)->List Str
 |[]=>[]
 |(x,.local)::r=>x::cK r
 |(x,.cell)::r=>x::cK r
 |_::r=>cK r
set_option backward.match.sparseCases false in
noncomputable def fM:Expr->Option Str
 |.Name x _=>some x
 |_=>none
set_option backward.match.sparseCases false in
noncomputable def oJ:Expr->Option (List Str)
 |.Name x _=>some [x]
 |.Tuple es _ _=>es.mapM fM
 |_=>none
noncomputable def b9 (xs:List Str) (b:Nat):List (Str × Nat):=xs.zipIdx.map λp=>(p.1,b+p.2)
noncomputable def kj (xs:List Str) (one:Bool) (b:Nat):T:=if one then .one b else .many (xs.zipIdx.map λp=>b+p.2)
set_option backward.match.sparseCases false in
noncomputable def qf:Expr->Nat
 |.Set .. => 1
 |.Starred .. => 2
 |.Tuple .. => 3
 |.List .. => 3
 |.ListComp .. => 4
 |.SetComp .. => 4
 |.DictComp .. => 4
 |.Name .. => 5
 |_=>0
noncomputable def jx (e:Expr):Bool:=qf e==5
noncomputable def lu (e:Expr):Bool:=qf e==1
set_option backward.match.sparseCases false in
noncomputable def uO:Expr->Option (Expr × List Expr × List Keyword)
 |.Call f args ks _=>some (f,args,ks)
 |_=>none
noncomputable def mI (e:Expr):Bool:=match uO e with
 |some (f,args,ks)=>jx f&&args.isEmpty&&ks.isEmpty
 |none=>false
noncomputable def LY (e:Expr):Bool:=match fM e with
 |some x=>x==("_wall":Str)
 |none=>false
noncomputable def dp (e:Expr):Bool:=qf e==2
noncomputable def wN (e:Expr):Bool:=qf e==3
noncomputable def jw (e:Expr):Bool:=qf e==4
noncomputable def bq (f:Expr->E):List Expr->Es
 |[]=>.nil
 |e::r=>.cons (f e) (bq f r)
noncomputable def kK (f:Expr->E) (es:List Expr):Es:=if es.any dp then .cons .bad .nil else bq f es
noncomputable def o5 (f:Expr->E):Option Expr->E
 |none=>.cst .none
 |some e=>f e
noncomputable def uN (f:Nat->Expr->E) (i:Nat):List Expr->Es
 |[]=>.nil
 |e::r=>.cons (f i e) (uN f (i+1) r)
noncomputable def lZ (f:Expr->E):List Keyword->Ks
 |[]=>.nil
 |⟨k,v,_⟩::r=>match k.bind cJ with
  |some a=>.cons a (f v) (lZ f r)
  |none=>.cons .init .bad .nil
noncomputable def jJ (f:Expr->E):List Expr->E
 |[]=>.bad
 |[e]=>f e
 |e::r=>.and (f e) (jJ f r)
noncomputable def jK (f:Expr->E):List Expr->E
 |[]=>.bad
 |[e]=>f e
 |e::r=>.or (f e) (jK f r)
set_option backward.match.sparseCases false in
noncomputable def qF:Expr->Option Expr
 |.Starred e _=>some e
 |_=>none
noncomputable def jc:List Expr->Option (List Expr × Option Expr)
 |[]=>some ([],none)
 |e::r=>match qF e with
  |some x=>if r.isEmpty then some ([],some x) else none
  |none=>(jc r).map λp=>(e::p.1,p.2)
noncomputable def own (names:List (Str × NameKind)) (x:Str):Bool:=match names.lookup x with
 |some .local|some .cell=>true
 |_=>false
noncomputable def jP (c:aI) (xs:List Str):Bool:=decide xs.Nodup&&xs.all λx=>own c.names x&&(c.slots.lookup x).isNone
noncomputable def dY (c:aI) (xs:List Str):aI:={c with slots:=b9 xs c.base++c.slots,base:=c.base+xs.length}
noncomputable def nC (f:aI->Expr->E):aI->List Comprehension->Option (Gs × aI)
 |c,[]=>some (.nil,c)
 |c,⟨t,it,ifs,a⟩::r=>match oJ t with
  |some xs=>if a==0&&!lu it&&jP c xs then (nC f (dY c xs) r).map λp=>(.cons (kj xs (jx t) c.base) (f c it) (bq (f (dY c xs)) ifs) p.1,p.2) else none
  |none=>none
noncomputable def eJ (f:aI->Expr->E) (ci co:aI) (elt:Expr):List Comprehension->E
 |[]=>.bad
 |⟨t,it,ifs,a⟩::r=>match oJ t with
  |some xs=>if a==0&&!lu it&&jP ci xs then (match nC f (dY ci xs) r with
   |some (rest,cz)=>.comp (f cz elt) (.cons (kj xs (jx t) ci.base) (f co it) (bq (f (dY ci xs)) ifs) rest)
   |none=>.bad) else .bad
  |none=>.bad
noncomputable def cP (c:aI) (sc:Scope):aI:={names:=sc.names,slots:=c.slots.filter λp=>!own sc.names p.1,base:=c.base}
noncomputable def l3 (c:aI) (sc:Scope):Bool:=sc.kind==.function&&decide ((sc.names.map (·.1)).Nodup)&&(sc.names.all λp=>p.2 != .free||c.names.lookup p.1==some .cell||c.names.lookup p.1==some .free) &&
 (sc.names.lookup ("__debug__":Str)).isNone&&(sc.names.lookup ("__classdict__":Str)).isNone
noncomputable def dc {α:Type} (o:Option α) (f:α->E):E:=match o with
 |some x=>f x
 |none=>.bad
noncomputable def dT (b:Bool) (e:E):E:=match b with
 |true=>e
 |false=>.bad
noncomputable def bB {α:Type} (o:Option α) (f:α->S):S:=match o with
 |some x=>f x
 |none=>.bad
noncomputable def cU (b:Bool) (e:S):S:=match b with
 |true=>e
 |false=>.bad
noncomputable def qp {α:Type}:List α->Option α
 |[x]=>some x
 |_=>none
set_option backward.match.sparseCases false in
noncomputable def nu:Expr->Option (Expr × Str × Pos)
 |.Attribute o a p=>some (o,a,p)
 |_=>none
set_option backward.match.sparseCases false in
noncomputable def xU:Expr->Option (Expr × Expr)
 |.Subscript o i _=>some (o,i)
 |_=>none
set_option backward.match.sparseCases false in
noncomputable def tW:Expr->Option (Option Expr × Option Expr × Option Expr)
 |.Slice lo hi st _=>some (lo,hi,st)
 |_=>none
set_option backward.match.sparseCases false in
noncomputable def Di:Expr->Option Int
 |.Constant k _ _=>match k with
  |.int i=>some i
  |_=>none
 |_=>none
noncomputable def zJ (f:Expr->E) (l:Expr) (ops:List CmpOp) (rs:List Expr):E:=dc (qp ops) λop=>dc (qp rs) λr=>dT (!lu r) (.cmp (rE op) (f l) (f r))
noncomputable def xX (f:Expr->E) (op:UnaryOp) (x:Expr):E:=match op with
 |.Not=>.not (f x)
 |.USub=>dc (Di x) λi=>.cst (.int (-i))
 |_=>.bad
noncomputable def GD (f:Expr->E) (op:BoolOp) (es:List Expr):E:=match op with
 |.And=>jJ f es
 |.Or=>jK f es
noncomputable def qI (f:Expr->E) (v i:Expr):E:=match tW i with
 |none=>.idx (f v) (f i)
 |some (lo,hi,st)=>dT st.isNone (.slice (f v) (o5 f lo) (o5 f hi))
noncomputable def QL (f:Expr->E) (o:Expr) (a:Nm) (ps:List Expr) (st:Option Expr):E:=match st with
 |none=>.a9 (f o) a (bq f ps)
 |some e=>.eU (f o) a (bq f ps) (f e)
noncomputable def C9 (f:Expr->E) (o:Expr) (a:Str) (apos:Pos) (args:List Expr) (ks:List Keyword) (pos:Pos):E:=
 dT (!mI o&&ks.isEmpty&&(apos.endLine==pos.line)&&decide (args.length<20)) (dc (cJ a) λa=>dc (jc args) λp=>QL f o a p.1 p.2)
noncomputable def zB (G:aV) (fe:Expr) (i:Nat):Bool:=match fM fe with
 |some x=>G.zC.contains (x,i)
 |none=>false
noncomputable def yJ (G:aV) (f:Expr->E) (fe:Expr) (i:Nat) (e:Expr):E:=match zB G fe i with
 |true=>.uQ (f e)
 |false=>f e
noncomputable def DQ (G:aV) (f:Expr->E) (fe:Expr) (args:List Expr) (ks:List Keyword):E:=
 dT (!LY fe&&!args.any dp&&ks.all λk=>(k.arg.bind cJ).isSome) (.call (f fe) (uN (yJ G f fe) 0 args) (lZ f ks))
noncomputable def o6 (G:aV) (f:Expr->E) (fe:Expr) (args:List Expr) (ks:List Keyword) (pos:Pos):E:=match nu fe with
 |some (o,a,apos)=>C9 f o a apos args ks pos
 |none=>DQ G f fe args ks
set_option backward.match.sparseCases false in
noncomputable def cE (G:aV):Nat->aI->Expr->E
 |0,_,_=>.bad
 |n+1,c,e=>match e with
  |.Constant k _ _=>rG k
  |.Name x _=>lB G c x
  |.BinOp l op r _=>dc (jb op) λo=>.bin o (cE G n c l) (cE G n c r)
  |.Compare l ops rs _=>zJ (cE G n c) l ops rs
  |.UnaryOp op x _=>xX (cE G n c) op x
  |.BoolOp op es _=>GD (cE G n c) op es
  |.IfExp t a b _=>.ite (cE G n c t) (cE G n c a) (cE G n c b)
  |.List es _=>.list (kK (cE G n c) es)
  |.Tuple es _ _=>.tup (kK (cE G n c) es)
  |.Dict ks vs _=>dT (ks.isEmpty&&vs.isEmpty) .l6
  |.Subscript v i _=>qI (cE G n c) v i
  |.ListComp elt gens sc _=>dT (l3 c sc) (eJ (cE G n) (cP c sc) c elt gens)
  |.Attribute v a _=>dT (!mI v) (dc (cJ a) λa=>.attr (cE G n c v) a)
  |.NamedExpr t v _=>dc (fM t) λx=>dc (cZ c x) λk=>.ku k (cE G n c v)
  |.JoinedStr vs _=>.sd (bq (cE G n c) vs)
  |.Call f args ks pos=>o6 G (cE G n c) f args ks pos
  |_=>.bad
noncomputable def Cy (G:aV) (x:Str):Bool:=G.mu.contains x
noncomputable def gZ (f:Stmt->S):List Stmt->Ss
 |[]=>.nil
 |s::r=>.cons (f s) (gZ f r)
noncomputable def iL (x:Str):Nat:=if x==("StopIteration":Str) then 0 else if x==("CycleError":Str) then 1 else if x==("ValueError":Str) then 2 else 9
noncomputable def lD (c:aI) (x:Str):Bool:=c.names.lookup x==some .globalImplicit
noncomputable def Ip (f:Expr->E) (e:Expr):S:=cU (!jw e) (.expr (f e))
set_option backward.match.sparseCases false in
noncomputable def yM (G:aV) (c:aI) (f:Expr->E) (t e:Expr):S:=match t with
 |.Name x _=>bB (cZ c x) λk=>.aL k (Cy G x) (f e)
 |.Tuple es _ _=>cU (!wN e&&!jw e) (bB ((es.mapM fM).bind (·.mapM (cZ c))) λns=>.o3 ns (f e))
 |.Attribute o a _=>cU (!mI o) (bB (cJ a) λb=>.cH (f o) b (Cy G a) (f e))
 |.Subscript o i _=>cU (!jw e) (.kF (f o) (f i) (f e))
 |_=>.bad
noncomputable def F5 (c:aI) (f:Expr->E) (t u e:Expr):S:=bB (xU t) λp=>bB (fM u) λx=>bB (cZ c x) λk=>.oZ (f p.1) (f p.2) k (f e)
noncomputable def yN (G:aV) (c:aI) (f:Expr->E) (ts:List Expr) (e:Expr):S:=match ts with
 |[t]=>yM G c f t e
 |[t,u]=>F5 c f t u e
 |_=>.bad
noncomputable def Gd (f:Expr->E) (t:Expr) (op:Operator) (e:Expr):S:=bB (nu t) λp=>bB (cJ p.2.1) λb=>bB (jb op) λo=>.kI (f p.1) b o (f e)
noncomputable def ID (c:aI) (f:Expr->E) (t it:Expr) (a:Ss) (Nj:Bool):S:=cU (Nj&&!lu it) (bB (fM t) λx=>bB (cZ c x) λk=>.dO (.one k) (f it) a)
noncomputable def N4 (c:aI) (f:Expr->E) (x:Str) (args:List Expr):S:=cU (lD c x) (match args with
 |[a,b]=>cU (x==("CycleError":Str)&&!dp a&&!dp b) (.qw (f a) (f b))
 |_=>.bad)
noncomputable def D0 (c:aI) (f:Expr->E) (exc cause:Option Expr):S:=cU cause.isNone (bB exc λe=>bB (uO e) λp=>bB (fM p.1) λx=>cU p.2.2.isEmpty (N4 c f x p.2.1))
noncomputable def BC:ExceptHandler->Option (Expr × Option Str × List Stmt)
 |.ExceptHandler t nm h _=>t.map λt=>(t,nm,h)
noncomputable def Rm (c:aI) (x:Str) (nm:Option Str) (b h:Ss):S:=match nm with
 |none=>.lP b (iL x) none h
 |some _=>.bad
noncomputable def E4 (c:aI) (g:List Stmt->Ss) (b:List Stmt) (hs:List ExceptHandler) (Nl:Bool):S:=
 cU Nl (bB (qp hs) λh=>bB (BC h) λp=>bB (fM p.1) λx=>cU (lD c x&&!p.2.2.isEmpty) (Rm c x p.2.1 (g b) (g p.2.2)))
noncomputable def HB (f:Expr->E) (ts:List Expr):S:=bB (qp ts) λt=>bB (xU t) λp=>.pd (f p.1) (f p.2)
set_option backward.match.sparseCases false in
noncomputable def cS (G:aV):Nat->aI->Stmt->S
 |0,_,_=>.bad
 |n+1,c,s=>match s with
  |.Pass _=>.pass
  |.Break _=>.brk
  |.Continue _=>.cont
  |.Expr e _=>Ip (cE G n c) e
  |.Return v _=>bB v λe=>.ret (cE G n c e)
  |.Assign ts e _=>yN G c (cE G n c) ts e
  |.AugAssign t op e _=>Gd (cE G n c) t op e
  |.If t a b _=>.ifs (cE G n c t) (gZ (cS G n c) a) (gZ (cS G n c) b)
  |.While t a b _=>.kx (cE G n c t) (gZ (cS G n c) a) (gZ (cS G n c) b)
  |.For t it a orelse _=>ID c (cE G n c) t it (gZ (cS G n c) a) orelse.isEmpty
  |.Raise exc cause _=>D0 c (cE G n c) exc cause
  |.Try b hs orelse fin _=>E4 c (gZ (cS G n c)) b hs (orelse.isEmpty&&fin.isEmpty)
  |.Delete ts _=>HB (cE G n c) ts
  |_=>.bad
noncomputable def kM (sc:Scope):aI:=let ns:=cK sc.names; {names:=sc.names,slots:=b9 ns 0,base:=ns.length}
set_option backward.match.sparseCases false in
noncomputable def uZ:Expr->D
 |.Constant .none _ _=>.none
 |.Constant (.bool b) _ _=>.bool b
 |.Constant (.int i) _ _=>.int i
 |_=>.bn .repr
noncomputable def eE (sc:Scope) (x:Arg):Nat:=((kM sc).slots.lookup x.arg).getD 999
noncomputable def dU (G:aV) (a:Arguments) (body:List Stmt) (sc:Scope):Fn:=
 {bW:=(a.posonlyargs++a.args).map (eE sc),bL:=a.defaults.map uZ,cb:=a.kwonlyargs.map λx=>((cJ x.arg).getD .init,eE sc x),
  cj:=a.vararg.map (eE sc),size:=(kM sc).base,body:=gZ (cS G 40 (kM sc)) body}
noncomputable def r3 (a:Arguments) (sc:Scope):Bool:=sc.kind==.function&&!sc.isCoroutine&&!sc.isGenerator&&decide ((sc.names.map (·.1)).Nodup)&&(sc.names.all λp=>p.2 != .free)&&(sc.names.lookup ("__debug__":Str)).isNone &&
 (sc.names.lookup ("__classdict__":Str)).isNone&&a.kwarg.isNone&&decide (((a.posonlyargs.map (·.arg)++a.args.map (·.arg))++a.kwonlyargs.map (·.arg)++(a.vararg.map (·.arg)).toList).Nodup) &&
 (((a.posonlyargs.map (·.arg)++a.args.map (·.arg))++a.kwonlyargs.map (·.arg)++(a.vararg.map (·.arg)).toList).all (own sc.names))&&decide (a.defaults.length<=(a.posonlyargs.map (·.arg)++a.args.map (·.arg)).length) &&
 (a.kwonlyargs.all λx=>(cJ x.arg).isSome)
structure av where
 prog:Program
 w:World
 h₀:Heap
 os:OsState
 P:aP
 K:W.Frag
 a6:Nat->Addr
 aX:Nat->Addr
 gR:Nat->Nat->Nat
abbrev av.M (V:av):Model:=model V.prog V.w
noncomputable def Bn.val:Bn->Value
 |.len=>.builtin "len"|.list=>.type "list"|.range=>.type "range"|.tuple=>.type "tuple"|.sum=>.builtin "sum"|.min=>.builtin "min"
 |.sorted=>.builtin "sorted"|.isinstance=>.builtin "isinstance"|.bool=>.type "bool"|.bytes=>.type "bytes"|.str=>.type "str"|.type=>.type "type"
 |.set=>.type "set"|.iter=>.builtin "iter"|.next=>.builtin "next"|.int=>.type "int"|.float=>.type "float"|.complex=>.type "complex"
 |.bytearray=>.type "bytearray"|.dict=>.type "dict"|.frozenset=>.type "frozenset"|.t6=>.type "ValueError"|.stopIteration=>.type "StopIteration"
 |.repr=>.builtin "repr"
noncomputable def Nm.str:Nm->Str
 |.append=>"append"|.pop=>"pop"|.clear=>"clear"|.get=>"get"|.values=>"values"|.add=>"add"|.me=>"_get_nodeinfo"
 |.prepare=>"prepare"|.nL=>"_find_cycle"|.iO=>"get_ready"|.lr=>"is_active"|.done=>"done"
 |.cF=>"_node2info"|.bY=>"_ready_nodes"|.dD=>"_npassedout"|.d9=>"_nfinished"|.node=>"node"|.eb=>"npredecessors"
 |.succ=>"successors"|.it=>"_it"|.func=>"_func"|.a8=>"__contains__"|.bO=>"__next__"|.newline=>"newline"|.init=>"__init__"|.iH=>"__iter__"
inductive GO where
 |ay (o:Obj)
 |cell (i:Nat)
 |ax (o:Obj)
 |locals
 |b7 (x:Str)
noncomputable def GO.ctorIdx (x:GO):Nat:=GO.casesOn x (λ_=>0) (λ_=>1) (λ_=>2) 3 (λ_=>4)
abbrev Gh:=Addr->Option GO
structure Gh.Le (g g':Gh):Prop where
 ay : ∀ a o,g a=some (.ay o)->g' a=some (.ay o)
 cell : ∀ a i,g a=some (.cell i)->g' a=some (.cell i)
structure Gh.Step (g g':Gh):Prop extends Gh.Le g g' where
 ax : ∀ a o,g a=some (.ax o)↔g' a=some (.ax o)
theorem Gh.Le.refl (g:Gh):g.Le g:=⟨λu' u' h=>h,λu' u' h=>h⟩
theorem Gh.Le.trans {g₁ g₂ g₃:Gh} (x:g₁.Le g₂) (y:g₂.Le g₃):g₁.Le g₃:=⟨λa o h=>y.ay a o (x.ay a o h),λa i h=>y.cell a i (x.cell a i h)⟩
theorem Gh.Step.refl (g:Gh):g.Step g:=⟨.refl g,λu' u'=>.rfl⟩
theorem Gh.Step.trans {g₁ g₂ g₃:Gh} (x:g₁.Step g₂) (y:g₂.Step g₃):g₁.Step g₃:=⟨x.toLe.trans y.toLe,λa o=>(x.ax a o).trans (y.ax a o)⟩
noncomputable def kE (T:String) (vs:List Value) (o:Obj):Prop:=vs.length<=aF/\∃ n,o={cls:=.type T,dict:=none,data:=.seq vs.toArray n,slots := #[]}
noncomputable def eG (T:String) (vs:List Value) (o:Obj):Prop:=o={cls:=.type T,dict:=none,data:=.fields vs.toArray,slots := #[]}
mutual
inductive af (V:av) (g:Gh):D->Value->Prop
 |none:af V g .none .none
 |bool (b:Bool):af V g (.bool b) (.bool b)
 |int (i:Int) (t:Tok):af V g (.int i) (.int i t)
 |str (s:Str) (t:Tok):af V g (.str s) (.str s t)
 |bytes {b:List UInt8} (t:Tok):b.length<=aF->af V g (.bytes b) (.bytes b.toArray t)
 |bn (b:Bn):af V g (.bn b) b.val
 |fn (k:Nat):af V g (.fn k) (.ref (V.a6 k))
 |cls (k:Nat):af V g (.cls k) (.ref (V.aX k))
 |tup {ds:List D} {a:Addr} {o:Obj} {vs:List Value}:g a=some (.ay o)->kE "tuple" vs o->aG V g ds vs->af V g (.tup ds) (.ref a)
 |lst {ds:List D} {a:Addr} {o:Obj} {vs:List Value}:g a=some (.ay o)->kE "list" vs o->aG V g ds vs->af V g (.lst ds) (.ref a)
 |bZ {a b:Int} {r:Addr} {o:Obj} {t₁ t₂ t₃:Tok}:g r=some (.ay o)->eG "range" [.int a t₁,.int b t₂,.int 1 t₃] o->af V g (.bZ a b) (.ref r)
 |loc {i:Nat} {a:Addr}:g a=some (.cell i)->af V g (.loc i) (.ref a)
 |inst {k i:Nat} {x dx:Addr} {sl:Array (Option Value)}:g x=some (.ay ⟨.ref (V.aX k),some dx,.plain,sl⟩)->g dx=some (.cell i)->af V g (.inst k i) (.ref x)
 |nA {s:D} {v:Value} {a:Addr} {o:Obj}:g a=some (.ay o)->eG "method-wrapper" [.builtin "list.__contains__",v] o->af V g s v->af V g (.bm .a8 s) (.ref a)
 |nB {s:D} {v:Value} {a:Addr} {o:Obj}:g a=some (.ay o)->eG "method-wrapper" [.builtin "list_iterator.__next__",v] o->af V g s v->af V g (.bm .bO s) (.ref a)
 |c7 {i:Nat} {a d:Addr} {o:Obj}:g a=some (.ay o)->eG "dict_values" [.ref d] o->g d=some (.cell i)->af V g (.c7 i) (.ref a)
 |e9 {msg:Str} {a:Addr} {t:Addr} {o o':Obj} {u:Tok} {vs:List Value}:g a=some (.ay o)->o.cls=.type "ValueError"->o.data=.fields (.ref t::vs).toArray->
   g t=some (.ay o')->(o'.cls=.type "tuple"/\∃ n,o'.data=.seq [Value.str msg u].toArray n)->af V g (.e9 msg) (.ref a)
inductive aG (V:av) (g:Gh):List D->List Value->Prop
 |nil:aG V g [] []
 |cons {d:D} {v:Value} {ds:List D} {vs:List Value}:af V g d v->aG V g ds vs->aG V g (d::ds) (v::vs)
end
theorem af.mono {V:av} {g g':Gh} (L:g.Le g') {d:D} {v:Value} (h:af V g d v):af V g' d v:=
 af.rec (motive_1:=λd v u'=>af V g' d v) (motive_2:=λds vs u'=>aG V g' ds vs) .none (λb=>.bool b) (λi t=>.int i t) (λs t=>.str s t) (λt h=>.bytes t h) (λb=>.bn b) (λk=>.fn k) (λk=>.cls k)
  (λh a u' b=>.tup (L.ay _ _ h) a b) (λh a u' b=>.lst (L.ay _ _ h) a b) (λh a=>.bZ (L.ay _ _ h) a) (λh=>.loc (L.cell _ _ h)) (λh a=>.inst (L.ay _ _ h) (L.cell _ _ a))
  (λh a u' b=>.nA (L.ay _ _ h) a b) (λh a u' b=>.nB (L.ay _ _ h) a b) (λh a b=>.c7 (L.ay _ _ h) a (L.cell _ _ b)) (λh a b c d=>.e9 (L.ay _ _ h) a b (L.ay _ _ c) d) .nil (λu' u' a b=>.cons a b) h
theorem aG.mono {V:av} {g g':Gh} (L:g.Le g') {ds:List D} {vs:List Value} (h:aG V g ds vs):aG V g' ds vs:=
 aG.rec (motive_1:=λd v u'=>af V g' d v) (motive_2:=λds vs u'=>aG V g' ds vs) .none (λb=>.bool b) (λi t=>.int i t) (λs t=>.str s t) (λt h=>.bytes t h) (λb=>.bn b) (λk=>.fn k) (λk=>.cls k)
  (λh a u' b=>.tup (L.ay _ _ h) a b) (λh a u' b=>.lst (L.ay _ _ h) a b) (λh a=>.bZ (L.ay _ _ h) a) (λh=>.loc (L.cell _ _ h)) (λh a=>.inst (L.ay _ _ h) (L.cell _ _ a))
  (λh a u' b=>.nA (L.ay _ _ h) a b) (λh a u' b=>.nB (L.ay _ _ h) a b) (λh a b=>.c7 (L.ay _ _ h) a (L.cell _ _ b)) (λh a b c d=>.e9 (L.ay _ _ h) a b (L.ay _ _ c) d) .nil (λu' u' a b=>.cons a b) h
noncomputable def Fw (V:av) (g:Gh):D->Value->Prop
 |.none,v=>v=.none
 |.bool b,v=>v=.bool b
 |.int i,v => ∃ t,v=.int i t
 |.str s,v => ∃ t,v=.str s t
 |.bytes b,v => ∃ t,b.length<=aF/\v=.bytes b.toArray t
 |.bn b,v=>v=b.val
 |.fn k,v=>v=.ref (V.a6 k)
 |.cls k,v=>v=.ref (V.aX k)
 |.tup ds,v => ∃ a o vs,g a=some (.ay o)/\kE "tuple" vs o/\aG V g ds vs/\v=.ref a
 |.lst ds,v => ∃ a o vs,g a=some (.ay o)/\kE "list" vs o/\aG V g ds vs/\v=.ref a
 |.bZ a b,v => ∃ r o t₁ t₂ t₃,g r=some (.ay o)/\eG "range" [.int a t₁,.int b t₂,.int 1 t₃] o/\v=.ref r
 |.loc i,v => ∃ a,g a=some (.cell i)/\v=.ref a
 |.inst k i,v => ∃ x dx sl,g x=some (.ay ⟨.ref (V.aX k),some dx,.plain,sl⟩)/\g dx=some (.cell i)/\v=.ref x
 |.c7 i,v => ∃ a d o,g a=some (.ay o)/\eG "dict_values" [.ref d] o/\g d=some (.cell i)/\v=.ref a
 |_,_=>True
theorem af.inv {V:av} {g:Gh} {d:D} {v:Value} (h:af V g d v):Fw V g d v:=by
 induction h using af.casesOn with
 |none=>exact rfl
 |bool b=>exact rfl
 |int i t=>exact ⟨_,rfl⟩
 |str s t=>exact ⟨_,rfl⟩
 |bytes t h=>exact ⟨_,h,rfl⟩
 |bn b=>exact rfl
 |fn k=>exact rfl
 |cls k=>exact rfl
 |tup a b c=>exact ⟨_,_,_,a,b,c,rfl⟩
 |lst a b c=>exact ⟨_,_,_,a,b,c,rfl⟩
 |bZ a b=>exact ⟨_,_,_,_,_,a,b,rfl⟩
 |loc a=>exact ⟨_,a,rfl⟩
 |inst a b=>exact ⟨_,_,_,a,b,rfl⟩
 |c7 a b c=>exact ⟨_,_,_,a,b,c,rfl⟩
 |nA=>exact trivial
 |nB=>exact trivial
 |e9=>exact trivial
section
variable {V:av} {g:Gh} {v:Value}
theorem af.wD (h:af V g .none v):v=.none:=h.inv
theorem af.n5 {b:Bool} (h:af V g (.bool b) v):v=.bool b:=h.inv
theorem af.i5 {i:Int} (h:af V g (.int i) v) : ∃ t,v=.int i t:=h.inv
theorem af.sQ {s:Str} (h:af V g (.str s) v) : ∃ t,v=.str s t:=h.inv
theorem af.mE {b:List UInt8} (h:af V g (.bytes b) v) : ∃ t,b.length<=aF/\v=.bytes b.toArray t:=h.inv
theorem af.wC {b:Bn} (h:af V g (.bn b) v):v=b.val:=h.inv
theorem af.Lq {k:Nat} (h:af V g (.fn k) v):v=.ref (V.a6 k):=h.inv
theorem af.Ck {k:Nat} (h:af V g (.cls k) v):v=.ref (V.aX k):=h.inv
theorem af.Lu {ds:List D} (h:af V g (.tup ds) v) : ∃ a o vs,g a=some (.ay o)/\kE "tuple" vs o/\aG V g ds vs/\v=.ref a:=h.inv
theorem af.Lr {ds:List D} (h:af V g (.lst ds) v) : ∃ a o vs,g a=some (.ay o)/\kE "list" vs o/\aG V g ds vs/\v=.ref a:=h.inv
theorem af.Ls {a b:Int} (h:af V g (.bZ a b) v) : ∃ r o t₁ t₂ t₃,g r=some (.ay o)/\eG "range" [.int a t₁,.int b t₂,.int 1 t₃] o/\v=.ref r:=h.inv
theorem af.gc {i:Nat} (h:af V g (.loc i) v) : ∃ a,g a=some (.cell i)/\v=.ref a:=h.inv
theorem af.Sd {k i:Nat} (h:af V g (.inst k i) v) : ∃ x dx sl,g x=some (.ay ⟨.ref (V.aX k),some dx,.plain,sl⟩)/\g dx=some (.cell i)/\v=.ref x:=h.inv
theorem af.Lv {i:Nat} (h:af V g (.c7 i) v) : ∃ a d o,g a=some (.ay o)/\eG "dict_values" [.ref d] o/\g d=some (.cell i)/\v=.ref a:=h.inv
theorem af.Ci {d:D} (h:af V g (.bm .a8 d) v) : ∃ u a,g a=some (.ay {cls:=.type "method-wrapper",dict:=Option.none,data:=.fields #[.builtin "list.__contains__",u],slots := #[]})/\af V g d u/\v=.ref a:=by
 cases h with
 |nA h1 h2 h3=>unfold eG at h2; subst h2; exact ⟨_,_,h1,h3,rfl⟩
theorem af.Cj {d:D} (h:af V g (.bm .bO d) v) : ∃ u a,g a=some (.ay {cls:=.type "method-wrapper",dict:=Option.none,data:=.fields #[.builtin "list_iterator.__next__",u],slots := #[]})/\af V g d u/\v=.ref a:=by
 cases h with
 |nB h1 h2 h3=>unfold eG at h2; subst h2; exact ⟨_,_,h1,h3,rfl⟩
theorem aG.fF {vs:List Value} (h:aG V g [] vs):vs=[]:=by cases h; rfl
inductive yi (V:av) (g:Gh) (d:D) (ds:List D) (vs:List Value):Prop
 |mk (v:Value) (ws:List Value) (h1:af V g d v) (h2:aG V g ds ws) (e:vs=v::ws):yi V g d ds vs
theorem aG.f9 {d:D} {ds:List D} {vs:List Value} (h:aG V g (d::ds) vs):yi V g d ds vs:=by cases h; exact ⟨_,_,by assumption,by assumption,rfl⟩
inductive ua {α β:Type} (o:Option α) (f:α->Option β) (b:β):Prop
 |mk (a:α) (h1:o=some a) (h2:f a=some b):ua o f b
inductive yu {α β:Type} (o:Option α) (f:α->β) (b:β):Prop
 |mk (a:α) (h1:o=some a) (h2:f a=b):yu o f b
theorem aO {α β:Type} {o:Option α} {f:α->Option β} {b:β} (h:o.bind f=some b):ua o f b:=let ⟨a,h1,h2⟩:=Option.bind_eq_some_iff.mp h; ⟨a,h1,h2⟩
theorem cf {α β:Type} {o:Option α} {f:α->β} {b:β} (h:o.map f=some b):yu o f b:=let ⟨a,h1,h2⟩:=Option.map_eq_some_iff.mp h; ⟨a,h1,h2⟩
theorem n6 {α:Type} {M:Model} {A:Around} {c:Prop} [Decidable c] {f k:Sem α} {Q E s} (h : ¬c) (q:wpAny M A k Q E s):wpAny M A (if c then f else k) Q E s:=by rw [if_neg h]; exact q
theorem Cs {α:Type} {M:Model} {A:Around} {c:Prop} [Decidable c] {f k:Sem α} {Q E s} (h:c) (q:wpAny M A f Q E s):wpAny M A (if c then f else k) Q E s:=by rw [if_pos h]; exact q
theorem ao {α:Type} {a:α} {P:Prop} (h:Option.none=some a):P:=by cases h
theorem eA {c:Prop} [Decidable c] {α:Type} {a:Option α} {b:α} (h:(if c then a else Option.none)=some b):c/\a=some b:=by
 by_cases q:c
 ·rw [if_pos q] at h; exact ⟨q,h⟩
 ·rw [if_neg q] at h; exact ao h
set_option tactic.hygienic true in
theorem uw {C:ai} {i:Nat} {es:List (Nm × D)} (h:ei C i=some es):C[i]?=some (.cC es):=by
 unfold ei at h
 split at h
 ·rename_i e q; rw [Option.some.inj h] at q; exact q
 ·exact ao h
set_option tactic.hygienic true in
theorem wW {C:ai} {i:Nat} {es:List D} (h:eB C i=some es):C[i]?=some (.list es):=by
 unfold eB at h
 split at h
 ·rename_i e q; rw [Option.some.inj h] at q; exact q
 ·exact ao h
set_option tactic.hygienic true in
theorem Pk {C:ai} {i:Nat} {es:List Int} (h:oE C i=some es):C[i]?=some (.set es):=by
 unfold oE at h
 split at h
 ·rename_i e q; rw [Option.some.inj h] at q; exact q
 ·exact ao h
set_option tactic.hygienic true in
theorem Ao {C:ai} {i:Nat} {es:List (Int × D)} (h:dictAt C i=some es) : ∃ b,C[i]?=some (.dict b es):=by
 unfold dictAt at h
 split at h
 ·rename_i b e q; rw [Option.some.inj h] at q; exact ⟨b,q⟩
 ·exact ao h
theorem jE {α:Type} {a:α} {P:Prop} (h:some a=Option.none):P:=by cases h
theorem bo {P:Prop} (h:false=true):P:=by cases h
theorem fN {P:Prop} (h:true=false):P:=by cases h
theorem ak.ok.inj {α:Type} {a b:α} {s t:St} (h:ak.ok a s=ak.ok b t):a=b/\s=t:=by cases h; exact ⟨rfl,rfl⟩
theorem cn {α:Type} {a:α} {st:St} {P:Prop} (h:ak.fail=ak.ok a st):P:=by cases h
theorem ve {α:Type} {a:α} {x:X} {st aB:St} {P:Prop} (h:ak.exc x aB=ak.ok a st):P:=by cases h
theorem DF {α:Type} {a:α} {st:St} {P:Prop} (h:ak.ok a st=ak.fail):P:=by cases h
theorem AU {α:Type} {x:X} {st:St} {P:Prop} (h:(ak.exc x st:ak α)=ak.fail):P:=by cases h
theorem AY {α:Type} {x:X} {st:St} {P:Prop} (h:(ak.fail:ak α)=ak.exc x st):P:=by cases h
end
noncomputable def gq (V:av) (g:Gh) (e:Int × D) (kv:Int × Value):Prop:=e.1=kv.1/\af V g e.2 kv.2
noncomputable def iz (V:av) (g:Gh) (e:Nm × D) (en:DictEntry):Prop:=(∃ t,en.key=.str e.1.str t)/\af V g e.2 en.val
noncomputable def jg (V:av) (g:Gh):Option D->Option Value->Prop
 |none,none=>True
 |some d,some v=>af V g d v
 |_,_=>False
noncomputable def a0 {α β:Type} (R:α->β->Prop):List α->List β->Prop
 |[],[]=>True
 |a::as,b::bs=>R a b/\a0 R as bs
 |_,_=>False
theorem a0.imp {α β:Type} {R R':α->β->Prop} (f : ∀ a b,R a b->R' a b) : ∀ {as:List α} {bs:List β},a0 R as bs->a0 R' as bs
 |[],[],_=>trivial
 |_::_,_::_,h=>⟨f _ _ h.1,h.2.imp f⟩
 |[],_::_,h=>h.elim
 |_::_,[],h=>h.elim
noncomputable def kA (V:av) (g:Gh):Ch->Obj->Prop
 |.list ds,o => ∃ vs,kE "list" vs o/\aG V g ds vs
 |.dict b es,o=>es.length<=64/\∃ ents ep aA,o.ExactDict/\o.data=.dict ents ep/\KeysOf (intKind V.prog V.w) ents/\Pairs (intKind V.prog V.w) ents.toList aA/\(aA.map (·.1)).Nodup/\a0 (gq V g) es aA/\(b=true->ep=es.length)
 |.cC es,o=>es.length<=64/\∃ ents n,o=W.dictOf ents n/\a0 (iz V g) es ents/\(es.map (·.1)).Nodup
 |.set es,o=>es.length<=64/\∃ ents ep t,o.ExactSet/\o.data=.set ents ep t/\ElemsOf (intKind V.prog V.w) ents.toList/\(∀ k,es.contains k=true ↔ ∃ e∈ents.toList,(intKind V.prog V.w).is k e.2=true)/\
   ents.size<scanBound/\t.fits ents.size=true/\ents.size=es.length
 |.slots k fs,o=>o.cls=.ref (V.aX k)/\(∃ dx,o.dict=some dx/\g dx=some (.ay W.emptyDict))/\o.data=.plain/\∀ j,j<fs.length->jg V g (fs[j]?).join (o.slots[V.gR k j]?).join
 |.bf src pos,o=>match src with
  |.none=>True
  |.tup ds => ∃ v t,eG "tuple_iterator" [v,.int pos t] o/\af V g (.tup ds) v
  |src => ∃ v t,eG "list_iterator" [v,.int pos t] o/\af V g src v
structure aD where
 env:Env
 names:List (Str × NameKind)
 slots:List (Str × Nat)
 base:Nat
 stack:List Env
noncomputable def yp (k:NameKind) (r:Option NameKind):Prop:=match k with
 |.free=>r=some .free\/r=some .cell
 |k=>r=some k
structure aD.Ok (F:aD):Prop where
 fn:F.env.scope.kind=.function
 glob:F.env.globals=mainGlobals
 blt:F.env.builtins=builtinsNs
 kinds : ∀ x k,F.names.lookup x=some k->yp k (F.env.kindOf x)
 inj : ∀ x y n,F.slots.lookup x=some n->F.slots.lookup y=some n->x=y
 bound : ∀ x n,F.slots.lookup x=some n->n<F.base
 frame : ∃ L,F.env.frame=some L
 cells : ∀ x k,F.names.lookup x=some k->k=.cell\/k=.free->(F.env.cells.lookup x).isSome=true
 debug:F.names.lookup ("__debug__":Str)=none
 l1:F.names.lookup ("__classdict__":Str)=none
noncomputable def yl (g:Gh) (L:Addr):Prop:=g L=some .locals\/∃ o es n,g L=some (.ax o)/\o.data=.dict es n
noncomputable def eh (F:aD) (g:Gh) (L:Addr):Prop:=L=F.env.locals\/∃ o es n,g L=some (.ax o)/\o.data=.dict es n
noncomputable def jI (o:Obj):Prop:=(∀ v,o.data≠.cell v)/\∀ es n,o.data≠.dict es n
structure kC (V:av) (F:aD) (m:List (Option D)) (g:Gh) (h:Heap):Prop where
 len:m.length=F.base
 above:V.h₀.objs.size<=F.env.locals
 out : ∀ e∈F.stack,e.scope.kind≠.module/\∃ L,e.frame=some L/\eh F g L
 here:g F.env.locals=some .locals
 loc : ∃ M,h.Ns F.env.locals M/\∀ x n d,F.names.lookup x=some .local->F.slots.lookup x=some n->m[n]?=some (some d)->∃ v,M x=some v/\af V g d v
 cell : ∀ x,F.names.lookup x=some .cell->∃ c v,F.env.cells.lookup x=some c/\g c=some (.b7 x)/\h.IsCell c v/\
  ∀ n d,F.slots.lookup x=some n->m[n]?=some (some d)->∃ v',v=some v'/\af V g d v'
 free : ∀ x n d,F.names.lookup x=some .free->F.slots.lookup x=some n->m[n]?=some (some d)->∃ c o v,F.env.cells.lookup x=some c/\g c=some (.ax o)/\o.data=.cell (some v)/\af V g d v
inductive ye (V:av) (g:Gh) (h:Heap) (i:Nat) (c:Ch):Prop
 |mk (a:Addr) (o:Obj) (h1:g a=some (.cell i)) (h2:h.get? a=some o) (h3:kA V g c o):ye V g h i c
structure ah (V:av) (F:aD) (m:List (Option D)) (C:ai) (g:Gh) (s:Shared):Prop where
 keep : ∀ b o,V.h₀.get? b=some o->s.heap.get? b=some o
 new : ∀ a x,g a=some x->V.h₀.get? a=none
 live : ∀ a x,g a=some x->∃ o,s.heap.get? a=some o
 ay : ∀ a o,g a=some (.ay o)->s.heap.get? a=some o
 ax : ∀ a o,g a=some (.ax o)->∃ sl,s.heap.get? a=some {o with slots:=sl}/\(jI o->sl=o.slots)
 cell : ∀ i c,C[i]?=some c->ye V g s.heap i c
 uniq : ∀ a b i,g a=some (.cell i)->g b=some (.cell i)->a=b
 c4 : ∀ a i,g a=some (.cell i)->i<C.length
 fr:kC V F m g s.heap
 gens:s.gens = #[]
 os:s.os=V.os
theorem gq.mono {V:av} {g g':Gh} (L:g.Le g') (e:Int × D) (en:Int × Value) (h:gq V g e en):gq V g' e en:=⟨h.1,h.2.mono L⟩
theorem iz.mono {V:av} {g g':Gh} (L:g.Le g') (e:Nm × D) (en:DictEntry) (h:iz V g e en):iz V g' e en:=⟨h.1,h.2.mono L⟩
theorem jg.mono {V:av} {g g':Gh} (L:g.Le g') : ∀ {d:Option D} {v:Option Value},jg V g d v->jg V g' d v
 |none,none,_=>trivial
 |some _,some _,h=>af.mono L h
 |none,some _,h=>h.elim
 |some _,none,h=>h.elim
theorem kA.mono {V:av} {g g':Gh} (L:g.Le g') {c:Ch} {o:Obj} (h:kA V g c o):kA V g' c o:=by
 induction c using Ch.casesOn with
 |list ds=>obtain ⟨vs,a,b⟩:=h; exact ⟨vs,a,b.mono L⟩
 |dict _ _=>obtain ⟨a,ents,ep,aA,b,c,d,e,f,q,y⟩:=h; exact ⟨a,ents,ep,aA,b,c,d,e,f,q.imp (gq.mono L),y⟩
 |cC _=>obtain ⟨a,ents,n,c,d,e⟩:=h; exact ⟨a,ents,n,c,d.imp (iz.mono L),e⟩
 |set _=>exact h
 |slots _ _=>obtain ⟨a,⟨dx,b,b'⟩,c,d⟩:=h; exact ⟨a,⟨dx,b,L.ay _ _ b'⟩,c,λj hj=>(d j hj).mono L⟩
 |bf src p=>induction src using D.casesOn<;>first|exact trivial|(obtain ⟨v,t,a,b⟩:=h; exact ⟨v,t,a,b.mono L⟩)
section
variable {V:av} {F:aD} {m:List (Option D)} {C:ai} {g:Gh} {s:Shared}
theorem ah.apart (I:ah V F m C g s) {a:Addr} (h:s.heap.get? a=none):g a=none:=by
 induction e:g a with
 |none=>rfl
 |some x=>obtain ⟨o,ho⟩:=I.live a x e; rw [h] at ho; cases ho
theorem ah.eY (I:ah V F m C g s):g s.heap.objs.size=none:=I.apart (Heap.get?_none_of_le (le_refl _))
theorem kC.keeps (x:kC V F m g s.heap) {h':Heap} (k : ∀ b o,s.heap.get? b=some o->h'.get? b=some o):kC V F m g h':=
 ⟨x.len,x.above,x.out,x.here,by obtain ⟨M,a,b⟩:=x.loc; exact ⟨M,a.keeps k,b⟩,λy hy=>by obtain ⟨c,v,a,b,d,e⟩:=x.cell y hy; exact ⟨c,v,a,b,d.keeps k,e⟩,x.free⟩
theorem kC.mono {g':Gh} {h:Heap} (x:kC V F m g h) (L:g.Le g') (wh : ∀ c,g c=some .locals->g' c=some .locals) (hc : ∀ c y,g c=some (.b7 y)->g' c=some (.b7 y))
  (hp : ∀ c o,g c=some (.ax o)->g' c=some (.ax o)):kC V F m g' h:=by
 refine ⟨x.len,x.above,λe he=>let ⟨k,L',q,r⟩:=x.out e he; ⟨k,L',q,?_⟩,wh _ x.here,?_,λy hy=>?_,λy n d a b e=>?_⟩
 ·rcases r with r|⟨o,es,n,r,z⟩
  ·exact .inl r
  ·exact .inr ⟨o,es,n,hp _ _ r,z⟩
 ·obtain ⟨M,a,b⟩:=x.loc
  exact ⟨M,a,λy n d h1 h2 h3=>(b y n d h1 h2 h3).imp λv q=>⟨q.1,q.2.mono L⟩⟩
 ·obtain ⟨c,v,a,b,d,e⟩:=x.cell y hy
  exact ⟨c,v,a,hc c y b,d,λn d' h1 h2=>(e n d' h1 h2).imp λv q=>⟨q.1,q.2.mono L⟩⟩
 ·obtain ⟨c,o,v,h1,h2,h3,h4⟩:=x.free y n d a b e
  exact ⟨c,o,v,h1,hp c o h2,h3,h4.mono L⟩
theorem ah.keeps (I:ah V F m C g s) {h':Heap} {t:Nat} {d:Drawn} (k : ∀ b o,s.heap.get? b=some o->h'.get? b=some o):ah V F m C g {s with heap:=h',toks:=t,drawn:=d} where
 keep b o h:=k b o (I.keep b o h)
 new:=I.new
 live a x h:=(I.live a x h).imp λo=>k a o
 ay a o h:=k a o (I.ay a o h)
 ax a o h:=(I.ax a o h).imp λsl q=>⟨k a _ q.1,q.2⟩
 cell i c h:=by obtain ⟨a,o,x,y,z⟩:=I.cell i c h; exact ⟨a,o,x,k a o y,z⟩
 uniq:=I.uniq
 c4:=I.c4
 fr:=I.fr.keeps k
 gens:=I.gens
 os:=I.os
theorem ah.tok (I:ah V F m C g s) (t:Nat):ah V F m C g {s with toks:=t}:=I.keeps (h':=s.heap) (d:=s.drawn) λu' u' h=>h
theorem ah.heap (I:ah V F m C g s) {h':Heap} (k : ∀ b o,s.heap.get? b=some o->h'.get? b=some o):ah V F m C g {s with heap:=h'}:=I.keeps (t:=s.toks) (d:=s.drawn) k
theorem ah.both (I:ah V F m C g s) {h':Heap} (t:Nat) (k : ∀ b o,s.heap.get? b=some o->h'.get? b=some o):ah V F m C g {s with heap:=h',toks:=t}:=I.keeps (d:=s.drawn) k
noncomputable def Gh.put (g:Gh) (a:Addr) (x:Option GO):Gh:=λb=>if b=a then x else g b
theorem Gh.bh (g:Gh) (a:Addr) (x:Option GO):g.put a x a=x:=by simp [Gh.put]
theorem Gh.aW (g:Gh) {a b:Addr} (x:Option GO) (h:b≠a):g.put a x b=g b:=by simp [Gh.put,h]
theorem Gh.bz {g:Gh} {a b:Addr} {x:Option GO} {y:GO} (h:g.put a x b=some y):(b=a/\x=some y)\/(b≠a/\g b=some y):=by
 by_cases e:b=a
 ·left; subst e; rw [Gh.bh] at h; exact ⟨rfl,h⟩
 ·right; rw [Gh.aW _ _ e] at h; exact ⟨e,h⟩
theorem Gh.gf {g:Gh} {a:Addr} (x:Option GO) (h:g a=none):g.Le (g.put a x):=
 ⟨λb o e=>(by rw [Gh.aW]; exact e; intro q; subst q; rw [h] at e; cases e),λb i e=>(by rw [Gh.aW]; exact e; intro q; subst q; rw [h] at e; cases e)⟩
theorem ah.more (I:ah V F m C g s) {h':Heap} {t:Nat} {a:Addr} {o:Obj} {x:GO} (k : ∀ b o,s.heap.get? b=some o->h'.get? b=some o) (ha:s.heap.get? a=none) (ho:h'.get? a=some o)
  (hx:x=.ay o\/x=.ax o):ah V F m C (g.put a (some x)) {s with heap:=h',toks:=t}:=by
 have hg:=I.apart ha
 have L:g.Le (g.put a (some x)):=Gh.gf _ hg
 have I':=I.both t k
 have other : ∀ {b y},g b=some y->g.put a (some x) b=some y:=λ{b y} e=>by
  rw [Gh.aW]; exact e; intro q; subst q; rw [hg] at e; cases e
 refine ⟨I'.keep,λb y e=>?_,λb y e=>?_,λb o' e=>?_,λb o' e=>?_,λi c e=>?_,λb c i e e'=>?_,λb i e=>?_,?_,I'.gens,I'.os⟩
 ·rcases Gh.bz e with ⟨rfl,_⟩|⟨_,q⟩
  ·induction q:V.h₀.get? b with
   |none=>rfl
   |some o'=>rw [I.keep _ _ q] at ha; cases ha
  ·exact I.new b y q
 ·rcases Gh.bz e with ⟨rfl,_⟩|⟨_,q⟩
  ·exact ⟨o,ho⟩
  ·exact I'.live b y q
 ·rcases Gh.bz e with ⟨rfl,q⟩|⟨_,q⟩
  ·rcases hx with rfl|rfl<;>cases q
   exact ho
  ·exact I'.ay b o' q
 ·rcases Gh.bz e with ⟨rfl,q⟩|⟨_,q⟩
  ·rcases hx with rfl|rfl<;>cases q
   exact ⟨o.slots,ho,λu'=>rfl⟩
  ·exact I'.ax b o' q
 ·obtain ⟨b,o',h1,h2,h3⟩:=I'.cell i c e
  exact ⟨b,o',other h1,h2,h3.mono L⟩
 ·rcases Gh.bz e with ⟨rfl,q⟩|⟨_,q⟩
  ·rcases hx with rfl|rfl<;>cases q
  ·rcases Gh.bz e' with ⟨rfl,q'⟩|⟨_,q'⟩
   ·rcases hx with rfl|rfl<;>cases q'
   ·exact I.uniq b c i q q'
 ·rcases Gh.bz e with ⟨rfl,q⟩|⟨_,q⟩
  ·rcases hx with rfl|rfl<;>cases q
  ·exact I.c4 b i q
 ·exact I'.fr.mono L (λc e=>other e) (λc y e=>other e) (λc o e=>other e)
set_option tactic.hygienic true in
theorem ah.uR (I:ah V F m C g s) {h':Heap} {t:Nat} {a:Addr} {o:Obj} {c:Ch} (k : ∀ b o,s.heap.get? b=some o->h'.get? b=some o) (ha:s.heap.get? a=none) (ho:h'.get? a=some o)
  (hc:kA V (g.put a (some (.cell C.length))) c o):ah V F m (C++[c]) (g.put a (some (.cell C.length))) {s with heap:=h',toks:=t}:=by
 have hg:=I.apart ha
 have L:g.Le (g.put a (some (.cell C.length))):=Gh.gf _ hg
 have I':=I.both t k
 have other : ∀ {b y},g b=some y->g.put a (some (.cell C.length)) b=some y:=λ{b y} e=>by
  rw [Gh.aW]; exact e; intro q; subst q; rw [hg] at e; cases e
 refine ⟨I'.keep,λb y e=>?_,λb y e=>?_,λb o' e=>?_,λb o' e=>?_,λi c' e=>?_,λb c' i e e'=>?_,λb i e=>?_,?_,I'.gens,I'.os⟩
 ·rcases Gh.bz e with ⟨rfl,_⟩|⟨_,q⟩
  ·induction q:V.h₀.get? b with
   |none=>rfl
   |some o'=>rw [I.keep _ _ q] at ha; cases ha
  ·exact I.new b y q
 ·rcases Gh.bz e with ⟨rfl,_⟩|⟨_,q⟩
  ·exact ⟨o,ho⟩
  ·exact I'.live b y q
 ·rcases Gh.bz e with ⟨rfl,q⟩|⟨_,q⟩
  ·cases q
  ·exact I'.ay b o' q
 ·rcases Gh.bz e with ⟨rfl,q⟩|⟨_,q⟩
  ·cases q
  ·exact I'.ax b o' q
 ·rw [List.getElem?_append] at e
  split at e
  ·obtain ⟨b,o',h1,h2,h3⟩:=I'.cell i c' e
   exact ⟨b,o',other h1,h2,h3.mono L⟩
  ·rename_i hi
   have pO:i=C.length:=by
    induction hq:i - C.length using Nat.casesOn with
    |zero=>exact Nat.le_antisymm (Nat.le_of_sub_eq_zero hq) (not_lt.mp hi)
    |succ n=>rw [hq] at e; simp at e
   subst pO
   simp at e
   subst e
   exact ⟨a,o,Gh.bh ..,ho,hc⟩
 ·rcases Gh.bz e with ⟨rfl,q⟩|⟨_,q⟩
  ·cases q
   rcases Gh.bz e' with ⟨rfl,_⟩|⟨_,q'⟩
   ·rfl
   ·exact absurd (I.c4 _ _ q') (lt_irrefl _)
  ·rcases Gh.bz e' with ⟨rfl,q'⟩|⟨_,q'⟩
   ·cases q'; exact absurd (I.c4 _ _ q) (lt_irrefl _)
   ·exact I.uniq b c' i q q'
 ·rw [length_append]
  rcases Gh.bz e with ⟨rfl,q⟩|⟨_,q⟩
  ·cases q; simp
  ·exact lt_of_lt_of_le (I.c4 b i q) (le_add_right ..)
 ·exact I'.fr.mono L (λc e=>other e) (λc y e=>other e) (λc o e=>other e)
set_option tactic.hygienic true in
theorem ah.cellSet (I:ah V F m C g s) {h':Heap} {t:Nat} {a:Addr} {i:Nat} {o:Obj} {c:Ch} (hg:g a=some (.cell i)) (hs:Heap.SameBut a s.heap h') (ho:h'.get? a=some o) (hc:kA V g c o) :
  ah V F m (C.set i c) g {s with heap:=h',toks:=t}:=by
 have ne : ∀ {b y},g b=some y->y≠.cell i->b≠a:=λ{b y} e q z=>by subst z; rw [hg] at e; cases e; exact q rfl
 refine ⟨λb o' e=>?_,I.new,λb y e=>?_,λb o' e=>?_,λb o' e=>?_,λj c' e=>?_,I.uniq,λb j e=>?_,?_,I.gens,I.os⟩
 ·refine (hs.2 b λz=>?_).trans (I.keep b o' e)
  subst z; rw [I.new _ _ hg] at e; cases e
 ·by_cases z:b=a
  ·subst z; exact ⟨o,ho⟩
  ·obtain ⟨o',q⟩:=I.live b y e; exact ⟨o',(hs.2 b z).trans q⟩
 ·exact (hs.2 b (ne e (by intro z; cases z))).trans (I.ay b o' e)
 ·obtain ⟨sl,q,q'⟩:=I.ax b o' e
  exact ⟨sl,(hs.2 b (ne e (by intro z; cases z))).trans q,q'⟩
 ·rw [getElem?_set] at e
  split at e
  ·rename_i wa
   subst wa
   split at e
   ·cases e; exact ⟨a,o,hg,ho,hc⟩
   ·cases e
  ·rename_i wa
   obtain ⟨b,o',h1,h2,h3⟩:=I.cell j c' e
   refine ⟨b,o',h1,(hs.2 b λz=>?_).trans h2,h3⟩
   subst z; rw [hg] at h1; cases h1; exact wa rfl
 ·rw [length_set]; exact I.c4 b j e
 ·have x:=I.fr
  refine ⟨x.len,x.above,x.out,x.here,?_,λy hy=>?_,x.free⟩
  ·obtain ⟨M,q,r⟩:=x.loc
   exact ⟨M,q.sameBut hs (ne x.here (by intro z; cases z)),r⟩
  ·obtain ⟨c',v,q1,q2,q3,q4⟩:=x.cell y hy
   exact ⟨c',v,q1,q2,q3.sameBut hs (ne q2 (by intro z; cases z)),q4⟩
theorem ah.oC (I:ah V F m C g s) {h':Heap} {t:Nat} {a:Addr} {o₀ o:Obj} (hg:g a=some (.ax o₀)) (ht:jI o₀)
  (hs:Heap.ExtBut a s.heap h') (ho:h'.get? a=some o):ah V F m C (g.put a (some (.ax o))) {s with heap:=h',toks:=t}:=by
 have ne : ∀ {b y},g b=some y->(∀ o,y≠.ax o)->b≠a:=λ{b y} e q z=>by subst z; rw [hg] at e; cases e; exact q _ rfl
 have L:g.Le (g.put a (some (.ax o))):=⟨λb o' e=>by rw [Gh.aW _ _ (ne e (by intro _ z; cases z))]; exact e,λb o' e=>by rw [Gh.aW _ _ (ne e (by intro _ z; cases z))]; exact e⟩
 refine ⟨λb o' e=>?_,λb y e=>?_,λb y e=>?_,λb o' e=>?_,λb o' e=>?_,λj c' e=>?_,λb c' i e e'=>?_,λb j e=>?_,?_,I.gens,I.os⟩
 ·refine hs b o' (λz=>?_) (I.keep b o' e)
  subst z; rw [I.new _ _ hg] at e; cases e
 ·rcases Gh.bz e with ⟨rfl,_⟩|⟨_,q⟩
  ·exact I.new _ _ hg
  ·exact I.new b y q
 ·rcases Gh.bz e with ⟨rfl,_⟩|⟨z,q⟩
  ·exact ⟨o,ho⟩
  ·obtain ⟨o',r⟩:=I.live b y q; exact ⟨o',hs b o' z r⟩
 ·rcases Gh.bz e with ⟨rfl,q⟩|⟨z,q⟩
  ·cases q
  ·exact hs b o' z (I.ay b o' q)
 ·rcases Gh.bz e with ⟨rfl,q⟩|⟨z,q⟩
  ·cases q; exact ⟨_,ho,λu'=>rfl⟩
  ·obtain ⟨sl,r,r'⟩:=I.ax b o' q; exact ⟨sl,hs b _ z r,r'⟩
 ·obtain ⟨b,o',h1,h2,h3⟩:=I.cell j c' e
  have z:=ne h1 (by intro _ z; cases z)
  exact ⟨b,o',by rw [Gh.aW _ _ z]; exact h1,hs b o' z h2,h3.mono L⟩
 ·rcases Gh.bz e with ⟨rfl,q⟩|⟨z,q⟩
  ·cases q
  ·rcases Gh.bz e' with ⟨rfl,q'⟩|⟨_,q'⟩
   ·cases q'
   ·exact I.uniq b c' i q q'
 ·rcases Gh.bz e with ⟨rfl,q⟩|⟨z,q⟩
  ·cases q
  ·exact I.c4 b j q
 ·have x:=I.fr
  have wq : ∀ e∈F.stack,e.scope.kind≠.module/\∃ L,e.frame=some L/\eh F (g.put a (some (.ax o))) L:=λe he=>by
   obtain ⟨k,L',q,r⟩:=x.out e he
   refine ⟨k,L',q,?_⟩
   rcases r with r|⟨o',es,n,r,z⟩
   ·exact .inl r
   ·exact .inr ⟨o',es,n,by rw [Gh.aW _ _ (λw=>by subst w; rw [hg] at r; cases r; exact ht.2 _ _ z)]; exact r,z⟩
  refine ⟨x.len,x.above,wq,by rw [Gh.aW _ _ (ne x.here (by intro _ z; cases z))]; exact x.here,?_,λy hy=>?_,λy n d h1 h2 h3=>?_⟩
  ·obtain ⟨M,q,r⟩:=x.loc
   exact ⟨M,q.extBut hs (ne x.here (by intro _ z; cases z)),λy n d h1 h2 h3=>(r y n d h1 h2 h3).imp λv q=>⟨q.1,q.2.mono L⟩⟩
  ·obtain ⟨c',v,q1,q2,⟨oc,q3,N3⟩,q4⟩:=x.cell y hy
   have z:=ne q2 (by intro _ z; cases z)
   exact ⟨c',v,q1,by rw [Gh.aW _ _ z]; exact q2,⟨oc,hs _ _ z q3,N3⟩,λn d h1 h2=>(q4 n d h1 h2).imp λv q=>⟨q.1,q.2.mono L⟩⟩
  ·obtain ⟨c',o',v,q1,q2,q3,q4⟩:=x.free y n d h1 h2 h3
   exact ⟨c',o',v,q1,by rw [Gh.aW _ _ (λw=>by subst w; rw [hg] at q2; cases q2; exact ht.1 _ q3)]; exact q2,q3,q4.mono L⟩
theorem ah.qv (I:ah V F m C g s) {a:Addr} {o₀:Obj} (hg:g a=some (.ax o₀)) (ht:jI o₀) :
  ah V F m C (g.put a none) s:=by
 have ne : ∀ {b y},g b=some y->(∀ o,y≠.ax o)->b≠a:=λ{b y} e q z=>by subst z; rw [hg] at e; cases e; exact q _ rfl
 have L:g.Le (g.put a none):=⟨λb o' e=>by rw [Gh.aW _ _ (ne e (by intro _ z; cases z))]; exact e,λb o' e=>by rw [Gh.aW _ _ (ne e (by intro _ z; cases z))]; exact e⟩
 have old : ∀ {b y},g.put a none b=some y->g b=some y:=λ{b y} e=>by
  rcases Gh.bz e with ⟨_,q⟩|⟨_,q⟩
  ·cases q
  ·exact q
 refine ⟨I.keep,λb y e=>I.new b y (old e),λb y e=>I.live b y (old e),λb o' e=>I.ay b o' (old e),λb o' e=>I.ax b o' (old e),λj c' e=>?_,λb c' i e e'=>I.uniq b c' i (old e) (old e'),
  λb j e=>I.c4 b j (old e),?_,I.gens,I.os⟩
 ·obtain ⟨b,o',h1,h2,h3⟩:=I.cell j c' e
  exact ⟨b,o',by rw [Gh.aW _ _ (ne h1 (by intro _ z; cases z))]; exact h1,h2,h3.mono L⟩
 ·have x:=I.fr
  have wq : ∀ e∈F.stack,e.scope.kind≠.module/\∃ L,e.frame=some L/\eh F (g.put a none) L:=λe he=>by
   obtain ⟨k,L',q,r⟩:=x.out e he
   refine ⟨k,L',q,?_⟩
   rcases r with r|⟨o',es,n,r,z⟩
   ·exact .inl r
   ·exact .inr ⟨o',es,n,by rw [Gh.aW _ _ (λw=>by subst w; rw [hg] at r; cases r; exact ht.2 _ _ z)]; exact r,z⟩
  refine ⟨x.len,x.above,wq,by rw [Gh.aW _ _ (ne x.here (by intro _ z; cases z))]; exact x.here,?_,λy hy=>?_,λy n d h1 h2 h3=>?_⟩
  ·obtain ⟨M,q,r⟩:=x.loc
   exact ⟨M,q,λy n d h1 h2 h3=>(r y n d h1 h2 h3).imp λv q=>⟨q.1,q.2.mono L⟩⟩
  ·obtain ⟨c',v,q1,q2,q3,q4⟩:=x.cell y hy
   exact ⟨c',v,q1,by rw [Gh.aW _ _ (ne q2 (by intro _ z; cases z))]; exact q2,q3,λn d h1 h2=>(q4 n d h1 h2).imp λv q=>⟨q.1,q.2.mono L⟩⟩
  ·obtain ⟨c',o',v,q1,q2,q3,q4⟩:=x.free y n d h1 h2 h3
   exact ⟨c',o',v,q1,by rw [Gh.aW _ _ (λw=>by subst w; rw [hg] at q2; cases q2; exact ht.1 _ q3)]; exact q2,q3,q4.mono L⟩
end
inductive yz (V:av) (g:Gh) (L:Addr) (e:Addr) (cls:Value) (args:List Value) (h:Heap):Prop
 |mk (oe:Obj) (vs:Array Value) (t:Addr) (h1:h.get? e=some oe) (h2:oe.cls=cls) (h3:oe.data=.fields vs) (h4:vs[0]?=some (.ref t)) (h5:h.TupAt t args) (h6:V.h₀.get? t=none/\g t=none)
  (h7:vs[1]?=some .none\/∃ T oT ts,vs[1]?=some (.ref T)/\T≠e/\g T=none/\V.h₀.get? T=none/\h.get? T=some oT/\oT.data=.fields ts/\(ts[3]?=some .none\/ts[3]?=some (rawInt L))):yz V g L e cls args h
structure FC (V:av) (g:Gh) (L:Addr) (e:Addr) (cls:Value) (args:List Value) (h:Heap):Prop where
 un:g e=none
 new:V.h₀.get? e=none
 there:yz V g L e cls args h
noncomputable def uu (V:av):X->Value->List Value->Prop
 |.stop,c,args=>c=.type "StopIteration"/\args=[]
 |.hV,c,_=>c=.ref (V.aX 1)
 |.value msg,c,args=>c=.type "ValueError"/\∃ t,args=[.str msg t]
inductive dG (V:av) (F:aD) (x:X) (st:St) (g:Gh) (e:Value) (s:Shared):Prop
 |mk (I:ah V F st.m st.C g s) (a:Addr) (cls:Value) (args:List Value) (L:Addr) (e1:e=.ref a) (e2:F.env.frame=some L) (e3:uu V x cls args) (e4:FC V g L a cls args s.heap):dG V F x st g e s
abbrev Tr (α:Type):=(α->Shared->Prop)->(Value->Shared->Prop)->Shared->Prop
noncomputable def aj {α β:Type} (V:av) (F:aD) (R:Gh->β->α->Prop) (W:Tr α) (g:Gh) (s:Shared):ak β->Prop
 |.ok b st => ∀ (Q:α->Shared->Prop) (E:Value->Shared->Prop),(∀ g' a s',g.Step g'->ah V F st.m st.C g' s'->R g' b a->Q a s')->W Q E s
 |.exc x st => ∀ (Q:α->Shared->Prop) (E:Value->Shared->Prop),(∀ g' e s',g.Step g'->dG V F x st g' e s'->E e s')->W Q E s
 |.fail=>True
abbrev aE {α β:Type} (V:av) (F:aD) (A:Around) (R:Gh->β->α->Prop) (t:Sem α) (g:Gh) (s:Shared) (o:ak β):Prop:=aj V F R (wpAny V.M A t) g s o
section
variable {α β γ δ:Type} {V:av} {F:aD} {R:Gh->β->α->Prop} {R':Gh->δ->γ->Prop} {g:Gh} {s:Shared} {W:Tr α} {W':Tr γ} {o:ak β}
theorem aj.seq {K:α->Tr γ} {k:β->St->ak δ} (h:aj V F R W g s o) (hT : ∀ Q E,W (λa s₁=>K a Q E s₁) E s->W' Q E s)
  (hf : ∀ b st g₁ s₁ a,o=.ok b st->g.Step g₁->ah V F st.m st.C g₁ s₁->R g₁ b a->aj V F R' (K a) g₁ s₁ (k b st)):aj V F R' W' g s (o.bind k):=by
 induction o with
 |fail=>trivial
 |exc x st=>exact λQ E q=>hT Q E (h _ E λg' e s' aB hx=>q g' e s' aB hx)
 |ok b st=>
  show aj V F R' W' g s (k b st)
  induction hk:k b st with
  |fail=>trivial
  |ok d aB=>
   refine λQ E q=>hT Q E (h _ E λg' a s' cM I r=>?_)
   have:=hf b st g' s' a rfl cM I r
   rw [hk] at this
   exact this Q E λc8 c cY br I' r'=>q c8 c cY (cM.trans br) I' r'
  |exc x aB=>
   refine λQ E q=>hT Q E (h _ E λg' a s' cM I r=>?_)
   have:=hf b st g' s' a rfl cM I r
   rw [hk] at this
   exact this Q E λc8 e cY br hx=>q c8 e cY (cM.trans br) hx
theorem aj.wp {W₂:Tr α} (h:aj V F R W g s o) (f : ∀ Q E,W Q E s->W₂ Q E s):aj V F R W₂ g s o:=by
 induction o with
 |ok b st=>exact λQ E k=>f Q E (h Q E k)
 |exc x st=>exact λQ E k=>f Q E (h Q E k)
 |fail=>trivial
theorem aj.go {W₂:Tr α} {s':Shared} (h:aj V F R W g s' o) (f : ∀ Q E,W Q E s'->W₂ Q E s):aj V F R W₂ g s o:=by
 induction o with
 |ok b st=>exact λQ E k=>f Q E (h Q E k)
 |exc x st=>exact λQ E k=>f Q E (h Q E k)
 |fail=>trivial
theorem aj.out {W₂:Tr α} {β':Type} {R₂:Gh->β'->α->Prop} {o':ak β'} {ψ:β->β'} (h:aj V F R W g s o) (e:o'=o.bind λb st=>.ok (ψ b) st) (hr : ∀ g b a,R g b a->R₂ g (ψ b) a) (f : ∀ Q E,W Q E s->W₂ Q E s):aj V F R₂ W₂ g s o':=by
 subst e
 induction o with
 |ok b st=>exact λQ E k=>f Q E (h Q E λg' a s' x I r=>k g' a s' x I (hr _ _ _ r))
 |exc x st=>exact λQ E k=>f Q E (h Q E k)
 |fail=>trivial
theorem aj.from {g₀:Gh} (q:g₀.Step g) (h:aj V F R W g s o):aj V F R W g₀ s o:=by
 induction o with
 |fail=>trivial
 |ok b st=>exact λQ E k=>h Q E λg' a s' aB I r=>k g' a s' (q.trans aB) I r
 |exc x st=>exact λQ E k=>h Q E λg' e s' aB I=>k g' e s' (q.trans aB) I
end
section
variable {α β γ δ:Type} {V:av} {F:aD} {A:Around} {g:Gh} {s:Shared} {R:Gh->β->α->Prop} {R':Gh->δ->γ->Prop} {t:Sem α}
theorem aE.pure {a:α} {b:β} {st:St} (I:ah V F st.m st.C g s) (h:R g b a):aE V F A R (pure a) g s (.ok b st):=
 λu' u' k=>wpAny_pure (k g a s (.refl g) I h)
theorem aE.wp {t':Sem α} {o:ak β} (f : ∀ Q E,wpAny V.M A t Q E s->wpAny V.M A t' Q E s) (h:aE V F A R t g s o):aE V F A R t' g s o:=by
 induction o with
 |ok b st=>exact λQ E k=>f Q E (h Q E k)
 |exc x st=>exact λQ E k=>f Q E (h Q E k)
 |fail=>trivial
theorem aE.holding {vs:List Value} {o:ak β} (h:aE V F A R t g s o):aE V F A R (holding vs t) g s o:=h.wp λu' u'=>wpAny_holding
theorem aE.SQ {p:Pos} {o:ak β} (h:aE V F A R t g s o):aE V F A R (standAt p >>= λu'=>t) g s o:=h.wp λu' u' x=>wpAny_bind (wpAny_standAt x)
theorem aE.rule {r:String} {o:ak β} (h:aE V F A R t g s o):aE V F A R (PySem.rule r >>= λu'=>t) g s o:=h.wp λu' u' x=>wpAny_bind (wpAny_rule x)
theorem Fj {M:Model} {A:Around} {vs:List Value} {m:Sem Value} {Q:Value->Shared->Prop} {E:Value->Shared->Prop} {s:Shared} (h:wpAny M A m Q E s):wpAny M A (operate vs m) Q E s:=
 fun Γ p hΓ => by rw [Sem.wp_operate]; exact h Γ p hΓ
theorem aE.operate {R:Gh->β->Value->Prop} {t:Sem Value} {vs:List Value} {o:ak β} (h:aE V F A R t g s o):aE V F A R (PySem.operate vs t) g s o:=h.wp λu' u'=>Fj
theorem dG.step {g g':Gh} {x:X} {st:St} {e:Value} {s:Shared} (h:dG V F x st g' e s):dG V F x st g' e s:=h
theorem aE.bind {f:α->Sem γ} {o:ak β} {k:β->St->ak δ} (h:aE V F A R t g s o)
  (hf : ∀ b st g₁ s₁ a,o=.ok b st->g.Step g₁->ah V F st.m st.C g₁ s₁->R g₁ b a->aE V F A R' (f a) g₁ s₁ (k b st)):aE V F A R' (t >>= f) g s (o.bind k):=by
 induction o with
 |fail=>trivial
 |exc x st=>exact λQ E q=>wpAny_bind (h _ E λg' e s' aB hx=>q g' e s' aB hx)
 |ok b st=>
  show aE V F A R' (t >>= f) g s (k b st)
  induction hk:k b st with
  |fail=>trivial
  |ok d aB=>
   refine λQ E q=>wpAny_bind (h _ E λg' a s' cM I r=>?_)
   have:=hf b st g' s' a rfl cM I r
   rw [hk] at this
   exact this Q E λc8 c cY br I' r'=>q c8 c cY (cM.trans br) I' r'
  |exc x aB=>
   refine λQ E q=>wpAny_bind (h _ E λg' a s' cM I r=>?_)
   have:=hf b st g' s' a rfl cM I r
   rw [hk] at this
   exact this Q E λc8 e cY br hx=>q c8 e cY (cM.trans br) hx
theorem aE.from {g₀:Gh} {o:ak β} (q:g₀.Step g) (h:aE V F A R t g s o):aE V F A R t g₀ s o:=by
 induction o with
 |fail=>trivial
 |ok b st=>exact λQ E k=>h Q E λg' a s' aB I r=>k g' a s' (q.trans aB) I r
 |exc x st=>exact λQ E k=>h Q E λg' e s' aB I=>k g' e s' (q.trans aB) I
theorem aE.map {γ:Type} {R₂:Gh->β->γ->Prop} {f:α->γ} {o:ak β} (h:aE V F A R t g s o) (hr : ∀ g b a,R g b a->R₂ g b (f a)):aE V F A R₂ (t >>= λa=>Pure.pure (f a)) g s o:=by
 induction o with
 |fail=>trivial
 |ok b st=>exact λQ E k=>wpAny_bind (h _ E λg' a s' aB I r=>wpAny_pure (k g' (f a) s' aB I (hr _ _ _ r)))
 |exc x st=>exact λQ E k=>wpAny_bind (h _ E λg' e s' aB I=>k g' e s' aB I)
theorem aE.cast {o o':ak β} (h:aE V F A R t g s o) (e:o=o'):aE V F A R t g s o':=e ▸ h
end
section
variable {V:av} {F:aD} {R:Gh->D->Value->Prop} {W:Tr Value} {g:Gh} {s:Shared}
theorem aj.aK {α:Type} {o:Option α} {f:α->ak D} (h : ∀ x,o=some x->aj V F R W g s (f x)):aj V F R W g s (aK o f):=by
 induction o with
 |none=>trivial
 |some x=>exact h x rfl
theorem aj.bp {b:Bool} {o:ak D} (h:b=true->aj V F R W g s o):aj V F R W g s (bp b o):=by
 induction b with
 |false=>trivial
 |true=>exact h rfl
theorem aj.one {T:List Value->Tr Value} {ds:List D} {vs:List Value} {f:D->ak D} (rd:aG V g ds vs) (h : ∀ d v,af V g d v->aj V F R (T [v]) g s (f d)):aj V F R (T vs) g s (one ds f):=by
 match ds with
 |[]=>trivial
 |[d]=>obtain ⟨v,ws,a,r,rfl⟩:=rd.f9; obtain rfl:=r.fF; exact h d v a
 |_::_::_=>trivial
theorem aj.two {T:List Value->Tr Value} {ds:List D} {vs:List Value} {f:D->D->ak D} (rd:aG V g ds vs) (h : ∀ d e v u,af V g d v->af V g e u->aj V F R (T [v,u]) g s (f d e)):aj V F R (T vs) g s (two ds f):=by
 match ds with
 |[]=>trivial
 |[_]=>trivial
 |[d,e]=>obtain ⟨v,ws,a,r1,rfl⟩:=rd.f9; obtain ⟨u,ws,b,r2,rfl⟩:=r1.f9; obtain rfl:=r2.fF; exact h d e v u a b
 |_::_::_::_=>trivial
end
end Mine.Lake
end
section
open PySem PyProof.Rows
namespace Mine.Lake
structure av.Ok (V:av) (G:aV):Prop where
 glob : ∃ mg mb,V.h₀.Ns mainGlobals mg/\V.h₀.Ns builtinsNs mb/\∀ x d,G.glob.lookup x=some d->∃ v,(mg x=some v\/(mg x=none/\mb x=some v))/\∀ g,af V g d v
 nolimit:V.h₀.NoLimit
section
variable {V:av} {G:aV} {F:aD} {A:Around} {m:List (Option D)} {C:ai} {g:Gh} {s:Shared}
theorem aE.leaf {R:Gh->D->Value->Prop} {t:Sem Value} {o:Option D}
  (h : ∀ d,o=some d->∀ (Q:Value->Shared->Prop) (E:Value->Shared->Prop),(∀ g' a s',g.Step g'->ah V F m C g' s'->R g' d a->Q a s')->wpAny V.M A t Q E s):aE V F A R t g s (cW o ⟨m,C⟩):=by
 induction o with
 |none=>trivial
 |some d=>exact h d rfl
theorem OL (I:ah V F m C g s) {k:Const} {n:Nat} {p:Pos} {P:aP} {cl:Calls}:aE V F A (af V) (eval (.Constant k n p) F.env) g s (ev P cl (rG k) ⟨m,C⟩):=by
 induction k using Const.casesOn with
 |none=>exact λQ E k=>wpAny_pure (k g _ s (.refl g) I .none)
 |bool b=>exact λQ E k=>wpAny_pure (k g _ s (.refl g) I (.bool b))
 |int i=>exact λQ E k=>wpAny_mkInt (k g _ _ (.refl g) (I.tok _) (.int i _))
 |str x=>exact λQ E k=>wpAny_mkText (k g _ _ (.refl g) (I.tok _) (.str x _))
 |float _=>trivial
 |complex _ _=>trivial
 |bytes _=>trivial
 |ellipsis=>trivial
noncomputable def aD.ctx (F:aD) (c:aI):Prop:=c.names=F.names/\c.slots=F.slots/\c.base=F.base
theorem aD.Ok.oz (K:F.Ok) {x:Str} {k:NameKind} (h:F.names.lookup x=some k):(x==("__debug__":Str))=false:=by
 induction q:x==("__debug__":Str) with
 |false=>rfl
 |true=>rw [eq_of_beq q,K.debug] at h; exact ao h
theorem Et (O:V.Ok G) (K:F.Ok) (I:ah V F m C g s) {c:aI} (hc:F.ctx c) {x:Str} {p:Pos} {P:aP} {cl:Calls} :
  aE V F A (af V) (eval (.Name x p) F.env) g s (ev P cl (lB G c x) ⟨m,C⟩):=by
 unfold lB
 rw [hc.1,hc.2.1]
 induction hk:F.names.lookup x with
 |none=>trivial
 |some k=>
  have nX:=K.kinds x k hk
  have slot : ∀ (d:D),(∀ n,F.slots.lookup x=some n->∀ d,m[n]?=some (some d)->aE V F A (af V) (eval (.Name x p) F.env) g s (.ok d ⟨m,C⟩))->aE V F A (af V) (eval (.Name x p) F.env) g s (ev P cl (match F.slots.lookup x with
    |some n=>.var n
    |none=>.bad) ⟨m,C⟩):=by
   intro _ h
   induction hs:F.slots.lookup x with
   |none=>trivial
   |some n=>
    show aE _ _ _ _ _ _ _ (match m[n]? with|some (some d)=>.ok d ⟨m,C⟩|_=>.fail)
    induction hm:m[n]? with
    |none=>trivial
    |some od=>
     induction od with
     |none=>trivial
     |some d=>exact h n hs d hm
  induction k using NameKind.casesOn with
  |«local»=>
   refine slot .none λn hs d hm Q E k=>?_
   obtain ⟨M,hM,hv⟩:=I.fr.loc
   obtain ⟨v,hv,r⟩:=hv x n d hk hs hm
   exact wpAny_Name (wpAny_loadName_local K.fn nX hM hv (k g v s (.refl g) I r)) (K.oz hk)
  |cell=>
   refine slot .none λn hs d hm Q E k=>?_
   obtain ⟨c,v,h1,h2,h3,h4⟩:=I.fr.cell x hk
   obtain ⟨v',rfl,r⟩:=h4 n d hs hm
   exact wpAny_Name (wpAny_loadName_cell K.fn nX h1 h3 (k g v' s (.refl g) I r)) (K.oz hk)
  |free=>
   refine slot .none λn hs d hm Q E k=>?_
   obtain ⟨c,o,v,h1,h2,h3,r⟩:=I.fr.free x n d hk hs hm
   obtain ⟨sl,h4,_⟩:=I.ax c o h2
   have h5:s.heap.IsCell c (some v):=⟨_,h4,h3⟩
   rcases nX with hf|hf
   ·refine wpAny_Name (wpAny_loadName_free K.fn hf h1 h5 (k g v s (.refl g) I r) ?_) (K.oz hk)
    induction q:x==("__classdict__":Str) with
    |false=>rfl
    |true=>rw [eq_of_beq q,K.l1] at hk; exact ao hk
   ·exact wpAny_Name (wpAny_loadName_cell K.fn hf h1 h5 (k g v s (.refl g) I r)) (K.oz hk)
  |globalExplicit=>trivial
  |globalImplicit=>
   show aE _ _ _ _ _ _ _ (ev P cl (match G.glob.lookup x with|some d=>.cst d|none=>.bad) ⟨m,C⟩)
   induction hg:G.glob.lookup x with
   |none=>trivial
   |some d=>
    intro Q E k
    obtain ⟨mg,mb,h1,h2,h3⟩:=O.glob
    obtain ⟨v,hv,r⟩:=h3 x d hg
    have e1:s.heap.Ns F.env.globals mg:=by rw [K.glob]; exact h1.keeps I.keep
    have e2:s.heap.Ns F.env.builtins mb:=by rw [K.blt]; exact h2.keeps I.keep
    refine Calls.Name_function_global K.fn nX ?_ (K.oz hk)
    rcases hv with hv|⟨hm,hv⟩
    ·exact Calls.loadGlobal_global e1 hv (k g v s (.refl g) I (r g))
    ·exact Calls.loadGlobal_builtin e1 hm e2 hv (k g v s (.refl g) I (r g))
theorem m7 {a:Int} (h:small a=true):a.natAbs<2 ^ 64:=of_decide_eq_true h
theorem yC {a:Int} {n:Nat} (h:a.natAbs<n) : -(n:Int)<a/\a<n:=
 have e:(a.natAbs:Int)<n:=ofNat_lt.mpr h
 ⟨Int.neg_lt_of_neg_lt (Int.lt_of_le_of_lt (by rw [<-Int.natAbs_neg]; exact le_natAbs) e),Int.lt_of_le_of_lt le_natAbs e⟩
theorem IntMulOk.NH {a b:Int} (h:small b=true):IntMulOk a b:=.of_right (intBits_le_64 (yC (m7 h)).1 (yC (m7 h)).2)
theorem Nn {x y:Int} (h:y.natAbs<2 ^ 64):Builtin.divisionGoesByPylong x y=false:=by
 refine PyProof.noPylong_of_log2 ?_
 by_cases h0:y.natAbs=0
 ·rw [h0]; decide +kernel
 ·have:=(Nat.log2_lt h0).mpr h
  omega
set_option tactic.hygienic true in
theorem OS {op:Operator} {o:Op} (ho:jb op=some o) (I:ah V F m C g s) {a b:Int} {t u:Tok} :
  aE V F A (af V) (binaryOp op (.int a t) (.int b u)) g s (cW ((gK o a b).map .int) ⟨m,C⟩):=by
 refine aE.leaf λd hd Q E k=>?_
 have fin : ∀ i,gK o a b=some i->Q (.int i s.toks) {s with toks:=s.toks+1}:=λi hi=>by
  rw [hi] at hd; obtain rfl:=Option.some.inj hd
  exact k g _ _ (.refl g) (I.tok _) (.int _ _)
 obtain ⟨i,hi⟩ : ∃ i,gK o a b=some i:=by
  induction q:gK o a b with
  |none=>rw [q] at hd; exact ao hd
  |some i=>exact ⟨i,rfl⟩
 have hq:=fin i hi
 unfold gK at hi
 induction op using Operator.casesOn<;>first|((first|exact ao ho|obtain rfl:=Option.some.inj ho); done)|(injection ho with ho; subst ho; dsimp only at hi)
 ·obtain rfl:=Option.some.inj hi; exact add_int hq
 ·obtain rfl:=Option.some.inj hi; exact PyProof.Rows.sub_int hq
 ·split at hi
  ·rename_i hc; obtain rfl:=Option.some.inj hi
   rw [and_eq_true] at hc
   exact P.mul_int hq (IntMulOk.NH hc.2)
  ·exact ao hi
 ·split at hi
  ·rename_i hc; obtain rfl:=Option.some.inj hi
   exact mod_int (by simpa using hc) hq
  ·exact ao hi
 ·split at hi
  ·rename_i hc; obtain rfl:=Option.some.inj hi
   simp only [and_eq_true,decide_eq_true_eq] at hc
   exact pow_int_small hc.1.2 (by omega) (m7 hc.1.1) hq
  ·exact ao hi
 ·split at hi
  ·rename_i hc; obtain rfl:=Option.some.inj hi
   simp only [and_eq_true,decide_eq_true_eq] at hc
   exact lshift_int_small hc.1.2 (by omega) (m7 hc.1.1) hq
  ·exact ao hi
 ·split at hi
  ·rename_i hc; obtain rfl:=Option.some.inj hi
   simp only [and_eq_true,decide_eq_true_eq] at hc
   exact rshift_int hc.1 hq
  ·exact ao hi
 ·obtain rfl:=Option.some.inj hi; exact or_int hq
 ·obtain rfl:=Option.some.inj hi; exact and_int hq
 ·split at hi
  ·rename_i hc; obtain rfl:=Option.some.inj hi
   simp only [and_eq_true,bne_iff_ne,ne_eq] at hc
   exact floordiv_int hc.2 hq (.inl (Nn (m7 hc.1)))
  ·exact ao hi
inductive yq (V:av) (g:Gh) (h:Heap) (ds:List D) (v:Value):Prop
 |mk (a:Addr) (vs:List Value) (n:Nat) (e:v=.ref a) (hl:IsL h a vs.toArray n) (hz:vs.length<=aF) (rs:aG V g ds vs):yq V g h ds v
set_option tactic.hygienic true in
theorem ah.list (I:ah V F m C g s) {d:D} {v:Value} (r:af V g d v) {ds:List D} (h:aT C d=some ds) :
  yq V g s.heap ds v:=by
 unfold aT at h
 split at h
 ·cases h
  cases r with
  |lst h1 h2 h3=>
   obtain ⟨hl,n,rfl⟩:=h2
   exact ⟨_,_,n,rfl,I.ay _ _ h1,hl,h3⟩
 ·split at h
  ·rename_i RZ hC
   cases h
   cases r with
   |loc h1=>
    obtain ⟨b,o,e1,e2,vs,⟨hl,n,rfl⟩,e4⟩:=I.cell _ _ hC
    cases I.uniq _ _ _ h1 e1
    exact ⟨_,_,n,rfl,e2,hl,e4⟩
  ·cases h
 ·cases h
theorem aG.length {V:av} {g:Gh} : ∀ {ds:List D} {vs:List Value},aG V g ds vs->ds.length=vs.length
 |_,_,.nil=>rfl
 |_,_,.cons _ r=>congrArg (· + 1) r.length
theorem aG.append {V:av} {g:Gh} : ∀ {ds:List D} {vs:List Value} {es:List D} {ws:List Value},aG V g ds vs->aG V g es ws->aG V g (ds++es) (vs++ws)
 |_,_,_,_,.nil,h=>h
 |_,_,_,_,.cons a r,h=>.cons a (r.append h)
theorem dv {n:Nat} (h:n<=aF):n<=sizeLine:=le_trans h (by decide)
theorem ah.w8 (I:ah V F m C g s) (o:Obj) (hf:o.isFreed=false) (t:Nat):ah V F m C (g.put s.heap.objs.size (some (.ay o))) {s with heap:=s.heap.push o,toks:=t}:=
 I.more (λu' u' h=>Heap.get?_push_of_some _ h) (Heap.get?_none_of_le (le_refl _)) (Heap.get?_push_size _ hf) (.inl rfl)
theorem Gh.kr {g:Gh} {a:Addr} {o:Obj} (h:g a=none):g.Step (g.put a (some (.ay o))):=
 ⟨Gh.gf _ h,λb o'=>⟨λe=>(by rw [Gh.aW]; exact e; intro q; subst q; rw [h] at e; exact ao e),λe=>(by
  rcases Gh.bz e with ⟨_,q⟩|⟨_,q⟩
  ·cases q
  ·exact q)⟩⟩
theorem ah.newList (I:ah V F m C g s) {ds:List D} {vs:List Value} (r:aG V g ds vs) (hz:vs.length<=aF) {T:String} {n:Nat} {Q:Value->Shared->Prop} {t:Nat}
  (k : ∀ g',g.Step g'->ah V F m C g' {s with heap:=s.heap.push {cls:=.type T,data:=.seq vs.toArray n},toks:=t}->g' s.heap.objs.size=some (.ay {cls:=.type T,data:=.seq vs.toArray n})->
   kE T vs {cls:=.type T,data:=.seq vs.toArray n}->aG V g' ds vs->Q (.ref s.heap.objs.size) {s with heap:=s.heap.push {cls:=.type T,data:=.seq vs.toArray n},toks:=t}) :
  Q (.ref s.heap.objs.size) {s with heap:=s.heap.push {cls:=.type T,data:=.seq vs.toArray n},toks:=t}:=
 k _ (Gh.kr I.eY) (I.w8 _ rfl t) (Gh.bh ..) ⟨hz,n,rfl⟩ (r.mono (Gh.gf _ I.eY))
theorem Ov (I:ah V F m C g s) {x y:D} {a b:Value} (hx:af V g x a) (hy:af V g y b) {xs ys:List D} (ex:aT C x=some xs) (ey:aT C y=some ys) (hz:xs.length+ys.length<=aF) :
  aE V F A (af V) (binaryOp .Add a b) g s (.ok (.lst (xs++ys)) ⟨m,C⟩):=by
 obtain ⟨l,vs,n,rfl,hl,mD,r1⟩:=I.list hx ex
 obtain ⟨l',ws,n',rfl,d5,Lh,r2⟩:=I.list hy ey
 intro Q E k
 have e1:=r1.length
 have e2:=r2.length
 refine P.add_list hl d5 ?_ (dv (by simpa [<-e1,<-e2] using hz))
 rw [show vs.toArray++ws.toArray=(vs++ws).toArray from by simp]
 exact I.newList (T:="list") (n:=0) (t:=s.toks) (r1.append r2) (by simpa [<-e1,<-e2] using hz) λg' st I' h1 h2 h3=>k g' _ _ st I' (.lst h1 h2 h3)
end
section
variable {V:av} {G:aV} {F:aD} {A:Around} {m:List (Option D)} {C:ai} {g:Gh} {s:Shared}
theorem Str.len_eq (x:Str):x.length=x.cps.size:=rfl
theorem QT {x y:Str} (h:(x.length==0)=true):x++y=y:=by
 have:x.cps = #[]:=by
  have:=eq_of_beq h
  exact Array.eq_empty_of_size_eq_zero this
 have e:x=Str.empty:=by induction x using Str.casesOn; simp only at this; subst this; rfl
 rw [e]; exact Str.empty_append y
theorem QS {x y:Str} (h:(y.length==0)=true):x++y=x:=by
 have:y.cps = #[]:=Array.eq_empty_of_size_eq_zero (eq_of_beq h)
 have e:y=Str.empty:=by induction y using Str.casesOn; simp only at this; subst this; rfl
 rw [e]; exact Str.append_empty x
theorem qd {x:D} {i:Int} (h:x.isInt=some i):x=.int i:=by induction x using D.casesOn<;>first|exact ao h|exact congrArg D.int (Option.some.inj h)
theorem sU {x:D} {i:Str} (h:mJ x=some i):x=.str i:=by induction x using D.casesOn<;>first|exact ao h|exact congrArg D.str (Option.some.inj h)
theorem Cw {x:D} {i:Bool} (h:sW x=some i):x=.bool i:=by induction x using D.casesOn<;>first|exact ao h|exact congrArg D.bool (Option.some.inj h)
theorem af.fp {x:D} {i:Int} {v:Value} (hx:af V g x v) (h:x.isInt=some i) : ∃ t,v=.int i t:=by
 obtain rfl:=qd h; exact hx.i5
theorem DH {op:Operator} (ho:jb op=some .add):op=.Add:=by
 induction op using Operator.casesOn<;>first|rfl|exact ao ho|exact nomatch ho
theorem aE.opt {t:Sem Value} {o:Option D} (h : ∀ d,o=some d->aE V F A (af V) t g s (.ok d ⟨m,C⟩)):aE V F A (af V) t g s (cW o ⟨m,C⟩):=by
 induction o with
 |none=>trivial
 |some d=>exact h d rfl
set_option tactic.hygienic true in
theorem Ow (I:ah V F m C g s) {x y:Str} {t u:Tok} {d:D} (hd:oX x y=some d):aE V F A (af V) (binaryOp .Add (.str x t) (.str y u)) g s (.ok d ⟨m,C⟩):=by
 unfold oX at hd
 by_cases hz:x.length+y.length<=aF
 ·rw [if_pos hz] at hd
  obtain rfl:=Option.some.inj hd
  intro Q E k
  refine P.add_str ?_
  split
  ·rename_i q
   exact k g _ _ (.refl g) I (by rw [QT q]; exact .str _ _)
  ·split
   ·rename_i q
    exact k g _ _ (.refl g) I (by rw [QS q]; exact .str _ _)
   ·refine ⟨?_,k g _ _ (.refl g) (I.tok _) (.str _ _)⟩
    rw [Str.length_append]
    exact dv hz
 ·rw [if_neg hz] at hd; exact ao hd
theorem Ou (I:ah V F m C g s) {x y d:D} {a b:Value} (hx:af V g x a) (hy:af V g y b) (hd:rg C x y=some d):aE V F A (af V) (binaryOp .Add a b) g s (.ok d ⟨m,C⟩):=by
 obtain ⟨xs,ex,hd⟩:=aO hd
 obtain ⟨ys,ey,hd⟩:=aO hd
 by_cases hz:xs.length+ys.length<=aF
 ·rw [if_pos hz] at hd
  obtain rfl:=Option.some.inj hd
  exact Ov I hx hy ex ey hz
 ·rw [if_neg hz] at hd; exact ao hd
theorem Gw {x y d:D} (h:uG C x y=some d):(∃ i j,x=.str i/\y=.str j/\oX i j=some d)\/rg C x y=some d:=by
 unfold uG at h
 induction e:mJ x with
 |none=>rw [e] at h; exact .inr h
 |some i=>
  rw [e] at h
  obtain ⟨j,e2,h⟩:=aO h
  exact .inl ⟨i,j,sU e,sU e2,h⟩
theorem yX {o:Op} {x y d:D} (h:dz C o x y=some d):(∃ i j,x=.int i/\y=.int j/\(gK o i j).map D.int=some d)\/o=.add/\((∃ i j,x=.str i/\y=.str j/\oX i j=some d)\/rg C x y=some d):=by
 unfold dz at h
 induction e:x.isInt with
 |none=>
  rw [e] at h
  induction o using Op.casesOn<;>first|exact ao h|exact .inr ⟨rfl,Gw h⟩
 |some i=>
  rw [e] at h
  obtain ⟨j,e2,h⟩:=aO h
  exact .inl ⟨i,j,qd e,qd e2,h⟩
theorem Oy {op:Operator} {o:Op} (ho:jb op=some o) (I:ah V F m C g s) {x y:D} {a b:Value} (hx:af V g x a) (hy:af V g y b) :
  aE V F A (af V) (binaryOp op a b) g s (cW (dz C o x y) ⟨m,C⟩):=aE.opt λd h=>by
 rcases yX h with ⟨i,j,rfl,rfl,h2⟩|⟨e,h2⟩
 ·obtain ⟨t,rfl⟩:=hx.i5
  obtain ⟨u,rfl⟩:=hy.i5
  have:=OS (A:=A) (t:=t) (u:=u) (a:=i) (b:=j) ho I
  rw [h2] at this; exact this
 ·obtain rfl:=DH (ho.trans (congrArg some e))
  rcases h2 with ⟨i,j,rfl,rfl,h3⟩|h3
  ·obtain ⟨_,rfl⟩:=hx.sQ
   obtain ⟨_,rfl⟩:=hy.sQ
   exact Ow I h3
  ·exact Ou I hx hy h3
theorem RH {V:av} {g:Gh} {b:Bool}:af V g (.bool b) (.bool b):=.bool b
noncomputable def yw (h:Heap) (n:Nat) (v:Value) (x:PyData):Prop := ∃ as,Reads h v x as/\x.canLay0=true/\x.depth<=n
theorem toPys_of {h:Heap} {n:Nat} (ih : ∀ {d:D} {x:PyData} {v:Value},toPy n d=some x->af V g d v->yw h n v x) : ∀ {ds:List D} {xs:List PyData} {vs:List Value},toPys n ds=some xs->aG V g ds vs->
  ∃ as,ReadsAll h vs xs as/\PyData.canLayAll0 xs=true/\PyData.depthAll xs<=n
 |[],xs,vs,e,r=>by
  obtain rfl:=r.fF
  obtain rfl:=Option.some.inj (show some []=some xs from e)
  exact ⟨_,.nil,rfl,zero_le _⟩
 |d::ds,xs,vs,e,r=>by
  obtain ⟨v,ws,r1,r2,rfl⟩:=r.f9
  obtain ⟨x,e1,e⟩:=aO (show ((toPy n d).bind λx=>(toPys n ds).map λxs=>x::xs)=some xs from e)
  obtain ⟨ys,e2,rfl⟩:=cf e
  obtain ⟨as,r1,c1,d1⟩:=ih e1 r1
  obtain ⟨bs,r2,c2,d2⟩:=toPys_of ih e2 r2
  refine ⟨_,.cons r1 r2,?_,?_⟩
  ·unfold PyData.canLayAll0; rw [c1,c2]; rfl
  ·unfold PyData.depthAll; exact Nat.max_le.mpr ⟨d1,d2⟩
theorem toPy_reads {h:Heap} (fz : ∀ a o,g a=some (.ay o)->h.get? a=some o) : ∀ {n:Nat} {d:D} {x:PyData} {v:Value},toPy n d=some x->af V g d v->yw h n v x:=by
 intro n
 induction n with
 |zero=>
  intro d x v e r
  induction d using D.casesOn<;>first|exact ao e|skip
  obtain ⟨t,rfl⟩:=r.i5
  obtain rfl:=Option.some.inj e
  exact ⟨_,.int _ t,rfl,zero_le _⟩
 |succ n ih=>
  intro d x v e r
  induction d using D.casesOn<;>first|exact ao e|skip
  ·obtain ⟨t,rfl⟩:=r.i5
   obtain rfl:=Option.some.inj e
   exact ⟨_,.int _ t,rfl,zero_le _⟩
  ·obtain ⟨a,o,vs,h1,⟨hz,k,rfl⟩,h3,rfl⟩:=r.Lu
   obtain ⟨xs,mC,rfl⟩:=cf (show (toPys n _).map PyData.tuple=some x from e)
   obtain ⟨as,r,c,d⟩:=toPys_of ih mC h3
   exact ⟨_,.tuple (fz _ _ h1) rfl rfl r,c,succ_le_succ d⟩
  ·obtain ⟨a,o,vs,h1,⟨hz,k,rfl⟩,h3,rfl⟩:=r.Lr
   obtain ⟨xs,mC,rfl⟩:=cf (show (toPys n _).map PyData.list=some x from e)
   obtain ⟨as,r,c,d⟩:=toPys_of ih mC h3
   exact ⟨_,.list (fz _ _ h1) rfl rfl r,c,succ_le_succ d⟩
theorem toPys_reads {h:Heap} (fz : ∀ a o,g a=some (.ay o)->h.get? a=some o) {n:Nat} {ds:List D} {xs:List PyData} {vs:List Value} (e:toPys n ds=some xs) (r:aG V g ds vs) :
  ∃ as,ReadsAll h vs xs as/\PyData.canLayAll0 xs=true/\PyData.depthAll xs<=n:=toPys_of (λe r=>toPy_reads fz e r) e r
noncomputable def IG (i:Nat):Option Ch->D
 |some (.list ds)=>.lst ds
 |_=>.loc i
theorem Bf {i:Nat}:gC C (.loc i)=IG i C[i]?:=by
 unfold gC; dsimp only
 induction C[i]? with
 |none=>rfl
 |some c=>induction c using Ch.casesOn<;>rfl
set_option tactic.hygienic true in
theorem ah.reads (I:ah V F m C g s) {d:D} {v:Value} (r:af V g d v) {x:PyData} (h:toPy 8 (gC C d)=some x) : ∃ as,Reads s.heap v x as/\SeqAt.shaped x=true:=by
 have fin : ∀ {as},Reads s.heap v x as->x.canLay0=true->x.depth<=8->∃ as,Reads s.heap v x as/\SeqAt.shaped x=true:=λ{as} a b c=>⟨as,a,by
  unfold SeqAt.shaped
  rw [b,decide_eq_true (by omega)]; rfl⟩
 have gen:gC C d=d->∃ as,Reads s.heap v x as/\SeqAt.shaped x=true:=λe=>by
  rw [e] at h
  obtain ⟨as,a,b,c⟩:=toPy_reads I.ay h r
  exact fin a b c
 induction d using D.casesOn<;>first|exact gen rfl|skip
 rename_i i
 have e0:=Bf (C:=C) (i:=i)
 induction hC:C[i]? with
 |none=>exact gen (by rw [e0,hC]; rfl)
 |some ch=>
  induction ch using Ch.casesOn<;>first|exact gen (by rw [e0,hC]; rfl)|skip
  rename_i ds
  rw [e0,hC] at h
  cases r with
  |loc h1=>
   obtain ⟨b,o,e1,e2,vs,⟨hl,n,rfl⟩,e4⟩:=I.cell _ _ hC
   cases I.uniq _ _ _ h1 e1
   obtain ⟨xs,mC,rfl⟩:=cf (show (toPys 7 ds).map PyData.list=some x from h)
   obtain ⟨as,r,c,d⟩:=toPys_reads I.ay mC e4
   exact fin (.list e2 rfl rfl r) c (succ_le_succ d)
theorem EW (x y:Str):(x.cps.toList==y.cps.toList)=decide (x=y):=by
 by_cases h:x=y
 ·subst h; simp
 ·rw [decide_eq_false h]
  induction q:x.cps.toList==y.cps.toList with
  |false=>rfl
  |true=>
   have:=eq_of_beq q
   exact absurd (by induction x using Str.casesOn; induction y using Str.casesOn; congr; exact Array.ext' this) h
theorem IH {d:D}:gC C d=d\/∃ ds,gC C d=.lst ds:=by
 induction d using D.casesOn<;>first|exact .inl rfl|skip
 rw [Bf]
 induction C[i]? with
 |none=>exact .inl rfl
 |some ch=>induction ch using Ch.casesOn<;>first|exact .inr ⟨_,rfl⟩|exact .inl rfl
theorem oK {x y:D} (h:gC C x=y) (hn : ∀ ds,y≠.lst ds):x=y:=by
 rcases IH (C:=C) (d:=x) with e|⟨ds,e⟩
 ·exact e.symm.trans h
 ·exact absurd (h.symm.trans e) (hn ds)
theorem HV {x y:D} {r:Bool} (h:nJ x y=some r):(∃ i j,x=.int i/\y=.int j/\(i==j)=r)\/(∃ i j,x=.bool i/\y=.bool j/\(i==j)=r)\/(∃ i j,x=.str i/\y=.str j/\decide (i=j)=r) ∨
  ∃ p q,toPy 8 x=some p/\toPy 8 y=some q/\PyData.eqv p q=r:=by
 have py : ∀ {x},pj x y=some r->∃ p q,toPy 8 x=some p/\toPy 8 y=some q/\PyData.eqv p q=r:=λh=>by
  obtain ⟨p,e1,h⟩:=aO h
  obtain ⟨q,e2,h⟩:=cf h
  exact ⟨p,q,e1,e2,h⟩
 induction x using D.casesOn with
 |int i=>
  induction e:y.isInt with
  |none=>exact .inr (.inr (.inr (py (by rw [<-h]; show _=(match y.isInt with|some y=>some (i==y)|none=>pj (.int i) y); rw [e]))))
  |some j=>
   refine .inl ⟨i,j,rfl,qd e,?_⟩
   have h:(match y.isInt with|some y=>some (i==y)|none=>pj (.int i) y)=some r:=h
   rw [e] at h; exact Option.some.inj h
 |bool i=>
  obtain ⟨j,e,h⟩:=cf (show (sW y).map (λy=>i==y)=some r from h)
  exact .inr (.inl ⟨i,j,rfl,Cw e,h⟩)
 |str i=>
  obtain ⟨j,e,h⟩:=cf (show (mJ y).map (λy=>decide (i=y))=some r from h)
  exact .inr (.inr (.inl ⟨i,j,rfl,sU e,h⟩))
 |_=>exact .inr (.inr (.inr (py h)))
theorem Eh (hu:A.units+64<cLine) (I:ah V F m C g s) {x y:D} {a b:Value} (hx:af V g x a) (hy:af V g y b) {r:Bool} (he:nJ (gC C x) (gC C y)=some r) :
  aE V F A (af V) (compareOp .Eq a b) g s (.ok (.bool r) ⟨m,C⟩)/\aE V F A (af V) (compareOp .NotEq a b) g s (.ok (.bool (!r)) ⟨m,C⟩):=by
 rcases HV he with ⟨p,q,e1,e2,rfl⟩|⟨p,q,e1,e2,rfl⟩|⟨p,q,e1,e2,rfl⟩|⟨p,q,e1,e2,rfl⟩
 ·obtain rfl:=oK e1 nofun
  obtain rfl:=oK e2 nofun
  obtain ⟨_,rfl⟩:=hx.i5
  obtain ⟨_,rfl⟩:=hy.i5
  exact ⟨λQ E k=>P.eq_int (k g _ _ (.refl g) I (.bool _)),λQ E k=>P.ne_int (k g _ _ (.refl g) I (.bool _))⟩
 ·obtain rfl:=oK e1 nofun
  obtain rfl:=oK e2 nofun
  obtain rfl:=hx.n5
  obtain rfl:=hy.n5
  exact ⟨λQ E k=>eq_bool (k g _ _ (.refl g) I (.bool _)),λQ E k=>ne_bool (k g _ _ (.refl g) I (.bool _))⟩
 ·obtain rfl:=oK e1 nofun
  obtain rfl:=oK e2 nofun
  obtain ⟨_,rfl⟩:=hx.sQ
  obtain ⟨_,rfl⟩:=hy.sQ
  refine ⟨λQ E k=>P.eq_str (k g _ _ (.refl g) I ?_),λQ E k=>P.ne_str (k g _ _ (.refl g) I ?_)⟩
  ·rw [EW]; exact .bool _
  ·show af V g _ (.bool (!(p.cps.toList==q.cps.toList)))
   rw [EW]; exact .bool _
 ·obtain ⟨as,r1,s1⟩:=I.reads hx e1
  obtain ⟨bs,r2,s2⟩:=I.reads hy e2
  exact ⟨λQ E k=>eq_dataH r1 r2 s1 s2 hu (k g _ _ (.refl g) I (.bool _)),λQ E k=>ne_dataH r1 r2 s1 s2 hu (k g _ _ (.refl g) I (.bool _))⟩
theorem qc {V:av} {g:Gh} : ∀ {ds:List D} {xs:List Int} {vs:List Value},d8 ds=some xs->aG V g ds vs->PyProof.Rows.IntsAre vs xs
 |[],xs,vs,e,h=>by
  obtain rfl:=Option.some.inj e
  obtain rfl:=h.fF
  exact .nil
 |d::r,xs,vs,e,h=>by
  obtain ⟨v,ws,h1,h2,rfl⟩:=h.f9
  induction d using D.casesOn<;>first|exact ao e|skip
  obtain ⟨t,rfl⟩:=h1.i5
  obtain ⟨ys,hy,rfl⟩:=cf (show (d8 r).map _=some xs from e)
  exact .cons _ _ (qc hy h2)
noncomputable def sY (k:Int):Value->Bool
 |.int i _=>i==k
 |_=>false
theorem FO {vs:List Value} {xs:List Int} (h:PyProof.Rows.IntsAre vs xs) (k:Int):vs.toArray.any (sY k)=xs.contains k:=by
 rw [List.any_toArray]
 induction h with
 |nil=>rfl
 |cons n t _ ih=>
  rw [any_cons,ih,List.contains_cons]
  congr 1
  exact Bool.eq_iff_iff.mpr ⟨λe=>by rw [eq_of_beq (show (n==k)=true from e)]; exact beq_self_eq_true _,λe=>by rw [eq_of_beq e]; exact beq_self_eq_true _⟩
theorem HW {vs:List Value} {xs:List Int} (h:PyProof.Rows.IntsAre vs xs) (k:Int) (t:Tok) : ∀ y,y∈vs.toArray->MeetsSeq.EqGives y (.int k t) (sY k y):=by
 induction h with
 |nil=>intro y hy; simp at hy
 |cons n u _ ih=>
  intro y hy
  simp only [List.mem_toArray,mem_cons] at hy ih
  rcases hy with rfl|hy
  ·exact MeetsSeq.EqGives.int n k u t
  ·exact ih y hy
inductive yj (V:av) (g:Gh) (h:Heap) (a:Addr) (fl:Bool) (es:List (Int × D)):Prop
 |mk (hz:es.length<=64) (aA:List (Int × Value)) (ep:Nat) (hd:h.DictAt (intKind V.prog V.w) a aA ep) (hr:a0 (gq V g) es aA) (he:fl=true->ep=es.length):yj V g h a fl es
theorem ah.dictAt (I:ah V F m C g s) {i:Nat} {a:Addr} (hg:g a=some (.cell i)) {fl:Bool} {es:List (Int × D)} (hC:C[i]?=some (.dict fl es)) :
  yj V g s.heap a fl es:=by
 obtain ⟨b,o,e1,e2,hz,ents,ep,aA,x1,x2,x3,x4,x5,x6,x7⟩:=I.cell _ _ hC
 cases I.uniq _ _ _ hg e1
 exact ⟨hz,aA,ep,⟨o,ents,e2,x1,x2,x3,x4,x5⟩,x6,x7⟩
theorem ah.setOf (I:ah V F m C g s) {i:Nat} {a:Addr} (hg:g a=some (.cell i)) {es:List Int} (hC:C[i]?=some (.set es)) :
  es.length<=64/\s.heap.SetOf (intKind V.prog V.w) a (λk=>es.contains k) es.length:=by
 obtain ⟨b,o,e1,e2,hz,ents,ep,t,x1,x2,x3,x4,x5,x6,x7⟩:=I.cell _ _ hC
 cases I.uniq _ _ _ hg e1
 exact ⟨hz,o,ents,ep,t,e2,x1,x2,x3,x4,x5,x6,x7⟩
theorem a0.lookupI {V:av} {g:Gh} (k:Int) : ∀ {es:List (Int × D)} {aA:List (Int × Value)},a0 (gq V g) es aA->jg V g (es.lookup k) (valueAt aA k)
 |[],[],_=>trivial
 |e::es,kv::aA,h=>by
  obtain ⟨⟨h1,h2⟩,h3⟩:=h
  have ih:=a0.lookupI k h3
  obtain ⟨e1,e2⟩:=e
  obtain ⟨k1,v1⟩:=kv
  simp only at h1 h2
  subst h1
  unfold valueAt at ih ⊢
  rw [lookup_cons,List.find?_cons]
  by_cases q:k=e1
  ·subst q; simp only [beq_self_eq_true,decide_true]; exact h2
  ·rw [show (k==e1)=false from beq_eq_false_iff_ne.mpr q]
   simp only [show decide (e1=k)=false from decide_eq_false (Ne.symm q)]
   exact ih
 |[],_::_,h=>h.elim
 |_::_,[],h=>h.elim
theorem qs {V:av} {g:Gh} {o:Option Value} {d:D} (h:jg V g (some d) o) : ∃ v,o=some v/\af V g d v:=by
 induction o with
 |none=>exact h.elim
 |some v=>exact ⟨v,rfl,h⟩
theorem tJ {V:av} {g:Gh} {o:Option Value} (h:jg V g none o):o=none:=by
 induction o with
 |none=>rfl
 |some v=>exact h.elim
theorem MG (es:List (Int × D)) (k:Int):(es.lookup k).isSome=es.any (·.1==k):=by
 induction es with
 |nil=>rfl
 |cons e r ih=>
  rw [lookup_cons,any_cons]
  by_cases q:k=e.1
  ·subst q; simp
  ·rw [show (k==e.1)=false from beq_eq_false_iff_ne.mpr q,show (e.1==k)=false from beq_eq_false_iff_ne.mpr (Ne.symm q)]
   simpa using ih
theorem qK (I:ah V F m C g s) {a:Addr} {x:GO} (h:g a=some x) (hs : ∃ o,V.h₀.get? sysModules=some o):(a==sysModules)=false:=by
 induction q:a==sysModules with
 |false=>rfl
 |true=>
  rw [eq_of_beq q] at h
  obtain ⟨o,ho⟩:=hs
  rw [I.new _ _ h] at ho; exact ao ho
end
section
variable {V:av} {G:aV} {F:aD} {A:Around} {m:List (Option D)} {C:ai} {g:Gh} {s:Shared}
structure av.Base (V:av):Prop where
 mods : ∃ o,V.h₀.get? sysModules=some o
 cR:V.K.In V.h₀
inductive yA (V:av) (g:Gh) (h:Heap) (ds:List D) (v:Value):Prop
 |mk (a:Addr) (vs:List Value) (n:Nat) (e:v=.ref a) (hl:h.get? a=some {cls:=.type "tuple",dict:=none,data:=.seq vs.toArray n,slots := #[]}) (hz:vs.length<=aF) (rs:aG V g ds vs):yA V g h ds v
theorem ah.tup (I:ah V F m C g s) {ds:List D} {v:Value} (r:af V g (.tup ds) v) :
  yA V g s.heap ds v:=by
 cases r with
 |tup h1 h2 h3=>
  obtain ⟨hl,n,rfl⟩:=h2
  exact ⟨_,_,n,rfl,I.ay _ _ h1,hl,h3⟩
noncomputable def t5:List Bn:=[.list,.range,.tuple,.bool,.bytes,.str,.type,.set,.int,.float,.complex,.bytearray,.dict,.frozenset]
theorem xW {b:Bn} (h:b.j6=true):b∈t5:=by induction b using Bn.casesOn<;>first|exact bo h|decide
theorem Rp:(t5.all λa=>t5.all λb=>plainIs a.val b.val&&((a.val==b.val)==(a==b)))=true:=by kernel_rfl
theorem Rq (c:Addr):(t5.all λb=>plainIs (.ref c) b.val&&!(Value.ref c==b.val))=true:=by kernel_rfl
theorem LS {x:D} {a:Value} {r:Bool} (hx:af V g x a) (he:Cz x=some r):plainIs a .none=true/\(a==Value.none)=r:=by
 induction hx using af.casesOn<;>first|exact ao he|(obtain rfl:=Option.some.inj he; exact ⟨rfl,rfl⟩)
theorem E5 {b:Bn} (h:b.j6=true) (c:Addr):plainIs (.ref c) b.val=true/\(Value.ref c==b.val)=false:=by
 have:=all_eq_true.mp (Rq c) b (xW h)
 rw [and_eq_true,not_eq_true'] at this; exact this
theorem LX {x:D} {a:Value} {b:Bn} {r:Bool} (hx:af V g x a) (hb:b.j6=true) (he:wO x b=some r):plainIs a b.val=true/\(a==b.val)=r:=by
 induction hx using af.casesOn with
 |bn c=>
  have he:(if c.j6=true then some (c==b) else none)=some r:=he
  induction hc:c.j6 with
  |false=>rw [hc] at he; exact ao he
  |true=>
   have h:=all_eq_true.mp (all_eq_true.mp Rp c (xW hc)) b (xW hb)
   rw [and_eq_true,beq_iff_eq] at h
   rw [hc,if_pos rfl] at he
   exact ⟨h.1,h.2.trans (Option.some.inj he)⟩
 |nA=>obtain rfl:=Option.some.inj he; exact E5 hb _
 |nB=>obtain rfl:=Option.some.inj he; exact E5 hb _
 |_=>exact ao he
theorem LQ {x y:D} {a b:Value} {r:Bool} (hx:af V g x a) (hy:af V g y b) (he:sX x y=some r):plainIs a b=true/\(a==b)=r:=by
 induction hy using af.casesOn with
 |none=>exact LS hx he
 |bn b=>
  have he:(if b.j6=true then wO x b else none)=some r:=he
  induction hb:b.j6 with
  |true=>rw [hb,if_pos rfl] at he; exact LX hx hb he
  |false=>rw [hb] at he; exact ao he
 |_=>exact ao he
theorem El (I:ah V F m C g s) {x y:D} {a b:Value} (hx:af V g x a) (hy:af V g y b) {r:Bool} (he:sX x y=some r) :
  aE V F A (af V) (compareOp .Is a b) g s (.ok (.bool r) ⟨m,C⟩)/\aE V F A (af V) (compareOp .IsNot a b) g s (.ok (.bool (!r)) ⟨m,C⟩):=by
 obtain ⟨p,q⟩:=LQ hx hy he
 exact ⟨λQ E k=>wpAny_is_plain p (by rw [q]; exact k g _ _ (.refl g) I (.bool _)),λQ E k=>wpAny_isNot_plain p (by rw [q]; exact k g _ _ (.refl g) I (.bool _))⟩
theorem wL {x:D} {a:Value} (hx:af V g x a) {r:Bool} {ds:List D} {vs:List Value} (rs:aG V g ds vs) (e:ik x ds=some r) :
  ∃ i t,a=.int i t/\(∀ y,y∈vs.toArray->MeetsSeq.EqGives y a (sY i y))/\vs.toArray.any (sY i)=r:=by
 obtain ⟨i,e1,e⟩:=aO e
 obtain ⟨xs,e2,rfl⟩:=cf e
 obtain ⟨t,rfl⟩:=hx.fp e1
 have h:=qc e2 rs
 exact ⟨_,_,rfl,HW h _ _,FO h _⟩
noncomputable def qR (V:av) (F:aD) (A:Around) (m:List (Option D)) (C:ai) (g:Gh) (s:Shared) (a b:Value) (r:Bool):Prop:=
 aE V F A (af V) (compareOp .In a b) g s (.ok (.bool r) ⟨m,C⟩)/\aE V F A (af V) (compareOp .NotIn a b) g s (.ok (.bool (!r)) ⟨m,C⟩)
theorem in_list (I:ah V F m C g s) {x c:D} {a b:Value} {r:Bool} {ds:List D} (hx:af V g x a) (hc:af V g c b) (hl:aT C c=some ds) (he:ik x ds=some r):qR V F A m C g s a b r:=by
 obtain ⟨l,vs,n,rfl,hl,hz,rs⟩:=I.list hc hl
 obtain ⟨k,t,rfl,h1,h2⟩:=wL hx rs he
 exact ⟨λQ E q=>SeqRoads2.in_list _ h1 hl (by rw [h2]; exact q g _ _ (.refl g) I (.bool _)),λQ E q=>SeqRoads2.notIn_list _ h1 hl (by rw [h2]; exact q g _ _ (.refl g) I (.bool _))⟩
theorem LL (I:ah V F m C g s) {i:Nat} {b:Value} {es:List Int} {k:Int} {t:Tok} (hc:af V g (.loc i) b) (hC:C[i]?=some (.set es)):qR V F A m C g s (.int k t) b (es.contains k):=by
 obtain ⟨_,hg,rfl⟩:=hc.gc
 obtain ⟨hz,hS⟩:=I.setOf hg hC
 exact ⟨λQ E q=>wpAny_inSet_of (knd:=intKind V.prog V.w) (beq_self_eq_true _) rfl hS (q g _ _ (.refl g) (I.tok _) (.bool _)),λQ E q=>wpAny_notInSet_of (knd:=intKind V.prog V.w) (beq_self_eq_true _) rfl hS (q g _ _ (.refl g) (I.tok _) (.bool _))⟩
theorem LK (B:V.Base) (I:ah V F m C g s) {i:Nat} {b:Value} {bb:Bool} {es:List (Int × D)} {k:Int} {t:Tok} (hc:af V g (.loc i) b) (hC:C[i]?=some (.dict bb es)) :
  qR V F A m C g s (.int k t) b (es.any λe=>e.1==k):=by
 obtain ⟨_,hg,rfl⟩:=hc.gc
 obtain ⟨hz,aA,ep,hd,hr,_⟩:=I.dictAt hg hC
 have e:(valueAt aA k).isSome=es.any (·.1==k):=by
  rw [<-MG]
  have:=hr.lookupI k
  induction h1:es.lookup k with
  |none=>rw [h1] at this; rw [tJ this]; rfl
  |some d=>rw [h1] at this; obtain ⟨v,hv,_⟩:=qs this; rw [hv]; rfl
 exact ⟨λQ E q=>wpAny_in_of (knd:=intKind V.prog V.w) (k:=k) (beq_self_eq_true _) (qK I hg B.mods) hd.dictOf.mapOf (by rw [e]; exact q g _ _ (.refl g) (I.tok _) (.bool _)),
  λQ E q=>wpAny_notIn_of (knd:=intKind V.prog V.w) (k:=k) (beq_self_eq_true _) (qK I hg B.mods) hd.dictOf.mapOf (by rw [e]; exact q g _ _ (.refl g) (I.tok _) (.bool _))⟩
theorem Ek (B:V.Base) (I:ah V F m C g s) {x c:D} {a b:Value} (hx:af V g x a) (hc:af V g c b) {r:Bool} (he:wK C x c=some r):qR V F A m C g s a b r:=by
 induction c using D.casesOn<;>first|exact ao he|skip
 ·obtain ⟨l,vs,n,rfl,hl,hz,rs⟩:=I.tup hc
  obtain ⟨k,t,rfl,h1,h2⟩:=wL hx rs he
  exact ⟨λQ E q=>SeqRoads2.in_tuple _ h1 hl (by rw [h2]; exact q g _ _ (.refl g) I (.bool _)),λQ E q=>SeqRoads2.notIn_tuple _ h1 hl (by rw [h2]; exact q g _ _ (.refl g) I (.bool _))⟩
 ·exact in_list I hx hc rfl he
 ·obtain ⟨ch,hC,he⟩:=aO he
  induction ch using Ch.casesOn<;>first|exact ao he|skip
  ·exact in_list I hx hc (iC hC) he
  ·obtain ⟨k,e1,rfl⟩:=cf he
   obtain ⟨t,rfl⟩:=hx.fp e1
   exact LK B I hc hC
  ·obtain ⟨k,e1,rfl⟩:=cf he
   obtain ⟨t,rfl⟩:=hx.fp e1
   exact LL I hc hC
end
section
variable {V:av} {G:aV} {F:aD} {A:Around} {m:List (Option D)} {C:ai} {g:Gh} {s:Shared}
theorem tK {f:Int->Int->Bool} {x y:D} {a b:Value} (hx:af V g x a) (hy:af V g y b) {r:Bool} (h:qt f x y=some r) : ∃ i j t u,a=.int i t/\b=.int j u/\f i j=r:=by
 obtain ⟨i,e1,h⟩:=aO h
 obtain ⟨j,e2,h⟩:=cf h
 obtain ⟨t,rfl⟩:=hx.fp e1
 obtain ⟨u,rfl⟩:=hy.fp e2
 exact ⟨i,j,t,u,rfl,rfl,h⟩
theorem Ef (B:V.Base) (hu:A.units+64<cLine) (I:ah V F m C g s) {op:CmpOp} {x y:D} {a b:Value} (hx:af V g x a) (hy:af V g y b) :
  aE V F A (af V) (compareOp op a b) g s (cW ((g9 C (rE op) x y).map .bool) ⟨m,C⟩):=aE.opt λd hd=>by
 obtain ⟨r,hr,rfl⟩:=cf hd
 induction op using CmpOp.casesOn with
 |Eq=>exact (Eh hu I hx hy hr).1
 |NotEq=>
  obtain ⟨b,hb,rfl⟩:=cf hr
  exact (Eh hu I hx hy hb).2
 |Lt=>obtain ⟨i,j,t,u,rfl,rfl,rfl⟩:=tK hx hy hr; exact λQ E k=>P.lt_int (k g _ _ (.refl g) I (.bool _))
 |LtE=>obtain ⟨i,j,t,u,rfl,rfl,rfl⟩:=tK hx hy hr; exact λQ E k=>P.le_int (k g _ _ (.refl g) I (.bool _))
 |Gt=>obtain ⟨i,j,t,u,rfl,rfl,rfl⟩:=tK hx hy hr; exact λQ E k=>P.gt_int (k g _ _ (.refl g) I (.bool _))
 |GtE=>obtain ⟨i,j,t,u,rfl,rfl,rfl⟩:=tK hx hy hr; exact λQ E k=>P.ge_int (k g _ _ (.refl g) I (.bool _))
 |Is=>exact (El I hx hy hr).1
 |IsNot=>
  obtain ⟨b,hb,rfl⟩:=cf hr
  exact (El I hx hy hb).2
 |In=>exact (Ek B I hx hy hr).1
 |NotIn=>
  obtain ⟨b,hb,rfl⟩:=cf hr
  exact (Ek B I hx hy hb).2
noncomputable def gu (o:Option Bool) (st:St):ak Bool:=match o with
 |some b=>.ok b st
 |none=>.fail
noncomputable def jH (_:Gh) (b b':Bool):Prop:=b=b'
theorem aG.isEmpty {V:av} {g:Gh} {ds:List D} {vs:List Value} (r:aG V g ds vs):vs.toArray.isEmpty=ds.isEmpty:=by
 induction r using aG.casesOn<;>simp
theorem th {n:Nat} (h:n<=aF):(n:Int)<2 ^ 63:=by
 have:aF<2 ^ 63:=by decide
 omega
theorem oh {α:Type} {vs:List α} (h:vs.length<=aF):(vs.toArray.size:Int)<2 ^ 63:=by simpa using th h
theorem Ph {k:Int} {n:Nat} (h0:0<=k) (h:k.toNat<n):seqIndex? k n=some k.toNat:=by
 show (if (decide (0<=(if k<0 then k+(n:Int) else k))&&decide ((if k<0 then k+(n:Int) else k)<n))=true then some (Int.toNat (if k<0 then k+n else k)) else none)=_
 rw [if_neg (Int.not_lt.mpr h0),decide_eq_true h0,decide_eq_true ((Int.toNat_lt h0).mp h)]; rfl
theorem M7 {k:Int} {n:Nat} (h0:k<0):k+n<n:=by have:=Int.add_lt_add_right h0 (n:Int); rw [Int.zero_add] at this; exact this
theorem Pg {k:Int} {n:Nat} (h0:k<0) (h1:0<=k+n):seqIndex? k n=some (k+n).toNat:=by
 show (if (decide (0<=(if k<0 then k+(n:Int) else k))&&decide ((if k<0 then k+(n:Int) else k)<n))=true then some (Int.toNat (if k<0 then k+n else k)) else none)=_
 rw [if_pos h0,decide_eq_true h1,decide_eq_true (M7 h0)]; rfl
theorem A4 {k:Int} (h1:k<2 ^ 62):k<2 ^ 63:=Int.lt_trans h1 (by decide)
theorem Iy {k:Int} (h0:0<=k) : -(2 ^ 63)<=k:=Int.le_trans (by decide) h0
theorem Dk {k:Int} {n:Nat} (h1:0<=k+n) : -(n:Int)<=k:=Int.le_of_sub_nonneg (by rw [Int.sub_neg]; exact h1)
theorem A5 {k:Int} {n:Nat} (h1:0<=k+n) (hb:(n:Int)<2 ^ 63) : -(2 ^ 63)<=k:=Int.le_trans (Int.neg_le_neg (Int.le_of_lt hb)) (Dk h1)
theorem z9 {α:Type} (xs:List α) (l k:Nat):((xs.drop l).take k).length<=xs.length:=by rw [length_take,length_drop]; exact le_trans (Nat.min_le_right _ _) (sub_le _ _)
theorem IsTup.mk' {h:Heap} {a:Addr} {xs:Array Value} {n:Nat} (e:h.get? a=some {cls:=.type "tuple",dict:=none,data:=.seq xs n,slots := #[]}):IsTup h a xs:=⟨_,e,rfl,n,rfl⟩
theorem qA (I:ah V F m C g s) {x:D} {a:Value} (hx:af V g x a):aE V F A jH (truthy a) g s (gu (bA C x) ⟨m,C⟩):=by
 have list : ∀ {ds:List D},aT C x=some ds->aE V F A jH (truthy a) g s (.ok (!ds.isEmpty) ⟨m,C⟩):=λ{ds} h Q E k=>by
  obtain ⟨l,vs,n,rfl,hl,hz,r⟩:=I.list hx h
  exact wpAny_truthy_list hl.isList (by simpa using th hz) (by rw [r.isEmpty]; exact k g _ _ (.refl g) (I.tok _) rfl)
 induction x using D.casesOn with
 |none=>obtain rfl:=hx.wD; exact λQ E k=>truthy_none (k g _ _ (.refl g) I rfl)
 |bool b=>obtain rfl:=hx.n5; exact λQ E k=>wpAny_truthy_bool (k g _ _ (.refl g) I rfl)
 |int b=>obtain ⟨_,rfl⟩:=hx.i5; exact λQ E k=>P.truthy_int (k g _ _ (.refl g) I rfl)
 |lst ds=>exact list rfl
 |tup ds=>
  obtain ⟨l,vs,n,rfl,hl,hz,r⟩:=I.tup hx
  exact λQ E k=>truthy_tuple (IsTup.mk' hl) (oh hz) (by rw [r.isEmpty]; exact k g _ _ (.refl g) (I.tok _) rfl)
 |loc i=>
  show aE _ _ _ _ _ _ _ (gu (C[i]?.bind tZ) _)
  induction hC:C[i]? with
  |none=>trivial
  |some ch=>
   induction ch using Ch.casesOn<;>first|trivial|exact list (iC hC)
 |_=>trivial
set_option tactic.hygienic true in
theorem QZ (slice:Expr) (o i:Value) : ∃ l,subscripted slice false o i=operate l (getItem o i):=by
 induction slice using Expr.casesOn with
 |Slice a b c d=>induction c<;>exact ⟨_,rfl⟩
 |_=>exact ⟨_,rfl⟩
theorem ng {value slice:Expr} {o i:Value} {T id:String} {prog:Program} {w:World} {E:Value->Shared->Prop} {Q:Value->Shared->Prop} (hT:s.TypeIs o T)
  (hl:typeLookup (.type T) "__getitem__"=pure (some (.builtin id))) (h:wpAny (model prog w) A (getItem o i) Q E s) :
  wpAny (model prog w) A (subscriptTail value slice o i) Q E s:=by
 unfold subscriptTail
 refine wpAny_bind ?_
 rw [getitemInPython_of_ne hT.not_modules]
 refine wpAny_bind (wpAny_specialOf hT hl ?_)
 have fin:wpAny (model prog w) A (subscripted slice false o i) (λr s₃=>wpAny (model prog w) A (letTemporaryGo value o r >>= λu'=>pure r) Q E s₃) E s:=by
  obtain ⟨l,e⟩:=QZ slice o i
  rw [e]
  exact wpAny_operating (wpAny_mono h (λr s₃ h₃=>wpAny_bind (wpAny_letTemporaryGo (wpAny_pure h₃))) λu' u' x=>x)
 first
  |exact wpAny_pure (wpAny_bind fin)
  |exact wpAny_bind (wpAny_pure (wpAny_bind fin))
  |exact wpAny_bind fin
theorem aG.get {V:av} {g:Gh} : ∀ {ds:List D} {vs:List Value} {i:Nat} {d:D},aG V g ds vs->ds[i]?=some d->∃ v,vs[i]?=some v/\af V g d v
 |[],_,_,_,_,h=>ao h
 |_::_,_,0,_,r,h=>by
  obtain ⟨v,ws,a,r,rfl⟩:=r.f9
  obtain rfl:=Option.some.inj h; exact ⟨v,rfl,a⟩
 |_::ds,_,i+1,_,r0,h=>by
  obtain ⟨v,ws,a,r,rfl⟩:=r0.f9
  exact aG.get (ds:=ds) (i:=i) r h
theorem oY {α:Type} {vs:List α} {i:Nat} {v:α} (h:vs[i]?=some v):vs.toArray[i]?=some v:=by rw [List.getElem?_toArray]; exact h
theorem Co {ds:List D} {k:Int} {d:D} (h:gI ds k=some d):(0<=k/\k<2 ^ 62/\ds[k.toNat]?=some d)\/(k<0/\0<=k+ds.length/\ds[(k+ds.length).toNat]?=some d):=by
 unfold gI at h
 split at h
 ·split at h
  ·exact .inl ⟨by assumption,by assumption,h⟩
  ·exact ao h
 ·split at h
  ·exact .inr ⟨by omega,by assumption,h⟩
  ·exact ao h
section
variable {value slice:Expr} {Q E:Value->Shared->Prop}
abbrev qY (V:av) (F:aD) (m:List (Option D)) (C:ai) (g:Gh) (d:D) (Q:Value->Shared->Prop):Prop := ∀ g' a s',g.Step g'->ah V F m C g' s'->af V g' d a->Q a s'
theorem Cq (I:ah V F m C g s) {x d:D} {a:Value} {k:Int} {t:Tok} {ds:List D} (hx:af V g x a) (e:aT C x=some ds) (h:gI ds k=some d) (q:qY V F m C g d Q) :
  wpAny V.M A (subscriptTail value slice a (.int k t)) Q E s:=by
 obtain ⟨l,vs,n,rfl,hl,hz,r⟩:=I.list hx e
 have hlen:=r.length
 rcases Co h with ⟨h0,h1,h2⟩|⟨h0,h1,h2⟩
 ·obtain ⟨v,hv,rv⟩:=r.get h2
  exact ng hl.isList.typeIs slot_list_getitem.lookup (wpAny_getItem_list hl.isList h0 (A4 h1) (oY hv) (q g _ _ (.refl g) I rv))
 ·obtain ⟨v,hv,rv⟩:=r.get h2
  have e:(k+(vs.toArray.size:Int))=k+ds.length:=by rw [hlen]; rfl
  exact ng hl.isList.typeIs slot_list_getitem.lookup (wpAny_getItem_list_neg hl.isList h0 (Dk (by rw [e]; exact h1)) (A5 (n:=vs.toArray.size) (by rw [e]; exact h1) (oh hz)) (by rw [e]; exact oY hv) (q g _ _ (.refl g) I rv))
theorem LH (I:ah V F m C g s) {d:D} {a:Value} {k:Int} {t:Tok} {ds:List D} (hx:af V g (.tup ds) a) (h:gI ds k=some d) (q:qY V F m C g d Q) :
  wpAny V.M A (subscriptTail value slice a (.int k t)) Q E s:=by
 obtain ⟨l,vs,n,rfl,hl,hz,r⟩:=I.tup hx
 have hlen:=r.length
 have ht:IsTup s.heap l vs.toArray:=IsTup.mk' hl
 have hb:=th hz
 have go : ∀ j v,-(2 ^ 63)<=k/\k<2 ^ 63->seqIndex? k vs.toArray.size=some j->vs.toArray[j]?=some v->af V g d v->wpAny V.M A (subscriptTail value slice (.ref l) (.int k t)) Q E s:=λj v hk h1 h2 h3=>
  ng ht.typeIs PyProof.Rows.slot_tuple_getitem.lookup (getItem_tuple ht hk.1 hk.2 h1 h2 (q g _ _ (.refl g) I h3))
 rcases Co h with ⟨h0,h1,h2⟩|⟨h0,h1,h2⟩
 ·obtain ⟨v,hv,rv⟩:=r.get h2
  have bQ:=(List.getElem?_eq_some_iff.mp hv).1
  exact go k.toNat v ⟨Iy h0,A4 h1⟩ (Ph h0 (by rw [size_toArray]; exact bQ)) (oY hv) rv
 ·obtain ⟨v,hv,rv⟩:=r.get h2
  have e:(k+(vs.toArray.size:Int))=k+ds.length:=by rw [hlen]; rfl
  exact go (k+ds.length).toNat v ⟨A5 (n:=vs.toArray.size) (by rw [e]; exact h1) (oh hz),Int.lt_trans h0 (by decide)⟩ (e ▸ Pg h0 (by rw [e]; exact h1)) (oY hv) rv
theorem LA (I:ah V F m C g s) {d:D} {a:Value} {k:Int} {t:Tok} {b:List UInt8} (hx:af V g (.bytes b) a) (h:qa b k=some d) (q:qY V F m C g d Q) :
  wpAny V.M A (subscriptTail value slice a (.int k t)) Q E s:=by
 obtain ⟨_,hz,rfl⟩:=hx.mE
 unfold qa at h
 by_cases hk:0<=k/\k<2 ^ 62
 ·rw [if_pos hk] at h
  obtain ⟨c,hc,rfl⟩:=cf h
  have bQ:=(List.getElem?_eq_some_iff.mp hc).1
  refine ng (W.typeIs_bytes _ _ _) W.FB.slot_bytes_getitem.lookup (W.getItem_bytes (le_trans hz (by decide)) hk.1 ((Int.toNat_lt hk.1).mp bQ) ?_)
  rw [show b.getD k.toNat 0=c by rw [getD_eq_getElem?_getD,hc]; rfl]
  exact q g _ _ (.refl g) (I.tok _) (.int _ _)
 ·rw [if_neg hk] at h; exact ao h
theorem LD (I:ah V F m C g s) {d:D} {a:Value} {k:Int} {t:Tok} {i:Nat} {bb:Bool} {es:List (Int × D)} (hx:af V g (.loc i) a) (hC:C[i]?=some (.dict bb es)) (h:es.lookup k=some d) (q:qY V F m C g d Q) :
  wpAny V.M A (subscriptTail value slice a (.int k t)) Q E s:=by
 obtain ⟨_,hg,rfl⟩:=hx.gc
 obtain ⟨hz,aA,ep,iX,hr,_⟩:=I.dictAt hg hC
 have:=hr.lookupI k
 rw [h] at this
 obtain ⟨v,hv,rv⟩:=qs this
 exact ng iX.dictOf.mapOf.typeIs slot_dict_getitem.lookup (wpAny_getItem_of (knd:=intKind V.prog V.w) (k:=k) (beq_self_eq_true _) iX.dictOf.mapOf hv (q g _ _ (.refl g) (I.tok _) rv))
end
theorem OR (I:ah V F m C g s) {value slice:Expr} {x y:D} {a b:Value} (hx:af V g x a) (hy:af V g y b) :
  aE V F A (af V) (subscriptTail value slice a b) g s (cW (i6 C x y) ⟨m,C⟩):=aE.leaf λd hd Q E q=>by
 obtain ⟨k,e,hd⟩:=aO hd
 obtain ⟨t,rfl⟩:=hy.fp e
 induction x using D.casesOn<;>first|exact ao hd|skip
 ·exact LA I hx hd q
 ·exact LH I hx hd q
 ·exact Cq I hx rfl hd q
 ·obtain ⟨ch,hC,hd⟩:=aO hd
  induction ch using Ch.casesOn<;>first|exact ao hd|skip
  ·exact Cq I hx (iC hC) hd q
  ·exact LD I hx hC hd q
theorem ah.slice (I:ah V F m C g s) (vl vu:Value):g.Step (g.put s.heap.objs.size (some (.ay {cls:=.type "slice",data:=.fields #[vl,vu,.none]})))/\
  ah V F m C (g.put s.heap.objs.size (some (.ay {cls:=.type "slice",data:=.fields #[vl,vu,.none]}))) {s with heap:=s.heap.push {cls:=.type "slice",data:=.fields #[vl,vu,.none]}}:=
 ⟨Gh.kr I.eY,I.w8 _ rfl s.toks⟩
set_option tactic.hygienic true in
theorem rr {x:D} {v:Value} {dflt n k:Nat} (hx:af V g x v) (h:bound x dflt n=some k) : ∃ p,IsPart v p/\p.elim dflt (clipAt n)=k:=by
 induction x using D.casesOn<;>first|exact ao h|skip
 ·obtain rfl:=hx.wD; obtain rfl:=Option.some.inj h; exact ⟨_,.none,rfl⟩
 ·obtain ⟨t,rfl⟩:=hx.i5
  rename_i i
  have h:(if 0<=i/\i<2 ^ 62 then some (min i.toNat n) else none)=some k:=h
  by_cases hk:0<=i/\i<2 ^ 62
  ·rw [if_pos hk] at h
   obtain rfl:=Option.some.inj h
   refine ⟨_,.int _ _,?_⟩
   show clipAt n i=_
   obtain ⟨j,rfl⟩:=Int.eq_ofNat_of_zero_le hk.1
   rw [clipAt_nat]; rfl
  ·rw [if_neg hk] at h; exact ao h
theorem aG.drop {V:av} {g:Gh} : ∀ {ds:List D} {vs:List Value} (n:Nat),aG V g ds vs->aG V g (ds.drop n) (vs.drop n)
 |_,_,0,h=>h
 |[],_,_+1,h=>by obtain rfl:=h.fF; exact .nil
 |_::_,_,n+1,h=>by obtain ⟨_,_,_,r,rfl⟩:=h.f9; exact r.drop n
theorem aG.take {V:av} {g:Gh} : ∀ {ds:List D} {vs:List Value} (n:Nat),aG V g ds vs->aG V g (ds.take n) (vs.take n)
 |_,_,0,_=>by rw [take_zero,take_zero]; exact .nil
 |[],_,_+1,h=>by obtain rfl:=h.fF; exact .nil
 |_::_,_,n+1,h=>by obtain ⟨_,_,a,r,rfl⟩:=h.f9; exact .cons a (r.take n)
theorem O7 (I:ah V F m C g s) {value slice:Expr} {x lo hi:D} {a vl vu:Value} {sl:Addr} (hx:af V g x a) (nZ:af V g lo vl) (sy:af V g hi vu)
  (hs:s.heap.IsSliceOf sl vl vu .none) :
  aE V F A (af V) (subscriptTail value slice a (.ref sl)) g s (cW (m6 C x lo hi) ⟨m,C⟩):=by
 refine aE.leaf λd hd Q E q=>?_
 have list : ∀ {ds:List D} {l h:Nat},aT C x=some ds->bound lo 0 ds.length=some l->bound hi ds.length ds.length=some h->d=.lst (fw ds l h)->wpAny V.M A (subscriptTail value slice a (.ref sl)) Q E s:=by
  intro ds l h e h1 h2 hd
  subst hd
  obtain ⟨b,vs,n,rfl,hl,hz,r⟩:=I.list hx e
  have hlen:=r.length
  obtain ⟨p,ip,ep⟩:=rr nZ h1
  obtain ⟨u,iu,eu⟩:=rr sy h2
  refine ng hl.isList.typeIs slot_list_getitem.lookup (wpAny_getItem_list_slice hl.isList hs ip iu .none (by simp) ?_ (dv (by simpa using hz)))
  rw [slicePick_plain]
  have e1:vs.toArray.size=ds.length:=by simp [hlen]
  rw [e1,ep,eu]
  have r':aG V g (fw ds l h) ((vs.drop l).take (h - l)):=(r.drop l).take (h - l)
  exact I.newList (T:="list") (n:=0) (t:=s.toks) r' (le_trans (z9 _ _ _) hz) λg' st I' h1 h2 h3=>q g' _ _ st I' (.lst h1 h2 h3)
 have lst:tV C x lo hi=some d->wpAny V.M A (subscriptTail value slice a (.ref sl)) Q E s:=λhd=>by
  obtain ⟨ds,e,hd⟩:=aO hd
  obtain ⟨l,h1,hd⟩:=aO hd
  obtain ⟨h,h2,hd⟩:=cf hd
  exact list e h1 h2 hd.symm
 induction x using D.casesOn with
 |bytes b=>
  obtain ⟨l,h1,hd⟩:=aO hd
  obtain ⟨h,h2,rfl⟩:=cf hd
  obtain ⟨t,hz,rfl⟩:=hx.mE
  obtain ⟨p,ip,ep⟩:=rr nZ h1
  obtain ⟨u,iu,eu⟩:=rr sy h2
  have e1:W.KBy.picked b.toArray p u=(fw b l h).toArray:=by
   rw [W.KBc.picked_eq]
   simp only [size_toArray,ep,eu]; rfl
  have bU:(fw b l h).length<=aF:=le_trans (z9 _ _ _) hz
  refine ng (W.typeIs_bytes _ _ _) W.FB.slot_bytes_getitem.lookup (getItem_meets (W.typeIs_bytes _ _ _) (by decide) W.FB.slot_bytes_getitem W.FB.entry_bytes_getitem (W.FB.args_bytes_getitem_2 _ _) (W.KBc.meets_slice2 b.toArray t _ ip iu)
   ⟨hs,by rw [e1]; exact dv (by simpa using bU),λt' k=>?_⟩)
  rw [e1]
  exact q g _ _ (.refl g) (I.tok _) (.bytes _ bU)
 |_=>exact lst hd
end
structure ff (F:aD) (A:Around) (cl:Calls) (n l:Nat):Prop where
 frames:A.frames=some F.stack
 depth:A.depth+8*n+8<=900
 units:A.units+8*l+500*n+500<=9000
 calm:cl.fuel≠0->A.handled=none
theorem GL:cLine=9900:=rfl
noncomputable def cy (o:ak D):ak Bool:=o.bind λx st=>gu (bA st.C x) st
noncomputable def az (V:av) (F:aD) (A:Around) (cl:Calls) (c:E) (e:Expr):Prop:=
 ∀ m C g s,ah V F m C g s->aE V F A (af V) (eval e F.env) g s (ev V.P cl c ⟨m,C⟩)/\aE V F A jH (isTrue e F.env (eval e F.env)) g s (cy (ev V.P cl c ⟨m,C⟩))
noncomputable def oV (V:av) (g:Gh) (d:D) (vs:List Value):Prop := ∃ ds,d=.lst ds/\aG V g ds vs
section
variable {V:av} {G:aV} {F:aD} {A:Around} {cl:Calls}
theorem az.bad {e:Expr}:az V F A cl .bad e:=λu' u' u' u' u'=>⟨trivial,trivial⟩
theorem Pd {g:Gh} {s:Shared} {e:Expr} {o:ak D} (he:isTrue e F.env (eval e F.env)=(do let v <-eval e F.env; standAt e.pos; holding [v] (truthy v)))
  (h:aE V F A (af V) (eval e F.env) g s o):aE V F A jH (isTrue e F.env (eval e F.env)) g s (cy o):=
 aj.seq h (λu' u' x=>isTrue_plain x he) λu' u' u' u' u' u' u' I r=>qA I r
theorem az.of {c:E} {e:Expr} (he:isTrue e F.env (eval e F.env)=(do let v <-eval e F.env; standAt e.pos; holding [v] (truthy v)))
  (h : ∀ m C g s,ah V F m C g s->aE V F A (af V) (eval e F.env) g s (ev V.P cl c ⟨m,C⟩)):az V F A cl c e:=
 λm C g s I=>⟨h m C g s I,Pd he (h m C g s I)⟩
theorem P9 {k:Const} {n:Nat} {p:Pos}:az V F A cl (rG k) (.Constant k n p):=.of rfl λu' u' u' u' I=>OL I
theorem Qn (O:V.Ok G) (K:F.Ok) {c:aI} (hc:F.ctx c) {x:Str} {p:Pos}:az V F A cl (lB G c x) (.Name x p):=.of rfl λu' u' u' u' I=>Et O K I hc
theorem P0 {op:Operator} {o:Op} (ho:jb op=some o) {a b:E} {l r:Expr} {p:Pos} (hl:az V F A cl a l) (hr:az V F A cl b r):az V F A cl (.bin o a b) (.BinOp l op r p):=
 .of rfl λm C g s I=>aj.seq (hl m C g s I).1 (λu' u' x=>wpAny_BinOp x) λu' u' u' u' u' u' u' I₁ rx=>
  aj.seq (hr _ _ _ _ I₁).1 (λu' u' x=>x) λu' u' u' u' u' u' br I₂ ry=>Oy ho I₂ (rx.mono br.toLe) ry
theorem yQ {op:CmpOp} {r:Expr} (h:lu r=false):behindInMarks op r=false:=by
 induction r using Expr.casesOn<;>first|rfl|exact fN h
theorem SS {o:Option Bool} {st:St}:cy (cW (o.map D.bool) st)=gu o st:=by
 induction o<;>rfl
theorem ak.bind_assoc {α β γ:Type} (o:ak α) (f:α->St->ak β) (k:β->St->ak γ):(o.bind f).bind k=o.bind λa st=>(f a st).bind k:=by
 induction o<;>rfl
theorem P6 (B:V.Base) {n l:Nat} (hA:ff F A cl n l) {op:CmpOp} {a b:E} {x r:Expr} {p:Pos} (hs:lu r=false) (hl:az V F A cl a x) (hr:az V F A cl b r) :
  az V F A cl (.cmp (rE op) a b) (.Compare x [op] [r] p):=by
 have hu:A.units+64<cLine:=lt_of_le_of_lt (le_trans (add_le_add (le_trans (le_add_right _ (8*l)) (le_add_right _ (500*n))) (by decide:64<=500)) hA.units) (by decide)
 refine λm C g s I=>⟨?_,?_⟩
 ·exact aj.seq (hl m C g s I).1 (λu' u' x=>wpAny_Compare1 x (yQ hs)) λu' u' u' u' u' u' u' I₁ rx=>
   aj.seq (hr _ _ _ _ I₁).1 (λu' u' x=>x) λu' u' u' u' u' u' br I₂ ry=>Ef B hu I₂ (rx.mono br.toLe) ry
 ·show aE _ _ _ _ _ _ _ (cy ((ev V.P cl a ⟨m,C⟩).bind λx aa=>(ev V.P cl b aa).bind λy ae=>cW ((g9 ae.C (rE op) x y).map .bool) ae))
  unfold cy
  rw [ak.bind_assoc]
  refine aj.seq (hl m C g s I).1 (λu' u' x=>wpAny_isTrue_Compare1 x (yQ hs)) λu' u' u' u' u' u' u' I₁ rx=>?_
  rw [ak.bind_assoc]
  exact aj.seq (hr _ _ _ _ I₁).1 (λu' u' x=>x) λu' u' u' u' u' u' br I₂ ry=>aj.seq (Ef B hu I₂ (rx.mono br.toLe) ry) (λu' u' x=>x) λu' u' u' u' u' u' u' I₃ r₃=>qA I₃ r₃
theorem RP {o:Option Bool} {st:St}:gu (o.map (!·)) st=(gu o st).bind λb st=>.ok (!b) st:=by induction o<;>rfl
theorem Qq {a:E} {x:Expr} {p:Pos} (h:az V F A cl a x):az V F A cl (.not a) (.UnaryOp .Not x p):=by
 refine λm C g s I=>⟨?_,?_⟩
 ·refine aj.seq (h m C g s I).1 (λu' u' x=>wpAny_UnaryOp x) λd st g₁ s₁ v u' u' I₁ rx=>?_
  have e:cW ((bA st.C d).map λb=>D.bool (!b)) st=(gu (bA st.C d) st).bind λb st=>.ok (.bool (!b)) st:=by induction bA st.C d<;>rfl
  rw [e]
  exact aj.seq (qA I₁ rx) (λu' u' x=>PyProof.Rows.not_of x) (K:=λb Q E s=>Q (.bool (!b)) s) λu' u' g₂ s₂ u' u' u' I₂ r=>λQ E k=>k _ _ _ (.refl _) I₂ (by cases r; exact .bool _)
 ·have e:cy (ev V.P cl (.not a) ⟨m,C⟩)=(cy (ev V.P cl a ⟨m,C⟩)).bind λb st=>.ok (!b) st:=by
   show cy ((ev V.P cl a ⟨m,C⟩).bind _)=_
   unfold cy
   rw [ak.bind_assoc,ak.bind_assoc]
   congr 1; funext x st
   induction bA st.C x<;>rfl
  rw [e]
  exact aj.seq (h m C g s I).2 (λu' u' x=>wpAny_isTrue_Not x) (K:=λb Q E s=>Q (!b) s) λu' u' g₂ s₂ u' u' u' I₂ r=>λQ E k=>k _ _ _ (.refl _) I₂ (by cases r; rfl)
theorem Qi {c a b:E} {t x y:Expr} {p:Pos} (ht:az V F A cl c t) (hx:az V F A cl a x) (hy:az V F A cl b y):az V F A cl (.ite c a b) (.IfExp t x y p):=by
 have e : ∀ st,ev V.P cl (.ite c a b) st=(cy (ev V.P cl c st)).bind λq aa=>if q then ev V.P cl a aa else ev V.P cl b aa:=λst=>by
  show (ev V.P cl c st).bind _=_
  unfold cy
  rw [ak.bind_assoc]
  congr 1; funext x aa
  induction bA aa.C x with
  |none=>rfl
  |some q=>induction q<;>rfl
 refine λm C g s I=>⟨?_,?_⟩
 ·rw [e]
  refine aj.seq (ht m C g s I).2 (λu' u' x=>wpAny_IfExp x) λq st g₁ s₁ q' u' u' I₁ r=>?_
  cases r
  induction q
  ·exact (hy _ _ _ _ I₁).1
  ·exact (hx _ _ _ _ I₁).1
 ·rw [e]
  unfold cy
  rw [ak.bind_assoc]
  refine aj.seq (ht m C g s I).2 (λu' u' x=>PyProof.Rows.isTrue_IfExp x) λq st g₁ s₁ q' u' u' I₁ r=>?_
  cases r
  induction q
  ·exact (hy _ _ _ _ I₁).2
  ·exact (hx _ _ _ _ I₁).2
theorem Fi {M:Model} {A:Around} {Q:Value->Shared->Prop} {E:Value->Shared->Prop} {s:Shared} {pos:Pos} {op:BoolOp} {x y:Sem Value} {r:List (Sem Value)}
  (h:wpAny M A x (λv s₁=>wpAny M A (truthy v) (λt s₂=>match op,t with
   |.And,false|.Or,true=>Q v s₂
   |_,_=>wpAny M A (boolOp pos op (y::r)) Q E s₂) E s₁) E s):wpAny M A (boolOp pos op (x::y::r)) Q E s:=by
 show wpAny M A (x >>= λv=>standAt pos >>= λ_=>holding [v] (truthy v) >>= λt=>match op,t with
  |.And,false|.Or,true=>pure v
  |_,_=>boolOp pos op (y::r)) Q E s
 refine wpAny_bind (wpAny_mono h (λv s₁ h₁=>wpAny_bind (wpAny_standAt (wpAny_bind (wpAny_holding (wpAny_mono h₁ (λt s₂ h₂=>?_) λu' u' e=>e))))) λu' u' e=>e)
 induction op using BoolOp.casesOn<;>cases t<;>first|exact wpAny_pure h₂|exact h₂
theorem Az (a b:E) (st:St):ev V.P cl (.and a b) st=(ev V.P cl a st).bind λx aa=>(gu (bA aa.C x) aa).bind λq ae=>if q then ev V.P cl b ae else .ok x ae:=by
 show (ev V.P cl a st).bind _=_
 congr 1; funext x aa
 induction bA aa.C x with
 |none=>rfl
 |some q=>induction q<;>rfl
theorem AI (a b:E) (st:St):ev V.P cl (.or a b) st=(ev V.P cl a st).bind λx aa=>(gu (bA aa.C x) aa).bind λq ae=>if q then .ok x ae else ev V.P cl b ae:=by
 show (ev V.P cl a st).bind _=_
 congr 1; funext x aa
 induction bA aa.C x with
 |none=>rfl
 |some q=>induction q<;>rfl
theorem yH {op:BoolOp} {e:Expr} {W:Tr Bool} {g:Gh} {s:Shared} {o:ak Bool} (h:aE V F A jH (isTrue e F.env (eval e F.env)) g s o) :
  aE V F A jH (allTrue op [e] F.env) g s o:=by
 refine h.wp λQ E x=>?_
 induction op using BoolOp.casesOn with
 |And=>exact wpAny_allTrue_And_cons (wpAny_mono x (λb s₁ y=>by
   induction b
   ·exact y
   ·exact wpAny_pure y) λu' u' y=>y)
 |Or=>exact wpAny_allTrue_Or_cons (wpAny_mono x (λb s₁ y=>by
   induction b
   ·exact wpAny_pure y
   ·exact y) λu' u' y=>y)
theorem xw {f:Expr->E} {p:Pos} : ∀ (es:List Expr),(∀ e∈es,az V F A cl (f e) e)->∀ m C g s,ah V F m C g s->
  aE V F A (af V) (boolOp p .And (evalEach es F.env)) g s (ev V.P cl (jJ f es) ⟨m,C⟩)/\aE V F A jH (allTrue .And es F.env) g s (cy (ev V.P cl (jJ f es) ⟨m,C⟩))
 |[],_,_,_,_,_,_=>⟨trivial,trivial⟩
 |[e],h,m,C,g,s,I=>⟨(h e (.head _) m C g s I).1,yH (W:=λu' u' u'=>True) (h e (.head _) m C g s I).2⟩
 |e::e'::r,h,m,C,g,s,I=>by
  have ih:=xw (p:=p) (e'::r) λx hx=>h x (.tail _ hx)
  have h0:=h e (.head _)
  refine ⟨?_,?_⟩
  ·show aE _ _ _ _ _ _ _ (ev V.P cl (.and (f e) (jJ f (e'::r))) _)
   rw [Az]
   refine aj.seq (h0 m C g s I).1 (λu' u' x=>Fi x) λx st g₁ s₁ v u' u' I₁ rx=>?_
   refine aj.seq (qA I₁ rx) (λu' u' x=>x) λq aB g₂ s₂ q' u' br I₂ rq=>?_
   subst rq
   induction q
   ·exact λQ E k=>k _ _ _ (.refl _) I₂ (rx.mono br.toLe)
   ·exact (ih _ _ _ _ I₂).1
  ·have e1:cy (ev V.P cl (.and (f e) (jJ f (e'::r))) ⟨m,C⟩)=(cy (ev V.P cl (f e) ⟨m,C⟩)).bind λq st=>if q then cy (ev V.P cl (jJ f (e'::r)) st) else .ok false st:=by
    rw [Az]; unfold cy
    rw [ak.bind_assoc,ak.bind_assoc]
    congr 1; funext x st
    induction ht:bA st.C x with
    |none=>rfl
    |some q=>
     induction q
     ·show gu (bA st.C x) st=_; rw [ht]; rfl
     ·rfl
   show aE _ _ _ _ _ _ _ (cy (ev V.P cl (.and (f e) (jJ f (e'::r))) ⟨m,C⟩))
   rw [e1]
   refine aj.seq (h0 m C g s I).2 (λu' u' x=>wpAny_allTrue_And_cons x) λq st g₁ s₁ q' u' u' I₁ rq=>?_
   subst rq
   induction q
   ·exact λQ E k=>k _ _ _ (.refl _) I₁ rfl
   ·exact (ih _ _ _ _ I₁).2
theorem xB {f:Expr->E} {p:Pos} : ∀ (es:List Expr),(∀ e∈es,az V F A cl (f e) e)->∀ m C g s,ah V F m C g s->
  aE V F A (af V) (boolOp p .Or (evalEach es F.env)) g s (ev V.P cl (jK f es) ⟨m,C⟩)/\aE V F A jH (allTrue .Or es F.env) g s (cy (ev V.P cl (jK f es) ⟨m,C⟩))
 |[],_,_,_,_,_,_=>⟨trivial,trivial⟩
 |[e],h,m,C,g,s,I=>⟨(h e (.head _) m C g s I).1,yH (W:=λu' u' u'=>True) (h e (.head _) m C g s I).2⟩
 |e::e'::r,h,m,C,g,s,I=>by
  have ih:=xB (p:=p) (e'::r) λx hx=>h x (.tail _ hx)
  have h0:=h e (.head _)
  refine ⟨?_,?_⟩
  ·show aE _ _ _ _ _ _ _ (ev V.P cl (.or (f e) (jK f (e'::r))) _)
   rw [AI]
   refine aj.seq (h0 m C g s I).1 (λu' u' x=>Fi x) λx st g₁ s₁ v u' u' I₁ rx=>?_
   refine aj.seq (qA I₁ rx) (λu' u' x=>x) λq aB g₂ s₂ q' u' br I₂ rq=>?_
   subst rq
   induction q
   ·exact (ih _ _ _ _ I₂).1
   ·exact λQ E k=>k _ _ _ (.refl _) I₂ (rx.mono br.toLe)
  ·have e1:cy (ev V.P cl (.or (f e) (jK f (e'::r))) ⟨m,C⟩)=(cy (ev V.P cl (f e) ⟨m,C⟩)).bind λq st=>if q then .ok true st else cy (ev V.P cl (jK f (e'::r)) st):=by
    rw [AI]; unfold cy
    rw [ak.bind_assoc,ak.bind_assoc]
    congr 1; funext x st
    induction ht:bA st.C x with
    |none=>rfl
    |some q=>
     induction q
     ·rfl
     ·show gu (bA st.C x) st=_; rw [ht]; rfl
   show aE _ _ _ _ _ _ _ (cy (ev V.P cl (.or (f e) (jK f (e'::r))) ⟨m,C⟩))
   rw [e1]
   refine aj.seq (h0 m C g s I).2 (λu' u' x=>wpAny_allTrue_Or_cons x) λq st g₁ s₁ q' u' u' I₁ rq=>?_
   subst rq
   induction q
   ·exact (ih _ _ _ _ I₁).2
   ·exact λQ E k=>k _ _ _ (.refl _) I₁ rfl
theorem PN {f:Expr->E} {es:List Expr} {p:Pos} (h : ∀ e∈es,az V F A cl (f e) e):az V F A cl (jJ f es) (.BoolOp .And es p):=λm C g s I=>
 ⟨(xw es h m C g s I).1,(xw (p:=p) es h m C g s I).2.wp λu' u' x=>wpAny_isTrue_BoolOp x⟩
theorem Qr {f:Expr->E} {es:List Expr} {p:Pos} (h : ∀ e∈es,az V F A cl (f e) e):az V F A cl (jK f es) (.BoolOp .Or es p):=λm C g s I=>
 ⟨(xB es h m C g s I).1,(xB (p:=p) es h m C g s I).2.wp λu' u' x=>wpAny_isTrue_BoolOp x⟩
theorem lN {e:Expr} {r:List Expr} {env:Env} (h:dp e=false):starEach (e::r) env=(false,eval e env)::starEach r env:=by
 induction e using Expr.casesOn<;>first|rfl|exact fN h
theorem AM (c:E) (cs:Es) (st:St):bE V.P cl (.cons c cs) st=(ev V.P cl c st).bind λx aa=>(bE V.P cl cs aa).bind λd ae=>match d with
  |.lst ds=>.ok (.lst (x::ds)) ae
  |_=>.fail:=by
 show (ev V.P cl c st).bind _=_
 congr 1; funext x aa
 induction bE V.P cl cs aa with
 |ok d ae=>induction d using D.casesOn<;>rfl
 |exc x ae=>rfl
 |fail=>rfl
theorem tS {f:Expr->E} {p:Pos} : ∀ (es:List Expr),es.any dp=false->(∀ e∈es,az V F A cl (f e) e)->∀ m C g s,ah V F m C g s->
  aE V F A (oV V) (spliced (backTo p (starEach es F.env))) g s (bE V.P cl (bq f es) ⟨m,C⟩)
 |[],_,_,m,C,g,s,I=>λQ E k=>Calls.spliced_nil (k g _ _ (.refl _) I ⟨[],rfl,.nil⟩)
 |e::r,hs,h,m,C,g,s,I=>by
  rw [any_cons,or_eq_false_iff] at hs
  have ih:=tS (p:=p) r hs.2 λx hx=>h x (.tail _ hx)
  rw [lN hs.1]
  show aE _ _ _ _ _ _ _ (bE V.P cl (.cons (f e) (bq f r)) _)
  rw [AM]
  refine aj.seq (h e (.head _) m C g s I).1 (λu' u' x=>Calls.spliced_cons x) λx st g₁ s₁ v u' u' I₁ rx=>?_
  refine aj.seq (K:=λvs Q E s=>Q (v::vs) s) (ih _ _ _ _ I₁) (λQ E x=>x) λd aB g₂ s₂ vs u' br I₂ rd=>?_
  obtain ⟨ds,rfl,rs⟩:=rd
  exact λQ E k=>k _ _ _ (.refl _) I₂ ⟨_,rfl,.cons (rx.mono br.toLe) rs⟩
set_option tactic.hygienic true in
theorem Qj {f:Expr->E} {es:List Expr} {p:Pos} (h : ∀ e∈es,az V F A cl (f e) e):az V F A cl (.list (kK f es)) (.List es p):=by
 refine .of rfl λm C g s I=>?_
 unfold kK
 induction hs:es.any dp with
 |true=>trivial
 |false=>
  rw [if_neg (by decide)]
  have e:ev V.P cl (.list (bq f es)) ⟨m,C⟩=(bE V.P cl (bq f es) ⟨m,C⟩).bind λd st=>match d with
    |.lst ds=>if ds.length<=aF then .ok (.lst ds) st else .fail
    |_=>.fail:=by
   show (match bE V.P cl (bq f es) ⟨m,C⟩ with|.ok (.lst ds) aa=>_|.exc x aa=>_|_=>_)=_
   induction bE V.P cl (bq f es) ⟨m,C⟩ with
   |ok d ae=>induction d using D.casesOn<;>rfl
   |exc x ae=>rfl
   |fail=>rfl
  rw [e]
  refine aj.seq (tS (p:=p) es hs h m C g s I) (λu' u' x=>wpAny_List_spliced x) λd st g₁ s₁ vs u' u' I₁ rd=>?_
  obtain ⟨ds,rfl,rs⟩:=rd
  dsimp only
  split
  ·rename_i hz
   have gH:vs.length<=aF:=by rw [<-rs.length]; exact hz
   exact λQ E k=>⟨dv gH,I₁.newList (T:="list") (n:=0) (t:=s₁.toks) rs gH λg' aB I' h1 h2 h3=>k g' _ _ aB I' (.lst h1 h2 h3)⟩
  ·trivial
set_option tactic.hygienic true in
theorem QB {f:Expr->E} {es:List Expr} {n:Nat} {p:Pos} (h : ∀ e∈es,az V F A cl (f e) e):az V F A cl (.tup (kK f es)) (.Tuple es n p):=by
 refine .of rfl λm C g s I=>?_
 unfold kK
 induction hs:es.any dp with
 |true=>trivial
 |false=>
  rw [if_neg (by decide)]
  have e:ev V.P cl (.tup (bq f es)) ⟨m,C⟩=(bE V.P cl (bq f es) ⟨m,C⟩).bind λd st=>match d with
    |.lst ds=>if ds.length<=aF then .ok (.tup ds) st else .fail
    |_=>.fail:=by
   show (match bE V.P cl (bq f es) ⟨m,C⟩ with|.ok (.lst ds) aa=>_|.exc x aa=>_|_=>_)=_
   induction bE V.P cl (bq f es) ⟨m,C⟩ with
   |ok d ae=>induction d using D.casesOn<;>rfl
   |exc x ae=>rfl
   |fail=>rfl
  rw [e]
  refine aj.seq (tS (p:=p) es hs h m C g s I) (λu' u' x=>wpAny_Tuple_spliced x) λd st g₁ s₁ vs u' u' I₁ rd=>?_
  obtain ⟨ds,rfl,rs⟩:=rd
  dsimp only
  split
  ·rename_i hz
   have gH:vs.length<=aF:=by rw [<-rs.length]; exact hz
   exact λQ E k=>⟨dv gH,I₁.newList (T:="tuple") (n:=0) (t:=s₁.toks) rs gH λg' aB I' h1 h2 h3=>k g' _ _ aB I' (.tup h1 h2 h3)⟩
  ·trivial
end
section
variable {V:av} {G:aV} {F:aD} {A:Around} {cl:Calls} {m:List (Option D)} {C:ai} {g:Gh} {s:Shared}
theorem ah.localSet (K:F.Ok) (I:ah V F m C g s) {h':Heap} {t:Nat} {x:Str} {k:Nat} {d:D} {v:Value} {M:Str->Option Value} (hx:F.names.lookup x=some .local) (hk:F.slots.lookup x=some k)
  (hM:s.heap.Ns F.env.locals M) (hr : ∀ x n d,F.names.lookup x=some .local->F.slots.lookup x=some n->m[n]?=some (some d)->∃ v,M x=some v/\af V g d v)
  (hn:h'.Ns F.env.locals (λy=>if y=x then some v else M y)) (hs:Heap.SameBut F.env.locals s.heap h') (r:af V g d v):ah V F (m.set k (some d)) C g {s with heap:=h',toks:=t}:=by
 have hg:=I.fr.here
 have ne : ∀ {b y},g b=some y->y≠.locals->b≠F.env.locals:=λ{b y} e q z=>by subst z; rw [hg] at e; obtain rfl:=Option.some.inj e; exact q rfl
 refine ⟨λb o' e=>?_,I.new,λb y e=>?_,λb o' e=>?_,λb o' e=>?_,λj c' e=>?_,I.uniq,I.c4,?_,I.gens,I.os⟩
 ·refine (hs.2 b λz=>?_).trans (I.keep b o' e)
  subst z; rw [I.new _ _ hg] at e; exact ao e
 ·by_cases z:b=F.env.locals
  ·subst z; obtain ⟨o,_,_,ho,_⟩:=hn; exact ⟨o,ho⟩
  ·obtain ⟨o',q⟩:=I.live b y e; exact ⟨o',(hs.2 b z).trans q⟩
 ·exact (hs.2 b (ne e (by intro z; cases z))).trans (I.ay b o' e)
 ·obtain ⟨sl,q,q'⟩:=I.ax b o' e
  exact ⟨sl,(hs.2 b (ne e (by intro z; cases z))).trans q,q'⟩
 ·obtain ⟨b,o',h1,h2,h3⟩:=I.cell j c' e
  exact ⟨b,o',h1,(hs.2 b (ne h1 (by intro z; cases z))).trans h2,h3⟩
 ·have fr:=I.fr
  refine ⟨by rw [length_set]; exact fr.len,fr.above,fr.out,fr.here,⟨_,hn,λy n d' h1 h2 h3=>?_⟩,λy hy=>?_,λy n d' h1 h2 h3=>?_⟩
  ·by_cases q:y=x
   ·subst q
    rw [hk] at h2; obtain rfl:=Option.some.inj h2
    rw [getElem?_set] at h3
    simp only [if_true] at h3
    split at h3
    ·cases h3; exact ⟨v,if_pos rfl,r⟩
    ·exact ao h3
   ·have dR:k≠n:=λz=>q (K.inj _ _ _ h2 (z ▸ hk))
    rw [getElem?_set,if_neg dR] at h3
    obtain ⟨v',e1,e2⟩:=hr y n d' h1 h2 h3
    exact ⟨v',by rw [if_neg q]; exact e1,e2⟩
  ·obtain ⟨c,v',h1,h2,h3,h4⟩:=fr.cell y hy
   refine ⟨c,v',h1,h2,h3.sameBut hs (ne h2 (by intro z; cases z)),λn d' e1 e2=>h4 n d' e1 ?_⟩
   have dR:k≠n:=λz=>by
    have:=K.inj _ _ _ e1 (z ▸ hk); subst this; rw [hx] at hy; cases hy
   rw [getElem?_set,if_neg dR] at e2
   exact e2
  ·have dR:k≠n:=λz=>by
    have:=K.inj _ _ _ h2 (z ▸ hk); subst this; rw [hx] at h1; cases h1
   rw [getElem?_set,if_neg dR] at h3
   exact fr.free y n d' h1 h2 h3
theorem ah.It (K:F.Ok) (I:ah V F m C g s) {h':Heap} {t:Nat} {x:Str} {k:Nat} {d:D} {v:Value} {c:Addr} (hx:F.names.lookup x=some .cell) (hk:F.slots.lookup x=some k)
  (hc:F.env.cells.lookup x=some c) (hg:g c=some (.b7 x)) (hn:h'.IsCell c (some v)) (hs:Heap.SameBut c s.heap h') (r:af V g d v):ah V F (m.set k (some d)) C g {s with heap:=h',toks:=t}:=by
 have ne : ∀ {b y},g b=some y->y≠.b7 x->b≠c:=λ{b y} e q z=>by subst z; rw [hg] at e; obtain rfl:=Option.some.inj e; exact q rfl
 refine ⟨λb o' e=>?_,I.new,λb y e=>?_,λb o' e=>?_,λb o' e=>?_,λj c' e=>?_,I.uniq,I.c4,?_,I.gens,I.os⟩
 ·refine (hs.2 b λz=>?_).trans (I.keep b o' e)
  subst z; rw [I.new _ _ hg] at e; exact ao e
 ·by_cases z:b=c
  ·subst z; obtain ⟨o,ho,_⟩:=hn; exact ⟨o,ho⟩
  ·obtain ⟨o',q⟩:=I.live b y e; exact ⟨o',(hs.2 b z).trans q⟩
 ·exact (hs.2 b (ne e (by intro z; cases z))).trans (I.ay b o' e)
 ·obtain ⟨sl,q,q'⟩:=I.ax b o' e
  exact ⟨sl,(hs.2 b (ne e (by intro z; cases z))).trans q,q'⟩
 ·obtain ⟨b,o',h1,h2,h3⟩:=I.cell j c' e
  exact ⟨b,o',h1,(hs.2 b (ne h1 (by intro z; cases z))).trans h2,h3⟩
 ·have fr:=I.fr
  obtain ⟨M,hM,hr⟩:=fr.loc
  refine ⟨by rw [length_set]; exact fr.len,fr.above,fr.out,fr.here,⟨M,hM.sameBut hs (ne fr.here (by intro z; cases z)),λy n d' h1 h2 h3=>?_⟩,λy hy=>?_,λy n d' h1 h2 h3=>?_⟩
  ·have dR:k≠n:=λz=>by
    have:=K.inj _ _ _ h2 (z ▸ hk); subst this; rw [hx] at h1; cases h1
   rw [getElem?_set,if_neg dR] at h3
   exact hr y n d' h1 h2 h3
  ·by_cases q:y=x
   ·subst q
    refine ⟨c,some v,hc,hg,hn,λn d' e1 e2=>?_⟩
    rw [hk] at e1; obtain rfl:=Option.some.inj e1
    rw [getElem?_set] at e2
    simp only [if_true] at e2
    split at e2
    ·cases e2; exact ⟨v,rfl,r⟩
    ·exact ao e2
   ·obtain ⟨c',v',h1,h2,h3,h4⟩:=fr.cell y hy
    refine ⟨c',v',h1,h2,h3.sameBut hs (ne h2 (by intro z; cases z; exact q rfl)),λn d' e1 e2=>h4 n d' e1 ?_⟩
    have dR:k≠n:=λz=>q (K.inj _ _ _ e1 (z ▸ hk))
    rw [getElem?_set,if_neg dR] at e2
    exact e2
  ·have dR:k≠n:=λz=>by
    have:=K.inj _ _ _ h2 (z ▸ hk); subst this; rw [hx] at h1; cases h1
   rw [getElem?_set,if_neg dR] at h3
   exact fr.free y n d' h1 h2 h3
noncomputable def dF {α β:Type} (_:Gh) (_:α) (_:β):Prop:=True
set_option tactic.hygienic true in
theorem lJ (K:F.Ok) (I:ah V F m C g s) {c:aI} (hc:F.ctx c) {x:Str} {k:Nat} (hk:cZ c x=some k) {d:D} {v:Value} (r:af V g d v) :
  aE V F A dF (storeName F.env x v) g s (dE k d ⟨m,C⟩):=by
 unfold dE
 split
 ·unfold cZ at hk
  rw [hc.1,hc.2.1] at hk
  split at hk
  ·rename_i hx
   obtain ⟨M,hM,hr⟩:=I.fr.loc
   exact λQ E q=>wpAny_storeName_local (K.kinds x _ hx) hM (λh' hn hs=>q g _ _ (.refl _) (I.localSet K hx hk hM hr hn hs r) trivial) (by rw [K.fn]; rfl)
  ·rename_i hx
   obtain ⟨cc,v₀,h1,h2,h3,_⟩:=I.fr.cell x hx
   exact λQ E q=>wpAny_storeName_cell K.fn (K.kinds x _ hx) h1 h3 λh' hn hs=>q g _ _ (.refl _) (I.It (t:=s.toks) K hx hk h1 h2 hn hs r) trivial
  ·exact ao hk
 ·trivial
theorem QD (K:F.Ok) {c:aI} (hc:F.ctx c) {x:Str} {xp p:Pos} {k:Nat} (hk:cZ c x=some k) {a:E} {e:Expr} (h:az V F A cl a e) :
  az V F A cl (.ku k a) (.NamedExpr (.Name x xp) e p):=by
 refine .of rfl λm C g s I=>?_
 have e1:ev V.P cl (.ku k a) ⟨m,C⟩=(ev V.P cl a ⟨m,C⟩).bind λx aa=>(dE k x aa).bind λu' ae=>.ok x ae:=by
  show (ev V.P cl a ⟨m,C⟩).bind _=_
  congr 1; funext x aa
  unfold dE
  split<;>rfl
 rw [e1]
 refine aj.seq (h m C g s I).1 (λu' u' x=>wpAny_NamedExpr x) λd st g₁ s₁ v u' u' I₁ r=>?_
 refine aj.seq (lJ (A:=A) K I₁ hc hk r) (λu' u' x=>wpAny_assign_Name x) (K:=λu' Q E s=>Q v s) λu' u' g₂ s₂ u' u' br I₂ u'=>?_
 exact λQ E q=>q _ _ _ (.refl _) I₂ (r.mono br.toLe)
theorem Qg {a i:E} {x y:Expr} {p:Pos} (hx:az V F A cl a x) (hy:az V F A cl i y):az V F A cl (.idx a i) (.Subscript x y p):=
 .of rfl λm C g s I=>aj.seq (hx m C g s I).1 (λu' u' x=>Subscript_ x) λu' u' u' u' u' u' u' I₁ rx=>
  aj.seq (hy _ _ _ _ I₁).1 (λu' u' x=>x) λu' u' u' u' u' u' br I₂ ry=>OR I₂ (rx.mono br.toLe) ry
theorem Ew {f:Expr->E} {o:Option Expr} (h : ∀ e,o=some e->az V F A cl (f e) e) (I:ah V F m C g s):aE V F A (af V) (evalPart o F.env) g s (ev V.P cl (o5 f o) ⟨m,C⟩):=by
 induction o with
 |none=>exact λQ E k=>wpAny_evalPart_none (k g _ _ (.refl _) I .none)
 |some e=>exact (h e rfl m C g s I).1
theorem Qx {f:Expr->E} {x:Expr} {lo hi:Option Expr} {sp p:Pos} (hx:az V F A cl (f x) x) (nZ : ∀ e,lo=some e->az V F A cl (f e) e) (sy : ∀ e,hi=some e->az V F A cl (f e) e) :
  az V F A cl (.slice (f x) (o5 f lo) (o5 f hi)) (.Subscript x (.Slice lo hi none sp) p):=by
 refine .of rfl λm C g s I=>?_
 refine aj.seq (hx m C g s I).1 (λu' u' x=>Subscript_ x) λd st g₁ s₁ v u' u' I₁ rx=>?_
 refine aj.seq (Ew nZ I₁) (λu' u' x=>wpAny_Slice x) λd1 aa g₂ s₂ v1 u' br I₂ r1=>?_
 refine aj.seq (Ew sy I₂) (λu' u' x=>x) λd2 ae g₃ s₃ v2 u' gn I₃ r2=>?_
 obtain ⟨q,I₄⟩:=I₃.slice v1 v2
 have L:=(gn.trans q).toLe
 have:=O7 (A:=A) (value:=x) (slice:=.Slice lo hi none sp) I₄ (rx.mono (br.toLe.trans L)) (r1.mono L) (r2.mono q.toLe) (Heap.IsSliceOf.new _ _ _ _)
 exact aj.go (aj.from q this) λQ E x=>wpAny_evalPart_none x
set_option tactic.hygienic true in
theorem Eo {f:Expr->E} : ∀ (es:List Expr),(∀ e∈es,az V F A cl (f e) e)->∀ acc m C g s,ah V F m C g s->
  aj V F (λ(_:Gh) (d:D) (x:Str)=>d=.str x/\x.length<=sizeLine) (λQ E s=>Joins V.M A E (evalEach es F.env) acc Q s) g s (if acc.length<=aF then kP V.P cl acc (bq f es) ⟨m,C⟩ else .fail)
 |[],_,acc,m,C,g,s,I=>by
  split
  ·rename_i h
   exact λQ E k=>k g _ _ (.refl _) I ⟨rfl,dv h⟩
  ·trivial
 |e::r,h,acc,m,C,g,s,I=>by
  split
  ·have ih:=Eo r λx hx=>h x (.tail _ hx)
   show aj _ _ _ _ _ _ ((ev V.P cl (f e) ⟨m,C⟩).bind _)
   refine aj.seq (K:=λ(v:Value) Q E s₁ => ∃ y t,v=Value.str y t/\(acc++y).length<=sizeLine/\Joins V.M A E (evalEach r F.env) (acc++y) Q s₁) (h e (.head _) m C g s I).1 (λQ E x=>show Joins V.M A E (eval e F.env::evalEach r F.env) acc Q s from x) λd st g₁ s₁ v u' u' I₁ rd=>?_
   refine (match d,rd with
   |.str y,.str _ t=>?_
   |.none,_|.bool _,_|.int _,_|.bytes _,_|.bn _,_|.fn _,_|.cls _,_|.tup _,_|.lst _,_|.bZ _ _,_|.loc _,_|.inst _ _,_|.bm _ _,_|.c7 _,_|.e9 _,_=>trivial)
   have wH:=ih (acc++y) _ _ _ _ I₁
   rw [Str.length_append] at wH
   dsimp only
   split
   ·rename_i hz
    rw [if_pos hz] at wH
    exact aj.wp wH λQ E x=>⟨y,t,rfl,by rw [Str.length_append]; exact dv hz,x⟩
   ·trivial
  ·trivial
theorem Qf {f:Expr->E} {es:List Expr} {p:Pos} (h : ∀ e∈es,az V F A cl (f e) e):az V F A cl (.sd (bq f es)) (.JoinedStr es p):=by
 refine .of rfl λm C g s I=>?_
 show aE _ _ _ _ _ _ _ (kP V.P cl Str.empty (bq f es) ⟨m,C⟩)
 have hj : ∀ es,(∀ e∈es,az V F A cl (f e) e)->aj V F (λ(_:Gh) (d:D) (x:Str)=>d=.str x/\x.length<=sizeLine) (λQ E s=>Joins V.M A E (evalEach es F.env) Str.empty Q s) g s (kP V.P cl Str.empty (bq f es) ⟨m,C⟩):=λes h=>by
  have:=Eo es h Str.empty m C g s I
  rwa [if_pos (by decide)] at this
 match es,h with
 |[],h=>
  exact λQ E k=>by
   rw [arm_eval_JoinedStr]
   exact wpAny_mkStr (k g _ _ (.refl _) (I.tok _) (.str _ _)) (by decide)
 |[e],h=>
  show aE _ _ _ _ _ _ _ ((ev V.P cl (f e) ⟨m,C⟩).bind _)
  refine aj.seq (K:=λv Q E s=>Q v s) (h e (.head _) m C g s I).1 (λu' u' x=>wpAny_JoinedStr_one x) λd st g₁ s₁ v u' u' I₁ rd=>?_
  refine (match d,rd with
  |.str y,rd=>?_
  |.none,_|.bool _,_|.int _,_|.bytes _,_|.bn _,_|.fn _,_|.cls _,_|.tup _,_|.lst _,_|.bZ _ _,_|.loc _,_|.inst _ _,_|.bm _ _,_|.c7 _,_|.e9 _,_=>trivial)
  dsimp only
  split
  ·show aj _ _ _ _ _ _ (ak.ok (D.str (Str.empty++y)) st)
   rw [Str.empty_append]
   exact λQ E k=>k _ _ _ (.refl _) I₁ rd
  ·trivial
 |e::e'::r,h=>
  have:=hj (e::e'::r) h
  have e0:kP V.P cl Str.empty (bq f (e::e'::r)) ⟨m,C⟩=(kP V.P cl Str.empty (bq f (e::e'::r)) ⟨m,C⟩).bind λd st=>.ok d st:=by
   induction kP V.P cl Str.empty (bq f (e::e'::r)) ⟨m,C⟩<;>rfl
  rw [e0]
  refine aj.seq this (λu' u' x=>wpAny_JoinedStr x) λd st g₁ s₁ x u' u' I₁ rd=>?_
  obtain ⟨rfl,hz⟩:=rd
  exact λQ E k=>⟨hz,k _ _ _ (.refl _) (I₁.tok _) (.str _ _)⟩
end
theorem Dr (n:Nm):cJ n.str=some n:=by induction n using Nm.casesOn<;>decide +kernel
theorem Nm.inj {a b:Nm} (h:a.str=b.str):a=b:=by
 have:=Dr a
 rw [h,Dr b] at this
 obtain rfl:=Option.some.inj this; rfl
theorem EX (x y:Str) (t:Tok):(Value.str x t).isStr y=decide (x=y):=by
 show (x==y)=_
 by_cases h:x=y
 ·subst h; simp
 ·rw [decide_eq_false h]; exact beq_eq_false_iff_ne.mpr h
structure yg (V:av) (k:Nat) (c:gV):Prop where
 get:W.plainGet V.K (V.aX k) ""=true
 set:W.findIn V.K (.ref (V.aX k)) "__setattr__"=some (some (.builtin "object.__setattr__"))
 over:W.plainOver V.K (V.aX k)=true
 meths : ∀ n f,c.meths.lookup n=some f->W.findIn V.K (.ref (V.aX k)) n.str=some (some (.ref (V.a6 f)))/\W.typeIn V.K (.ref (V.a6 f))=some (.type "function")/\
  W.specialIn V.K (.ref (V.a6 f)) "__get__"=some (some (.builtin "function.__get__"))/\W.takesIn V.K (.ref (V.a6 f))=some false/\W.copiedNames.contains n.str=false
 init:W.findIn V.K (.ref (V.aX k)) "__init__"=some (some (.ref (V.a6 c.init)))
 LM:W.typeIn V.K (.ref (V.a6 c.init))=some (.type "function")
 makes:W.makesIn V.K (V.aX k)=true
 Nk:(c.meths.lookup .bO).isSome=true->W.findIn V.K (.ref (V.aX k)) "__len__"=some none/\W.findIn V.K (.ref (V.aX k)) "__length_hint__"=some none
 own:c.slots=none->W.hasDictIn V.K (V.aX k)=true/\∀ n:Nm,n.mH=true->W.findIn V.K (.ref (V.aX k)) n.str=some none/\W.takerIn V.K (V.aX k) n.str=some none
 slots : ∀ ns,c.slots=some ns->(∀ n,ns.contains n=true->∃ p,W.findIn V.K (.ref (V.aX k)) n.str=some (some (.ref p))/\W.slotIn V.K p (V.aX k)=some (V.gR k (ns.idxOf n))/\
  W.typeIn V.K (.ref p)=some (.type "member_descriptor")/\W.specialIn V.K (.ref p) "__get__"=some (some (.builtin "member_descriptor.__get__"))/\W.takesIn V.K (.ref p)=some true/\
  W.takerIn V.K (V.aX k) n.str=some (some (.ref p)))/\(∀ i j,i<ns.length->j<ns.length->V.gR k i=V.gR k j->i=j)/\(∀ i,i<ns.length->V.gR k i<1000)/\(W.clsIn V.K (V.aX k)).isSome=true
noncomputable def av.cN (V:av):Prop := ∀ k c,V.P.dg k=some c->yg V k c
section
variable {V:av} {G:aV} {F:aD} {A:Around} {cl:Calls} {m:List (Option D)} {C:ai} {g:Gh} {s:Shared}
theorem ah.cR (B:V.Base) (I:ah V F m C g s):V.K.In s.heap:=λa o h=>I.keep a o (B.cR a o h)
set_option tactic.hygienic true in
theorem BD {d:D} {v:Value} (r:af V g d v):W.handedIn v=true:=by
 induction r using af.casesOn<;>first|rfl|(rename_i b; induction b using Bn.casesOn<;>decide +kernel)
inductive yn (V:av) (g:Gh) (h:Heap) (k i:Nat) (es:List (Nm × D)) (v:Value):Prop
 |mk (x dx:Addr) (ox:Obj) (ents:List DictEntry) (n:Nat) (e:v=.ref x) (hI:W.InstAt h x ox (V.aX k) (some (W.dictOf ents n))) (h1:ox.dict=some dx) (h2:g dx=some (.cell i)) (h3:h.get? dx=some (W.dictOf ents n))
  (h4:a0 (iz V g) es ents) (h5:(es.map (·.1)).Nodup):yn V g h k i es v
inductive yx (V:av) (g:Gh) (h:Heap) (k i:Nat) (fs:List (Option D)) (v:Value):Prop
 |mk (x:Addr) (ox:Obj) (e:v=.ref x) (hI:W.InstAt h x ox (V.aX k) (some W.emptyDict)) (h1:g x=some (.cell i)) (h2:h.get? x=some ox) (h3:ox.data=.plain) (h4 : ∃ dx,ox.dict=some dx/\g dx=some (.ay W.emptyDict))
  (h5 : ∀ j,j<fs.length->jg V g (fs[j]?).join (ox.slots[V.gR k j]?).join):yx V g h k i fs v
set_option tactic.hygienic true in
theorem ah.inst (I:ah V F m C g s) {k i:Nat} {v:Value} (r:af V g (.inst k i) v) {es:List (Nm × D)} (hC:C[i]?=some (.cC es)) :
  yn V g s.heap k i es v:=by
 cases r with
 |inst h1 h2=>
  rename_i x dx sl
  obtain ⟨b,o,e1,e2,hz,ents,n,rfl,e4,e5⟩:=I.cell _ _ hC
  cases I.uniq _ _ _ h2 e1
  exact ⟨x,dx,_,ents,n,rfl,⟨I.ay _ _ h1,rfl,rfl,e2⟩,rfl,h2,e2,e4,e5⟩
theorem ah.oH (I:ah V F m C g s) {k i:Nat} {v:Value} (r:af V g (.loc i) v) {fs:List (Option D)} (hC:C[i]?=some (.slots k fs)) :
  yx V g s.heap k i fs v:=by
 cases r with
 |loc h1=>
  obtain ⟨b,o,e1,e2,h2,⟨dx,h3,h4⟩,h5,h6⟩:=I.cell _ _ hC
  cases I.uniq _ _ _ h1 e1
  refine ⟨_,o,rfl,⟨e2,h2,by unfold W.notCls; rw [h5],?_⟩,h1,e2,h5,⟨dx,h3,h4⟩,h6⟩
  rw [h3]; exact I.ay _ _ h4
theorem a0.getL {es:List (Nm × D)} {ents:List DictEntry} (h:a0 (iz V g) es ents) (n:Nm) : ∃ o,W.getL n.str ents=some o/\jg V g (es.lookup n) o:=by
 have Nw : ∀ {es:List (Nm × D)} {ents:List DictEntry},a0 (iz V g) es ents->ents.any (·.refKey)=false:=by
  intro es
  induction es with
  |nil=>intro ents h; induction ents using List.casesOn with|nil=>rfl|cons _ _=>exact h.elim
  |cons e es ih=>
   intro ents h
   induction ents using List.casesOn with
   |nil=>exact h.elim
   |cons en ents=>
    obtain ⟨⟨⟨t,hk⟩,_⟩,h2⟩:=h
    rw [any_cons,ih h2,Bool.or_false]
    unfold DictEntry.refKey; rw [hk]
 have find : ∀ {es:List (Nm × D)} {ents:List DictEntry},a0 (iz V g) es ents->jg V g (es.lookup n) ((ents.find? (·.key.isStr n.str)).map (·.val)):=by
  intro es
  induction es with
  |nil=>intro ents h; induction ents using List.casesOn with|nil=>exact trivial|cons _ _=>exact h.elim
  |cons e es ih=>
   intro ents h
   induction ents using List.casesOn with
   |nil=>exact h.elim
   |cons en ents=>
    obtain ⟨⟨⟨t,hk⟩,hv⟩,h2⟩:=h
    obtain ⟨e1,e2⟩:=e
    rw [lookup_cons,List.find?_cons,hk,EX]
    by_cases q:n=e1
    ·subst q; simp only [beq_self_eq_true,decide_true]; exact hv
    ·have q':(n==e1)=false:=beq_eq_false_iff_ne.mpr q
     have q2:decide (e1.str=n.str)=false:=decide_eq_false λz=>q (Nm.inj z).symm
     simp only [q',q2]
     exact ih h2
 unfold W.getL
 have f:=find h
 induction hf:ents.find? (·.key.isStr n.str) with
 |some en=>rw [hf] at f; exact ⟨_,rfl,f⟩
 |none=>rw [hf] at f; dsimp only; rw [Nw h]; exact ⟨none,rfl,f⟩
theorem Sy {K:W.Frag} {C:Addr} {a b:Str} (h:W.plainGet K C a=true):W.plainGet K C b=true:=h
theorem OP (B:V.Base) (aw:V.cN) (I:ah V F m C g s) {k i:Nat} {n:Nm} {a:Value} {ex:Bool} (hx:af V g (.inst k i) a) :
  aE V F A (af V) (getAttr a n.str ex) g s (cW (eI V.P C (.inst k i) n) ⟨m,C⟩):=by
 refine aE.leaf λd hd Q E q=>?_
 obtain ⟨c,hc,hd⟩:=aO hd
 obtain ⟨es,hC,hd⟩:=aO hd
 obtain ⟨hb,hd⟩:=eA hd
 rw [and_eq_true,isNone_iff_eq_none] at hb
 have ok:=aw k c hc
 obtain ⟨hD,hN⟩:=ok.own hb.1
 obtain ⟨x,dx,ox,ents,nn,rfl,hI,h1,h2,h3,h4,h5⟩:=I.inst hx (uw hC)
 obtain ⟨o,ho,hr⟩:=h4.getL n
 rw [hd] at hr
 obtain ⟨v,rfl,hr⟩:=qs hr
 exact W.get_value (I.cR B) hI (W.plainGet_of ok.get).1 (W.findObj_own (attr:=none) hD (hN n hb.2).1 rfl ho) (BD hr) (q g _ _ (.refl g) (I.tok _) hr)
theorem Lz {ns:List Nm} {n:Nm} (h:ns.contains n=true):ns.idxOf n<ns.length:=List.idxOf_lt_length_of_mem (contains_iff_mem.mp h)
theorem OQ (B:V.Base) (aw:V.cN) (I:ah V F m C g s) {k i:Nat} {n:Nm} {a:Value} {ex:Bool} {fs:List (Option D)} {c:gV} {ns:List Nm} (hx:af V g (.loc i) a)
  (hC:C[i]?=some (.slots k fs)) (hc:V.P.dg k=some c) (hs:c.slots=some ns) (hn:ns.contains n=true) :
  aE V F A (af V) (getAttr a n.str ex) g s (cW (fs[ns.idxOf n]?).join ⟨m,C⟩):=by
 refine aE.leaf λd hd Q E q=>?_
 have ok:=aw k c hc
 obtain ⟨H,inj,bQ,BI⟩:=ok.slots ns hs
 obtain ⟨p,f1,f2,f3,f4,f5,f6⟩:=H n hn
 obtain ⟨x,ox,rfl,hI,h1,h2,h3,h4,h5⟩:=I.oH hx hC
 have hj:ns.idxOf n<fs.length:=by
  rcases Nat.lt_or_ge (ns.idxOf n) fs.length with h|h
  ·exact h
  ·rw [getElem?_eq_none h] at hd; exact ao hd
 have hr:=h5 _ hj
 rw [hd] at hr
 obtain ⟨v,hv,hr⟩:=qs hr
 refine W.get_bind (I.cR B) hI (W.plainGet_of ok.get).1 (W.findObj_data BI f1 f4 f5) (W.plainGet_of ok.get).2 (wpAny_call ?_)
 exact W.slot_get (s:={s with toks:=s.toks+1}) (show V.K.In s.heap from I.cR B) hI f2 hv (W.handed_on (BD hr) (q g _ _ (.refl g) (I.tok _) hr))
set_option tactic.hygienic true in
theorem NT {prog:Program} {w:World} {A:Around} {K:W.Frag} {x Cc dx:Addr} {ox:Obj} {es:List DictEntry} {n:Nat} {name:Str} {tk:Tok} {v:Value} {R:Result->Shared->Prop} (X:K.In s.heap)
  (I:W.InstAt s.heap x ox Cc (some (W.dictOf es n))) (hd:ox.dict=some dx) (hp:W.plainOver K Cc=true) (ht:W.takerIn K Cc name=some none) (hh:(W.clsIn K Cc).any (·.hasDict)=true)
  (hl:(W.getL name es).isSome=true) (D:s.heap.get? dx=some (W.dictOf es n)) (hz:(W.putL name (PyData.keyHash w.params name) (.str name s.toks) v es).length<=1000)
  (h:R (.ok (.ret .none)) {s with heap:=s.heap.update dx (Obj.putName name (PyData.keyHash w.params name) (.str name s.toks) v),toks:=s.toks+1}) :
  codeAny (model prog w) A (.call (.builtin "object.__setattr__") ⟨[.ref x,.str name tk,v],[]⟩) R s:=by
 refine W.osa_open X I hp ht λb=>?_
 obtain ⟨cd,hc,fX⟩:=W.any_some hh
 have D':(s.heap.update dx (Obj.putName name (PyData.keyHash w.params name) (.str name s.toks) v)).get? dx=some (W.dictOf (W.putL name (PyData.keyHash w.params name) (.str name s.toks) v es) (W.putN name es n)):=by
  rw [<-W.putName_dict]
  refine Heap.get?_update_self _ D ?_
  rw [W.putName_dict]; rfl
 obtain ⟨hx,aw,hn,-⟩:=I
 obtain ⟨oc,Sq,DC,NU⟩:=ox
 dsimp only at aw hd
 subst aw hd
 refine wpAny_bind (wpAny_pure (wpAny_bind (wpAny_bind (wpAny_loadPart hx (wpAny_bind ((W.looks_clsIn X hc).here ?_))))))
 rw [fX]
 refine wpAny_pure (a:=some dx) (wpAny_bind (wpAny_pure (wpAny_bind ?_)))
 unfold nsSet
 refine wpAny_bind (wpAny_bind (wpAny_askSetting (wpAny_pure (wpAny_bind (wpAny_mkText (wpAny_bind (wpAny_loadPart D ?_)))))))
 dsimp only
 have c:(!es.toArray.any (·.key.isStr name)&&es.toArray.any (·.refKey))=false:=by
  rw [<-Array.any_toList,<-Array.any_toList]
  unfold W.getL at hl
  split at hl
  ·rename_i en he
   rw [any_eq_true.mpr ⟨en,mem_of_find?_eq_some he,find?_some he⟩]; rfl
  ·split at hl
   ·exact bo hl
   ·rename_i z; rw [not_eq_true] at z; simp only [z,Bool.and_false]
 rw [aRefKeyMayBeTheName_at,c]
 refine wpAny_updatePart D ?_
 refine wpAny_bind (wpAny_lookBehind D' (pastItsLine_dict (by rw [size_toArray,sizeLine_eq]; omega)) ?_)
 exact wpAny_pure h
theorem C6 {n:Nm} {d:D} : ∀ {es:List (Nm × D)} {x:Nm},x∈(putL n d es).map (·.1)->x=n\/x∈es.map (·.1)
 |[],x,h=>by simp only [putL,map_cons,map_nil,mem_singleton] at h; exact .inl h
 |e::r,x,h=>by
  unfold putL at h
  split at h
  ·exact .inr h
  ·simp only [map_cons,mem_cons] at h ⊢
   rcases h with h|h
   ·exact .inr (.inl h)
   ·rcases C6 h with h|h
    ·exact .inl h
    ·exact .inr (.inr h)
set_option tactic.hygienic true in
theorem Dt {n:Nm} {d:D} : ∀ {es:List (Nm × D)},(es.map (·.1)).Nodup->((putL n d es).map (·.1)).Nodup
 |[],_=>by simp [putL]
 |e::r,h=>by
  unfold putL
  split
  ·exact h
  ·rename_i q
   simp only [map_cons,nodup_cons] at h ⊢
   refine ⟨λz=>?_,Dt h.2⟩
   rcases C6 z with z|z
   ·exact q (by rw [z]; exact beq_self_eq_true _)
   ·exact h.1 z
theorem CL {α:Type} [BEq α] {n:α} {d:D} : ∀ {es:List (α × D)},(putL n d es).length<=es.length+1
 |[]=>le_refl _
 |e::r=>by
  unfold putL
  split
  ·exact le_succ _
  ·exact succ_le_succ CL
theorem a0.length {α β:Type} {R:α->β->Prop} : ∀ {as:List α} {bs:List β},a0 R as bs->as.length=bs.length
 |[],[],_=>rfl
 |_::_,_::_,h=>congrArg (· + 1) h.2.length
 |[],_::_,h=>h.elim
 |_::_,[],h=>h.elim
theorem a0.putL {n:Nm} {d:D} {v:Value} {hs:Int} {t:Tok} (r:af V g d v) : ∀ {es:List (Nm × D)} {ents:List DictEntry},a0 (iz V g) es ents->
  a0 (iz V g) (Mine.Lake.putL n d es) (W.putL n.str hs (.str n.str t) v ents)
 |[],[],_=>⟨⟨⟨t,rfl⟩,r⟩,trivial⟩
 |e::es,en::ents,h=>by
  obtain ⟨⟨⟨t',hk⟩,hv⟩,h2⟩:=h
  unfold Mine.Lake.putL W.putL
  rw [hk,EX]
  by_cases q:e.1=n
  ·rw [q]
   simp only [beq_self_eq_true,decide_true,if_true]
   exact ⟨⟨⟨t',rfl⟩,r⟩,h2⟩
  ·have q':(e.1==n)=false:=beq_eq_false_iff_ne.mpr q
   have q2:decide (e.1.str=n.str)=false:=decide_eq_false λz=>q (Nm.inj z)
   simp only [q',q2,false_eq_true,if_false]
   exact ⟨⟨⟨t',hk⟩,hv⟩,a0.putL r h2⟩
 |[],_::_,h=>h.elim
 |_::_,[],h=>h.elim
set_option tactic.hygienic true in
theorem PI (sl:Array (Option Value)) (i i':Nat) (v:Value):(((sl++Array.replicate (i+1 - sl.size) none).setIfInBounds i (some v))[i']?).join=if i'=i then some v else (sl[i']?).join:=by
 rw [Array.getElem?_setIfInBounds]
 by_cases e:i=i'
 ·subst e
  rw [if_pos rfl,if_pos rfl,if_pos (by simp; omega)]; rfl
 ·rw [if_neg e,if_neg (Ne.symm e)]
  rw [Array.getElem?_append]
  split
  ·rfl
  ·rename_i h
   rw [Array.getElem?_replicate,Array.getElem?_eq_none (le_of_not_lt h)]
   split<;>rfl
open PySem PySem.W PySem.Calls PyProof.Rows Builtin Builtin.ObjectAttr Builtin.Getset_descriptor in
theorem PH {prog:Program} {w:World} {A:Around} {K:W.Frag} {x Cc:Addr} {ox:Obj} {od:Option Obj} {v:Value} {p i:Nat} {R:Result->Shared->Prop} (X:K.In s.heap) (I:W.InstAt s.heap x ox Cc od)
  (hp:W.slotIn K p Cc=some i) (hi:i<1000)
  (h:R (.ok (.ret .none)) {s with heap:=s.heap.update x (λo=>{o with slots:=(o.slots++Array.replicate (i+1 - o.slots.size) none).setIfInBounds i (some v)})}) :
  codeAny (model prog w) A (.call (.builtin "member_descriptor.__set__") ⟨[.ref p,.ref x,v],[]⟩) R s:=by
 obtain ⟨n,tn,owner,behind,tb,d,sl,cd,ho,hc,hm,hb,rfl⟩:=W.slot_of X hp
 obtain ⟨hh,g,dr,t,os⟩:=s
 have L0:=I.type (M:=model prog w)
 have L1:=W.looks_mroIn (M:=model prog w) X hm
 have L2:Looks (model prog w) hh (Slots.slotNamesOf (.ref Cc)) cd.slotNames:=(W.looks_clsIn X hc).andThen .now
 have hx:=I.at_
 dsimp only at ho hx L0 L1
 have f0:=W.looks_field (M:=model prog w) ho 0 (v:=.str n tn) rfl
 have f1:=W.looks_field (M:=model prog w) ho 1 (v:=owner) rfl
 have f3:=W.looks_field (M:=model prog w) ho 3 (v:=.builtin "proto.slot#set") rfl
 have f4:=W.looks_field (M:=model prog w) ho 4 (v:=.int behind tb) rfl
 refine codeAny_call_builtin W.KF.slot_mset.plain W.KF.entry_mset (W.KF.slot_mset.check _ _ _ _ _ _ _ _ ⟨_,ho,rfl⟩ (W.KF.args_mset _ _ _) ?_)
 unfold Builtin.«member_descriptor.__set__» descrSet descrStoreThrough descrCheckInstance descrNameAndClass isInstance
 have f5:Looks (model prog w) hh (descrItself (.ref p)) [.ref p]:=((W.Looks.ld (part:=none) ho).andThen .now).andThen (Looks.of_pure (by kernel_rfl))
 repeat lk
 refine ⟨Code.quiet_builtin _ (by decide +kernel),codeAny_builtin W.KF.entry_slotset ?_⟩
 unfold Builtin.«proto.slot#set» Slots.target
 repeat lk
 rw [if_neg hb]
 refine wpAny_pure (wpAny_bind ?_)
 unfold setSlotAt
 dsimp only
 rw [if_neg (by rw [sizeLine_eq]; omega)]
 exact wpAny_updatePart hx (wpAny_pure h)
theorem aj.memo {α β:Type} {R:Gh->β->α->Prop} {W:Tr α} {o:Option ai} {f:ai->ak β} (h : ∀ C',o=some C'->aj V F R W g s (f C')):aj V F R W g s ((gh o m).bind λu' st=>f st.C):=by
 induction o with
 |none=>trivial
 |some C'=>exact h C' rfl
theorem Pw (B:V.Base) (aw:V.cN) (I:ah V F m C g s) {k i:Nat} {n:Nm} {a:Value} {d:D} {v:Value} {c:gV} {es:List (Nm × D)} (hx:af V g (.inst k i) a) (hv:af V g d v) (hc:V.P.dg k=some c)
  (hC:C[i]?=some (.cC es)) (hs:c.slots=none) (hn:n.mH=true) (hl:es.length<64):aE V F A dF (setAttr a n.str v) g s (.ok () ⟨m,C.set i (.cC (putL n d es))⟩):=λQ E q=>by
 have ok:=aw k c hc
 obtain ⟨hD,hN⟩:=ok.own hs
 obtain ⟨x,dx,ox,ents,nn,rfl,hI,h1,h2,h3,h4,h5⟩:=I.inst hx hC
 obtain ⟨ov,KG,_⟩:=h4.getL n
 have h6:=a0.putL (n:=n) (hs:=PyData.keyHash V.w.params n.str) (t:=s.toks+1) hv h4
 have hz:(putL n d es).length<=64:=le_trans CL hl
 refine W.set_plain (I.cR B) hI ok.set ?_
 refine NT (s:={s with toks:=s.toks+1}) (show V.K.In s.heap from I.cR B) hI h1 ok.over (hN n hn).2 hD (by rw [KG]; rfl) h3 (le_trans (h6.length ▸ hz) (by decide)) ?_
 have D':(s.heap.update dx (Obj.putName n.str (PyData.keyHash V.w.params n.str) (.str n.str (s.toks+1)) v)).get? dx=some (W.dictOf (W.putL n.str (PyData.keyHash V.w.params n.str) (.str n.str (s.toks+1)) v ents) (W.putN n.str ents nn)):=by
  rw [<-W.putName_dict]
  refine Heap.get?_update_self _ h3 ?_
  rw [W.putName_dict]; rfl
 exact q g () _ (.refl g) (I.cellSet h2 (Heap.SameBut.update ..) D' ⟨hz,_,_,rfl,h6,Dt h5⟩) trivial
theorem Px (B:V.Base) (aw:V.cN) (I:ah V F m C g s) {k i:Nat} {n:Nm} {a:Value} {d:D} {v:Value} {c:gV} {fs:List (Option D)} {ns:List Nm} (hx:af V g (.loc i) a) (hv:af V g d v) (hc:V.P.dg k=some c)
  (hC:C[i]?=some (.slots k fs)) (hs:c.slots=some ns) (hn:ns.contains n=true) (hl:fs.length=ns.length):aE V F A dF (setAttr a n.str v) g s (.ok () ⟨m,C.set i (.slots k (fs.set (ns.idxOf n) (some d)))⟩):=λQ E q=>by
 have ok:=aw k c hc
 obtain ⟨H,inj,bQ,BI⟩:=ok.slots ns hs
 obtain ⟨p,f1,f2,f3,f4,f5,f6⟩:=H n hn
 obtain ⟨x,ox,rfl,hI,h1,h2,h3,h4,h5⟩:=I.oH hx hC
 have hj:=Lz hn
 refine W.set_plain (I.cR B) hI ok.set ?_
 refine W.osa_descr (s:={s with toks:=s.toks+1}) W.KF.slot_mset (show V.K.In s.heap from I.cR B) hI ok.over f6 f3 ?_
 refine PH (s:={s with toks:=s.toks+1}) (show V.K.In s.heap from I.cR B) hI f2 (bQ _ hj) ?_
 have D':=Heap.get?_update_self (λo=>{o with slots:=(o.slots++Array.replicate (V.gR k (ns.idxOf n)+1 - o.slots.size) none).setIfInBounds (V.gR k (ns.idxOf n)) (some v)}) h2 (by show Obj.isFreed _=false; unfold Obj.isFreed; simp only [h3])
 refine q g () _ (.refl g) (I.cellSet h1 (Heap.SameBut.update ..) D' ⟨hI.cls,h4,h3,λj sC=>?_⟩) trivial
 rw [length_set] at sC
 rw [PI,getElem?_set]
 by_cases e:ns.idxOf n=j
 ·subst e
  rw [if_pos rfl,if_pos rfl,if_pos sC]
  exact hv
 ·rw [if_neg e,if_neg λz=>e (inj _ _ hj (hl ▸ sC) z.symm)]
  exact h5 j sC
theorem xD (B:V.Base) (aw:V.cN) (I:ah V F m C g s) {o:D} {n:Nm} {a:Value} {d:D} {v:Value} (hx:af V g o a) (hv:af V g d v) :
  aE V F A dF (setAttr a n.str v) g s (gh (eX V.P o n d C) m):=by
 induction ho:eX V.P o n d C with
 |none=>trivial
 |some C'=>
  show aE V F A dF (setAttr a n.str v) g s (.ok () ⟨m,C'⟩)
  induction o using D.casesOn<;>first|exact ao ho|skip
  ·obtain ⟨ch,hC,ho⟩:=aO ho
   induction ch using Ch.casesOn<;>first|exact ao ho|skip
   obtain ⟨c,hc,ho⟩:=aO ho
   obtain ⟨ns,hs,ho⟩:=aO ho
   obtain ⟨hb,ho⟩:=eA ho
   rw [and_eq_true,decide_eq_true_eq] at hb
   obtain rfl:=Option.some.inj ho
   exact Px B aw I hx hv hc hC hs hb.1 hb.2
  ·obtain ⟨c,hc,ho⟩:=aO ho
   obtain ⟨es,hC,ho⟩:=aO ho
   obtain ⟨hb,ho⟩:=eA ho
   rw [and_eq_true,and_eq_true,isNone_iff_eq_none,decide_eq_true_eq] at hb
   obtain rfl:=Option.some.inj ho
   exact Pw B aw I hx hv hc (uw hC) hb.1.1 hb.1.2 hb.2
end
end Mine.Lake
end
section
set_option maxRecDepth 100000
open PySem PySem.W PySem.Calls PyProof.Rows Builtin
namespace Mine.Lake
namespace AB
theorem slot_get:Slot "wrapper_descriptor" "__get__" "wrapper_descriptor.__get__":=
 .of (owner:="wrapper_descriptor") (n:="__get__") (by rw [typeLookup_type,builtinLookup_eq_fast]; kernel_rfl) (by decide +kernel) (by decide +kernel) (by decide +kernel)
  (by first|exact .inl (by decide +kernel)|exact .inr (by decide +kernel)) (by rw [isSubtype_type]; kernel_rfl)
theorem HT:entryFor table "wrapper_descriptor.__get__"=some Builtin.«wrapper_descriptor.__get__» := entryFor_of_tree (by kernel_rfl)
theorem FZ (a b c:Value):argsOk "wrapper_descriptor.__get__" ⟨[a,b,c],[]⟩:=by unfold argsOk; kernel_rfl
theorem Rr:typeOf (.builtin "list.__contains__")=pure (.type "wrapper_descriptor"):=by show builtinType _=_; rw [builtinType_eq_fast]; kernel_rfl
theorem Rt:typeOf (.builtin "list_iterator.__next__")=pure (.type "wrapper_descriptor"):=by show builtinType _=_; rw [builtinType_eq_fast]; kernel_rfl
theorem Nu:typeLookup (.type "wrapper_descriptor") "__set__"=pure none:=by rw [typeLookup_type,builtinLookup_eq_fast]; kernel_rfl
theorem Nt:typeLookup (.type "wrapper_descriptor") "__delete__"=pure none:=by rw [typeLookup_type,builtinLookup_eq_fast]; kernel_rfl
theorem My:typeLookup (.type "wrapper_descriptor") "__get__"=pure (some (.builtin "wrapper_descriptor.__get__")):=slot_get.lookup
theorem Mz:typeLookup (.type "list") "__contains__"=pure (some (.builtin "list.__contains__")):=by rw [typeLookup_type,builtinLookup_eq_fast]; kernel_rfl
theorem MA:typeLookup (.type "list_iterator") "__next__"=pure (some (.builtin "list_iterator.__next__")):=by rw [typeLookup_type,builtinLookup_eq_fast]; kernel_rfl
theorem ME {M:Model} {h:Heap} {v:Value} (ht:typeOf v=pure (.type "wrapper_descriptor")):Looks M h (ObjectAttr.takesStores v) false:=by
 unfold ObjectAttr.takesStores
 have s1:Looks M h (specialOf v (Str.ofString "__set__")) none:=(Looks.of_pure ht).andThen (Looks.of_pure Nu)
 have s2:Looks M h (specialOf v (Str.ofString "__delete__")) none:=(Looks.of_pure ht).andThen (Looks.of_pure Nt)
 refine s1.andThen ?_
 simp only [Option.isSome_none,false_eq_true,if_false]
 exact s2.andThen .now
theorem MC {M:Model} {h:Heap} {a:Addr} {o:Obj} {T:String} {name:Str} {id:String} (hx:h.get? a=some o) (hc:o.cls=.type T) (hn:W.notCls o=true) (hd:o.dict=none)
  (hl:typeLookup (.type T) name=pure (some (.builtin id))) (ht:typeOf (.builtin id)=pure (.type "wrapper_descriptor")) (hg:W.copiedNames.contains name=false) :
  Looks M h (ObjectAttr.find (.ref a) (.type T) name) (.bind (.builtin "wrapper_descriptor.__get__") (.builtin id)):=by
 obtain ⟨oc,od,DC,NU⟩:=o
 dsimp only at hc hd
 subst hc hd
 unfold ObjectAttr.find
 refine (Looks.of_pure hl).andThen ?_
 refine (show Looks M h (ObjectAttr.getOf _) (some (.builtin "wrapper_descriptor.__get__")) from (Looks.of_pure ht).andThen (Looks.of_pure My)).andThen ?_
 refine (show Looks M h (ObjectAttr.dataDescriptor? _ _) none from by
  show Looks M h (ObjectAttr.takesStores (.builtin id) >>= λr=>if r=true then _ else _) none
  refine (ME ht).andThen ?_
  simp only [false_eq_true,if_false]
  exact .now).andThen ?_
 unfold ObjectAttr.ownThenClass
 have L:Looks M h (instanceDict a false) none:=by
  unfold instanceDict
  exact (Looks.ld hx).andThen .now
 have L1:Looks M h (ObjectAttr.ownDict a) none:=by
  unfold ObjectAttr.ownDict
  refine (Looks.ld hx).andThen ?_
  induction DC using Data.casesOn<;>first|exact L|exact bo hn
 refine (show Looks M h (ObjectAttr.inOwnDict name (.ref a)) none from L1.andThen .now).andThen ?_
 have mj:(["__module__","__name__","__qualname__","__doc__","__annotations__"]:List Str).contains name=false:=hg
 refine (show Looks M h (ObjectAttr.copiedAttributeGuard name (.ref a)) () from by
  unfold ObjectAttr.copiedAttributeGuard
  simp only [mj]
  exact .now).andThen ?_
 exact Looks.tag .now
section
variable {prog:Program} {w:World} {A:Around} {E:Value->Shared->Prop} {s:Shared}
theorem GA {a:Addr} {P:Fin->Shared->Prop} (hs:Looks (model prog w) s.heap (isInstance (.ref a) (.type "list")) true)
  (h:P (.done (.ret (.ref s.heap.objs.size))) {s with heap:=s.heap.push {cls:=.type "method-wrapper",data:=.fields #[.builtin "list.__contains__",.ref a]}}) :
  wpAny (model prog w) A (Builtin.«wrapper_descriptor.__get__» ⟨[.builtin "list.__contains__",.ref a,.type "list"],[]⟩) P E s:=by
 unfold Builtin.«wrapper_descriptor.__get__»
 refine wpAny_bind (wpAny_of_eq (a:=(.builtin "list.__contains__",some (.ref a),some (.type "list"))) (by first|rfl|kernel_rfl) ?_)
 refine wpAny_bind ?_
 refine wpAny_bind (wpAny_of_eq (a:=((Str.ofString "__contains__"),Value.type "list")) (by first|rfl|kernel_rfl) ?_)
 refine wpAny_bind (hs.here ?_)
 refine wpAny_pure ?_
 exact wpAny_bind (wpAny_newObj_type (wpAny_pure h))
theorem GB {a:Addr} {P:Fin->Shared->Prop} (hs:Looks (model prog w) s.heap (isInstance (.ref a) (.type "list_iterator")) true)
  (h:P (.done (.ret (.ref s.heap.objs.size))) {s with heap:=s.heap.push {cls:=.type "method-wrapper",data:=.fields #[.builtin "list_iterator.__next__",.ref a]}}) :
  wpAny (model prog w) A (Builtin.«wrapper_descriptor.__get__» ⟨[.builtin "list_iterator.__next__",.ref a,.type "list_iterator"],[]⟩) P E s:=by
 unfold Builtin.«wrapper_descriptor.__get__»
 refine wpAny_bind (wpAny_of_eq (a:=(.builtin "list_iterator.__next__",some (.ref a),some (.type "list_iterator"))) (by first|rfl|kernel_rfl) ?_)
 refine wpAny_bind ?_
 refine wpAny_bind (wpAny_of_eq (a:=((Str.ofString "__next__"),Value.type "list_iterator")) (by first|rfl|kernel_rfl) ?_)
 refine wpAny_bind (hs.here ?_)
 refine wpAny_pure ?_
 exact wpAny_bind (wpAny_newObj_type (wpAny_pure h))
theorem Hn:W.copiedNames.contains (Str.ofString "__contains__")=false:=by decide +kernel
theorem Ho:W.copiedNames.contains (Str.ofString "__next__")=false:=by decide +kernel
set_option maxHeartbeats 4000000 in
theorem Bo {T id gid:String} {name:Str} {a:Addr} {o:Obj} {Q:Value->Shared->Prop} (hx:s.heap.get? a=some o) (hc:o.cls=.type T) (hn:W.notCls o=true) (hd:o.dict=none)
  (hl:typeLookup (.type T) name=pure (some (.builtin id))) (ht:typeOf (.builtin id)=pure (.type "wrapper_descriptor")) (hg:W.copiedNames.contains name=false)
  (sg:Slot T "__getattribute__" gid) (eg:entryFor table gid=some Builtin.«object.__getattribute__») (ag : ∀ a b,argsOk gid ⟨[a,b],[]⟩)
  (fin : ∀ {P:Fin->Shared->Prop} {A':Around} {E':Value->Shared->Prop} {s':Shared},s'.heap=s.heap->P (.done (.ret (.ref s'.heap.objs.size))) {s' with heap:=s'.heap.push {cls:=.type "method-wrapper",data:=.fields #[.builtin id,.ref a]}}->
   wpAny (model prog w) A' (Builtin.«wrapper_descriptor.__get__» ⟨[.builtin id,.ref a,.type T],[]⟩) P E' s')
  (h:Q (.ref s.heap.objs.size) {s with heap:=s.heap.push {cls:=.type "method-wrapper",data:=.fields #[.builtin id,.ref a]},toks:=s.toks+1}) :
  wpAny (model prog w) A (getAttr (.ref a) name true) Q E s:=by
 obtain ⟨hp,g,d,tk,os⟩:=s
 dsimp only at hx fin
 have lf := @MC (model prog w) hp a o T name id hx hc hn hd hl ht hg
 have hT : ∀ Rd,(⟨hp,g,d,Rd,os⟩:Shared).TypeIs (.ref a) T:=λu'=>⟨_,hx,hc⟩
 have lT:Looks (model prog w) hp (typeOf (.ref a)) (.type T):=hc ▸ (Looks.ld hx).andThen .now
 have f3:=sg.lookup
 have f4:=sg.bind (.ref a)
 unfold getAttr getAttrBy
 refine wpAny_bind (wpAny_mkText (wpAny_holding (wpAny_bind (lT.at (wpAny_bind (wpAny_of_eq f3 ?_))))))
 dsimp only
 rw [if_neg (show ¬ ((onTheHeap (.type T)&&Value.builtin gid==Value.builtin "object.__getattribute__")=true) by rw [show onTheHeap (.type T)=false from rfl]; exact Bool.false_ne_true)]
 unfold getAttrByItsOwn
 refine wpAny_bind (wpAny_of_eq (a:=none) rfl ?_)
 refine wpAny_bind (wpAny_attempt (wpAny_holding ?_))
 unfold callGetattribute
 rw [if_neg (show ¬ ((true&&onTheHeap (Value.builtin gid))=true) by rw [show onTheHeap (Value.builtin gid)=false from rfl]; exact Bool.false_ne_true)]
 unfold boundAndCalled
 refine wpAny_bind (wpAny_of_eq f4 ?_)
 refine wpAny_call_entry sg (hT _) eg ?_ (ag _ _)
 unfold Builtin.«object.__getattribute__»
 refine wpAny_bind (wpAny_of_eq (a:=(.ref a,[Value.str name tk])) (by first|rfl|kernel_rfl) ?_)
 refine wpAny_bind (wpAny_of_eq (a:=name) (by first|rfl|kernel_rfl) ?_)
 refine wpAny_bind (lT.at ?_)
 refine wpAny_bind (lf.at ?_)
 show wpAny _ _ (holding [Value.builtin id] (call (.builtin "wrapper_descriptor.__get__") [.builtin id,.ref a,.type T]) >>= λv=>ret v) _ _ _
 refine wpAny_bind (wpAny_holding (wpAny_call_entry slot_get ht HT ?_ (FZ _ _ _)))
 refine fin rfl ⟨_,rfl,?_⟩
 refine wpAny_pure ⟨_,rfl,?_⟩
 exact wpAny_pure h
theorem QY:isSubtype (.type "list") (.type "list")=pure true:=by rw [isSubtype_type]; kernel_rfl
theorem QX:isSubtype (.type "list_iterator") (.type "list_iterator")=pure true:=by rw [isSubtype_type]; kernel_rfl
theorem PG:Slot "list_iterator" "__getattribute__" "object.__getattribute__":=
 .of (owner:="object") (n:="__getattribute__") (by rw [typeLookup_type,builtinLookup_eq_fast]; kernel_rfl) (by decide +kernel) (by decide +kernel) (by decide +kernel)
  (by first|exact .inl (by decide +kernel)|exact .inr (by decide +kernel)) (by rw [isSubtype_type]; kernel_rfl)
theorem F0 (a b:Value):argsOk "object.__getattribute__" ⟨[a,b],[]⟩:=by unfold argsOk; kernel_rfl
theorem HU:entryFor table "object.__getattribute__"=some Builtin.«object.__getattribute__» := entryFor_of_tree (by kernel_rfl)
theorem IZ {a:Addr} {o:Obj} {Q:Value->Shared->Prop} (hx:s.heap.get? a=some o) (hc:o.cls=.type "list") (hn:W.notCls o=true) (hd:o.dict=none)
  (h:Q (.ref s.heap.objs.size) {s with heap:=s.heap.push {cls:=.type "method-wrapper",data:=.fields #[.builtin "list.__contains__",.ref a]},toks:=s.toks+1}) :
  wpAny (model prog w) A (getAttr (.ref a) (Str.ofString "__contains__") true) Q E s:=by
 have lI:Looks (model prog w) s.heap (isInstance (.ref a) (.type "list")) true:=(hc ▸ (Looks.ld hx).andThen .now:Looks (model prog w) s.heap (typeOf (.ref a)) (.type "list")).andThen (Looks.of_pure QY)
 refine Bo (T:="list") (id:="list.__contains__") (gid:="list.__getattribute__") hx hc hn hd Mz Rr Hn F.slot_list_getattribute am_entry_list_getattribute F.args_list_getattribute_2 (λ{P A' E' s'} e z=>GA (e ▸ lI) z) h
theorem I0 {a:Addr} {o:Obj} {Q:Value->Shared->Prop} (hx:s.heap.get? a=some o) (hc:o.cls=.type "list_iterator") (hn:W.notCls o=true) (hd:o.dict=none)
  (h:Q (.ref s.heap.objs.size) {s with heap:=s.heap.push {cls:=.type "method-wrapper",data:=.fields #[.builtin "list_iterator.__next__",.ref a]},toks:=s.toks+1}) :
  wpAny (model prog w) A (getAttr (.ref a) (Str.ofString "__next__") true) Q E s:=by
 have lI:Looks (model prog w) s.heap (isInstance (.ref a) (.type "list_iterator")) true:=(hc ▸ (Looks.ld hx).andThen .now:Looks (model prog w) s.heap (typeOf (.ref a)) (.type "list_iterator")).andThen (Looks.of_pure QX)
 refine Bo (T:="list_iterator") (id:="list_iterator.__next__") (gid:="object.__getattribute__") hx hc hn hd MA Rt Ho PG HU F0 (λ{P A' E' s'} e z=>GB (e ▸ lI) z) h
end
end AB
end Mine.Lake
end
section
open PySem PyProof.Rows
namespace Mine.Lake
theorem Nh : ∀ p∈Dq,p.1=p.2.str:=by decide +kernel
set_option tactic.hygienic true in
theorem CP {β:Type} : ∀ {l:List (Str × β)} {x:Str} {b:β},l.lookup x=some b->(x,b)∈l
 |[],_,_,h=>by exact ao h
 |e::r,x,b,h=>by
  rw [lookup_cons] at h
  split at h
  ·rename_i q
   obtain rfl:=Option.some.inj h
   rw [eq_of_beq q]
   exact .head _
  ·exact .tail _ (CP h)
theorem lC {x:Str} {n:Nm} (h:cJ x=some n):x=n.str:=Nh _ (CP h)
section
variable {V:av} {G:aV} {F:aD} {A:Around} {cl:Calls} {m:List (Option D)} {C:ai} {g:Gh} {s:Shared}
inductive yf (V:av) (g:Gh) (h:Heap) (i:Nat) (ds:List D) (v:Value):Prop
 |mk (a:Addr) (vs:List Value) (n:Nat) (e:v=.ref a) (hg:g a=some (.cell i)) (hl:IsL h a vs.toArray n) (hz:vs.length<=aF) (rs:aG V g ds vs):yf V g h i ds v
theorem ah.lz (I:ah V F m C g s) {i:Nat} {v:Value} (r:af V g (.loc i) v) {ds:List D} (hC:C[i]?=some (.list ds)):yf V g s.heap i ds v:=by
 cases r with
 |loc h1=>
  obtain ⟨b,o,e1,e2,vs,⟨hl,n,rfl⟩,e4⟩:=I.cell _ _ hC
  cases I.uniq _ _ _ h1 e1
  exact ⟨_,vs,n,rfl,h1,e2,hl,e4⟩
theorem ah.kl (I:ah V F m C g s) (o:Obj) (hf:o.isFreed=false) (t:Nat):g.Step (g.put s.heap.objs.size (some (.ay o)))/\ah V F m C (g.put s.heap.objs.size (some (.ay o))) {s with heap:=s.heap.push o,toks:=t}:=
 ⟨Gh.kr I.eY,I.w8 o hf t⟩
theorem O1 (I:ah V F m C g s) {i:Nat} {a:Value} {src:D} {p:Nat} (hx:af V g (.loc i) a) (hC:C[i]?=some (.bf src p)) (hs:(aT C src).isSome=true) :
  aE V F A (af V) (getAttr a (Str.ofString "__next__") true) g s (.ok (.bm .bO (.loc i)) ⟨m,C⟩):=λQ E q=>by
 obtain ⟨l,h1,rfl⟩:=hx.gc
 obtain ⟨b,o,e1,e2,e3⟩:=I.cell _ _ hC
 cases I.uniq _ _ _ h1 e1
 have u5 : ∃ v t,eG "list_iterator" [v,.int p t] o/\af V g src v:=by
  induction src using D.casesOn<;>first|exact e3|exact bo hs
 obtain ⟨v,t,rfl,_⟩:=u5
 refine AB.I0 e2 rfl rfl rfl ?_
 obtain ⟨st,I'⟩:=I.kl {cls:=.type "method-wrapper",data:=.fields #[.builtin "list_iterator.__next__",.ref l]} rfl (s.toks+1)
 exact q _ _ _ st I' (.nB (Gh.bh ..) rfl (.loc (st.toLe.cell _ _ h1)))
theorem Ej (B:V.Base) (aw:V.cN) (I:ah V F m C g s) {o:D} {n:Nm} {a:Value} (hx:af V g o a) :
  aE V F A (af V) (getAttr a n.str true) g s (cW (eI V.P C o n) ⟨m,C⟩):=by
 have contains : ∀ {d:D},af V g d a->(∃ l vs k,a=.ref l/\IsL s.heap l vs k)->aE V F A (af V) (getAttr a (Str.ofString "__contains__") true) g s (.ok (.bm .a8 d) ⟨m,C⟩):=λ{d} hr ⟨l,vs,k,e,hl⟩ Q E q=>by
  subst e
  refine AB.IZ hl rfl rfl rfl ?_
  obtain ⟨st,I'⟩:=I.kl {cls:=.type "method-wrapper",data:=.fields #[.builtin "list.__contains__",.ref l]} rfl (s.toks+1)
  exact q _ _ _ st I' (.nA (Gh.bh ..) rfl (hr.mono st.toLe))
 induction o using D.casesOn with
 |inst k i=>exact OP B aw I hx
 |lst ds=>
  induction n using Nm.casesOn<;>first|trivial|skip
  obtain ⟨l,vs,k,e,hl,_⟩:=I.list hx (ds:=ds) rfl
  exact contains hx ⟨l,_,k,e,hl⟩
 |loc i=>
  refine aE.opt λd hd=>?_
  obtain ⟨ch,hC,hd⟩:=aO hd
  induction ch using Ch.casesOn<;>first|exact ao hd|skip
  ·induction n using Nm.casesOn<;>first|exact ao hd|skip
   obtain rfl:=Option.some.inj hd
   obtain ⟨l,vs,k,e,_,hl,_⟩:=I.lz hx hC
   exact contains hx ⟨l,_,k,e,hl⟩
  ·obtain ⟨c,hc,hd⟩:=aO hd
   obtain ⟨ns,hs,hd⟩:=aO hd
   obtain ⟨hn,hd⟩:=eA hd
   have:=OQ (A:=A) (ex:=true) B aw I hx hC hc hs hn
   rw [hd] at this; exact this
  ·induction n using Nm.casesOn<;>first|exact ao hd|skip
   obtain ⟨hs,hd⟩:=eA hd
   obtain rfl:=Option.some.inj hd
   exact O1 I hx hC hs
 |_=>trivial
theorem uB {o:Expr} {attr:Str} {env:Env} {w:Sem Value} (h:mI o=false):attributeBase o attr env w=w:=by
 induction o using Expr.casesOn with
 |Call f as ks q=>induction f using Expr.casesOn<;>first|rfl|(induction as using List.casesOn<;>first|rfl|(induction ks using List.casesOn<;>first|exact fN h|rfl))
 |_=>rfl
theorem PY (B:V.Base) (aw:V.cN) {v:Expr} {attr:Str} {n:Nm} {p:Pos} {a:E} (hv:mI v=false) (hn:cJ attr=some n) (h:az V F A cl a v) :
  az V F A cl (.attr a n) (.Attribute v attr p):=by
 have e:=lC hn
 subst e
 refine .of rfl λm C g s I=>?_
 refine aj.seq (h m C g s I).1 (λQ E x=>Attribute_any_ x ?_) λd st g₁ s₁ w u' u' I₁ r=>Ej B aw I₁ r
 show (do let o <-attributeBase v n.str F.env (eval v F.env); _)=_
 rw [uB hv]
theorem uP {M:Model} {A:Around} {E:Value->Shared->Prop} {s:Shared} {pos:Pos} {f:Value} {first:List Value} {args:List (Bool × Sem Value)} {keywords:List (Option Str × Sem Value)} {Q:Value->Shared->Prop}
  (h:wpAny M A (evalArgs f true args keywords) (λa s₁=>(∃ k,W.Looks M s₁.heap (keeperOf f) k)/\wpAny M A (call f (first++a.pos) a.kw) Q E s₁) E s):wpAny M A (callWith pos f first args keywords) Q E s:=by
 unfold callWith
 refine wpAny_bind (wpAny_holding (wpAny_mono h (λa s₁ h₁=>wpAny_bind (wpAny_standAt ?_)) λu' u' x=>x))
 obtain ⟨⟨k,L⟩,h₁⟩:=h₁
 refine wpAny_bind (L.here ?_)
 have tail : ∀ {t:Sem Value},wpAny M A t Q E s₁->wpAny M A (t >>= λr=>holding [r] point >>= λu'=>pure r) Q E s₁:=
  λht=>wpAny_bind (wpAny_mono ht (λr s₂ hr=>wpAny_bind (wpAny_holding (wpAny_point (wpAny_pure hr)))) λu' u' x=>x)
 have marked (mk:Value):wpAny M A (callMarked mk f (first++a.pos) a.kw) Q E s₁:=by unfold callMarked; exact Calls.wpAny_keep h₁
 have NO (vs:List Value):wpAny M A (operate vs (call f (first++a.pos) a.kw)) Q E s₁:=Fj h₁
 induction (args.any (·.1)||keywords.any (·.1.isNone))<;>cases k<;>dsimp only<;>first|exact tail h₁|exact tail (NO _)|exact tail (marked _)|(split<;>first|exact tail h₁|exact tail (marked _))
noncomputable def gs (V:av) (g:Gh):List (Nm × D)->List (Str × Value)->Prop:=a0 λa b=>b.1=a.1.str/\af V g a.2 b.2
theorem gs.mono {g g':Gh} (L:g.Le g') {a:List (Nm × D)} {b:List (Str × Value)} (h:gs V g a b):gs V g' a b:=a0.imp (λu' u' x=>⟨x.1,x.2.mono L⟩) h
theorem gs.snoc {V:av} {g:Gh} {n:Nm} {d:D} {v:Value} (r:af V g d v) : ∀ {a:List (Nm × D)} {b:List (Str × Value)},gs V g a b->gs V g (a++[(n,d)]) (b++[(n.str,v)])
 |[],[],_=>⟨⟨rfl,r⟩,trivial⟩
 |_::_,_::_,h=>⟨h.1,gs.snoc r h.2⟩
 |[],_::_,h=>h.elim
 |_::_,[],h=>h.elim
noncomputable def c9 (M:Model) (A:Around) (f:Value) (pos:List Value) (kw:List (Str × Value)):Tr Value:=λQ E s=>(∃ k,W.Looks M s.heap (keeperOf f) k)/\wpAny M A (call f pos kw) Q E s
noncomputable def qW (V:av) (F:aD) (A:Around) (cl:Calls):Prop := ∀ {m C g s} {f:D} {v:Value} {ds:List D} {vs:List Value} {ks:List (Nm × D)} {aA:List (Str × Value)},ah V F m C g s->af V g f v->aG V g ds vs->gs V g ks aA->
 aj V F (af V) (c9 V.M A v vs aA) g s (kL V.P cl f ds ks ⟨m,C⟩)
theorem rj {p:Pos} {trees:List (Bool × Sem Value)}:(backTo p trees).any (·.1)=trees.any (·.1):=by
 unfold backTo; rw [List.any_map]; rfl
theorem qG {env:Env} : ∀ {es:List Expr},es.any dp=false->(starEach es env).any (·.1)=false
 |[],_=>rfl
 |e::r,h=>by
  rw [any_cons,or_eq_false_iff] at h
  rw [lN h.1,any_cons,qG h.2]; rfl
theorem CE {p:Pos} {env:Env} {f:Expr->E} : ∀ {ks:List Keyword},(∀ k∈ks,∃ n,k.arg.bind cJ=some n)->(backToKw p (keywordEach ks env)).all (·.1.isSome)=true
 |[],_=>rfl
 |⟨n,v,q⟩::r,h=>by
  obtain ⟨a,ha⟩:=h _ (.head _)
  have:n.isSome=true:=by induction n with|none=>exact ao ha|some _=>rfl
  show (n.isSome&&_)=true
  rw [this,Bool.true_and]
  exact CE (f:=f) λk hk=>h k (.tail _ hk)
theorem vc {M:Model} {A:Around} {E:Value->Shared->Prop} {s:Shared} {f:Value} {args:List (Bool × Sem Value)} {keywords:List (Option Str × Sem Value)} {Q:Args->Shared->Prop} (hs:args.any (·.1)=false)
  (jn:keywords.all (·.1.isSome)=true)
  (h:wpAny M A (spliced args) (λvs s₁=>wpAny M A (evalAll (keywords.map (·.2))) (λks s₂=>Q ⟨vs,(keywords.filterMap (·.1)).zip ks⟩ s₂) E s₁) E s) :
  wpAny M A (evalArgs f true args keywords) Q E s:=by
 match args,hs with
 |[],_=>
  unfold evalArgs
  show wpAny M A (spliced [] >>= _) Q E s
  refine wpAny_bind (wpAny_mono h (λvs s₁ h₁=>?_) λu' u' x=>x)
  refine wpAny_bind (wpAny_pure (wpAny_holding ?_))
  simp only [jn,if_true]
  refine wpAny_bind (wpAny_mono h₁ (λks s₂ h₂=>?_) λu' u' x=>x)
  exact wpAny_bind (wpAny_pure (wpAny_pure h₂))
 |(false,x)::r,_=>exact evalArgs_kw jn h
 |(true,_)::_,hs=>exact fN hs
set_option tactic.hygienic true in
theorem Ep {f:Expr->E} {p:Pos} (fB:qW V F A cl) {fd:D} {fv:Value} : ∀ (ks:List Keyword) (g0:Gh),(∀ k∈ks,az V F A cl (f k.value) k.value)->∀ (ds:List D) (vs:List Value) (acc:List (Nm × D)) (aA:List (Str × Value)) m C g s,
  af V g fd fv->aG V g ds vs->gs V g acc aA->ah V F m C g s->
  aj V F (af V) (λQ E s₁=>wpAny V.M A (evalAll ((backToKw p (keywordEach ks F.env)).map (·.2))) (λus s₂=>c9 V.M A fv vs (aA++((backToKw p (keywordEach ks F.env)).filterMap (·.1)).zip us) Q E s₂) E s₁) g s (rN V.P cl fd ds acc (lZ f ks) ⟨m,C⟩)
 |[],_,_,ds,vs,acc,aA,m,C,g,s,rf,rd,rk,I=>by
  have:=fB I rf rd rk
  exact this.wp λQ E x=>wpAny_evalAll_nil ((append_nil aA).symm ▸ x)
 |⟨n,v,q⟩::r,g0,h,ds,vs,acc,aA,m,C,g,s,rf,rd,rk,I=>by
  unfold lZ
  split
  ·rename_i a ha
   have ih:=Ep fB (fd:=fd) (fv:=fv) (p:=p) r g0 λk hk=>h k (.tail _ hk)
   obtain ⟨nn,rfl,hn⟩ : ∃ nn,n=some nn/\cJ nn=some a:=by
    induction n with
    |none=>exact ao ha
    |some nn=>exact ⟨nn,rfl,ha⟩
   have en:=lC hn
   subst en
   show aj _ _ _ _ _ _ ((ev V.P cl (f v) ⟨m,C⟩).bind _)
   refine aj.seq (h _ (.head _) m C g s I).1 (λQ E x=>?_) λd st g₁ s₁ u u' cM I₁ ru=>ih ds vs (acc++[(a,d)]) (aA++[(a.str,u)]) _ _ _ _ (rf.mono cM.toLe) (rd.mono cM.toLe) ((rk.mono cM.toLe).snoc ru) I₁
   show wpAny _ _ (evalAll ((eval v F.env >>= λv=>standAt p >>= λu'=>pure v)::_)) _ _ _
   refine wpAny_evalAll_cons (wpAny_bind (wpAny_mono x (λu s₁ y=>wpAny_bind (wpAny_standAt (wpAny_pure ?_))) λu' u' y=>y))
   refine wpAny_mono y (λus s₂ z=>?_) λu' u' z=>z
   have e:aA++[(a.str,u)]++((backToKw p (keywordEach r F.env)).filterMap (·.1)).zip us=aA++((backToKw p (keywordEach (⟨some a.str,v,q⟩::r) F.env)).filterMap (·.1)).zip (u::us):=by
    exact append_assoc _ _ _
   rw [<-e]; exact z
  ·trivial
end
section
variable {V:av} {G:aV} {F:aD} {A:Around} {cl:Calls} {m:List (Option D)} {C:ai} {g:Gh} {s:Shared}
noncomputable def ur (V:av) (F:aD) (A:Around) (cl:Calls) (c:E) (e:Expr):Prop := ∀ m C g s,ah V F m C g s->aE V F A (af V) (eval e F.env) g s (ev V.P cl c ⟨m,C⟩)
theorem az.val {c:E} {e:Expr} (h:az V F A cl c e):ur V F A cl c e:=λm C g s I=>(h m C g s I).1
inductive fm (V:av) (F:aD) (A:Around) (cl:Calls):Es->List Expr->Prop
 |nil:fm V F A cl .nil []
 |cons {c:E} {cs:Es} {e:Expr} {es:List Expr}:dp e=false->ur V F A cl c e->fm V F A cl cs es->fm V F A cl (.cons c cs) (e::es)
theorem xE {p:Pos} : ∀ {cs:Es} {es:List Expr},fm V F A cl cs es->∀ m C g s,ah V F m C g s->
  aE V F A (oV V) (spliced (backTo p (starEach es F.env))) g s (bE V.P cl cs ⟨m,C⟩)
 |_,_,.nil,m,C,g,s,I=>λQ E k=>Calls.spliced_nil (k g _ _ (.refl _) I ⟨[],rfl,.nil⟩)
 |_,_,.cons (c:=c) (cs:=cs) (e:=e) (es:=es) hs h hr,m,C,g,s,I=>by
  have ih:=xE (p:=p) hr
  rw [lN hs,AM]
  refine aj.seq (h m C g s I) (λu' u' x=>Calls.spliced_cons x) λx st g₁ s₁ v u' u' I₁ rx=>?_
  refine aj.seq (K:=λvs Q E s=>Q (v::vs) s) (ih _ _ _ _ I₁) (λQ E x=>x) λd aB g₂ s₂ vs u' br I₂ rd=>?_
  obtain ⟨ds,rfl,rs⟩:=rd
  exact λQ E k=>k _ _ _ (.refl _) I₂ ⟨_,rfl,.cons (rx.mono br.toLe) rs⟩
theorem fm.noStar {cs:Es} {es:List Expr} (h:fm V F A cl cs es):es.any dp=false:=by
 induction h with
 |nil=>rfl
 |cons hs _ _ ih=>rw [any_cons,hs,ih]; rfl
theorem fm.of {f:Expr->E} : ∀ {es:List Expr},es.any dp=false->(∀ e∈es,az V F A cl (f e) e)->fm V F A cl (bq f es) es
 |[],_,_=>.nil
 |e::r,hs,h=>by
  rw [any_cons,or_eq_false_iff] at hs
  exact .cons hs.1 (h e (.head _)).val (fm.of hs.2 λx hx=>h x (.tail _ hx))
theorem fm.DD {f:Nat->Expr->E} : ∀ {es:List Expr} (i:Nat),es.any dp=false->(∀ i,∀ e∈es,ur V F A cl (f i e) e)->fm V F A cl (uN f i es) es
 |[],_,_,_=>.nil
 |e::r,i,hs,h=>by
  rw [any_cons,or_eq_false_iff] at hs
  exact .cons hs.1 (h i e (.head _)) (fm.DD (i+1) hs.2 λi x hx=>h i x (.tail _ hx))
noncomputable def sV:Expr->Bool
 |.Attribute .. => true
 |_=>false
theorem Ic {f:Expr} {args:List Expr} {ks:List Keyword} {pos:Pos} {env:Env} (h:sV f=false) :
  eval (.Call f args ks pos) env=(eval f env >>= λv=>callWith pos v [] (backTo pos (starEach args env)) (backToKw pos (keywordEach ks env))):=by
 induction f using Expr.casesOn<;>first|rfl|exact fN h
theorem P4 (fB:qW V F A cl) {fc:E} {f:Expr} {cs:Es} {args:List Expr} {kf:Expr->E} {ks:List Keyword} {p:Pos} (hf:sV f=false) (h:az V F A cl fc f) (hr:fm V F A cl cs args)
  (hk : ∀ k∈ks,az V F A cl (kf k.value) k.value) (dR : ∀ k∈ks,∃ n,k.arg.bind cJ=some n):az V F A cl (.call fc cs (lZ kf ks)) (.Call f args ks p):=by
 refine .of rfl λm C g s I=>?_
 have e:ev V.P cl (.call fc cs (lZ kf ks)) ⟨m,C⟩=(ev V.P cl fc ⟨m,C⟩).bind λd aa=>(bE V.P cl cs aa).bind λl ae=>match l with
   |.lst ds=>rN V.P cl d ds [] (lZ kf ks) ae
   |_=>.fail:=by
  show (ev V.P cl fc ⟨m,C⟩).bind _=_
  congr 1; funext d aa
  induction bE V.P cl cs aa with
  |ok d ae=>induction d using D.casesOn<;>rfl
  |exc x ae=>rfl
  |fail=>rfl
 rw [e]
 refine aj.seq (K:=λv Q E s₁=>wpAny V.M A (callWith p v [] (backTo p (starEach args F.env)) (backToKw p (keywordEach ks F.env))) Q E s₁) (h m C g s I).1 (λQ E x=>by rw [Ic hf]; exact wpAny_bind x) λd st g₁ s₁ v u' u' I₁ rf=>?_
 refine aj.seq (K:=λvs Q E s₁=>wpAny V.M A (evalAll ((backToKw p (keywordEach ks F.env)).map (·.2))) (λus s₂=>c9 V.M A v ([]++vs) (((backToKw p (keywordEach ks F.env)).filterMap (λ(x:Option Str × Sem Value)=>x.1)).zip us) Q E s₂) E s₁) (xE (p:=p) hr _ _ _ _ I₁)
  (λQ E x=>uP (vc (by rw [rj]; exact qG hr.noStar) (CE (f:=kf) dR) x)) λl aB g₂ s₂ vs u' br I₂ rl=>?_
 obtain ⟨ds,rfl,rd⟩:=rl
 have:=Ep (p:=p) fB (fd:=d) (fv:=v) ks g₂ hk ds vs [] [] _ _ _ _ (rf.mono br.toLe) rd trivial I₂
 exact this.wp λQ E x=>by simpa using x
noncomputable def fh (V:av):MK->Value
 |.own _ f=>.ref (V.a6 f)
 |.ly=>.builtin "list.append"|.om=>.builtin "list.pop"|.og=>.builtin "list.clear"
 |.l4=>.builtin "dict.get"|.nI=>.builtin "dict.values"|.mX=>.builtin "set.add"
theorem w4 {k i:Nat} {n:Nm} {mk:MK} (h:du V.P C (.inst k i) n=some mk) : ∃ c es f,V.P.dg k=some c/\C[i]?=some (.cC es)/\c.meths.lookup n=some f/\es.lookup n=none/\c.slots=none/\mk=.own k f:=by
 refine cps λQQ kQ=>?_
 obtain ⟨c,hc,h⟩:=aO h
 obtain ⟨es,hC,h⟩:=aO h
 obtain ⟨f,hf,h⟩:=aO h
 obtain ⟨hb,h⟩:=eA h
 rw [and_eq_true,isNone_iff_eq_none,isNone_iff_eq_none] at hb
 exact kQ ⟨c,es,f,hc,uw hC,hf,hb.1,hb.2,(Option.some.inj h).symm⟩
noncomputable def MK.LU:MK->Bool
 |.own _ _=>true
 |_=>false
theorem MX (n:Nm) (ch:Ch):(ki n ch).any MK.LU=false:=by
 induction ch using Ch.casesOn<;>first|rfl|(induction n using Nm.casesOn<;>rfl)
theorem MY {o:D} {n:Nm} {k f:Nat} (h:du V.P C o n=some (.own k f)) : ∃ i,o=.inst k i:=by
 induction o using D.casesOn<;>first|exact ao h|skip
 ·obtain ⟨ch,_,h⟩:=aO h
  have:=MX n ch
  rw [h] at this
  exact fN this
 ·obtain ⟨_,_,_,_,_,_,_,_,e⟩:=w4 h
  injection e with e
  exact ⟨_,by rw [e]⟩
section
variable {Q:Value × List Value->Shared->Prop} {E:Value->Shared->Prop} {pl:Sem Bool}
theorem IX (B:V.Base) (aw:V.cN) (I:ah V F m C g s) {k i:Nat} {n:Nm} {a:Value} (hx:af V g (.inst k i) a) {mk:MK} (hm:du V.P C (.inst k i) n=some mk) (h:Q (fh V mk,[a]) s):wpAny V.M A (getMethod a n.str pl) Q E s:=by
 obtain ⟨c,es,f,hc,hC,hf,hl,hs,rfl⟩:=w4 hm
 have ok:=aw k c hc
 obtain ⟨x,dx,ox,ents,nn,rfl,hI,h1,h2,h3,h4,h5⟩:=I.inst hx hC
 obtain ⟨o,ho,hr⟩:=h4.getL n
 rw [hl] at hr
 obtain rfl:=tJ hr
 obtain ⟨m1,m2,m3,m4,m5⟩:=ok.meths n f hf
 exact W.method_fn (I.cR B) hI (W.plainGet_of ok.get).1 (W.plainGet_of ok.get).2 m1 m2 (by show (W.lookIn n.str (W.dictOf ents nn)).map _=_; rw [W.lookIn_dict,ho]; rfl) h
theorem uC {a:Addr} {o:Obj} (h:s.heap.get? a=some o) (hd:o.dict=none) : ∀ b,Value.ref a=.ref b->∃ o,s.heap.get? b=some o/\o.dict=none:=λb e=>by cases e; exact ⟨_,h,hd⟩
theorem IY (I:ah V F m C g s) {i:Nat} {n:Nm} {a:Value} (hx:af V g (.loc i) a) {mk:MK} (hm:du V.P C (.loc i) n=some mk) (h:Q (fh V mk,[a]) s):wpAny V.M A (getMethod a n.str pl) Q E s:=by
 obtain ⟨ch,hC,hm⟩:=aO hm
 induction ch using Ch.casesOn<;>first|exact ao hm|skip
 ·obtain ⟨l,vs,k,rfl,_,hl,_⟩:=I.lz hx hC
  have hT:s.TypeIs (.ref l) "list":=hl.isList.typeIs
  have hd:=uC hl rfl
  induction n using Nm.casesOn<;>first|exact ao hm|(obtain rfl:=Option.some.inj hm; first
   |exact getMethod_builtin hT PySem.F.plainAttrs_list PySem.F.slot_list_append PySem.F.type_list_append hd h
   |exact getMethod_builtin hT PySem.F.plainAttrs_list PySem.F.slot_list_pop PySem.F.type_list_pop hd h
   |exact getMethod_builtin hT PySem.F.plainAttrs_list PySem.F.slot_list_clear PySem.F.type_list_clear hd h)
 ·obtain ⟨l,h1,rfl⟩:=hx.gc
  obtain ⟨hz,aA,ep,iX,hr,_⟩:=I.dictAt h1 hC
  have hT:s.TypeIs (.ref l) "dict":=iX.dictOf.mapOf.typeIs
  obtain ⟨o,ents,ho,⟨_,i4,_⟩,_⟩:=id iX
  have hd:=uC ho i4
  induction n using Nm.casesOn<;>first|exact ao hm|(obtain rfl:=Option.some.inj hm; first
   |exact getMethod_builtin hT PySem.F.plainAttrs_dict PySem.F.slot_dict_get PySem.F.type_dict_get hd h
   |exact getMethod_builtin hT PySem.F.plainAttrs_dict PySem.F.slot_dict_values PySem.F.type_dict_values hd h)
 ·obtain ⟨l,h1,rfl⟩:=hx.gc
  obtain ⟨hz,o,ents,ep,t,ho,⟨hc,i4,_⟩,_⟩:=I.setOf h1 hC
  induction n using Nm.casesOn<;>first|exact ao hm|(obtain rfl:=Option.some.inj hm; exact getMethod_builtin ⟨o,ho,hc⟩ PySem.F.plainAttrs_set PySem.F.slot_set_add PySem.F.type_set_add (uC ho i4) h)
end
theorem OO (B:V.Base) (aw:V.cN) (I:ah V F m C g s) {o:D} {n:Nm} {a:Value} {pl:Sem Bool} (hx:af V g o a) {mk:MK} (hm:du V.P C o n=some mk) {Q:Value × List Value->Shared->Prop} {E:Value->Shared->Prop}
  (h:Q (fh V mk,[a]) s):wpAny V.M A (getMethod a n.str pl) Q E s:=by
 induction o using D.casesOn<;>first|exact ao hm|skip
 ·exact IY I hx hm h
 ·exact IX B aw I hx hm h
end
section
variable {V:av} {G:aV} {F:aD} {A:Around} {cl:Calls} {m:List (Option D)} {C:ai} {g:Gh} {s:Shared}
theorem ah.seq (I:ah V F m C g s) {d:D} {v:Value} (r:af V g d v) {ds:List D} (h:bK C d=some ds) :
  ∃ a T vs n,v=.ref a/\(T="list"\/T="tuple")/\s.heap.get? a=some {cls:=.type T,dict:=none,data:=.seq vs.toArray n,slots := #[]}/\vs.length<=aF/\aG V g ds vs:=by
 have list:aT C d=some ds->∃ a T vs n,v=.ref a/\(T="list"\/T="tuple")/\s.heap.get? a=some {cls:=.type T,dict:=none,data:=.seq vs.toArray n,slots := #[]}/\vs.length<=aF/\aG V g ds vs:=λh=>by
  obtain ⟨a,vs,n,e,hl,hz,rs⟩:=I.list r h
  exact ⟨a,"list",vs,n,e,.inl rfl,hl,hz,rs⟩
 induction d using D.casesOn<;>first|((first|exact ao h|obtain rfl:=Option.some.inj h); done)|exact list h|skip
 obtain rfl:=Option.some.inj h
 obtain ⟨a,vs,n,e,hl,hz,rs⟩:=I.tup r
 exact ⟨a,"tuple",vs,n,e,.inr rfl,hl,hz,rs⟩
theorem Ey (I:ah V F m C g s) {y:D} {v:Value} (r:af V g y v) {ys:List D} (h:bK C y=some ys) :
  aj V F (oV V) (λQ E s=>W.StarOf V.M A E v Q s) g s (.ok (.lst ys) ⟨m,C⟩):=by
 obtain ⟨a,T,vs,n,rfl,hT,ho,hz,rs⟩:=I.seq r h
 intro Q E k
 have Bz:s.TypeIs (.ref a) T:=⟨_,ho,rfl⟩
 have z:wpAny V.M A (collect (.ref a)) Q E s:=
  wpAny_collect_seq a hT ho rfl rfl (λh' hk=>k g _ _ (.refl g) (I.heap hk) ⟨ys,rfl,by simpa using rs⟩) (dv (by simpa using hz))
 show wpAny _ _ (notIterableAtAll _) _ _ _
 unfold notIterableAtAll
 rcases hT with rfl|rfl
 ·exact wpAny_bind (wpAny_specialOf Bz PySem.F.slot_list_iter.lookup (wpAny_pure ⟨rfl,z⟩))
 ·exact wpAny_bind (wpAny_specialOf Bz PySem.F.slot_tuple_iter.lookup (wpAny_pure ⟨rfl,z⟩))
noncomputable def ji (P:aP) (cl:Calls) (f:Expr->E) (ps:List Expr) (e:Expr) (st:St):ak D:=(bE P cl (bq f ps) st).bind λd ae=>match d with
 |.lst ds=>(ev P cl (f e) ae).bind λy aH=>match bK aH.C y with
  |some ys=>.ok (.lst (ds++ys)) aH
  |none=>.fail
 |_=>.fail
theorem Ay {P:aP} {f:Expr->E} {e:Expr} {st:St}:ji P cl f [] e st=(ev P cl (f e) st).bind λy aH=>match bK aH.C y with
  |some ys=>.ok (.lst ys) aH
  |none=>.fail:=rfl
set_option tactic.hygienic true in
theorem HZ {P:aP} {f:Expr->E} {e0 e:Expr} {ps:List Expr} {st:St}:ji P cl f (e0::ps) e st=(ev P cl (f e0) st).bind λx aa=>(ji P cl f ps e aa).bind λd st=>match d with
  |.lst ds=>.ok (.lst (x::ds)) st
  |_=>.fail:=by
 show (bE P cl (.cons (f e0) (bq f ps)) st).bind _=_
 show ((ev P cl (f e0) st).bind _).bind _=_
 rw [ak.bind_assoc]
 congr 1; funext x aa
 unfold ji
 induction bE P cl (bq f ps) aa with
 |fail=>rfl
 |exc _ _=>rfl
 |ok d ae=>
  induction d using D.casesOn<;>first|rfl|skip
  rename_i ds
  show ((ev P cl (f e) ae).bind _)=((ev P cl (f e) ae).bind _).bind _
  rw [ak.bind_assoc]
  congr 1; funext y aH
  induction bK aH.C y<;>rfl
theorem EP {e:Expr} (h:qF e=none):dp e=false:=by induction e using Expr.casesOn<;>first|rfl|exact jE h
theorem QI {e x:Expr} (h:qF e=some x) : ∃ p,e=.Starred x p:=by induction e using Expr.casesOn<;>first|((first|exact ao h|obtain rfl:=Option.some.inj h); exact ⟨_,rfl⟩)|exact ao h
set_option tactic.hygienic true in
theorem xQ : ∀ {args:List Expr} {ps:List Expr} {e:Expr},jc args=some (ps,some e)->(∃ p,args=[.Starred e p]/\ps=[])\/∃ e0 r jB,args=e0::r/\dp e0=false/\ps=e0::jB/\jc r=some (jB,some e)
 |[],ps,e,h=>by cases h
 |e0::r,ps,e,h=>by
  unfold jc at h
  induction hs:qF e0 with
  |some x=>
   rw [hs] at h
   dsimp only at h
   split at h
   ·rename_i hr
    cases h
    obtain ⟨p,rfl⟩:=QI hs
    exact .inl ⟨p,by rw [isEmpty_iff.mp hr],rfl⟩
   ·exact ao h
  |none=>
   rw [hs] at h
   obtain ⟨⟨a,b⟩,hp,hq⟩:=cf h
   cases hq
   exact .inr ⟨e0,r,a,rfl,EP hs,rfl,hp⟩
theorem ES : ∀ {args:List Expr} {ps:List Expr},jc args=some (ps,none)->ps=args/\args.any dp=false
 |[],ps,h=>by cases h; exact ⟨rfl,rfl⟩
 |e0::r,ps,h=>by
  unfold jc at h
  induction hs:qF e0 with
  |some x=>
   rw [hs] at h
   dsimp only at h
   split at h<;>(first|exact ao h|cases h)
  |none=>
   rw [hs] at h
   obtain ⟨⟨a,b⟩,hp,hq⟩:=cf h
   cases hq
   obtain ⟨rfl,hz⟩:=ES hp
   exact ⟨rfl,by rw [any_cons,hz,EP hs]; rfl⟩
set_option tactic.hygienic true in
theorem Ez {f:Expr->E} {p:Pos} : ∀ (args ps:List Expr) (e:Expr),jc args=some (ps,some e)->(∀ x∈e::ps,az V F A cl (f x) x)->∀ m C g s,ah V F m C g s->
  aE V F A (oV V) (spliced (backTo p (starEach args F.env))) g s (ji V.P cl f ps e ⟨m,C⟩)
 |[],ps,e,hs,h,m,C,g,s,I=>by cases hs
 |e1::r1,ps,e,hs,h,m,C,g,s,I=>by
  rcases xQ hs with ⟨q,ha,rfl⟩|⟨e0,r,jB,ha,h0,rfl,hr⟩
  ·cases ha
   rw [Ay]
   refine aj.seq (h e (.head _) m C g s I).1 (λQ E x=>W.ks_spliced x) λy st g₁ s₁ v u' u' I₁ ry=>?_
   split
   ·rename_i ys hy
    exact aj.wp (Ey I₁ ry hy) λQ E x=>wpAny_mono (show wpAny _ _ (notIterableAtAll v) _ _ _ from x) (λb s₂ ⟨hb,z⟩=>⟨hb,wpAny_mono z (λhere s₃ q=>Calls.spliced_nil (by rw [append_nil]; exact q)) λu' u' q=>q⟩) λu' u' q=>q
   ·trivial
  ·cases ha
   rw [HZ,lN h0]
   refine aj.seq (h e1 (.tail _ (.head _)) m C g s I).1 (λu' u' x=>Calls.spliced_cons x) λx st g₁ s₁ v u' u' I₁ rx=>?_
   refine aj.seq (K:=λvs Q E s=>Q (v::vs) s) (Ez r1 jB e hr (λx hx=>h x (by rcases mem_cons.mp hx with rfl|hx; exact .head _; exact .tail _ (.tail _ hx))) _ _ _ _ I₁) (λQ E x=>x) λd aB g₂ s₂ vs u' br I₂ rd=>?_
   obtain ⟨ds,rfl,rs⟩:=rd
   exact λQ E k=>k _ _ _ (.refl _) I₂ ⟨_,rfl,.cons (rx.mono br.toLe) rs⟩
set_option tactic.hygienic true in
theorem O9 {f:Expr->E} {p:Pos} {args ps:List Expr} {e:Expr} {fv:Value} (hs:jc args=some (ps,some e)) (h : ∀ x∈e::ps,az V F A cl (f x) x) (I:ah V F m C g s) :
  aE V F A (λg d (a:Args)=>a.kw=[]/\oV V g d a.pos) (evalArgs fv true (backTo p (starEach args F.env)) []) g s (ji V.P cl f ps e ⟨m,C⟩):=by
 rcases xQ hs with ⟨q,rfl,rfl⟩|⟨e0,r,jB,rfl,h0,rfl,hr⟩
 ·rw [Ay]
  refine aj.seq (h e (.head _) m C g s I).1 (λQ E x=>W.ks_lone x) λy st g₁ s₁ v u' u' I₁ ry=>?_
  split
  ·rename_i ys hy
   have:=Ey (A:=A) I₁ ry hy
   exact λQ E k=>this _ E λg' a s' st I r=>k g' _ s' st I ⟨rfl,r⟩
  ·trivial
 ·have:=Ez (p:=p) (e0::r) (e0::jB) e hs h m C g s I
  rw [lN h0] at this ⊢
  have e1:ji V.P cl f (e0::jB) e ⟨m,C⟩=(ji V.P cl f (e0::jB) e ⟨m,C⟩).bind λd st=>.ok d st:=by induction ji V.P cl f (e0::jB) e ⟨m,C⟩<;>rfl
  rw [e1]
  refine aj.seq (K:=λ(vs:List Value) (Q:Args->Shared->Prop) E s=>Q (⟨vs,[]⟩:Args) s) this (λQ E x=>show wpAny V.M A (evalArgs fv true ((false,eval e0 F.env)::backTo p (starEach r F.env)) []) Q E s from Calls.evalArgs_plain x) λd st g₁ s₁ vs u' u' I₁ rd=>λQ E k=>k _ _ _ (.refl _) I₁ ⟨rfl,rd⟩
end
noncomputable def tP (Q:Value->Shared->Prop) (E:Value->Shared->Prop) (r:Result) (s:Shared):Prop:=match r with
 |.ok (.ret v)=>Q v s
 |.ok _=>False
 |.error e=>E e s
noncomputable def oQ (M:Model) (A:Around) (c:Code):Tr Value:=λQ E s=>codeAny M A c (tP Q E) s
structure oP (F:aD) (A:Around) (n:Nat):Prop where
 frames:A.frames=some F.stack
 depth:A.depth+8*n+4<=900
 units:A.units+500*n+450<=9000
 calm:A.handled=none
theorem ff.c {F:aD} {A:Around} {cl:Calls} {n l:Nat} (h:ff F A cl n l) (hf:cl.fuel≠0):oP F A n:=
 ⟨h.frames,by have:=h.depth; omega,by have:=h.units; omega,h.calm hf⟩
theorem FW {a n:Nat} (h:a+8*n+8<=900):a+1+8*n+4<=900:=le_trans (by rw [add_right_comm a 1]; exact add_le_add_left (by decide:1+4<=8) (a+8*n)) h
theorem FY {u a l n:Nat} (h1:u<=a+8) (h2:a+8*l+500*n+500<=9000):u+500*n+450<=9000:=
 le_trans (add_le_add_right (add_le_add_right h1 _) 450) (le_trans (by rw [add_right_comm a 8,add_assoc _ 8 450]; exact add_le_add (add_le_add_right (le_add_right a _) _) (by decide:8+450<=500)) h2)
theorem FV {a n:Nat} (h:a+8*(n+1)+4<=900):a+1+8*n+8<=900:=le_trans (by rw [add_right_comm a 1]; exact add_le_add_left (by decide:1+8<=8+4) (a+8*n)) h
theorem FX {u n:Nat} (h:u+500*(n+1)+450<=9000):u+3+8*1+500*n+500<=9000:=le_trans (by rw [add_assoc u 3 (8*1),add_right_comm u (3+8*1),add_assoc _ (3+8*1) 500,Nat.mul_succ 500 n,<-add_assoc u,add_assoc _ 500 450]; exact add_le_add_left (by decide) _) h
structure fP (V:av) (cl:Calls) (n:Nat):Prop where
 none:cl.fuel=0->∀ k ds ks C,cl.call k ds ks C=.fail
 some : ∀ {F:aD} {A:Around} {m C g s} (k:Nat) {ds:List D} {vs:List Value} {ks:List (Nm × D)} {aA:List (Str × Value)},F.Ok->oP F A n->ah V F m C g s->aG V g ds vs->gs V g ks aA->
  aj V F (af V) (oQ V.M A (.call (.ref (V.a6 k)) ⟨vs,aA⟩)) g s (back m (cl.call k ds ks C))
section
variable {V:av} {G:aV} {F:aD} {A:Around} {cl:Calls} {m:List (Option D)} {C:ai} {g:Gh} {s:Shared} {n l:Nat}
theorem Ei (hC:fP V cl n) (K:F.Ok) (hA:ff F A cl n l) (I:ah V F m C g s) (k:Nat) {ds:List D} {vs:List Value} {ks:List (Nm × D)} {aA:List (Str × Value)} (rd:aG V g ds vs) (rk:gs V g ks aA) :
  aE V F A (af V) (call (.ref (V.a6 k)) vs aA) g s (back m (cl.call k ds ks C)):=by
 by_cases hf:cl.fuel=0
 ·rw [hC.none hf]; trivial
 ·exact (hC.some k K (hA.c hf) I rd rk).wp λQ E x=>wpAny_call x
theorem aG.one {d:D} {vs:List Value} (h:aG V g [d] vs) : ∃ v,vs=[v]/\af V g d v:=by
 obtain ⟨v,ws,a,r,rfl⟩:=h.f9
 obtain rfl:=r.fF; exact ⟨_,rfl,a⟩
theorem jv {x:D} {i:Nat} (h:n8 x=some i):x=.loc i:=by induction x using D.casesOn<;>first|exact ao h|exact congrArg D.loc (Option.some.inj h)
theorem aG.zero {vs:List Value} (h:aG V g [] vs):vs=[]:=by obtain rfl:=h.fF; rfl
theorem oi {M:Model} {h:Heap} {id:String} : ∃ k,W.Looks M h (keeperOf (.builtin id)) k:=⟨.machine,W.Looks.now⟩
theorem Sj {M:Model} {h:Heap} {id:String} : ∃ k,W.Looks M h (keeperOf (.type id)) k:=⟨.machine,W.Looks.now⟩
theorem ah.ti (I:ah V F m C g s) {i:Nat} {a:Addr} {vs:List Value} {k:Nat} {f:Array Value->Array Value} {ds:List D} {ws:List Value} {t:Nat} (hg:g a=some (.cell i)) (hl:IsL s.heap a vs.toArray k)
  (e:f vs.toArray=ws.toArray) (r:aG V g ds ws) (hz:ws.length<=aF):ah V F m (C.set i (.list ds)) g {s with heap:=s.heap.update a (Obj.mapSeq f),toks:=t}:=by
 have:=IsL.update hl f
 rw [e] at this
 exact I.cellSet hg (Heap.SameBut.update ..) this ⟨ws,⟨hz,_,rfl⟩,r⟩
theorem aG.dropLast {V:av} {g:Gh} : ∀ {ds:List D} {vs:List Value},aG V g ds vs->aG V g ds.dropLast vs.dropLast
 |[],_,h=>by obtain rfl:=h.fF; exact .nil
 |[_],_,h=>by obtain ⟨_,_,_,r,rfl⟩:=h.f9; obtain rfl:=r.fF; exact .nil
 |_::d::ds,_,h=>by
  obtain ⟨v,ws,a,r,rfl⟩:=h.f9
  obtain ⟨u,ws,b,r',rfl⟩:=r.f9
  exact .cons a (aG.dropLast (ds:=d::ds) (.cons b r'))
theorem HX (vs:List Value):vs.toArray.eraseIdxIfInBounds (vs.toArray.size - 1)=vs.dropLast.toArray:=by
 by_cases h:vs=[]
 ·subst h; rfl
 ·have hl:vs.length - 1<vs.length:=Nat.sub_lt (List.length_pos_iff.mpr h) (by decide)
  rw [Array.eraseIdxIfInBounds,dif_pos (by simpa using hl)]
  simp [List.dropLast_eq_take,List.eraseIdx_eq_take_drop_succ]
  omega
section
variable {i:Nat} {a:Value} {ds:List D} {vs:List Value}
theorem MJ (I:ah V F m C g s) (hx:af V g (.loc i) a) {d:D} {v:Value} (rv:af V g d v) {es:List D} (hC:C[i]?=some (.list es)) (hz:es.length<aF) :
  aj V F (af V) (c9 V.M A (fh V .ly) [a,v] []) g s (.ok .none ⟨m,C.set i (.list (es++[d]))⟩):=λQ E q=>by
 obtain ⟨l,vs,k,rfl,hg,hl,mD,rs⟩:=I.lz hx hC
 have hlen:=rs.length
 refine ⟨oi,call_meets PySem.F.slot_list_append hl.isList.typeIs PySem.F.entry_list_append (PySem.F.args_list_append_2 _ _) (PySem.list_append l vs.toArray k v (dv (by simpa using mD))) ⟨hl,?_⟩⟩
 exact q g _ _ (.refl g) (I.ti (ws:=vs++[v]) hg hl (by simp) (rs.append (.cons rv .nil)) (by simp; omega)) .none
theorem MO (I:ah V F m C g s) (hx:af V g (.loc i) a) {d:D} {es:List D} (hC:C[i]?=some (.list es)) (hd:es.getLast?=some d) :
  aj V F (af V) (c9 V.M A (fh V .om) [a] []) g s (.ok d ⟨m,C.set i (.list es.dropLast)⟩):=λQ E q=>by
 obtain ⟨l,vs,k,rfl,hg,hl,mD,rs⟩:=I.lz hx hC
 have hlen:=rs.length
 rw [List.getLast?_eq_getElem?] at hd
 obtain ⟨v,hv,rv⟩:=rs.get hd
 refine ⟨oi,call_meets PySem.F.slot_list_pop hl.isList.typeIs PySem.F.entry_list_pop (PySem.F.args_list_pop_1 _) (MeetsSeq.list_pop_last l vs.toArray k v (by rw [<-hv]; simp [hlen]) (dv (by simpa using mD))) ⟨hl,?_⟩⟩
 exact q g _ _ (.refl g) (I.ti (t:=s.toks) (ws:=vs.dropLast) hg hl (HX vs) rs.dropLast (by simp; omega)) rv
theorem MM (I:ah V F m C g s) (hx:af V g (.loc i) a) {es:List D} (hC:C[i]?=some (.list es)) :
  aj V F (af V) (c9 V.M A (fh V .og) [a] []) g s (.ok .none ⟨m,C.set i (.list [])⟩):=λQ E q=>by
 obtain ⟨l,vs,k,rfl,hg,hl,mD,rs⟩:=I.lz hx hC
 refine ⟨oi,call_meets PySem.F.slot_list_clear hl.isList.typeIs PySem.F.entry_list_clear (PySem.F.args_list_clear_1 _) (AutoSeq1.list_clear_list_0 l vs.toArray k (dv (by simpa using mD))) ⟨hl,?_⟩⟩
 exact q g _ _ (.refl g) (I.ti (ws:=[]) hg hl rfl .nil (zero_le _)) .none
theorem MN (B:V.Base) (I:ah V F m C g s) (hx:af V g (.loc i) a) {k:Int} {t:Tok} {b:Bool} {es:List (Int × D)} (hC:C[i]?=some (.dict b es)) :
  aj V F (af V) (c9 V.M A (fh V .l4) [a,.int k t] []) g s (.ok ((es.lookup k).getD .none) ⟨m,C⟩):=λQ E q=>by
 obtain ⟨l,h1,rfl⟩:=hx.gc
 obtain ⟨hz,aA,ep,iX,hr,_⟩:=I.dictAt h1 hC
 refine ⟨oi,call_meetsIn PySem.F.slot_dict_get iX.dictOf.mapOf.typeIs PySem.F.entry_dict_get (PySem.F.args_dict_get_2 _ _) (meets_dict_get (intKind V.prog V.w) _ (k:=k) (beq_self_eq_true _) (qK I h1 B.mods)) ⟨_,iX.dictOf.mapOf,?_⟩⟩
 refine q g _ _ (.refl g) (I.tok _) ?_
 have:=hr.lookupI k
 induction jU:es.lookup k with
 |none=>rw [jU] at this; rw [tJ this]; exact .none
 |some d=>rw [jU] at this; obtain ⟨v,hv,rv⟩:=qs this; rw [hv]; exact rv
theorem MQ (B:V.Base) (I:ah V F m C g s) (hx:af V g (.loc i) a) {b:Bool} {es:List (Int × D)} (hC:C[i]?=some (.dict b es)) :
  aj V F (af V) (c9 V.M A (fh V .nI) [a] []) g s (.ok (.c7 i) ⟨m,C⟩):=λQ E q=>by
 obtain ⟨l,h1,rfl⟩:=hx.gc
 obtain ⟨hz,aA,ep,iX,hr,_⟩:=I.dictAt h1 hC
 refine ⟨oi,call_meetsIn PySem.F.slot_dict_values iX.dictOf.mapOf.typeIs PySem.F.entry_dict_values (PySem.F.args_dict_values_1 _) (meets_dict_values (intKind V.prog V.w) _ (qK I h1 B.mods)) ⟨⟨_,iX.dictOf⟩,?_⟩⟩
 obtain ⟨st,I'⟩:=I.kl {cls:=.type "dict_values",data:=.fields #[.ref _]} rfl s.toks
 exact q _ _ _ st I' (.c7 (Gh.bh ..) rfl (st.toLe.cell _ _ h1))
theorem MP (I:ah V F m C g s) (hx:af V g (.loc i) a) {k:Int} {t:Tok} {es:List Int} (hC:C[i]?=some (.set es)) (Li:es.length<64) :
  aj V F (af V) (c9 V.M A (fh V .mX) [a,.int k t] []) g s (.ok .none ⟨m,C.set i (.set (if es.contains k then es else es++[k]))⟩):=λQ E q=>by
 obtain ⟨l,h1,rfl⟩:=hx.gc
 obtain ⟨hz,hS⟩:=I.setOf h1 hC
 refine ⟨oi,call_set_add (knd:=intKind V.prog V.w) (k:=k) (beq_self_eq_true _) rfl hS (by have:scanBound=scanBound:=rfl; unfold scanBound; omega) λh' KY iT=>?_⟩
 obtain ⟨o',ph,u6,t',h2,x1,x2,x3,x4,x5,x6,x7⟩:=iT
 refine q g _ _ (.refl g) (I.cellSet h1 KY h2 ⟨?_,ph,u6,t',x1,x2,x3,λk'=>?_,x5,x6,?_⟩) .none
 ·by_cases hk:es.contains k=true
  ·rw [if_pos hk]; exact hz
  ·rw [if_neg hk,length_append]; exact Li
 ·rw [<-x4 k']
  show _↔(es.contains k'||decide (k'=k))=true
  by_cases hk:es.contains k=true
  ·rw [if_pos hk]
   by_cases e:k'=k
   ·subst e; rw [hk]; simp
   ·rw [decide_eq_false e,Bool.or_false]
  ·rw [if_neg hk,List.contains_append]
   by_cases e:k'=k
   ·subst e; simp
   ·have:[k].contains k'=false:=by simp [e]
    rw [this,decide_eq_false e]
 ·rw [x7]
  by_cases hk:es.contains k=true
  ·rw [if_pos hk,if_pos hk]
  ·rw [if_neg hk,if_neg hk]; simp
end
theorem O2 (B:V.Base) (hC:fP V cl n) (dk : ∀ k,W.keepIn V.K (.ref (V.a6 k))=true) (K:F.Ok) (hA:ff F A cl n l) (I:ah V F m C g s) (mk:MK) {o:D} {a:Value} (hx:af V g o a) {ds:List D} {vs:List Value} (rd:aG V g ds vs) :
  aj V F (af V) (c9 V.M A (fh V mk) (a::vs) []) g s (oq cl mk o ds ⟨m,C⟩):=by
 induction mk using MK.casesOn with
 |own k f=>
  have h:=Ei (A:=A) hC K hA I f (.cons hx rd) (ks:=[]) (aA:=[]) trivial
  obtain ⟨kk,_,L⟩:=W.looks_keep (M:=V.M) (dk f) (I.cR B)
  exact aj.wp (W₂:=c9 V.M A (fh V (.own k f)) (a::vs) []) h λQ E x=>And.intro ⟨kk,L⟩ x
 |ly=>
  exact aj.aK λi hi=>by
   obtain rfl:=jv hi
   exact aj.one (T:=λvs=>c9 V.M A (fh V .ly) (a::vs) []) rd λd v rv=>aj.aK λes he=>aj.bp λhz=>MJ I hx rv (wW he) (of_decide_eq_true hz)
 |om=>
  exact aj.aK λi hi=>by
   obtain rfl:=jv hi
   exact aj.bp λhz=>by
    obtain rfl:=isEmpty_iff.mp hz
    obtain rfl:=rd.fF
    exact aj.aK λes he=>aj.aK λd hd=>MO I hx (wW he) hd
 |og=>
  exact aj.aK λi hi=>by
   obtain rfl:=jv hi
   exact aj.bp λhz=>by
    obtain rfl:=isEmpty_iff.mp hz
    obtain rfl:=rd.fF
    exact aj.aK λes he=>MM I hx (wW he)
 |l4=>
  exact aj.aK λi hi=>by
   obtain rfl:=jv hi
   exact aj.one (T:=λvs=>c9 V.M A (fh V .l4) (a::vs) []) rd λd v rv=>aj.aK λk hk=>by
    obtain ⟨t,rfl⟩:=rv.fp hk
    exact aj.aK λes he=>let ⟨_,hC⟩:=Ao he; MN B I hx hC
 |nI=>
  exact aj.aK λi hi=>by
   obtain rfl:=jv hi
   exact aj.bp λhz=>by
    obtain rfl:=isEmpty_iff.mp hz
    obtain rfl:=rd.fF
    exact aj.aK λes he=>let ⟨_,hC⟩:=Ao he; MQ B I hx hC
 |mX=>
  exact aj.aK λi hi=>by
   obtain rfl:=jv hi
   exact aj.one (T:=λvs=>c9 V.M A (fh V .mX) (a::vs) []) rd λd v rv=>aj.aK λk hk=>by
    obtain ⟨t,rfl⟩:=rv.fp hk
    exact aj.aK λes he=>aj.bp λhz=>MP I hx (Pk he) (of_decide_eq_true hz)
end
section
variable {V:av} {G:aV} {F:aD} {A:Around} {cl:Calls} {m:List (Option D)} {C:ai} {g:Gh} {s:Shared} {n l:Nat}
structure av.lU (V:av):Prop where
 keep : ∀ k,W.keepIn V.K (.ref (V.a6 k))=true
 fn : ∀ k,W.fnIn V.K (V.a6 k)=true
theorem QJ {env:Env} {p:Pos} {es:List Expr} (h:es.any dp=false):(backTo p (starEach es env)).all (λx=>!x.1)=true:=by
 have:=qG (env:=env) h
 rw [<-rj (p:=p)] at this
 rw [List.all_eq_not_any_not]
 simpa using this
theorem QK {env:Env} : ∀ {es:List Expr},(starEach es env).length=es.length
 |[]=>rfl
 |e::r=>by induction e using Expr.casesOn<;>exact congrArg (· + 1) QK
theorem ER {env:Env} {p:Pos} : ∀ {args ps:List Expr} {e:Expr},jc args=some (ps,some e)->(backTo p (starEach args env)).all (λx=>!x.1)=false
 |[],_,_,h=>by cases h
 |e1::r1,ps,e,h=>by
  rcases xQ h with ⟨q,ha,rfl⟩|⟨e0,r,jB,ha,h0,rfl,hr⟩
  ·cases ha; rfl
  ·cases ha
   rw [lN h0]
   show (true&&(backTo p (starEach r1 env)).all _)=false
   rw [Bool.true_and]
   exact ER hr
theorem Dc {Iu:Bool} {o:Expr} {env:Env} {apos pos:Pos} (h:(apos.endLine==pos.line)=true):methodCallPos Iu o env apos pos=pure pos:=by
 unfold methodCallPos; simp [h]
theorem Qk (B:V.Base) (aw:V.cN) (dk:V.lU) (hC:fP V cl n) (K:F.Ok) (hA:ff F A cl n l) {f:Expr->E} {o:Expr} {attr:Str} {a:Nm} {apos pos:Pos} {args:List Expr}
  (ho:mI o=false) (ha:cJ attr=some a) (jV:args.any dp=false) (we:(apos.endLine==pos.line)=true) (hlen:args.length<20)
  (hO:az V F A cl (f o) o) (jZ : ∀ x∈args,az V F A cl (f x) x) :
  az V F A cl (.a9 (f o) a (bq f args)) (.Call (.Attribute o attr apos) args [] pos):=by
 have en:=lC ha
 subst en
 refine .of rfl λm C g s I=>?_
 refine aj.seq (K:=λov Q E s₁=>wpAny V.M A (methodCall o a.str apos pos F.env ov (args.length+([]:List Keyword).length) (backTo pos (starEach args F.env)) (backToKw pos (keywordEach [] F.env))) Q E s₁) (hO m C g s I).1
  (λQ E x=>by rw [arm_eval_Call,uB ho]; exact wpAny_bind (wpAny_mono x (λu' u' y=>wpAny_bind (wpAny_standAt y)) λu' u' y=>y)) λd st g₁ s₁ v u' u' I₁ rx=>?_
 induction hm:du V.P st.C d a with
 |none=>trivial
 |some mk=>
  dsimp only
  have v3:methodCallForm (args.length+([]:List Keyword).length) (backTo pos (starEach args F.env)) (backToKw pos (keywordEach [] F.env))=true:=by
   unfold methodCallForm
   rw [QJ jV]
   exact decide_eq_true (show args.length<30 from lt_of_lt_of_le hlen (by decide))
  refine aj.seq (K:=λvs Q E s₂=>c9 V.M A (fh V mk) (v::vs) [] Q E s₂) (xE (p:=pos) (fm.of jV jZ) _ _ _ _ I₁) (λQ E x=>?_) λdl aB g₂ s₂ vs u' br I₂ rl=>?_
  ·unfold methodCall
   rw [v3]
   refine wpAny_bind (wpAny_holding (OO B aw I₁ rx hm ?_))
   refine wpAny_bind (wpAny_of_eq (Dc we) ?_)
   refine uP (vc (by rw [rj]; exact qG jV) rfl ?_)
   exact wpAny_mono x (λvs s₂ y=>wpAny_evalAll_nil y) λu' u' y=>y
  ·obtain ⟨ds,rfl,rd⟩:=rl
   exact O2 B hC dk.keep K hA I₂ mk (rx.mono br.toLe) rd
set_option tactic.hygienic true in
theorem Qm (B:V.Base) (aw:V.cN) (dk:V.lU) (hC:fP V cl n) (K:F.Ok) (hA:ff F A cl n l) {f:Expr->E} {o:Expr} {attr:Str} {a:Nm} {apos pos:Pos} {args ps:List Expr} {e:Expr}
  (ho:mI o=false) (ha:cJ attr=some a) (hs:jc args=some (ps,some e)) (we:(apos.endLine==pos.line)=true)
  (hO:az V F A cl (f o) o) (jZ : ∀ x∈e::ps,az V F A cl (f x) x) :
  az V F A cl (.eU (f o) a (bq f ps) (f e)) (.Call (.Attribute o attr apos) args [] pos):=by
 have en:=lC ha
 subst en
 refine .of rfl λm C g s I=>?_
 refine aj.seq (K:=λov Q E s₁=>wpAny V.M A (methodCall o a.str apos pos F.env ov (args.length+([]:List Keyword).length) (backTo pos (starEach args F.env)) (backToKw pos (keywordEach [] F.env))) Q E s₁) (hO m C g s I).1
  (λQ E x=>by rw [arm_eval_Call,uB ho]; exact wpAny_bind (wpAny_mono x (λu' u' y=>wpAny_bind (wpAny_standAt y)) λu' u' y=>y)) λd st g₁ s₁ v e₁ cM I₁ rx=>?_
 induction hm:du V.P st.C d a with
 |none=>trivial
 |some mk=>
  induction mk using MK.casesOn<;>first|trivial|skip
  rename_i k fk
  dsimp only
  show aj _ _ _ _ _ _ ((ji V.P cl f ps e st).bind _)
  have v3:methodCallForm (args.length+([]:List Keyword).length) (backTo pos (starEach args F.env)) (backToKw pos (keywordEach [] F.env))=false:=by
   unfold methodCallForm
   rw [ER hs]; rfl
  obtain ⟨i,rfl⟩:=MY hm
  obtain ⟨c,es,f',hc,iQ,hf,Km,KU,e⟩:=w4 hm
  obtain rfl:fk=f':=by injection e
  have ok:=aw _ c hc
  obtain ⟨x,dx,ox,ents,nn,rfl,hI,h1,h2,h3,h4,h5⟩:=I₁.inst rx iQ
  obtain ⟨oo,KC,hr⟩:=h4.getL a
  rw [Km] at hr
  have:=tJ hr
  subst this
  obtain ⟨m1,m2,m3,m4,m5⟩:=ok.meths a _ hf
  obtain ⟨hD,_⟩:=ok.own KU
  obtain ⟨q,I₂⟩:=I₁.kl (W.methodObj (.ref (V.a6 fk)) (.ref x)) rfl (s₁.toks+1)
  have dQ:s₁.heap.objs.size=s₁.heap.objs.size:=rfl
  refine aj.go (s':={s₁ with heap:=s₁.heap.push (W.methodObj (.ref (V.a6 fk)) (.ref x)),toks:=s₁.toks+1}) (aj.from q (aj.seq (K:=λ(ar:Args) Q E s₂=>c9 V.M A (.ref s₁.heap.objs.size) ar.pos ar.kw Q E s₂)
   (W':=λQ E s₂=>wpAny V.M A (callWith pos (.ref s₁.heap.objs.size) [] (backTo pos (starEach args F.env)) []) Q E s₂) (O9 (p:=pos) (fv:=.ref s₁.heap.objs.size) hs jZ I₂) (λQ E x=>uP x) λdl aB g₃ s₃ ar u' gn I₃ ra=>?_)) λQ E z=>?_
  ·obtain ⟨pS,ds,rfl,rd⟩:=ra
   have jW:s₃.heap.get? s₁.heap.objs.size=some (W.methodObj (.ref (V.a6 fk)) (.ref x)):=I₃.ay _ _ (gn.toLe.ay _ _ (Gh.bh ..))
   have ez:af V g₃ (.inst k i) (.ref x):=rx.mono (q.toLe.trans gn.toLe)
   dsimp only
   simp only [oq]
   by_cases de:cl.fuel=0
   ·rw [hC.none de]; trivial
   ·have:=hC.some fk K (hA.c de) I₃ (.cons ez rd) (ks:=[]) (aA:=[]) trivial
    refine aj.wp this λQ E z=>And.intro ?_ ?_
    ·have L:=W.keeps_M (M:=V.M) (K:=V.K) (q:=s₁.heap.objs.size) (self:=.ref x) (f:=V.a6 fk) ?_ s₃.heap ⟨jW,I₃.cR B⟩
     ·obtain ⟨k,_,L⟩:=L; exact ⟨k,L⟩
     ·exact dk.fn fk
    ·rw [pS]
     exact wpAny_call (W.method_call jW z)
  ·unfold methodCall
   rw [v3]
   refine wpAny_bind (wpAny_holding ?_)
   unfold calleeOf
   rw [if_neg Bool.false_ne_true]
   refine wpAny_bind ?_
   refine W.get_bind (I₁.cR B) hI (W.plainGet_of ok.get).1 (W.findObj_fn hD m1 m3 m4 m5 (by show W.lookIn a.str (W.dictOf ents nn)=_; rw [W.lookIn_dict,KC])) (W.plainGet_of ok.get).2 (wpAny_call ?_)
   refine W.fn_get (s:={s₁ with toks:=s₁.toks+1}) (show V.K.In s₁.heap from I₁.cR B) m2 (W.handed_on rfl ?_)
   refine wpAny_pure ?_
   exact wpAny_bind (wpAny_of_eq (Dc we) z)
end
section
variable {V:av} {G:aV} {F:aD} {A:Around} {cl:Calls} {m:List (Option D)} {C:ai} {g:Gh} {s:Shared} {n l:Nat}
theorem Ru {A:Around} {Cc:Addr} {rest:List Value} {kw:List (Str × Value)} :
  (A.under (.builtin "type.__call__" ⟨.ref Cc::rest,kw⟩)).frames=A.frames/\(A.under (.builtin "type.__call__" ⟨.ref Cc::rest,kw⟩)).depth=A.depth+1/\
  (A.under (.builtin "type.__call__" ⟨.ref Cc::rest,kw⟩)).units<=A.units+8/\(A.under (.builtin "type.__call__" ⟨.ref Cc::rest,kw⟩)).handled=A.handled:=by
 refine ⟨rfl,?_,?_,rfl⟩
 ·show A.depth+_=_
  congr 1
 ·show A.units+_<=_
  have:(Code.builtin "type.__call__" ⟨.ref Cc::rest,kw⟩).cUnits<=8:=by show 1+3*0<=8; decide
  omega
theorem ah.size_push (I:ah V F m C g s) (o:Obj):(s.heap.push o).objs.size=s.heap.objs.size+1:=Heap.size_push ..
set_option tactic.hygienic true in
theorem OK (B:V.Base) (aw:V.cN) (hC:fP V cl n) (K:F.Ok) (hA:ff F A cl n l) (I:ah V F m C g s) (k:Nat) {ds:List D} {vs:List Value} (rd:aG V g ds vs) :
  aj V F (af V) (oQ V.M A (.call (.ref (V.aX k)) ⟨vs,[]⟩)) g s (nD V.P cl k ds ⟨m,C⟩):=by
 unfold nD
 induction hc:V.P.dg k with
 |none=>trivial
 |some c=>
  dsimp only
  have ok:=aw k c hc
  have uc := @Ru A (V.aX k) vs []
  have Y:=W.makes_of (M:=V.M) (I.cR B) ok.makes
  have hi:=W.looks_findIn (M:=V.M) (I.cR B) ok.init
  by_cases hf:cl.fuel=0
  ·split<;>(rw [hC.none hf]; trivial)
  have Jj:oP F (A.under (.builtin "type.__call__" ⟨.ref (V.aX k)::vs,[]⟩)) n:=
   ⟨by rw [uc.1]; exact hA.frames,by rw [uc.2.1]; exact FW hA.depth,FY uc.2.2.1 hA.units,by rw [uc.2.2.2]; exact hA.calm hf⟩
  have core : ∀ {o:D} {C₁:ai} {g₁:Gh},g.Step g₁->ah V F m C₁ g₁ {s with heap:=(s.heap.push W.emptyDict).push (W.instObj (V.aX k) s.heap.objs.size)}->af V g₁ o (.ref (s.heap.objs.size+1))->
    aj V F (af V) (oQ V.M A (.call (.ref (V.aX k)) ⟨vs,[]⟩)) g s (mF o m (cl.call c.init (o::ds) [] C₁)):=by
   intro o C₁ g₁ cM I₁ ro
   have fB:=hC.some (F:=F) (A:=A.under (.builtin "type.__call__" ⟨.ref (V.aX k)::vs,[]⟩)) c.init K Jj I₁ (.cons ro (rd.mono cM.toLe)) (ks:=[]) (aA:=[]) trivial
   induction hr:cl.call c.init (o::ds) [] C₁ with
   |fail=>trivial
   |exc _ _=>trivial
   |ok d aB=>
    rw [hr] at fB
    induction d using D.casesOn<;>first|trivial|skip
    intro Q E q
    show codeAny _ _ _ _ _
    refine W.make_core (h:=s.heap) (g:=s.gens) (d:=s.drawn) (t:=s.toks) (os:=s.os) (R:=tP Q E) Y hi (λself=>W.bind_fn (I.cR B) self ok.LM) (.inl rfl) ?_
    refine codeAny_mono (fB (λv s'=>v=.none/\Q (.ref (s.heap.objs.size+1)) s') E λg' a s' br I₂ ra=>?_) λr s' z=>?_
    ·obtain rfl:=ra.wD
     exact ⟨rfl,q g' _ s' (cM.trans br) I₂ (ro.mono br.toLe)⟩
    ·rcases r with e|(v|_|_|_)<;>exact z
  split
  ·rename_i ns hs
   obtain ⟨aa,I1⟩:=I.kl W.emptyDict rfl s.toks
   have bU:=I.size_push W.emptyDict
   have I2:=ah.uR (h':=(s.heap.push W.emptyDict).push (W.instObj (V.aX k) s.heap.objs.size)) (t:=s.toks) (a:=s.heap.objs.size+1) (o:=W.instObj (V.aX k) s.heap.objs.size) (c:=.slots k (replicate ns.length none)) I1
    (λb o e=>Heap.get?_push_of_some _ e) (Heap.get?_none_of_le (by rw [bU]; exact le_refl _)) (by have:=Heap.get?_push_size (s.heap.push W.emptyDict) (o:=W.instObj (V.aX k) s.heap.objs.size) rfl; rw [bU] at this; exact this)
    ⟨rfl,⟨_,rfl,by rw [Gh.aW _ _ (ne_of_lt (lt_succ_self _))]; exact Gh.bh ..⟩,rfl,λj hj=>by
     rw [List.getElem?_replicate]
     split<;>exact trivial⟩
   have k7:(g.put s.heap.objs.size (some (.ay W.emptyDict))) (s.heap.objs.size+1)=none:=I1.apart (Heap.get?_none_of_le (by rw [bU]; exact le_refl _))
   have ae:(g.put s.heap.objs.size (some (.ay W.emptyDict))).Step ((g.put s.heap.objs.size (some (.ay W.emptyDict))).put (s.heap.objs.size+1) (some (.cell C.length))):=
    ⟨Gh.gf _ k7,λb o'=>⟨λe=>(by rw [Gh.aW]; exact e; intro q; subst q; rw [k7] at e; exact ao e),λe=>(by
     rcases Gh.bz e with ⟨_,q⟩|⟨_,q⟩
     ·cases q
     ·exact q)⟩⟩
   exact core (aa.trans ae) I2 (.loc (Gh.bh ..))
  ·rename_i hs
   have k7:g s.heap.objs.size=none:=I.eY
   have bU:=I.size_push W.emptyDict
   have I1:=ah.uR (h':=s.heap.push W.emptyDict) (t:=s.toks) (a:=s.heap.objs.size) (o:=W.emptyDict) (c:=.cC []) I
    (λb o e=>Heap.get?_push_of_some _ e) (Heap.get?_none_of_le (le_refl _)) (Heap.get?_push_size _ rfl) ⟨zero_le _,[],0,rfl,trivial,nodup_nil⟩
   have aa:g.Step (g.put s.heap.objs.size (some (.cell C.length))):=
    ⟨Gh.gf _ k7,λb o'=>⟨λe=>(by rw [Gh.aW]; exact e; intro q; subst q; rw [k7] at e; exact ao e),λe=>(by
     rcases Gh.bz e with ⟨_,q⟩|⟨_,q⟩
     ·cases q
     ·exact q)⟩⟩
   obtain ⟨ae,I2⟩:=I1.kl (W.instObj (V.aX k) s.heap.objs.size) rfl s.toks
   have e:(s.heap.push W.emptyDict).objs.size=s.heap.objs.size+1:=bU
   dsimp only at ae I2
   rw [e] at ae I2
   refine core (aa.trans ae) I2 (.inst (Gh.bh ..) ?_)
   rw [Gh.aW _ _ (ne_of_lt (lt_succ_self _))]; exact Gh.bh ..
end
section
variable {V:av} {G:aV} {F:aD} {A:Around} {cl:Calls} {m:List (Option D)} {C:ai} {g:Gh} {s:Shared} {n l:Nat}
abbrev cq (V:av) (A:Around) (b:Bn) (vs:List Value):Tr Value:=wpAny V.M A (call b.val vs [])
theorem ah.SR (I:ah V F m C g s) (t:Nat):ah V F m C g {s with toks:=t}:=I.tok t
theorem qz (I:ah V F m C g s) {W:Tr Value} {d:D} {v:Value} {t:Nat} (r:af V g d v) (f : ∀ Q E,Q v {s with toks:=t}->W Q E s):aj V F (af V) W g s (.ok d ⟨m,C⟩):=
 λQ E k=>f Q E (k g _ _ (.refl g) (I.tok t) r)
theorem OV (I:ah V F m C g s) {d:D} {v:Value} (r:af V g d v):aj V F (af V) (cq V A .len [v]) g s (y8 d ⟨m,C⟩):=aj.aK λk hk=>by
 have list : ∀ {ds:List D},aT C d=some ds->aj V F (af V) (cq V A .len [v]) g s (.ok (.int ds.length) ⟨m,C⟩):=λ{ds} h=>by
  obtain ⟨a,vs,k,rfl,hl,hz,rs⟩:=I.list r h
  refine qz I (v:=.int vs.toArray.size (s.toks+1)) (t:=s.toks+1+1) ?_ λQ E q=>Calls.call_len_list hl.isList (oh hz) q
  rw [rs.length]; exact .int _ _
 induction d using D.casesOn<;>first|exact ao hk|skip
 ·obtain rfl:=Option.some.inj hk
  obtain ⟨t,hz,rfl⟩:=r.mE
  exact qz I (v:=.int _ (s.toks+1)) (t:=s.toks+1+1) (.int _ _) λQ E q=>W.len_bytes (le_trans hz (by decide)) q
 ·obtain rfl:=Option.some.inj hk
  obtain ⟨a,vs,k,rfl,hl,hz,rs⟩:=I.tup r
  refine qz I (v:=.int vs.toArray.size (s.toks+1)) (t:=s.toks+1+1) ?_ λQ E q=>PyProof.Rows.len_tuple (IsTup.mk' hl) (oh hz) q
  rw [rs.length]; exact .int _ _
 ·obtain rfl:=Option.some.inj hk
  exact list rfl
 ·obtain ⟨ch,hC,hk⟩:=aO hk
  induction ch using Ch.casesOn<;>first|exact ao hk|skip
  ·obtain rfl:=Option.some.inj hk
   exact list (iC hC)
  ·obtain rfl:=Option.some.inj hk
   obtain ⟨_,h1,rfl⟩:=r.gc
   obtain ⟨hz,o,ents,ep,t,ho,x1,x2,x3,x4,x5,x6,x7⟩:=I.setOf h1 hC
   refine qz I (v:=.int ents.size (s.toks+1)) (t:=s.toks+1+1) ?_ λQ E q=>call_len_set ho x1 x2 x6 (by rw [x7]; omega) q
   rw [x7]; exact .int _ _
theorem O4 (I:ah V F m C g s) {k:Int} {t:Tok}:aj V F (af V) (cq V A .range [.int k t]) g s (.ok (.bZ 0 k) ⟨m,C⟩):=λQ E q=>by
 refine call_range_1 ?_
 obtain ⟨st,I'⟩:=I.kl {cls:=.type "range",data:=.fields #[.int 0 s.toks,.int k t,.int 1 (s.toks+1)]} rfl (s.toks+1+1)
 exact q _ _ _ st I' (.bZ (Gh.bh ..) rfl)
theorem O5 (I:ah V F m C g s) {a b:Int} {t u:Tok}:aj V F (af V) (cq V A .range [.int a t,.int b u]) g s (.ok (.bZ a b) ⟨m,C⟩):=λQ E q=>by
 refine call_range_2 ?_
 obtain ⟨st,I'⟩:=I.kl {cls:=.type "range",data:=.fields #[.int a t,.int b u,.int 1 s.toks]} rfl (s.toks+1)
 exact q _ _ _ st I' (.bZ (Gh.bh ..) rfl)
theorem ah.vx (I:ah V F m C g s) {h':Heap} {t:Nat} {o:Obj} (k : ∀ b o,s.heap.get? b=some o->h'.get? b=some o) (ho:h'.get? s.heap.objs.size=some o) :
  g.Step (g.put s.heap.objs.size (some (.ay o)))/\ah V F m C (g.put s.heap.objs.size (some (.ay o))) {s with heap:=h',toks:=t}:=
 ⟨Gh.kr I.eY,I.more k (Heap.get?_none_of_le (le_refl _)) ho (.inl rfl)⟩
theorem xA (I:ah V F m C g s) {d:D} {v:Value} (r:af V g d v) {ds:List D} (h:bK C d=some ds):aj V F (af V) (cq V A .list [v]) g s (.ok (.lst ds) ⟨m,C⟩):=by
 obtain ⟨a,T,vs,k,rfl,hT,ho,hz,rs⟩:=I.seq r h
 intro Q E q
 refine call_list_seq a hT ho rfl rfl (λh' c' hk hn=>?_) (dv (by simpa using hz))
 obtain ⟨st,I'⟩:=I.vx (t:=s.toks) hk hn
 exact q _ _ _ st I' (.lst (Gh.bh ..) ⟨hz,_,rfl⟩ (rs.mono st.toLe))
theorem aG.ofInts {V:av} {g:Gh} {f:Nat->Int} : ∀ {k:Nat} {vs:List Value},vs.length=k->(∀ (j:Nat) (v:Value),vs[j]?=some v->∃ t,v=Value.int (f j) t)->aG V g ((List.range k).map λj=>D.int (f j)) vs:=by
 intro k
 induction k generalizing f with
 |zero=>intro vs h _; induction vs using List.casesOn with|nil=>exact .nil|cons _ _=>cases h
 |succ k ih=>
  intro vs h hv
  induction vs using List.casesOn with
  |nil=>cases h
  |cons v vs=>
   obtain ⟨t,rfl⟩:=hv 0 v (by simp)
   rw [List.range_succ_eq_map,map_cons,map_map]
   refine .cons (.int _ _) (ih (f:=λj=>f (j+1)) (by simpa using h) λj v e=>hv (j+1) v (by simpa using e))
theorem SK {a:Int} (h:small a=true) : -(2 ^ 64)<a/\a<2 ^ 64:=by
 have:=m7 h; omega
theorem Ea (a b:Int):Builtin.Range.rangeSize a b 1=((b - a).toNat:Nat):=by
 show (if a<b then (b - a - 1) / 1+1 else 0)=_
 by_cases h:a<b
 ·rw [if_pos h,Int.ediv_one,Int.sub_add_cancel,Int.toNat_of_nonneg (Int.sub_nonneg_of_le (Int.le_of_lt h))]
 ·rw [if_neg h,Int.toNat_of_nonpos (Int.sub_nonpos_of_le (Int.not_lt.mp h))]; rfl
theorem vj {a:Int} (lo : -(2 ^ 63)<=a) (hi:a<2 ^ 63):Builtin.Range.rangeFitsLong a=true:=by
 show (decide (-(2 ^ 63)<=a)&&decide (a<2 ^ 63))=true
 rw [decide_eq_true lo,decide_eq_true hi]; rfl
theorem n7 {a:Int} (h:a.natAbs<2 ^ 60) : -(2 ^ 63)<=a/\a<2 ^ 63:=
 have e:(a.natAbs:Int)<2 ^ 63:=Int.lt_trans (ofNat_lt.mpr h) (by decide)
 ⟨Int.le_trans (Int.neg_le_neg (Int.le_of_lt e)) (Int.neg_le_of_neg_le (by rw [<-Int.natAbs_neg]; exact le_natAbs)),Int.lt_of_le_of_lt le_natAbs e⟩
theorem D9 {a b:Int} (h:oD a b=true):Builtin.Range.small a b 1=true/\b - a<=aF:=by
 unfold oD at h
 simp only [and_eq_true,decide_eq_true_eq] at h
 refine ⟨?_,h.2⟩
 have e:(((b - a).toNat:Nat):Int)<=aF:=ofNat_le.mpr (Int.toNat_le.mpr h.2)
 have fb:=vj (n7 h.1.2).1 (n7 h.1.2).2
 show (Builtin.Range.rangeFitsLong a&&Builtin.Range.rangeFitsLong b&&Builtin.Range.rangeFitsLong 1&&Builtin.Range.rangeFitsLong (Builtin.Range.rangeSize a b 1)&&(Builtin.Range.rangeSize a b 1==0||Builtin.Range.rangeFitsLong (b+0)))=true
 rw [vj (n7 h.1.1).1 (n7 h.1.1).2,fb,Ea,vj (Int.le_trans (by decide) (natCast_nonneg _)) (Int.lt_of_le_of_lt e (by decide)),Int.add_zero,fb,Bool.or_true]; rfl
set_option tactic.hygienic true in
theorem O0 (hh:A.handled=none) (I:ah V F m C g s) {a b:Int} {v:Value} (r:af V g (.bZ a b) v) (hz:b - a<=aF) (hs:Builtin.Range.small a b 1=true):aj V F (af V) (cq V A .list [v]) g s (.ok (.lst (eD a b)) ⟨m,C⟩):=by
 cases r with
 |bZ h1 h2=>
  rename_i ra o t₁ t₂ t₃
  intro Q E q
  have hr:IsRange s.heap ra a b 1 t₁ t₂ t₃:=by rw [eG] at h2; subst h2; exact I.ay _ _ h1
  have hn:Builtin.Range.rangeSize a b 1=((b - a).toNat:Nat):=Ea a b
  have hl:(b - a).toNat<=100000:=Int.toNat_le.mpr hz
  refine call_list_range hh hr hs hn (le_trans hl (by decide)) λh' tk acc c' hk ho kW=>?_
  obtain ⟨st,I'⟩:=I.vx (t:=tk) hk ho
  obtain ⟨h3,h4⟩:=kW
  refine q _ _ _ st I' (.lst (Gh.bh ..) (vs:=acc.toList) ⟨by rw [Array.length_toList,h3]; exact hl,_,by simp; rfl⟩ ?_)
  unfold eD
  exact aG.ofInts (f:=λj=>a+(j:Int)) (by simpa using h3) λj v e=>by
   obtain ⟨t,rfl⟩:=h4 j v (by simpa using e)
   exact ⟨t,by simp⟩
theorem Pe (I:ah V F m C g s) {d:D} {v:Value} (r:af V g d v) {ds:List D} (h:aT C d=some ds):aj V F (af V) (cq V A .tuple [v]) g s (.ok (.tup ds) ⟨m,C⟩):=by
 obtain ⟨a,vs,k,rfl,hl,hz,rs⟩:=I.list r h
 intro Q E q
 refine call_tuple_list hl.isList (λh' hk=>?_) (dv (by simpa using hz))
 have I1:=I.heap hk
 obtain ⟨st,I'⟩:=I1.kl {cls:=.type "tuple",data:=.seq vs.toArray} rfl s.toks
 exact q _ _ _ st I' (.tup (Gh.bh ..) ⟨hz,_,rfl⟩ (rs.mono st.toLe))
theorem LN {V:av} {g:Gh} {ds:List D} {xs:List Int} {vs:List Value} (h:d8 ds=some xs) (r:aG V g ds vs) : ∃ ys:Array (Int × Tok),vs.toArray=intItems ys/\ys.toList.map (·.1)=xs:=by
 have hi:=qc h r
 have : ∃ l:List (Int × Tok),vs=l.map (λp=>Value.int p.1 p.2)/\l.map (·.1)=xs:=by
  clear h r
  induction hi with
  |nil=>exact ⟨[],rfl,rfl⟩
  |cons n t _ ih=>obtain ⟨l,rfl,h2⟩:=ih; exact ⟨(n,t)::l,rfl,by simp [h2]⟩
 obtain ⟨l,rfl,h2⟩:=this
 exact ⟨l.toArray,by simp [intItems],by simpa using h2⟩
theorem zl : ∀ {xs:List Int},(∀ x∈xs,x.natAbs<2 ^ 32)->xs.sum.natAbs<=xs.length*2 ^ 32
 |[],_=>by simp
 |x::r,h=>by
  have ih:=zl (xs:=r) λy hy=>h y (.tail _ hy)
  have hx:=h x (.head _)
  rw [List.sum_cons,length_cons]
  exact le_trans (Int.natAbs_add_le x r.sum) (le_trans (add_le_add (le_of_lt hx) ih) (by rw [succ_mul]; exact le_of_eq (add_comm _ _)))
theorem Pc (hh:A.handled=none) (I:ah V F m C g s) {d:D} {v:Value} (r:af V g d v) {ds:List D} {xs:List Int} (h:aT C d=some ds) (hx:d8 ds=some xs) (hb : ∀ x∈xs,x.natAbs<2 ^ 32) (hz:xs.length<=aF) :
  aj V F (af V) (cq V A .sum [v]) g s (.ok (.int xs.sum) ⟨m,C⟩):=by
 obtain ⟨a,vs,k,rfl,hl,gH,rs⟩:=I.list r h
 obtain ⟨ys,e1,e2⟩:=LN hx rs
 intro Q E q
 have d5:s.heap.IsList a (intItems ys):=e1 ▸ hl.isList
 have nY:aF=100000:=rfl
 have hlen:ys.size=xs.length:=by rw [<-e2]; simp
 refine sum_intList hh d5 (λj hj=>?_) λh' tk t' hk=>?_
 ·rw [numAt_eq,preSum_eq,e2]
  constructor
  ·exact n7 (lt_trans (hb _ (getD_mem (hlen ▸ hj))) (by decide))
  ·have h1:=zl (xs:=xs.take (j+1)) λx hx=>hb x (mem_of_mem_take hx)
   have h2:(xs.take (j+1)).length<=aF:=le_trans (by rw [length_take]; exact Nat.min_le_right _ _) hz
   exact n7 (lt_of_le_of_lt (le_trans h1 (Nat.mul_le_mul_right _ h2)) (by decide))
 ·rw [preSum_eq,e2,List.take_of_length_le (le_of_eq hlen.symm)]
  exact q g _ _ (.refl g) (I.both tk hk) (.int _ _)
end
namespace LB
open PySem.W in
theorem PF:Slot "bytes" "__len__" "bytes.__len__":=FB.slot_bytes_len
section
variable {prog:Program} {w:World} {A:Around} {E:Value->Shared->Prop} {s:Shared} {b:Array UInt8} {t:Tok}
set_option maxRecDepth 100000 in
theorem J9 {Q:Bool->Shared->Prop} (h:Q false s):wpAny (model prog w) A (Builtin.List.listLengthHint (.bytes b t)) Q E s:=by
 unfold Builtin.List.listLengthHint
 refine wpAny_bind (wpAny_specialOf (W.typeIs_bytes _ _ _) PF.lookup ?_)
 generalize BV:("bytes.__len__":String)=Lw
 wp_delta
 rw [show splitId Lw=some ("bytes","__len__") from by subst BV; decide +kernel]
 subst BV
 refine wpAny_bind (wpAny_isInstance (T:="bytes") (b:=true) (W.typeIs_bytes _ _ _) (by rw [isSubtype_type]; kernel_rfl) ?_)
 refine wpAny_ite_split (λeM=>absurd eM (by decide)) (λu'=>?_)
 refine wpAny_ite_split (λu'=>?_) (λeM=>absurd (by decide +kernel) eM)
 refine wpAny_bind (wpAny_typeOf (T:="bytes") (W.typeIs_bytes _ _ _) ?_)
 exact wpAny_pure h
set_option maxRecDepth 100000 in
theorem Iq {R:Result->Shared->Prop} (hh:A.handled=none) (hlen:b.size<=2 ^ 20) (S:Addr) (res:Value) (c₀:Nat) (hS:s.heap.get? S=some {cls:=.type "list",data:=.seq #[] c₀})
  (hR : ∀ h' tk aR c',(∀ b o,b≠S->s.heap.get? b=some o->h'.get? b=some o)->h'.get? S=some {cls:=.type "list",dict:=none,data:=.seq aR c',slots := #[]}->
   ItemsOf (λi v => ∃ c u,b[i]?=some c/\v=.int (c.toNat:Int) u) aR b.size->R (.ok (.ret res)) {s with heap:=h',toks:=tk}) :
  wpAny (model prog w) A.in1 (Builtin.List.listExtendWith (.ref S) (.bytes b t) res)
   (λfin s'=>match fin with|.done f=>R (.ok f) s'|.again c'=>c'.quiet=true/\codeAny (model prog w) A c' R s') (λe s'=>R (.error e) s') s:=by
 have Jy:S<s.heap.objs.size:=Heap.lt_size hS
 have Jw:S≠s.heap.objs.size:=ne_of_lt Jy
 have Jx:S ∉ [s.heap.objs.size]:=λhm=>Jw (mem_singleton.mp hm)
 have WW:=(W.KBw.walks (prog:=prog) (w:=w) (A:=A.in1) hh s.heap.objs.size b t).toS
 have key : ∀ (h:Heap) (c₁ tk:Nat),W.KBw.IsBytesIter h s.heap.objs.size b t 0->(∀ b o,b≠S->s.heap.get? b=some o->h.get? b=some o)->
   h.get? S=some {cls:=.type "list",data:=.seq #[] c₁}->codeAny (model prog w) A (.builtin "list.extend.loop" ⟨[.ref S,.ref s.heap.objs.size,res],[]⟩) R {s with heap:=h,toks:=tk}:=by
  intro h c₁ tk hit hk vJ
  refine codeAny_extend_loopS WW (by rw [sizeLine_eq]; omega) S Jx res b.size 0 _ #[] c₁ rfl (zero_le _) hit vJ (ItemsOf.nil _) λs' aR c' hm iT kW=>?_
  rw [Moved.eq_with hm]
  refine hR s'.heap s'.toks aR c' (λb o hb e=>hm.heap b o (λeO=>?_) (hk b o hb e)) iT kW
  rcases mem_cons.mp eO with e'|eO
  ·exact hb e'
  ·exact absurd (Heap.lt_size e) (by rw [mem_singleton.mp eO]; exact lt_irrefl _)
 unfold Builtin.List.listExtendWith
 refine wpAny_bind (wpAny_typeOf (T:="bytes") (W.typeIs_bytes _ _ _) ?_)
 have h1:Builtin.List.listSameRef (.ref S) (.bytes b t)=false:=rfl
 have h2:(Value.type "bytes"==Value.type "list")=false:=by decide
 have h3:(Value.type "bytes"==Value.type "tuple")=false:=by decide
 simp only [h1,h2,h3,Bool.or_false,false_eq_true,if_false]
 refine wpAny_bind (W.KBw.pyIter_bytes ?_)
 refine wpAny_bind (wpAny_holding (J9 ?_))
 have Ke:W.KBw.IsBytesIter (s.heap.push {cls:=.type "bytes_iterator",data:=.fields #[.bytes b t,.int 0 0]}) s.heap.objs.size b t 0:=⟨_,Heap.get?_push_size _ rfl,rfl,rfl⟩
 have vJ:=Heap.get?_push_of_some {cls:=.type "bytes_iterator",data:=.fields #[.bytes b t,.int 0 0]} hS
 exact wpAny_ite_split (λeM=>absurd eM Bool.false_ne_true) (λu'=>wpAny_pure ⟨plainId_quiet PySem.F.plain_extend_loop _,key _ c₀ _ Ke (λb o u' e=>Heap.get?_push_of_some _ e) vJ⟩)
set_option maxRecDepth 100000 in
theorem GU {Q:Value->Shared->Prop} (hh:A.handled=none) (hlen:b.size<=2 ^ 20)
  (hQ : ∀ h' tk aR c',(∀ b o,s.heap.get? b=some o->h'.get? b=some o)->
   h'.get? s.heap.objs.size=some {cls:=.type "list",dict:=none,data:=.seq aR c',slots := #[]}->ItemsOf (λi v => ∃ c u,b[i]?=some c/\v=.int (c.toNat:Int) u) aR b.size->Q (.ref s.heap.objs.size) {s with heap:=h',toks:=tk}) :
  wpAny (model prog w) A (call (.type "list") [.bytes b t]) Q E s:=by
 refine callType_codes (Q₁:=λobj s₁=>obj=.ref s.heap.objs.size/\s₁={s with heap:=s.heap.push {cls:=.type "list",data:=.seq #[]}}) PySem.F.called_list (PySem.F.typeCall_list_1 _) PySem.F.entry_list_init
  (code_list_new _ ⟨rfl,rfl⟩) λobj s₁ h₁=>?_
 obtain ⟨rfl,rfl⟩:=h₁
 have hS:(s.heap.push {cls:=.type "list",data:=.seq #[]}).get? s.heap.objs.size=some {cls:=.type "list",data:=.seq #[]}:=Heap.get?_push_size _ rfl
 refine ⟨⟨_,hS,rfl⟩,PySem.F.args_list_init_2 _ _,?_⟩
 show wpAny _ _ (do let old <-Builtin.List.listItems (.ref s.heap.objs.size); Builtin.List.listUpdate (.ref s.heap.objs.size) (λu' => #[]); letGo old.toList.reverse; Builtin.List.listExtendWith (.ref s.heap.objs.size) (.bytes b t) .none) _ _ _
 refine wpAny_bind ?_
 unfold Builtin.List.listItems
 refine wpAny_bind (wpAny_seqItems hS rfl (wpAny_pure ?_))
 show wpAny _ _ (updateSeq s.heap.objs.size (λu' => #[]) >>= λu'=>letGo (#[]:Array Value).toList.reverse >>= λu'=>Builtin.List.listExtendWith (.ref s.heap.objs.size) (.bytes b t) .none) _ _ _
 refine wpAny_bind (wpAny_updateSeq hS rfl ?_)
 have vK:=Heap.get?_update_self (Obj.mapSeq (λu'=>(#[]:Array Value))) hS rfl
 refine wpAny_bind (wpAny_letGo ?_)
 refine Iq (A:=A.in1) hh hlen s.heap.objs.size .none _ vK λh' tk aR c' hk iT kW=>⟨rfl,hQ h' tk aR c' (λb o e=>hk b o (ne_of_lt (Heap.lt_size e)) ?_) iT kW⟩
 exact (Heap.get?_update_other _ _ (ne_of_gt (Heap.lt_size e))).trans (Heap.get?_push_of_some _ e)
theorem MU (l:Addr) (items:Array Value) (vZ:(items.size:Int)<2 ^ 63) :
  Meets (Builtin.«bool.__new__» ⟨[.type "bool",.ref l],[]⟩) (λu' R s=>s.heap.IsList l items/\R (.ok (.ret (.bool (!items.isEmpty)))) {s with toks:=s.toks+1+1}):=
 Meets.of_wp λprog w A R s hs=>by
  obtain ⟨hp,g,d,tk,os⟩:=s
  obtain ⟨hl,hs⟩:=hs
  have f1:=PySem.F.conv_sub_bool
  repeat (any_goals (first|assumption|(with_reducible refine wpAny_truthy_list hl vZ ?_)|wp_step))
  all_goals first|exact ⟨_,rfl,hs⟩|exact hs|skip
end
end LB
section
variable {V:av} {G:aV} {F:aD} {A:Around} {cl:Calls} {m:List (Option D)} {C:ai} {g:Gh} {s:Shared} {n l:Nat}
theorem CZ {x y:Int} : ∀ {xs:List Int},y∈gJ x xs↔y=x\/y∈xs
 |[]=>by simp [gJ]
 |a::r=>by
  unfold gJ
  split
  ·simp
  ·simp only [mem_cons,CZ (xs:=r)]
   constructor
   ·rintro (h|h|h)<;>simp [h]
   ·rintro (h|h|h)<;>simp [h]
theorem DP {x:Int} : ∀ {xs:List Int},(gJ x xs).Perm (x::xs)
 |[]=>.refl _
 |a::r=>by
  unfold gJ
  split
  ·exact .refl _
  ·exact (List.Perm.cons a DP).trans (.swap x a r)
set_option tactic.hygienic true in
theorem EN {x:Int} : ∀ {xs:List Int},xs.Pairwise (·<=·)->(gJ x xs).Pairwise (·<=·)
 |[],_=>by simp [gJ]
 |a::r,h=>by
  rw [pairwise_cons] at h
  unfold gJ
  split
  ·rename_i hx
   refine pairwise_cons.mpr ⟨λy hy=>?_,pairwise_cons.mpr h⟩
   rcases mem_cons.mp hy with rfl|hy
   ·omega
   ·have:=h.1 y hy; omega
  ·rename_i hx
   refine pairwise_cons.mpr ⟨λy hy=>?_,EN h.2⟩
   rcases CZ.mp hy with rfl|hy
   ·omega
   ·exact h.1 y hy
theorem xN (xs:List Int):(m8 xs).Perm xs/\(m8 xs).Pairwise (·<=·):=by
 have : ∀ (ys acc:List Int),acc.Pairwise (·<=·)->(ys.foldl (λacc x=>gJ x acc) acc).Perm (ys++acc)/\(ys.foldl (λacc x=>gJ x acc) acc).Pairwise (·<=·):=by
  intro ys
  induction ys with
  |nil=>intro acc h; exact ⟨.refl _,h⟩
  |cons y r ih=>
   intro acc h
   obtain ⟨h1,h2⟩:=ih (gJ y acc) (EN h)
   refine ⟨h1.trans ?_,h2⟩
   exact (List.Perm.append_left r DP).trans List.perm_middle
 have:=this xs [] List.Pairwise.nil
 simpa [m8] using this
theorem aG.ints {V:av} {g:Gh} {xs:List Int} {vs:List Value} (h:IntsAre vs xs):aG V g (xs.map .int) vs:=by
 induction h with
 |nil=>exact .nil
 |cons k t _ ih=>exact .cons (.int _ _) ih
theorem O8 (I:ah V F m C g s) {d:D} {v:Value} (r:af V g d v) {ds:List D} {xs:List Int} (h:aT C d=some ds) (hx:d8 ds=some xs) (hz:xs.length<64) :
  aj V F (af V) (cq V A .sorted [v]) g s (.ok (.lst ((m8 xs).map .int)) ⟨m,C⟩):=by
 obtain ⟨a,vs,k,rfl,hl,gH,rs⟩:=I.list r h
 have hi:=qc hx rs
 have hlen:vs.length=xs.length:=hi.length
 intro Q E q
 refine sorted_ints hl.isList hi (by omega) λout NA a1 a2 a3=>?_
 obtain ⟨e,he⟩:=sortedAll_at s.heap vs out
 have jV:NA=m8 xs:=by
  obtain ⟨p1,p2⟩:=xN xs
  exact List.Perm.eq_of_pairwise (λa b u' u' h1 h2=>Int.le_antisymm h1 h2) a3 p2 (a2.trans p1.symm)
 subst jV
 have k7:s.heap.get? (s.heap.objs.size+1)=none:=Heap.get?_none_of_le (le_succ _)
 have I':=I.more (t:=s.toks) (x:=.ay (seqObj "list" out e)) (λu' u' h=>sortedAll_old h) k7 he (.inl rfl)
 have st:g.Step (g.put (s.heap.objs.size+1) (some (.ay (seqObj "list" out e)))):=Gh.kr (I.apart k7)
 refine q _ _ _ st I' (.lst (Gh.bh ..) (vs:=out.toList) ⟨?_,e,by simp⟩ (aG.ints a1))
 rw [a1.length,(xN xs).1.length_eq]
 have:aF=100000:=rfl
 omega
theorem QW:isSubtype (.type "bytes") (.type "bytes")=pure true:=by rw [isSubtype_type]; kernel_rfl
set_option tactic.hygienic true in
theorem OT (I:ah V F m C g s) {d t:D} {v u:Value} (r:af V g d v) (ru:af V g t u):aj V F (af V) (cq V A .isinstance [v,u]) g s (y1 d t ⟨m,C⟩):=by
 induction d using D.casesOn<;>first|trivial|skip
 ·induction t using D.casesOn<;>first|trivial|skip
  rename_i b
  induction b using Bn.casesOn<;>first|trivial|skip
  obtain rfl:=r.n5
  obtain rfl:=ru.wC
  exact λQ E q=>call_isinstance (isinstance_true (Tx:="bool") PySem.F.isi_meta_bool PySem.F.conv_sub_bool) ⟨rfl,q g _ _ (.refl g) I (.bool _)⟩
 ·induction t using D.casesOn<;>first|trivial|skip
  rename_i b
  induction b using Bn.casesOn<;>first|trivial|skip
  obtain ⟨_,_,rfl⟩:=r.mE
  obtain rfl:=ru.wC
  exact λQ E q=>call_isinstance (isinstance_true (Tx:="bytes") PySem.F.isi_meta_bytes QW) ⟨W.typeIs_bytes _ _ _,q g _ _ (.refl g) I (.bool _)⟩
theorem OI (I:ah V F m C g s) {d:D} {v:Value} (r:af V g d v) {ds:List D} (h:aT C d=some ds):aj V F (af V) (cq V A .bool [v]) g s (.ok (.bool (!ds.isEmpty)) ⟨m,C⟩):=by
 obtain ⟨a,vs,k,rfl,hl,gH,rs⟩:=I.list r h
 intro Q E q
 refine call_bool_1 (LB.MU a vs.toArray (oh gH)) (show _/\_ from ⟨hl.isList,?_⟩)
 refine (⟨rfl,?_⟩:_/\_)
 rw [rs.isEmpty]
 exact q g _ _ (.refl g) (I.tok _) (.bool _)
set_option tactic.hygienic true in
theorem zq : ∀ {xs:List Int} {b:List UInt8},gy xs=some b->(∀ x∈xs,0<=x/\x<256)/\b=xs.map (λx=>x.toNat.toUInt8)
 |[],b,h=>by obtain rfl:=Option.some.inj h; exact ⟨λx hx=>absurd hx not_mem_nil,rfl⟩
 |i::r,b,h=>by
  unfold gy at h
  split at h
  ·rename_i hi
   obtain ⟨b',hb,rfl⟩:=cf h
   obtain ⟨h1,rfl⟩:=zq hb
   exact ⟨λx hx=>by rcases mem_cons.mp hx with rfl|hx; exact hi; exact h1 x hx,rfl⟩
  ·exact ao h
theorem OJ (hh:A.handled=none) (I:ah V F m C g s) {d:D} {v:Value} (r:af V g d v) {ds:List D} {xs:List Int} {b:List UInt8} (h:aT C d=some ds) (hx:d8 ds=some xs) (hb:gy xs=some b) (hz:b.length<=aF) :
  aj V F (af V) (cq V A .bytes [v]) g s (.ok (.bytes b) ⟨m,C⟩):=by
 obtain ⟨a,vs,k,rfl,hl,gH,rs⟩:=I.list r h
 obtain ⟨h1,rfl⟩:=zq hb
 intro Q E q
 refine PySem.call_bytes_ints hl.isList (qc hx rs) h1 (dv gH) hh λh' t k hk=>?_
 exact q g _ _ (.refl g) (I.both k hk) (.bytes _ hz)
theorem xM {a:Int} (h:small a=true):a.natAbs.log2<1920:=by
 have:=m7 h
 by_cases h0:a.natAbs=0
 ·rw [h0]; decide
 ·have:=(Nat.log2_lt h0).mpr this
  omega
theorem Pb (I:ah V F m C g s) {i:Int} {t:Tok} (hs:small i=true):aj V F (af V) (cq V A .str [.int i t]) g s (.ok (.str (Str.ofString (toString i))) ⟨m,C⟩):=
 qz I (t:=s.toks+1) (.str _ _) λQ E q=>P.str_of_int (xM hs) q
set_option tactic.hygienic true in
theorem Pa (hu:A.units+2<cLine) (I:ah V F m C g s) {msg:Str} {v:Value} (r:af V g (.e9 msg) v):aj V F (af V) (cq V A .str [v]) g s (.ok (.str msg) ⟨m,C⟩):=by
 cases r with
 |e9 h1 h2 h3 h4 h5=>
  rename_i a ta o o' u vs
  obtain ⟨hz,k,hk⟩:=h5
  intro Q E q
  refine P.str_of_exc_one PySem.F.excStr_ValueError hu (e:=a) (t0:=ta) ⟨o,_,I.ay _ _ h1,h2,h3,by simp⟩ ⟨_,k,I.ay _ _ h4,hz,hk⟩ ?_
  exact q g _ _ (.refl g) I (.str _ _)
theorem Pf (I:ah V F m C g s) {d:D} {v:Value} (r:af V g d v):aj V F (af V) (cq V A .type [v]) g s (zg d ⟨m,C⟩):=by
 induction d using D.casesOn<;>first|trivial|((first|obtain rfl:=r.n5|obtain ⟨_,_,rfl⟩:=r.mE); first
  |exact λQ E q=>call_type_of (W.typeIs_bytes _ _ _) (by decide) (q g _ _ (.refl g) I (.bn .bytes))
  |exact λQ E q=>call_type_of (Tx:="bool") rfl (by decide) (q g _ _ (.refl g) I (.bn .bool)))
theorem Gh.qH {g:Gh} {a:Addr} {i:Nat} (h:g a=none):g.Step (g.put a (some (.cell i))):=
 ⟨Gh.gf _ h,λb o'=>⟨λe=>(by rw [Gh.aW]; exact e; intro q; subst q; rw [h] at e; exact ao e),λe=>(by
  rcases Gh.bz e with ⟨_,q⟩|⟨_,q⟩
  ·cases q
  ·exact q)⟩⟩
theorem ah.tx (I:ah V F m C g s) {h':Heap} {t:Nat} {o:Obj} {c:Ch} (k : ∀ b o,s.heap.get? b=some o->h'.get? b=some o) (ho:h'.get? s.heap.objs.size=some o)
  (hc:kA V (g.put s.heap.objs.size (some (.cell C.length))) c o):g.Step (g.put s.heap.objs.size (some (.cell C.length)))/\ah V F m (C++[c]) (g.put s.heap.objs.size (some (.cell C.length))) {s with heap:=h',toks:=t}/\
   af V (g.put s.heap.objs.size (some (.cell C.length))) (.loc C.length) (.ref s.heap.objs.size):=
 ⟨Gh.qH I.eY,I.uR k (Heap.get?_none_of_le (le_refl _)) ho hc,.loc (Gh.bh ..)⟩
theorem O6 (I:ah V F m C g s):aj V F (af V) (cq V A .set []) g s (.ok (.loc C.length) ⟨m,C++[.set []]⟩):=λQ E q=>by
 refine call_set_0 λled=>?_
 have dQ:=setObjOf_fresh (knd:=intKind V.prog V.w) led
 unfold Obj.SetObjOf at dQ
 obtain ⟨hex,es,ep,t,hd,JR,eO,bU,hf⟩:=dQ
 obtain ⟨st,I',r⟩:=I.tx (c:=.set []) (t:=s.toks) (λu' u' h=>Heap.get?_push_of_some _ h) (Heap.get?_push_size s.heap (o:={cls:=.type "set",dict:=none,data:=.set #[] 0 (.fresh 0 0 led)}) rfl)
  ⟨zero_le _,es,ep,t,hex,hd,JR,λk=>by rw [<-eO k]; simp,by rw [bU]; unfold scanBound; omega,hf,bU⟩
 exact q _ _ _ st I' r
theorem OU (I:ah V F m C g s) {d:D} {v:Value} (r:af V g d v) {ds:List D} (h:bK C d=some ds):aj V F (af V) (cq V A .iter [v]) g s (.ok (.loc C.length) ⟨m,C++[.bf d 0]⟩):=by
 intro Q E q
 have main : ∀ (a:Addr) (T:String),v=.ref a->((∃ es,d=.tup es)/\T="tuple_iterator"\/(aT C d=some ds/\(∀ es,d≠.tup es))/\T="list_iterator")->
   (∀ {Q':Value->Shared->Prop},Q' (.ref s.heap.objs.size) {s with heap:=s.heap.push {cls:=.type T,data:=.fields #[.ref a,.int 0 0]}}->wpAny V.M A.in1 (pyIter (.ref a)) Q' E s)->
   cq V A .iter [v] Q E s:=by
  intro a T e hT hp
  subst e
  refine Calls.call_function_entry (by decide +kernel) (by decide +kernel) W.kdk_entry_iter (W.kdk_args_iter _) ?_
  unfold Builtin.«iter»
  refine wpAny_bind (m:=someArgs "iter" 1 2 _) (wpAny_of_eq (a:=[Value.ref a]) (by first|rfl|kernel_rfl) ?_)
  show wpAny _ _ (pyIter (.ref a) >>= _) _ _ _
  refine wpAny_bind (hp ?_)
  refine wpAny_pure ⟨_,rfl,?_⟩
  obtain ⟨st,I',r'⟩:=I.tx (c:=.bf d 0) (t:=s.toks) (λu' u' h=>Heap.get?_push_of_some _ h) (Heap.get?_push_size s.heap (o:={cls:=.type T,data:=.fields #[.ref a,.int 0 0]}) rfl) (by
   have st:g.Step _:=Gh.qH (i:=C.length) I.eY
   rcases hT with ⟨⟨es,rfl⟩,rfl⟩|⟨⟨hl,hn⟩,rfl⟩
   ·exact ⟨.ref a,0,rfl,r.mono st.toLe⟩
   ·have:d≠.none:=λe=>by subst e; exact ao hl
    induction d using D.casesOn<;>first|exact absurd rfl this|exact absurd rfl (hn _)|exact ⟨.ref a,0,rfl,r.mono st.toLe⟩)
  exact q _ _ _ st I' r'
 induction d using D.casesOn with
 |tup es=>
  obtain rfl:=Option.some.inj h
  obtain ⟨a,vs,k,e,hl,hz,rs⟩:=I.tup r
  exact main a "tuple_iterator" e (.inl ⟨⟨_,rfl⟩,rfl⟩) λh'=>wpAny_pyIter_tuple ⟨_,hl,rfl,_,rfl⟩ h'
 |lst es=>
  obtain ⟨a,vs,k,e,hl,hz,rs⟩:=I.list (ds:=ds) r h
  exact main a "list_iterator" e (.inr ⟨⟨h,λu' e=>by cases e⟩,rfl⟩) λh'=>wpAny_pyIter_list hl.isList h'
 |loc j=>
  obtain ⟨a,vs,k,e,hl,hz,rs⟩:=I.list (ds:=ds) r h
  exact main a "list_iterator" e (.inr ⟨⟨h,λu' e=>by cases e⟩,rfl⟩) λh'=>wpAny_pyIter_list hl.isList h'
 |_=>exact ao h
end
noncomputable def nc (t:Addr):Obj:={cls:=.type "StopIteration",data:=.fields #[.ref t,.none,.none,.none,.bool false,.none]}
noncomputable def kN:Obj:={cls:=.type "tuple",data:=.seq #[]}
section
variable {V:av} {G:aV} {F:aD} {A:Around} {cl:Calls} {m:List (Option D)} {C:ai} {g:Gh} {s:Shared} {n l:Nat}
theorem Rl {prog:Program} {w:World} {E:Value->Shared->Prop} {it la:Addr} {o:Obj} {i:Nat} {t:Tok} {items:Array Value} {k:Nat} {x:Value} {b:Builtin} (hb:b=Builtin.«list_iterator.__next__»\/b=Builtin.«tuple_iterator.__next__») {P:Fin->Shared->Prop} (ho:s.heap.get? it=some o) (hd:o.data=.fields #[.ref la,.int i t])
  {ol:Obj} (hl:s.heap.get? la=some ol) (ib:ol.data=.seq items k) (hx:items[i]?=some x) (h:P (.done (.ret x)) {s with heap:=s.heap.update it (Obj.mapFields (·.setIfInBounds 1 (rawInt ((i:Int)+1))))}) :
  wpAny (model prog w) A (b ⟨[.ref it],[]⟩) P E s:=by
 rcases hb with rfl|rfl
 all_goals
  show wpAny _ _ (field (.ref it) 0 >>= _) _ _ s
  refine wpAny_bind (wpAny_field ho hd (x:=.ref la) rfl ?_)
  show wpAny _ _ (if (Value.ref la==Value.none)=true then _ else _) _ _ s
  rw [if_neg (show ¬ ((Value.ref la==Value.none)=true) from Bool.false_ne_true)]
  show wpAny _ _ (field (.ref it) 1 >>= _) _ _ s
  refine wpAny_bind (wpAny_field ho hd (x:=.int i t) rfl ?_)
  show wpAny _ _ (seqItems? (.ref la) >>= _) _ _ s
  refine wpAny_bind (wpAny_seqItems hl ib ?_)
  simp only [toNat_natCast,hx]
  exact wpAny_bind (wpAny_setField ho hd (by simp) (wpAny_pure h))
theorem Rk {prog:Program} {w:World} {E:Value->Shared->Prop} {it la:Addr} {o:Obj} {i:Nat} {t:Tok} {items:Array Value} {k:Nat} {b:Builtin} (hb:b=Builtin.«list_iterator.__next__»\/b=Builtin.«tuple_iterator.__next__») {P:Fin->Shared->Prop} (hh:A.handled=none) (ho:s.heap.get? it=some o) (hd:o.data=.fields #[.ref la,.int i t])
  {ol:Obj} (hl:s.heap.get? la=some ol) (ib:ol.data=.seq items k) (hx:items[i]?=none)
  (h:E (.ref (s.heap.objs.size+1)) {s with heap:=((s.heap.update it (Obj.mapFields (·.setIfInBounds 0 Value.none))).push kN).push (nc s.heap.objs.size)}) :
  wpAny (model prog w) A (b ⟨[.ref it],[]⟩) P E s:=by
 rcases hb with rfl|rfl
 all_goals
  show wpAny _ _ (field (.ref it) 0 >>= _) _ _ s
  refine wpAny_bind (wpAny_field ho hd (x:=.ref la) rfl ?_)
  show wpAny _ _ (if (Value.ref la==Value.none)=true then _ else _) _ _ s
  rw [if_neg (show ¬ ((Value.ref la==Value.none)=true) from Bool.false_ne_true)]
  show wpAny _ _ (field (.ref it) 1 >>= _) _ _ s
  refine wpAny_bind (wpAny_field ho hd (x:=.int i t) rfl ?_)
  show wpAny _ _ (seqItems? (.ref la) >>= _) _ _ s
  refine wpAny_bind (wpAny_seqItems hl ib ?_)
  simp only [toNat_natCast,hx]
  refine wpAny_bind (wpAny_rule (wpAny_bind (wpAny_setField ho hd (by simp) ?_)))
  show wpAny _ _ (newExc (.type "StopIteration") [] >>= _) _ _ _
  refine wpAny_bind ?_
  simp only [newExc,newTuple]
  refine wpAny_bind (wpAny_newObj_type ?_ (by size_fits))
  refine wpAny_bind (m:=firstArgMember _ _) (wpAny_of_eq (a:=Value.none) (by first|rfl|(simp only [firstArgMember]; rfl)) ?_)
  refine wpAny_newObj_type ?_ (by size_fits)
  delta raiseNew; dsimp only
  refine wpAny_bind (wpAny_handled ?_)
  rw [hh]
  refine wpAny_bind (wpAny_pure (wpAny_throw ?_))
  have e1:(s.heap.update it (Obj.mapFields (·.setIfInBounds 0 Value.none))).objs.size=s.heap.objs.size:=Heap.size_update ..
  have e2:((s.heap.update it (Obj.mapFields (·.setIfInBounds 0 Value.none))).push kN).objs.size=s.heap.objs.size+1:=by rw [Heap.size_push,e1]
  have h':=h
  rw [<-e2] at h'
  have e3:nc s.heap.objs.size=nc (s.heap.update it (Obj.mapFields (·.setIfInBounds 0 Value.none))).objs.size:=by rw [e1]
  rw [e3] at h'
  exact h'
noncomputable def wQ:D->String
 |.tup _=>"tuple"
 |_=>"list"
inductive yo (V:av) (g:Gh) (h:Heap) (i:Nat) (src:D) (p:Nat) (ds:List D) (v:Value):Prop
 |mk (it la:Addr) (vs:List Value) (k:Nat) (t:Tok) (e:v=.ref it) (hg:g it=some (.cell i)) (ho:h.get? it=some {cls:=.type (wQ src++"_iterator"),dict:=none,data:=.fields #[.ref la,.int p t],slots := #[]})
  (hl:h.get? la=some {cls:=.type (wQ src),dict:=none,data:=.seq vs.toArray k,slots := #[]}) (rs:aG V g ds vs) (xt:af V g src (.ref la)):yo V g h i src p ds v
theorem ah.bf (I:ah V F m C g s) {i:Nat} {v:Value} (r:af V g (.loc i) v) {src:D} {p:Nat} {ds:List D} (hC:C[i]?=some (.bf src p)) (hs:bK C src=some ds) :
  yo V g s.heap i src p ds v:=by
 cases r with
 |loc h1=>
  obtain ⟨b,o,e1,e2,e3⟩:=I.cell _ _ hC
  cases I.uniq _ _ _ h1 e1
  induction src using D.casesOn with
  |tup es=>
   obtain ⟨u,t,rfl,ru⟩:=e3
   obtain rfl:=Option.some.inj hs
   obtain ⟨la,vs,k,rfl,hl,hz,rs⟩:=I.tup ru
   exact ⟨_,la,vs,k,t,rfl,h1,e2,hl,rs,ru⟩
  |lst es=>
   obtain ⟨u,t,rfl,ru⟩:=e3
   obtain ⟨la,vs,k,rfl,hl,hz,rs⟩:=I.list ru (ds:=ds) hs
   exact ⟨_,la,vs,k,t,rfl,h1,e2,hl,rs,ru⟩
  |loc j=>
   obtain ⟨u,t,rfl,ru⟩:=e3
   obtain ⟨la,vs,k,rfl,hl,hz,rs⟩:=I.list ru (ds:=ds) hs
   exact ⟨_,la,vs,k,t,rfl,h1,e2,hl,rs,ru⟩
  |_=>exact ao hs
noncomputable def lX (M:Model) (A:Around) (b:Builtin) (args:Args):Tr Value:=λQ E s=>wpAny M A (b args) (λfin s' => ∃ v,fin=.done (.ret v)/\Q v s') E s
noncomputable def oy:D->Builtin
 |.tup _=>Builtin.«tuple_iterator.__next__»
 |_=>Builtin.«list_iterator.__next__»
noncomputable def Sf:D->Bool
 |.tup _=>true
 |_=>false
noncomputable def kq (C:ai) (i:Nat):D:=match C[i]? with
 |some (.bf src _)=>src
 |_=>.none
theorem Dm (d:D):oy d=Builtin.«list_iterator.__next__»\/oy d=Builtin.«tuple_iterator.__next__» := by
 induction d using D.casesOn<;>first|exact .inl rfl|exact .inr rfl
theorem next_item (I:ah V F m C g s) {i:Nat} {it:Addr} (r:af V g (.loc i) (.ref it)) {src d:D} {p:Nat} {ds:List D} (hC:C[i]?=some (.bf src p)) (hs:bK C src=some ds) (hd:ds[p]?=some d) :
  aj V F (af V) (lX V.M A (oy src) ⟨[.ref it],[]⟩) g s (.ok d ⟨m,C.set i (.bf src (p+1))⟩):=λQ E q=>by
 obtain ⟨fH,la,vs,k,t,e,hg,ho,hl,rs,xt⟩:=I.bf r hC hs
 cases e
 obtain ⟨v,hv,rv⟩:=rs.get hd
 refine Rl (Dm _) ho rfl hl rfl (x:=v) (oY hv) ⟨_,rfl,q g _ _ (.refl g) ?_ rv⟩
 refine I.cellSet (t:=s.toks) hg (Heap.SameBut.update ..) (Heap.get?_update_self (Obj.mapFields (·.setIfInBounds 1 (rawInt ((p:Int)+1)))) ho rfl) ?_
 induction src using D.casesOn<;>first|exact ao hs|exact ⟨_,0,rfl,xt⟩
theorem next_end {L:Addr} (hf:F.env.frame=some L) (hh:A.handled=none) (I:ah V F m C g s) {i:Nat} {it:Addr} (r:af V g (.loc i) (.ref it)) {src:D} {p:Nat} {ds:List D} (hC:C[i]?=some (.bf src p))
  (hs:bK C src=some ds) (hd:ds[p]?=none):aj V F (af V) (lX V.M A (oy src) ⟨[.ref it],[]⟩) g s (.exc .stop ⟨m,C.set i (.bf .none 0)⟩):=λQ E q=>by
 obtain ⟨fH,la,vs,k,t,e,hg,ho,hl,rs,xt⟩:=I.bf r hC hs
 cases e
 have hv:vs.toArray[p]?=none:=by
  have:=rs.length
  rw [List.getElem?_eq_none_iff] at hd
  simp; omega
 refine Rk (Dm _) hh ho rfl hl rfl hv ?_
 have dS:=Heap.get?_update_self (Obj.mapFields (·.setIfInBounds 0 Value.none)) ho rfl
 have I1:=I.cellSet (t:=s.toks) (c:=.bf .none 0) hg (Heap.SameBut.update ..) dS trivial
 have e1:(s.heap.update it (Obj.mapFields (·.setIfInBounds 0 Value.none))).objs.size=s.heap.objs.size:=Heap.size_update ..
 have I2:=I1.heap (h':=(s.heap.update it (Obj.mapFields (·.setIfInBounds 0 Value.none))).push kN) λu' u' h=>Heap.get?_push_of_some _ h
 have I3:=I2.heap (h':=((s.heap.update it (Obj.mapFields (·.setIfInBounds 0 Value.none))).push kN).push (nc s.heap.objs.size)) λu' u' h=>Heap.get?_push_of_some _ h
 have e2:((s.heap.update it (Obj.mapFields (·.setIfInBounds 0 Value.none))).push kN).objs.size=s.heap.objs.size+1:=by rw [Heap.size_push,e1]
 have JY:V.h₀.get? s.heap.objs.size=none:=by
  induction q:V.h₀.get? s.heap.objs.size with
  |none=>rfl
  |some o=>exact absurd (Heap.lt_size (I.keep _ _ q)) (lt_irrefl _)
 have JZ:V.h₀.get? (s.heap.objs.size+1)=none:=by
  induction q:V.h₀.get? (s.heap.objs.size+1) with
  |none=>rfl
  |some o=>exact absurd (Heap.lt_size (I.keep _ _ q)) (not_lt.mpr (le_succ _))
 have JT:(((s.heap.update it (Obj.mapFields (·.setIfInBounds 0 Value.none))).push kN).push (nc s.heap.objs.size)).get? (s.heap.objs.size+1)=some (nc s.heap.objs.size):=by
  rw [<-e2]; exact Heap.get?_push_size _ rfl
 have K6:(((s.heap.update it (Obj.mapFields (·.setIfInBounds 0 Value.none))).push kN).push (nc s.heap.objs.size)).get? s.heap.objs.size=some kN:=by
  refine Heap.get?_push_of_some _ ?_
  rw [<-e1]; exact Heap.get?_push_size _ rfl
 refine q g _ _ (.refl g) ⟨I3,_,.type "StopIteration",[],L,rfl,hf,⟨rfl,rfl⟩,⟨?_,JZ,?_⟩⟩
 ·exact I.apart (Heap.get?_none_of_le (le_succ _))
 ·exact ⟨_,_,_,JT,rfl,rfl,rfl,⟨_,0,K6,rfl,rfl⟩,⟨JY,I.eY⟩,.inl rfl⟩
theorem Eu {L:Addr} (hf:F.env.frame=some L) (hh:A.handled=none) (I:ah V F m C g s) {i:Nat} {it:Addr} (r:af V g (.loc i) (.ref it)) :
  aj V F (af V) (lX V.M A (oy (kq C i)) ⟨[.ref it],[]⟩) g s (eV C m i):=by
 induction hC:C[i]? with
 |none=>unfold eV; rw [hC]; trivial
 |some ch=>
  induction ch using Ch.casesOn with
  |bf src p=>
   rw [show kq C i=src by unfold kq; rw [hC]]
   unfold eV
   rw [hC]
   dsimp only
   induction hs:bK C src with
   |none=>trivial
   |some ds=>
    dsimp only
    induction hd:ds[p]? with
    |none=>exact next_end hf hh I r hC hs hd
    |some d=>exact next_item I r hC hs hd
  |_=>unfold eV; rw [hC]; trivial
theorem Nd {Q E} {it:Addr} (hT:s.TypeIs (.ref it) "list_iterator") (h:lX V.M A.in1 Builtin.«list_iterator.__next__» ⟨[.ref it],[]⟩ Q E s) :
  wpAny V.M A (call (.builtin "list_iterator.__next__") [.ref it]) Q E s:=
 wpAny_call_entry slot_listiter_next hT entry_listiter_next h (args_listiter_next _)
theorem Nf {Q E} {it:Addr} (hT:s.TypeIs (.ref it) "tuple_iterator") (h:lX V.M A.in1 Builtin.«tuple_iterator.__next__» ⟨[.ref it],[]⟩ Q E s) :
  wpAny V.M A (call (.builtin "tuple_iterator.__next__") [.ref it]) Q E s:=
 wpAny_call_entry slot_tupleiter_next hT entry_tupleiter_next h (args_tupleiter_next _)
set_option tactic.hygienic true in
theorem O3 {L:Addr} (hf:F.env.frame=some L) (hh:A.handled=none) (I:ah V F m C g s) {i:Nat} {v:Value} (r:af V g (.loc i) v) :
  aj V F (af V) (cq V A .next [v]) g s (eV C m i):=by
 induction ho:eV C m i with
 |fail=>trivial
 |_=>
  have hT : ∃ it,v=.ref it/\s.TypeIs (.ref it) (wQ (kq C i)++"_iterator"):=by
   unfold eV at ho
   split at ho
   ·rename_i src p hC
    have eS:kq C i=src:=by unfold kq; rw [hC]
    rw [eS]
    split at ho
    ·rename_i ds hs
     obtain ⟨it,la,vs,k,t,rfl,hg,jq,_⟩:=I.bf r hC hs
     exact ⟨it,rfl,_,jq,rfl⟩
    ·(first|exact cn ho|exact AY ho)
   ·(first|exact cn ho|exact AY ho)
  obtain ⟨it,rfl,hT⟩:=hT
  rw [<-ho]
  refine (Eu (A:=A.in1.in1) hf hh I r).wp λQ E x=>?_
  refine Calls.call_function_entry (by decide +kernel) (by decide +kernel) W.kdk_entry_next (W.kdk_args_next _) ?_
  unfold Builtin.«next»
  refine wpAny_bind (m:=someArgs "next" 1 2 _) (wpAny_of_eq (a:=[Value.ref it]) (by first|rfl|kernel_rfl) ?_)
  dsimp only
  generalize kq C i=d at hT x
  have key:(s.TypeIs (.ref it) "list_iterator"/\lX V.M A.in1.in1 Builtin.«list_iterator.__next__» ⟨[.ref it],[]⟩ Q E s)\/(s.TypeIs (.ref it) "tuple_iterator"/\lX V.M A.in1.in1 Builtin.«tuple_iterator.__next__» ⟨[.ref it],[]⟩ Q E s):=by
   induction d using D.casesOn<;>first|exact .inl ⟨hT,x⟩|exact .inr ⟨hT,x⟩
  clear hT x
  rcases key with ⟨hT,x⟩|⟨hT,x⟩
  ·refine wpAny_bind (wpAny_specialOf (name:=Str.ofString "__next__") hT slot_listiter_next.lookup ?_)
   refine wpAny_ite_split (λeM=>absurd eM (by decide)) (λu'=>?_)
   refine wpAny_bind (wpAny_callSpecial?_slot (name:=Str.ofString "__next__") hT slot_listiter_next (Nd hT ?_))
   exact wpAny_mono (show wpAny _ _ _ _ _ _ from x) (λfin s' ⟨v,e,hq⟩=>⟨v,e,wpAny_pure ⟨_,rfl,hq⟩⟩) λu' u' e=>e
  ·refine wpAny_bind (wpAny_specialOf (name:=Str.ofString "__next__") hT slot_tupleiter_next.lookup ?_)
   refine wpAny_ite_split (λeM=>absurd eM (by decide)) (λu'=>?_)
   refine wpAny_bind (wpAny_callSpecial?_slot (name:=Str.ofString "__next__") hT slot_tupleiter_next (Nf hT ?_))
   exact wpAny_mono (show wpAny _ _ _ _ _ _ from x) (λfin s' ⟨v,e,hq⟩=>⟨v,e,wpAny_pure ⟨_,rfl,hq⟩⟩) λu' u' e=>e
theorem Fm {prog:Program} {w:World} {a:Addr} {id:String} {self:Value} {args:List Value} {b:Builtin} {Q:Value->Shared->Prop} {E:Value->Shared->Prop}
  (ho:s.heap.get? a=some {cls:=.type "method-wrapper",dict:=none,data:=.fields #[.builtin id,self],slots := #[]}) (hc:checkBoundCall id ⟨self::args,[]⟩=pure ()) (hq:plainId id=true)
  (he:entryFor table id=some b) (h:wpAny (model prog w) A.in1 (b ⟨self::args,[]⟩) (λfin s'=>match fin with|.done f=>wants Q E (.ok f) s'|.again c'=>c'.quiet=true/\codeAny (model prog w) A c' (wants Q E) s') (λe s'=>wants Q E (.error e) s') s):wpAny (model prog w) A (call (.ref a) args) Q E s:=by
 refine wpAny_call (codeAny_of_tree ?_)
 show wpAny _ A.in1 (callAny (.ref a) ⟨args,[]⟩) _ _ s
 delta callAny; dsimp only
 refine wpAny_bind (wpAny_load ho ?_)
 simp only [show (Value.type "method-wrapper"==Value.type "method"||Value.type "method-wrapper"==Value.type "builtin_function_or_method"||Value.type "method-wrapper"==Value.type "method-wrapper")=true by decide,if_true]
 refine W.KFB.if_so (by decide) ?_
 refine wpAny_bind (wpAny_of_eq (a:=()) hc ?_)
 refine wpAny_bind (wpAny_pure (wpAny_pure ?_))
 refine ⟨plainId_quiet hq _,codeAny_builtin he ?_⟩
 rw [Around.under_plainId hq _]
 exact h
theorem GZ {a b:Value}:checkBoundCall "list.__contains__" ⟨[a,b],[]⟩=pure ():=by first|kernel_rfl|rfl
theorem G0 {a:Value}:checkBoundCall "list_iterator.__next__" ⟨[a],[]⟩=pure ():=by first|kernel_rfl|rfl
theorem NX:plainId "list.__contains__"=true:=by decide +kernel
theorem NY:plainId "list_iterator.__next__"=true:=by decide +kernel
theorem OA (I:ah V F m C g s) {src x:D} {v u:Value} (r:af V g (.bm .a8 src) v) (rx:af V g x u) {ds:List D} {b:Bool} (hl:aT C src=some ds) (hb:ik x ds=some b) :
  aE V F A (af V) (call v [u]) g s (.ok (.bool b) ⟨m,C⟩):=by
 obtain ⟨u',a,h1,h3,rfl⟩:=r.Ci
 obtain ⟨la,vs,k,rfl,Kr,hz,rs⟩:=I.list h3 hl
 obtain ⟨i,t,rfl,e1,e2⟩:=wL rx rs hb
 refine λQ E q=>Fm (I.ay _ _ h1) GZ NX PySem.F.entry_list_contains ?_
 refine MeetsSeq.list_contains la vs.toArray k _ _ e1 V.prog V.w A (wants Q E) s ⟨Kr,?_⟩
 rw [e2]
 exact q g _ _ (.refl g) I (.bool _)
set_option tactic.hygienic true in
theorem OB {L:Addr} (hf:F.env.frame=some L) (hh:A.handled=none) (I:ah V F m C g s) {i:Nat} {v:Value} (r:af V g (.bm .bO (.loc i)) v) (hs:(nr C i).isSome=true) :
  aE V F A (af V) (call v []) g s (eV C m i):=by
 obtain ⟨u',a,h1,h3,rfl⟩:=r.Cj
 obtain ⟨it,h5,rfl⟩:=h3.gc
 refine (Eu (A:=A.in1) hf hh I h3).wp λQ E x=>?_
 refine Fm (I.ay _ _ h1) G0 NY entry_listiter_next ?_
 have e:oy (kq C i)=Builtin.«list_iterator.__next__» := by
  unfold nr at hs
  unfold kq
  induction hC:C[i]? with
  |none=>rw [hC] at hs; exact bo hs
  |some ch=>
   rw [hC] at hs
   induction ch using Ch.casesOn<;>first|exact bo hs|skip
   rename_i src p
   induction src using D.casesOn<;>first|rfl|exact bo hs
 rw [e] at x
 exact wpAny_mono (show wpAny _ _ _ _ _ _ from x) (λfin s' ⟨v,e,hq⟩=>by subst e; exact hq) λu' u' e=>e
theorem CO {M:Model} {h:Heap} {a:Addr} {f self:Value} (ho:h.get? a=some {cls:=.type "method-wrapper",dict:=none,data:=.fields #[f,self],slots := #[]}) : ∃ k,W.Looks M h (keeperOf (.ref a)) k:=by
 refine ⟨.machine,?_⟩
 unfold keeperOf
 refine (W.Looks.ld (part:=none) ho).andThen ?_
 exact W.Looks.now
end
structure Gh.bH (S:Addr) (g g':Gh):Prop where
 ay : ∀ a o,a≠S->g a=some (.ay o)->g' a=some (.ay o)
 cell : ∀ a i,a≠S->g a=some (.cell i)->g' a=some (.cell i)
 ax : ∀ a o,a≠S->(g a=some (.ax o)↔g' a=some (.ax o))
theorem Gh.bH.refl (S:Addr) (g:Gh):Gh.bH S g g:=⟨λu' u' u' h=>h,λu' u' u' h=>h,λu' u' u'=>.rfl⟩
theorem Gh.bH.trans {S:Addr} {g₁ g₂ g₃:Gh} (x:Gh.bH S g₁ g₂) (y:Gh.bH S g₂ g₃):Gh.bH S g₁ g₃:=
 ⟨λa o n h=>y.ay a o n (x.ay a o n h),λa i n h=>y.cell a i n (x.cell a i n h),λa o n=>(x.ax a o n).trans (y.ax a o n)⟩
theorem Gh.Step.but {g g':Gh} (x:g.Step g') (S:Addr):Gh.bH S g g':=⟨λa o u' h=>x.ay a o h,λa i u' h=>x.cell a i h,λa o u'=>x.ax a o⟩
theorem Gh.bH.put (S:Addr) (g:Gh) (x:Option GO):Gh.bH S g (g.put S x):=
 ⟨λa o n h=>by rw [Gh.aW _ _ n]; exact h,λa i n h=>by rw [Gh.aW _ _ n]; exact h,λa o n=>by rw [Gh.aW _ _ n]⟩
theorem Gh.bH.le {S:Addr} {g g':Gh} (x:Gh.bH S g g') {o:Obj} (h:g S=some (.ax o)):g.Le g':=
 ⟨λa o' e=>x.ay a o' (λq=>by subst q; rw [h] at e; cases e) e,λa i e=>x.cell a i (λq=>by subst q; rw [h] at e; cases e) e⟩
theorem Gh.xj (g:Gh) (a:Addr) (x y:Option GO):(g.put a x).put a y=g.put a y:=by
 funext b
 by_cases e:b=a
 ·subst e; rw [Gh.bh,Gh.bh]
 ·rw [Gh.aW _ _ e,Gh.aW _ _ e,Gh.aW _ _ e]
section
variable {V:av} {G:aV} {F:aD} {A:Around} {cl:Calls} {m:List (Option D)} {C:ai} {g:Gh} {s:Shared} {n l:Nat}
theorem ah.Bd (I:ah V F m C g s) : ∃ M,Fr V.h₀ F.env.locals s.heap M:=
 let ⟨M,h,_⟩:=I.fr.loc; ⟨M,h,I.keep,I.fr.above⟩
theorem ah.adopt (I:ah V F m C g s) {a:Addr} {o:Obj} (hg:g a=none) (hn:V.h₀.get? a=none) (ho:s.heap.get? a=some o):ah V F m C (g.put a (some (.ay o))) s:=by
 have L:g.Le (g.put a (some (.ay o))):=Gh.gf _ hg
 have other : ∀ {b y},g b=some y->g.put a (some (.ay o)) b=some y:=λ{b y} e=>by
  rw [Gh.aW]; exact e; intro q; subst q; rw [hg] at e; exact ao e
 refine ⟨I.keep,λb y e=>?_,λb y e=>?_,λb o' e=>?_,λb o' e=>?_,λi c e=>?_,λb c i e e'=>?_,λb i e=>?_,?_,I.gens,I.os⟩
 ·rcases Gh.bz e with ⟨rfl,_⟩|⟨_,q⟩
  ·exact hn
  ·exact I.new b y q
 ·rcases Gh.bz e with ⟨rfl,_⟩|⟨_,q⟩
  ·exact ⟨o,ho⟩
  ·exact I.live b y q
 ·rcases Gh.bz e with ⟨rfl,q⟩|⟨_,q⟩
  ·cases q; exact ho
  ·exact I.ay b o' q
 ·rcases Gh.bz e with ⟨rfl,q⟩|⟨_,q⟩
  ·cases q
  ·exact I.ax b o' q
 ·obtain ⟨b,o',h1,h2,h3⟩:=I.cell i c e
  exact ⟨b,o',other h1,h2,h3.mono L⟩
 ·rcases Gh.bz e with ⟨rfl,q⟩|⟨_,q⟩
  ·cases q
  ·rcases Gh.bz e' with ⟨rfl,q'⟩|⟨_,q'⟩
   ·cases q'
   ·exact I.uniq b c i q q'
 ·rcases Gh.bz e with ⟨rfl,q⟩|⟨_,q⟩
  ·cases q
  ·exact I.c4 b i q
 ·exact I.fr.mono L (λc e=>other e) (λc y e=>other e) (λc o e=>other e)
theorem ah.lF (I:ah V F m C g s) {a:Addr} {o:Obj} (hg:g a=some (.ax o)) (ht:jI o):s.heap.get? a=some o:=by
 obtain ⟨sl,h,e⟩:=I.ax a o hg
 rw [e ht] at h; exact h
theorem ah.give (I:ah V F m C g s) {a:Addr} {o:Obj} (hg:g a=some (.ax o)) (ht:jI o):ah V F m C (g.put a (some (.ay o))) s:=by
 have h1:=I.qv hg ht
 have h2:=h1.adopt (Gh.bh ..) (I.new _ _ hg) (I.lF hg ht)
 rwa [Gh.xj] at h2
noncomputable def bG (vs:List Value) (k:Nat):Obj:={cls:=.type "list",dict:=none,data:=.seq vs.toArray k,slots := #[]}
theorem i7 {vs:List Value} {k:Nat}:jI (bG vs k):=⟨λv h=>(by cases h),λes n h=>(by cases h)⟩
theorem DV {h:Heap} {S:Addr} {vs:List Value} {k:Nat} (e:h.get? S=some (bG vs k)) (v:Value) : ∃ k',(h.update S (Obj.mapSeq (·.push v))).get? S=some (bG (vs++[v]) k'):=by
 have:=IsL.update (l:=S) (items:=vs.toArray) (n:=k) e (·.push v)
 have e2:vs.toArray.push v=(vs++[v]).toArray:=by simp
 rw [e2] at this
 exact ⟨_,this⟩
set_option tactic.hygienic true in
theorem Eg (B:V.Base) (aw:V.cN) (hC:fP V cl n) (K:F.Ok) (hA:oP F A.in1 n) {k nx i:Nat} {c:gV} (hc:V.P.dg k=some c) (lg:c.meths.lookup .bO=some nx) {x S:Addr} {res:Value} :
  ∀ (fuel:Nat) (C:ai) (acc:List D) (vs:List Value) (k₀:Nat) (g:Gh) (s:Shared),ah V F m C g s->af V g (.loc i) (.ref x)->g S=some (.ax (bG vs k₀))->aG V g acc vs->vs.length<=aF->
  ∀ ds st,iJ cl k nx i fuel C acc=.ok (.lst ds) st->∀ (R:Result->Shared->Prop),(∀ g' s' iy k',Gh.bH S g g'->ah V F m st.C g' s'->g' S=some (.ax (bG iy k'))->aG V g' ds iy->iy.length<=aF->R (.ok (.ret res)) s')->
   codeAny V.M A (.builtin "list.extend.loop" ⟨[.ref S,.ref x,res],[]⟩) R s
 |0,_,_,_,_,_,_,_,_,_,_,_,_,_,h,_,_=>by exact cn h
 |fuel+1,C,acc,vs,k₀,g,s,I,rx,hS,ra,hz,ds,st,h,R,hR=>by
  unfold iJ at h
  split at h
  ·rename_i k' fs iQ
   split at h
   ·rename_i hk
    have hk:=eq_of_beq hk
    subst hk
    have ok:=aw _ c hc
    obtain ⟨x',ox,e,hI,sx,pW,_⟩:=I.oH rx iQ
    cases e
    obtain ⟨m1,m2,_⟩:=ok.meths .bO nx lg
    refine codeAny_builtin PySem.F.entry_extend_loop ?_
    rw [Around.under_plainId PySem.F.plain_extend_loop _]
    show wpAny _ A.in1 (pyNext (.ref x) >>= _) _ _ s
    have fB:=hC.some (F:=F) (A:=A.in1) nx K hA I (.cons rx .nil) (ks:=[]) (aA:=[]) trivial
    split at h
    ·rename_i d aB hr
     rw [hr] at fB
     split at h
     ·rename_i kW
      refine wpAny_bind ?_
      unfold pyNext
      refine wpAny_bind (wpAny_attempt (W.special_fn (name:="__next__") (args:=[]) (I.cR B) hI m1 m2 (wpAny_call (fB _ _ λg' a s' cM I' r'=>?_))))
      refine wpAny_pure ?_
      show wpAny _ A.in1 (updateSeq S (·.push a) >>= _) _ _ _
      have iT:g' S=some (.ax (bG vs k₀)):=(cM.ax S _).mp hS
      have jW:=I'.lF iT i7
      refine wpAny_bind (wpAny_updateSeq (hz:=dv (by simpa using hz)) jW rfl ?_ (_hz':=by
       have h1:=dv hz
       simp only [Array.size_push,size_toArray]; omega))
      obtain ⟨k₁,dS⟩:=DV jW a
      have I2:=I'.oC (t:=s'.toks) iT i7 ((Heap.SameBut.update s'.heap S (Obj.mapSeq (·.push a))).extBut) dS
      refine wpAny_pure ⟨plainId_quiet PySem.F.plain_extend_loop _,?_⟩
      have kY:Gh.bH S g (g'.put S (some (.ax (bG (vs++[a]) k₁)))):=(cM.but S).trans (Gh.bH.put S g' _)
      have L:=kY.le hS
      have L':g'.Le (g'.put S (some (.ax (bG (vs++[a]) k₁)))):=(Gh.bH.put S g' _).le iT
      refine Eg B aw hC K hA hc lg fuel aB.C (acc++[d]) (vs++[a]) k₁ _ _ I2 (rx.mono L) (Gh.bh ..) ((ra.mono L).append (.cons (r'.mono L') .nil)) ?_ ds st h R λc8 cY RA L3 b Fx e1 e2 e3=>hR c8 cY RA L3 (kY.trans b) Fx e1 e2 e3
      have:=ra.length
      simp; omega
     ·exact cn h
    ·rename_i aB hr
     cases h
     rw [hr] at fB
     refine wpAny_bind ?_
     unfold pyNext
     refine wpAny_bind (wpAny_attempt (W.special_fn (name:="__next__") (args:=[]) (I.cR B) hI m1 m2 (wpAny_call (fB _ _ λg' e s' cM hx=>?_))))
     obtain ⟨I',ea,cls,args,L,rfl,hL,⟨rfl,rfl⟩,ht⟩:=hx
     obtain ⟨oe,ws,t,h1,h2,h3,h4,h5,h6,h7⟩:=ht.there
     refine wpAny_bind (wpAny_isInstance (T:="StopIteration") (b:=true) ⟨oe,h1,h2⟩ isSubtype_stop ?_)
     refine wpAny_pure ?_
     have iT:g' S=some (.ax (bG vs k₀)):=(cM.ax S _).mp hS
     exact wpAny_pure (hR g' s' vs k₀ (cM.but S) I' iT (ra.mono cM.toLe) hz)
    ·exact cn h
   ·exact cn h
  ·exact cn h
end
section
variable {V:av} {G:aV} {F:aD} {A:Around} {cl:Calls} {m:List (Option D)} {C:ai} {g:Gh} {s:Shared} {n l:Nat}
theorem Gh.bH.fin {S:Addr} {g g':Gh} {o:Obj} (h:Gh.bH S g g') (hg:g S=none):g.Step (g'.put S (some (.ay o))):=by
 have ne : ∀ {a x},g a=some x->a≠S:=λ{a x} e q=>by subst q; rw [hg] at e; exact ao e
 refine ⟨⟨λa o' e=>?_,λa i e=>?_⟩,λa o'=>⟨λe=>?_,λe=>?_⟩⟩
 ·rw [Gh.aW _ _ (ne e)]; exact h.ay a o' (ne e) e
 ·rw [Gh.aW _ _ (ne e)]; exact h.cell a i (ne e) e
 ·rw [Gh.aW _ _ (ne e)]; exact (h.ax a o' (ne e)).mp e
 ·rcases Gh.bz e with ⟨_,q⟩|⟨z,q⟩
  ·cases q
  ·exact (h.ax a o' z).mpr q
theorem xY {h:Heap} {S:Addr} {vs ws:List Value} {k:Nat} {f:Array Value->Array Value} (e:h.get? S=some (bG vs k)) (hf:f vs.toArray=ws.toArray) : ∃ k',(h.update S (Obj.mapSeq f)).get? S=some (bG ws k'):=by
 have:=IsL.update (l:=S) (items:=vs.toArray) (n:=k) e f
 rw [hf] at this
 exact ⟨_,this⟩
set_option maxRecDepth 100000 in
theorem Ka {prog:Program} {w:World} {K:W.Frag} {x Cc:Addr} {ox:Obj} {od:Option Obj} {Q:Bool->Shared->Prop} {E:Value->Shared->Prop} (X:K.In s.heap) (I:W.InstAt s.heap x ox Cc od) (h1:W.findIn K (.ref Cc) "__len__"=some none)
  (h2:W.findIn K (.ref Cc) "__length_hint__"=some none) (h:Q true s):wpAny (model prog w) A (Builtin.List.listLengthHint (.ref x)) Q E s:=by
 unfold Builtin.List.listLengthHint
 refine wpAny_bind (wpAny_bind (I.type.here ((W.looks_findIn X h1).here ?_)))
 refine wpAny_bind (wpAny_bind (I.type.here ((W.looks_findIn X h2).here ?_)))
 exact wpAny_pure h
set_option tactic.hygienic true in
set_option maxRecDepth 100000 in
set_option maxHeartbeats 1000000 in
theorem OZ (B:V.Base) (aw:V.cN) (hC:fP V cl n) (K:F.Ok) (hA:oP F A.in1.in1 n) (I:ah V F m C g s) {k ni nx i:Nat} {c:gV} {fs:List (Option D)} {v:Value} (hc:V.P.dg k=some c) (n0:c.meths.lookup .iH=some ni) (lg:c.meths.lookup .bO=some nx)
  (rx:af V g (.loc i) v) (iQ:C[i]?=some (.slots k fs)) {aa ae:St} {ds:List D} (hit:cl.call ni [.loc i] [] C=.ok (.loc i) aa) (fY:iJ cl k nx i cl.fuel aa.C []=.ok (.lst ds) ae) :
  aj V F (af V) (cq V A .list [v]) g s (.ok (.lst ds) ⟨m,ae.C⟩):=by
 intro Q E q
 have ok:=aw _ c hc
 obtain ⟨x,ox,rfl,hI,sx,pW,_⟩:=I.oH rx iQ
 obtain ⟨Ku,Kv⟩:=ok.Nk (by rw [lg]; rfl)
 obtain ⟨i1,i2,_⟩:=ok.meths .iH ni n0
 obtain ⟨j1,j2,_⟩:=ok.meths .bO nx lg
 have wB:x≠s.heap.objs.size:=λe=>by rw [e,I.eY] at sx; exact ao sx
 show wpAny V.M A (call (.type "list") [.ref x]) Q E s
 refine callType_codes (Q₁:=λobj s₁=>obj=.ref s.heap.objs.size/\s₁={s with heap:=s.heap.push {cls:=.type "list",data:=.seq #[]}}) PySem.F.called_list (PySem.F.typeCall_list_1 _) PySem.F.entry_list_init
  (code_list_new _ ⟨rfl,rfl⟩) λobj s₁ h₁=>?_
 obtain ⟨rfl,rfl⟩:=h₁
 have hS:(s.heap.push {cls:=.type "list",data:=.seq #[]}).get? s.heap.objs.size=some (bG [] 0):=Heap.get?_push_size _ rfl
 have I1:=I.more (h':=s.heap.push {cls:=.type "list",data:=.seq #[]}) (t:=s.toks) (x:=.ax (bG [] 0)) (λu' u' h=>Heap.get?_push_of_some _ h) (Heap.get?_none_of_le (le_refl _)) hS (.inr rfl)
 refine ⟨⟨_,hS,rfl⟩,PySem.F.args_list_init_2 _ _,?_⟩
 show wpAny _ _ (do let old <-Builtin.List.listItems (.ref s.heap.objs.size); Builtin.List.listUpdate (.ref s.heap.objs.size) (λu' => #[]); letGo old.toList.reverse; Builtin.List.listExtendWith (.ref s.heap.objs.size) (.ref x) .none) _ _ _
 refine wpAny_bind ?_
 unfold Builtin.List.listItems
 refine wpAny_bind (wpAny_seqItems hS rfl (wpAny_pure ?_))
 show wpAny _ _ (updateSeq s.heap.objs.size (λu' => #[]) >>= λu'=>letGo (#[]:Array Value).toList.reverse >>= λu'=>Builtin.List.listExtendWith (.ref s.heap.objs.size) (.ref x) .none) _ _ _
 refine wpAny_bind (wpAny_updateSeq hS rfl ?_)
 obtain ⟨k₂,vK⟩:=xY (ws:=[]) (f:=λu' => #[]) hS rfl
 have I2:=I1.oC (t:=s.toks) (Gh.bh ..) i7 (Heap.SameBut.update (s.heap.push {cls:=.type "list",data:=.seq #[]}) s.heap.objs.size (Obj.mapSeq λu'=>(#[]:Array Value))).extBut vK
 rw [Gh.xj] at I2
 refine wpAny_bind (wpAny_letGo ?_)
 have xu:af V (g.put s.heap.objs.size (some (.ax (bG [] k₂)))) (.loc i) (.ref x):=.loc (by rw [Gh.aW _ _ wB]; exact sx)
 obtain ⟨x2,Sw,e2,Bu,R7,R9,_⟩:=I2.oH xu iQ
 cases e2
 unfold Builtin.List.listExtendWith
 refine wpAny_bind (Bu.type.here ?_)
 have h1:Builtin.List.listSameRef (.ref s.heap.objs.size) (.ref x)=false:=by simp [Builtin.List.listSameRef,Ne.symm wB]
 have h2:(Value.ref (V.aX k)==Value.type "list")=false:=rfl
 have h3:(Value.ref (V.aX k)==Value.type "tuple")=false:=rfl
 simp only [h1,h2,h3,Bool.or_false,false_eq_true,if_false]
 obtain ⟨M2,F2⟩:=I2.Bd
 refine wpAny_bind (W.owit_iter F2 B.cR Bu i1 (beq_iff_eq.mpr i2) ?_)
 have fB:=hC.some (F:=F) (A:=A.in1.in1) ni K hA I2 (.cons xu .nil) (ks:=[]) (aA:=[]) trivial
 rw [hit] at fB
 refine wpAny_call (fB _ _ λg3 a s3 aH I3 ra=>?_)
 have Ed:af V g3 (.loc i) (.ref x):=xu.mono aH.toLe
 have ea:a=.ref x:=by
  cases ra with
  |loc ha=>
   cases Ed with
   |loc ez=>rw [I3.uniq _ _ _ ha ez]
 subst ea
 have By:g3 s.heap.objs.size=some (.ax (bG [] k₂)):=(aH.ax _ _).mp (Gh.bh ..)
 induction ic:cl.fuel using Nat.casesOn with
 |zero=>rw [ic] at fY; exact cn fY
 |succ fu=>
 have j3 : ∃ vq,aa.C[i]?=some (.slots k vq):=by
  rw [ic] at fY
  unfold iJ at fY
  split at fY
  ·rename_i k' vq hq
   split at fY
   ·rename_i hk; rw [eq_of_beq hk] at hq; exact ⟨_,hq⟩
   ·exact cn fY
  ·exact cn fY
 obtain ⟨vq,Jk⟩:=j3
 obtain ⟨x3,Sx,e3,Bv,J3,Sa,_⟩:=I3.oH Ed Jk
 cases e3
 obtain ⟨M3,F3⟩:=I3.Bd
 refine W.owit_it F3 B.cR Bv j1 ?_
 refine wpAny_bind (wpAny_holding (Ka (I3.cR B) Bv Ku Kv ?_))
 refine wpAny_ite_split (λu'=>?_) (λeM=>absurd (by simp) eM)
 refine wpAny_bind (wpAny_rule ?_)
 have B5:=I3.lF By i7
 refine wpAny_bind ?_
 show wpAny _ _ (updateSeq s.heap.objs.size (·.push .none) >>= λu'=>updateSeq s.heap.objs.size (·.pop)) _ _ _
 refine wpAny_bind (wpAny_updateSeq B5 rfl ?_)
 obtain ⟨k₄,vL⟩:=xY (ws:=[Value.none]) (f:=(·.push Value.none)) B5 rfl
 have I4:=I3.oC (t:=s3.toks) By i7 (Heap.SameBut.update s3.heap s.heap.objs.size (Obj.mapSeq (·.push Value.none))).extBut vL
 refine wpAny_updateSeq (hz:=by seq_fits) vL rfl ?_
 obtain ⟨k₅,Jz⟩:=xY (ws:=[]) (f:=(·.pop)) vL rfl
 have I5:=I4.oC (t:=s3.toks) (Gh.bh ..) i7 (Heap.SameBut.update (s3.heap.update s.heap.objs.size (Obj.mapSeq (·.push Value.none))) s.heap.objs.size (Obj.mapSeq (·.pop))).extBut Jz
 rw [Gh.xj] at I5
 refine wpAny_pure ⟨plainId_quiet PySem.F.plain_extend_loop _,?_⟩
 have kY:Gh.bH s.heap.objs.size g (g3.put s.heap.objs.size (some (.ax (bG [] k₅)))):=
  ((Gh.bH.put s.heap.objs.size g (some (.ax (bG [] k₂)))).trans (aH.but _)).trans (Gh.bH.put _ g3 _)
 have Oo:af V (g3.put s.heap.objs.size (some (.ax (bG [] k₅)))) (.loc i) (.ref x):=.loc (by rw [Gh.aW _ _ wB]; exact J3)
 refine Eg B aw hC K hA hc lg cl.fuel aa.C [] [] k₅ _ _ I5 Oo (Gh.bh ..) .nil (zero_le _) ds ae fY _ λg' s' iy k' b' I' e1 HQ u5=>?_
 refine ⟨rfl,?_⟩
 have I6:=I'.give e1 i7
 have JX:=(kY.trans b').fin (o:=bG iy k') I.eY
 refine q _ _ _ JX I6 (.lst (Gh.bh ..) (vs:=iy) ⟨u5,k',rfl⟩ (HQ.mono ?_))
 exact (Gh.bH.put s.heap.objs.size g' _).le e1
end
section
variable {V:av} {G:aV} {F:aD} {A:Around} {cl:Calls} {m:List (Option D)} {C:ai} {g:Gh} {s:Shared} {n l:Nat}
theorem MR {α:Type} (x:List UInt8) (f:UInt8->α):x.map f=(List.range x.length).map λj=>f (x.getD j 0):=by
 apply List.ext_getElem
 ·simp
 ·intro i h1 h2
  simp at h1 h2
  simp [getD_eq_getElem?_getD,h1]
theorem OY (hh:A.handled=none) (I:ah V F m C g s) {x:List UInt8} {v:Value} (r:af V g (.bytes x) v) :
  aj V F (af V) (cq V A .list [v]) g s (.ok (.lst (x.map λc=>.int c.toNat)) ⟨m,C⟩):=by
 obtain ⟨t,hz,rfl⟩:=r.mE
 ·have hl:aF=100000:=rfl
  intro Q E q
  refine LB.GU hh (by simp only [size_toArray]; omega) λh' tk acc c' hk ho kW=>?_
  obtain ⟨st,I'⟩:=I.vx (t:=tk) hk ho
  obtain ⟨h3,h4⟩:=kW
  have h5:acc.size=x.length:=by simpa using h3
  refine q _ _ _ st I' (.lst (Gh.bh ..) (vs:=acc.toList) ⟨by rw [Array.length_toList,h5]; exact hz,_,by simp; rfl⟩ ?_)
  rw [MR]
  exact aG.ofInts (f:=λj=>((x.getD j 0).toNat:Int)) (by simpa using h5) λj v e=>by
   obtain ⟨c,u,h5,rfl⟩:=h4 j v (by simpa using e)
   refine ⟨u,?_⟩
   have:x[j]?=some c:=by simpa using h5
   rw [getD_eq_getElem?_getD,this]; rfl
theorem As {k nx i:Nat} : ∀ {fu:Nat} {C:ai} {acc:List D} {d:D} {st:St},iJ cl k nx i fu C acc=.ok d st->∃ ds,d=.lst ds
 |0,_,_,_,_,h=>by exact cn h
 |fu+1,C,acc,d,st,h=>by
  unfold iJ at h
  split at h
  ·split at h
   ·split at h
    ·split at h
     ·exact As h
     ·exact cn h
    ·obtain ⟨rfl,rfl⟩:=ak.ok.inj h; exact ⟨_,rfl⟩
    ·exact cn h
   ·exact cn h
  ·exact cn h
theorem wM {a:D} {xs:List Int} (h:j5 C a=some xs):ua (aT C a) d8 xs:=aO h
theorem OX (B:V.Base) (aw:V.cN) (hC:fP V cl n) (K:F.Ok) (hA:ff F A cl n l) (hl:1<=l) (I:ah V F m C g s) {i k:Nat} {fs:List (Option D)} {v:Value} (r:af V g (.loc i) v) (iQ:C[i]?=some (.slots k fs)) :
  aj V F (af V) (cq V A .list [v]) g s (rn V.P cl i k ⟨m,C⟩):=by
 unfold rn
 induction hc:V.P.dg k with
 |none=>trivial
 |some c=>
  refine aj.aK λni n0=>aj.aK λnx lg=>?_
  induction hit:cl.call ni [.loc i] [] C with
  |fail=>trivial
  |exc _ _=>trivial
  |ok d aa=>
   induction d using D.casesOn<;>first|trivial|skip
   refine aj.bp λhj=>?_
   obtain rfl:=of_decide_eq_true hj
   induction fY:iJ cl k nx _ cl.fuel aa.C [] with
   |fail=>trivial
   |exc _ _=>trivial
   |ok d ae=>
    obtain ⟨es,rfl⟩:=As fY
    by_cases de:cl.fuel=0
    ·rw [de] at fY; exact cn fY
    ·exact OZ B aw hC K ⟨hA.frames,by have:=hA.depth; simp only [Around.in1_depth]; omega,by have:=hA.units; simp only [Around.in1_units]; omega,hA.calm de⟩ I hc n0 lg r iQ hit fY
theorem OD (B:V.Base) (aw:V.cN) (hC:fP V cl n) (K:F.Ok) (hA:ff F A cl n l) (hl:1<=l) (hh:A.handled=none) (I:ah V F m C g s) {a:D} {v:Value} (r:af V g a v) :
  aj V F (af V) (cq V A .list [v]) g s (y9 V.P cl a ⟨m,C⟩):=by
 induction a using D.casesOn<;>first|trivial|skip
 ·exact OY hh I r
 ·exact xA I r rfl
 ·exact xA I r rfl
 ·exact aj.bp λhz=>let ⟨h1,h2⟩:=D9 hz; O0 hh I r h2 h1
 ·exact aj.aK λch iQ=>by
   induction ch using Ch.casesOn<;>first|trivial|skip
   ·exact xA I r (F4 iQ)
   ·exact OX B aw hC K hA hl I r iQ
theorem OF (I:ah V F m C g s) {ds:List D} {vs:List Value} (rd:aG V g ds vs):aj V F (af V) (cq V A .range vs) g s (zc ds ⟨m,C⟩):=by
 match ds with
 |[]=>trivial
 |[d]=>
  obtain ⟨v,rfl,r⟩:=rd.one
  exact aj.aK λk hk=>let ⟨t,e⟩:=r.fp hk; aj.bp λu'=>e ▸ O4 I
 |[d,e]=>
  obtain ⟨v,ws,r,r1,rfl⟩:=rd.f9
  obtain ⟨u,rfl,r'⟩:=r1.one
  exact aj.aK λk hk=>aj.aK λj hj=>let ⟨t,e⟩:=r.fp hk; let ⟨t',e'⟩:=r'.fp hj; aj.bp λu'=>e ▸ e' ▸ O5 I
 |_::_::_::_=>trivial
theorem OH (hu:A.units+2<cLine) (I:ah V F m C g s) {a:D} {v:Value} (r:af V g a v):aj V F (af V) (cq V A .str [v]) g s (zf a ⟨m,C⟩):=by
 induction a using D.casesOn<;>first|trivial|skip
 ·exact aj.bp λhs=>let ⟨t,e⟩:=r.i5; e ▸ Pb I hs
 ·exact Pa hu I r
theorem OG (_:A.handled=none) (_:ah V F m C g s) {ds:List D} {vs:List Value} (_:aG V g ds vs):aj V F (af V) (cq V A .set vs) g s (ze ds ⟨m,C⟩):=trivial
theorem OE {L:Addr} (hf:F.env.frame=some L) (hh:A.handled=none) (I:ah V F m C g s) {a:D} {v:Value} (r:af V g a v):aj V F (af V) (cq V A .next [v]) g s (zb a ⟨m,C⟩):=by
 induction a using D.casesOn<;>first|trivial|exact O3 hf hh I r
theorem OC (B:V.Base) (aw:V.cN) (hC:fP V cl n) (K:F.Ok) {L:Addr} (hf:F.env.frame=some L) (hA:ff F A cl n l) (hl:1<=l) (I:ah V F m C g s) (b:Bn) {ds:List D} {vs:List Value} (rd:aG V g ds vs) :
  aj V F (af V) (cq V A b vs) g s (gA V.P cl b ds ⟨m,C⟩):=by
 unfold gA
 by_cases hb:(cl.fuel==0&&b != .str)=true
 ·rw [if_pos hb]; trivial
 ·rw [if_neg hb]
  have hu:A.units+2<cLine:=by rw [GL]; have:=hA.units; omega
  have hh:b≠.str->A.handled=none:=λh=>hA.calm λe=>by
   apply hb
   rw [e]
   simpa using h
  clear hb
  induction b using Bn.casesOn with
  |len=>exact aj.one rd λa v r=>OV I r
  |list=>exact aj.one rd λa v r=>OD B aw hC K hA hl (hh nofun) I r
  |tuple=>exact aj.one rd λa v r=>aj.aK λds h=>Pe I r h
  |range=>exact OF I rd
  |sum=>
   exact aj.one rd λa v r=>aj.aK λxs hx=>let ⟨_,h1,h2⟩:=wM hx; aj.bp λhc=>by
    rw [and_eq_true,all_eq_true,decide_eq_true_eq] at hc
    exact Pc (hh nofun) I r h1 h2 (λx hx=>of_decide_eq_true (hc.1 x hx)) hc.2
  |sorted=>exact aj.one rd λa v r=>aj.aK λxs hx=>let ⟨_,h1,h2⟩:=wM hx; aj.bp λhz=>O8 I r h1 h2 (of_decide_eq_true hz)
  |isinstance=>exact aj.two rd λa t v u r r'=>OT I r r'
  |bool=>exact aj.one rd λa v r=>aj.aK λds h=>OI I r h
  |bytes=>exact aj.one rd λa v r=>aj.aK λb hb=>let ⟨_,hx,h3⟩:=aO hb; let ⟨_,h1,h2⟩:=wM hx; aj.bp λhz=>OJ (hh nofun) I r h1 h2 h3 (of_decide_eq_true hz)
  |str=>exact aj.one rd λa v r=>OH hu I r
  |type=>exact aj.one rd λa v r=>Pf I r
  |set=>
   induction ds using List.casesOn with
   |nil=>obtain rfl:=rd.fF; exact O6 I
   |cons _ _=>exact OG (hh nofun) I rd
  |iter=>exact aj.one rd λa v r=>aj.aK λds h=>OU I r h
  |next=>exact aj.one rd λa v r=>OE hf (hh nofun) I r
  |_=>trivial
theorem MD (B:V.Base) (I:ah V F m C g s) {k:Nat} (h:W.makesIn V.K (V.aX k)=true) : ∃ kk,W.Looks V.M s.heap (keeperOf (.ref (V.aX k))) kk:=by
 have Y:=W.makes_of (M:=V.M) (I.cR B) h
 obtain ⟨oc,od,cd,sl,ho,_⟩:=Y.obj
 refine ⟨.machine,?_⟩
 unfold keeperOf
 refine (W.Looks.ld (part:=none) ho).andThen ?_
 refine Y.call.andThen ?_
 exact W.Looks.now
theorem GC (b:Bn) {M:Model} {h:Heap} : ∃ kk,W.Looks M h (keeperOf b.val) kk:=by
 induction b using Bn.casesOn<;>exact ⟨.machine,W.Looks.now⟩
theorem wG {W:Tr Value} {b:Bool} {o:ak D} (h:b=true->aj V F (af V) W g s o):aj V F (af V) W g s (if b then o else .fail):=by
 induction b with
 |false=>trivial
 |true=>exact h rfl
theorem PM (B:V.Base) (aw:V.cN) (dk:V.lU) (hC:fP V cl n) (K:F.Ok) {L:Addr} (hf:F.env.frame=some L) (hA:ff F A cl n l) (hl:1<=l):qW V F A cl:=by
 intro m C g s f v ds vs ks aA I rf rd rk
 have kz:ks.isEmpty=true->aA=[]:=λh=>by
  induction ks using List.casesOn with
  |nil=>induction aA using List.casesOn with|nil=>rfl|cons _ _=>exact rk.elim
  |cons _ _=>exact bo h
 have et:cl.fuel≠0->A.handled=none:=hA.calm
 induction f using D.casesOn with
 |fn k=>
  obtain rfl:=rf.Lq
  obtain ⟨kk,_,L⟩:=W.looks_keep (M:=V.M) (dk.keep k) (I.cR B)
  exact aj.wp (W₂:=c9 V.M A (.ref (V.a6 k)) vs aA) (Ei (A:=A) hC K hA I k rd rk) λQ E x=>And.intro ⟨kk,L⟩ x
 |cls k=>
  refine wG λhk=>?_
  obtain rfl:=kz hk
  obtain rfl:=rf.Ck
  induction hc:V.P.dg k with
  |none=>unfold nD; rw [hc]; trivial
  |some c=>exact aj.wp (W₂:=c9 V.M A (.ref (V.aX k)) vs []) (OK B aw hC K hA I k rd) λQ E x=>And.intro (MD B I (aw k c hc).makes) (wpAny_call x)
 |bn b=>
  refine wG λhk=>?_
  obtain rfl:=kz hk
  obtain rfl:=rf.wC
  exact aj.wp (W₂:=c9 V.M A b.val vs []) (OC B aw hC K hf hA hl I b rd) λQ E x=>And.intro (GC b) x
 |bm nn src=>
  refine wG λhk=>?_
  obtain rfl:=kz hk
  induction nn using Nm.casesOn<;>first|trivial|skip
  ·exact aj.one (T:=λvs=>c9 V.M A v vs []) rd λx u ru=>aj.aK λb hb=>by
    obtain ⟨es,h1,h2⟩:=aO hb
    exact aj.wp (W₂:=c9 V.M A v [u] []) (OA (A:=A) I rf ru h1 h2) λQ E x=>And.intro (let ⟨_,_,g1,_,e⟩:=rf.Ci; e ▸ CO (I.ay _ _ g1)) x
  ·exact aj.aK λi hi=>aj.bp λhz=>by
    obtain rfl:=jv hi
    rw [and_eq_true] at hz
    obtain rfl:=isEmpty_iff.mp hz.1
    obtain rfl:=rd.fF
    unfold gA
    by_cases hb:(cl.fuel==0&&Bn.next != .str)=true
    ·rw [if_pos hb]; trivial
    ·rw [if_neg hb]
     have hh:A.handled=none:=et λe=>by apply hb; rw [e]; decide
     exact aj.wp (W₂:=c9 V.M A v [] []) (OB (A:=A) hf hh I rf hz.2) λQ E x=>And.intro (let ⟨_,_,g1,_,e⟩:=rf.Cj; e ▸ CO (I.ay _ _ g1)) x
 |_=>trivial
end
inductive cG (V:av) (g:Gh):Fl->Flow->Prop where
 |next:cG V g .next .next
 |brk:cG V g .brk .brk
 |cont:cG V g .cont .cont
 |ret {d:D} {v:Value}:af V g d v->cG V g (.ret d) (.ret v)
noncomputable def aJ (V:av) (F:aD) (A:Around) (cl:Calls) (c:S) (t:Stmt):Prop:=
 ∀ m C g s,ah V F m C g s->aE V F A (cG V) (exec t F.env) g s (ex V.P cl c ⟨m,C⟩)
noncomputable def cB (V:av) (F:aD) (A:Around) (cl:Calls) (c:Ss) (ts:List Stmt):Prop:=
 ∀ m C g s,ah V F m C g s->aE V F A (cG V) (execs ts F.env) g s (aq V.P cl c ⟨m,C⟩)
noncomputable def da (V:av) (F:aD) (A:Around) (cl:Calls) (c:E) (e:Expr):Prop:=
 ∀ m C g s,ah V F m C g s->aE V F A (af V) (eval e F.env) g s ((ev V.P cl c ⟨m,C⟩).bind λx st=>fT (cD c) x st)
section
variable {V:av} {G:aV} {F:aD} {A:Around} {cl:Calls}
theorem aJ.bad {t:Stmt}:aJ V F A cl .bad t:=λu' u' u' u' u'=>trivial
theorem Qs {p:Pos}:aJ V F A cl .pass (.Pass p):=λm C g s I Q E q=>wpAny_Pass (q g _ _ (.refl g) I .next)
theorem P1 {p:Pos}:aJ V F A cl .brk (.Break p):=λm C g s I Q E q=>wpAny_Break (q g _ _ (.refl g) I .brk)
theorem Qa {p:Pos}:aJ V F A cl .cont (.Continue p):=λm C g s I Q E q=>wpAny_Continue (q g _ _ (.refl g) I .cont)
theorem aD.Ok.quiet (K:F.Ok):interactive F.env=false:=by unfold interactive; rw [K.fn]; rfl
theorem Qd (K:F.Ok) {a:E} {e:Expr} {p:Pos} (hc:jw e=false) (h:az V F A cl a e):aJ V F A cl (.expr a) (.Expr e p):=λm C g s I=>by
 refine aj.seq (h m C g s I).1 (λQ E x=>wpAny_Expr_any x K.quiet ?_) (K:=λv Q E s=>Q .next s) λu' u' g₁ s₁ u' u' u' I₁ u'=>λQ E q=>q _ _ _ (.refl _) I₁ .next
 induction e using Expr.casesOn<;>first|rfl|exact fN hc
theorem Qw {a:E} {e:Expr} {p:Pos} (h:az V F A cl a e):aJ V F A cl (.ret a) (.Return (some e) p):=λm C g s I=>
 aj.seq (h m C g s I).1 (λQ E x=>wpAny_Return_some x) (K:=λv Q E s=>Q (.ret v) s) λu' u' g₁ s₁ u' u' u' I₁ r=>λQ E q=>q _ _ _ (.refl _) I₁ (.ret r)
theorem Qp:cB V F A cl .nil []:=λm C g s I Q E q=>wpAny_execs_nil (q g _ _ (.refl g) I .next)
theorem P8 {c:S} {cs:Ss} {t:Stmt} {ts:List Stmt} (h:aJ V F A cl c t) (hs:cB V F A cl cs ts):cB V F A cl (.cons c cs) (t::ts):=λm C g s I=>by
 have e:aq V.P cl (.cons c cs) ⟨m,C⟩=(ex V.P cl c ⟨m,C⟩).bind λf st=>match f with|.next=>aq V.P cl cs st|f=>.ok f st:=by
  show (match ex V.P cl c ⟨m,C⟩ with|.ok .next aa=>aq V.P cl cs aa|o=>o)=_
  induction ex V.P cl c ⟨m,C⟩ with
  |ok f st=>induction f<;>rfl
  |_=>rfl
 rw [e]
 refine aj.seq (h m C g s I) (λQ E x=>wpAny_execs_cons x) (K:=λf Q E s'=>match f with|.next=>wpAny V.M A (execs ts F.env) Q E s'|f=>Q f s') λf st g₁ s₁ v u' u' I₁ r=>?_
 induction r using cG.casesOn with
 |next=>exact hs _ _ _ _ I₁
 |brk=>exact λQ E q=>q _ _ _ (.refl _) I₁ .brk
 |cont=>exact λQ E q=>q _ _ _ (.refl _) I₁ .cont
 |ret r=>exact λQ E q=>q _ _ _ (.refl _) I₁ (.ret r)
theorem Qh {a:E} {t:Expr} {x y:Ss} {b o:List Stmt} {p:Pos} (h:az V F A cl a t) (hb:cB V F A cl x b) (ho:cB V F A cl y o):aJ V F A cl (.ifs a x y) (.If t b o p):=λm C g s I=>by
 have e:ex V.P cl (.ifs a x y) ⟨m,C⟩=(cy (ev V.P cl a ⟨m,C⟩)).bind λb st=>match b with|true=>aq V.P cl x st|false=>aq V.P cl y st:=by
  show (ev V.P cl a ⟨m,C⟩).bind _=_
  unfold cy
  rw [ak.bind_assoc]
  congr 1; funext d st
  unfold gu
  induction bA st.C d with
  |none=>rfl
  |some b=>induction b<;>rfl
 rw [e]
 refine aj.seq (h m C g s I).2 (λQ E x=>wpAny_If x) (K:=λq Q E s₂=>if q then wpAny V.M A (execs b F.env) Q E s₂ else wpAny V.M A (execs o F.env) Q E s₂) λq st g₁ s₁ v u' u' I₁ r=>?_
 cases r
 induction q
 ·exact (ho _ _ _ _ I₁).wp λQ E x=>x
 ·exact (hb _ _ _ _ I₁).wp λQ E x=>x
theorem da.of {c:E} {e:Expr} (hf:cD c=false) (h:az V F A cl c e):da V F A cl c e:=λm C g s I=>by
 rw [hf]
 have e:((ev V.P cl c ⟨m,C⟩).bind λx st=>fT false x st)=ev V.P cl c ⟨m,C⟩:=by
  induction ev V.P cl c ⟨m,C⟩<;>rfl
 rw [e]
 exact (h m C g s I).1
theorem tR {mu:Bool} {c:E} {e:Expr} (h:az V F A cl c e) (hC:da V F A cl c e) {m:List (Option D)} {C:ai} {g:Gh} {s:Shared} (I:ah V F m C g s) :
  aE V F A (af V) (eval e F.env) g s ((ev V.P cl c ⟨m,C⟩).bind λx st=>fT (mu&&cD c) x st):=by
 induction mu
 ·have e:((ev V.P cl c ⟨m,C⟩).bind λx st=>fT (false&&cD c) x st)=ev V.P cl c ⟨m,C⟩:=by
   induction ev V.P cl c ⟨m,C⟩<;>rfl
  rw [e]
  exact (h m C g s I).1
 ·exact hC m C g s I
theorem tA {e:Expr} {t:Expr} {n:Nat} {env:Env} (h:jw e=false):swapsWith e (some t) n env=pure false:=by
 induction e using Expr.casesOn<;>first|rfl|exact fN h
theorem PO (K:F.Ok) {c:aI} (hc:F.ctx c) {x:Str} {xp p:Pos} {k:Nat} (hk:cZ c x=some k) {mu:Bool} {a:E} {e:Expr} (hn:jw e=false) (h:az V F A cl a e) (hC:da V F A cl a e) :
  aJ V F A cl (.aL k mu a) (.Assign [.Name x xp] e p):=λm C g s I=>by
 refine aj.seq (tR (mu:=mu) h hC I) (λQ E x=>wpAny_Assign_Name x (tA hn)) λd st g₁ s₁ v u' u' I₁ r=>?_
 exact aj.seq (lJ (A:=A) K I₁ hc hk r) (λu' u' x=>x) (K:=λu' Q E s=>Q .next s) λu' u' g₂ s₂ u' u' u' I₂ u'=>λQ E q=>q _ _ _ (.refl _) I₂ .next
theorem SM (B:V.Base) (aw:V.cN) {o:Expr} {attr:Str} {n:Nm} {ap p:Pos} (hn:cJ attr=some n) {mu:Bool} {a b:E} {e:Expr} (wm:jw e=false) (h:az V F A cl a e) (hC:da V F A cl a e) (ho:az V F A cl b o) :
  aJ V F A cl (.cH b n mu a) (.Assign [.Attribute o attr ap] e p):=λm C g s I=>by
 have e1:=lC hn
 subst e1
 refine aj.seq (tR (mu:=mu) h hC I) (λQ E x=>plainObj_wpAny_Assign_Attribute x (tA wm)) λd st g₁ s₁ v u' u' I₁ r=>?_
 refine aj.seq (ho _ _ _ _ I₁).1 (λu' u' x=>x) λy br g₂ s₂ ov u' q₂ I₂ ry=>?_
 exact aj.seq (xD (A:=A) B aw I₂ ry (r.mono q₂.toLe)) (λu' u' x=>x) (K:=λu' Q E s=>Q .next s) λu' u' g₃ s₃ u' u' u' I₃ u'=>λQ E q=>q _ _ _ (.refl _) I₃ .next
theorem Ox {op:Operator} {o:Op} (ho:jb op=some o) {m:List (Option D)} {C:ai} {g:Gh} {s:Shared} (I:ah V F m C g s) {x y:D} {a b:Value} (rx:af V g x a) (ry:af V g y b) :
  aE V F A (af V) (inplaceOp op a b) g s (match kJ o x y with|some d=>.ok d ⟨m,C⟩|none=>.fail):=by
 induction h:kJ o x y with
 |none=>trivial
 |some d=>
  obtain ⟨i,e1,h⟩:=aO h
  obtain ⟨j,e2,h⟩:=aO h
  obtain ⟨_,rfl⟩:=rx.fp e1
  obtain ⟨_,rfl⟩:=ry.fp e2
  induction o using Op.casesOn<;>first|exact ao h|(obtain rfl:=Option.some.inj h)
  all_goals
   induction op using Operator.casesOn<;>first|((first|exact ao ho|cases ho); done)|skip
  ·exact λQ E q=>AutoIntOps.iadd_0 (q g _ _ (.refl g) (I.tok _) (.int _ _))
  ·exact λQ E q=>AutoIntOps.isub_0 (q g _ _ (.refl g) (I.tok _) (.int _ _))
theorem PZ (B:V.Base) (aw:V.cN) {o e:Expr} {attr:Str} {n:Nm} {ap p:Pos} (hn:cJ attr=some n) {op:Operator} {po:Op} (KD:jb op=some po) {a b:E} (ho:az V F A cl b o) (h:az V F A cl a e) :
  aJ V F A cl (.kI b n po a) (.AugAssign (.Attribute o attr ap) op e p):=λm C g s I=>by
 have e1:=lC hn
 subst e1
 refine aj.seq (ho m C g s I).1 (λQ E x=>wpAny_AugAssign_AttributeAny x) λy st g₁ s₁ ov u' q₁ I₁ ry=>?_
 refine aj.seq (Ej (A:=A) B aw I₁ ry) (λu' u' x=>x) λold br g₂ s₂ ow u' q₂ I₂ Og=>?_
 refine aj.seq (h _ _ _ _ I₂).1 (λu' u' x=>x) λx gn g₃ s₃ v u' q₃ I₃ rx=>?_
 have e2:(match kJ po old x with|some d=>(gh (eX V.P y n d gn.C) gn.m).bind λu' eZ=>(.ok .next eZ:ak Fl)|none=>.fail) =
   (match kJ po old x with|some d=>(.ok d ⟨gn.m,gn.C⟩:ak D)|none=>.fail).bind λd st=>(gh (eX V.P y n d st.C) st.m).bind λu' eZ=>.ok .next eZ:=by
  induction kJ po old x<;>rfl
 show aj _ _ _ _ _ _ (match kJ po old x with|some d=>(gh (eX V.P y n d gn.C) gn.m).bind λu' eZ=>(.ok .next eZ:ak Fl)|none=>.fail)
 rw [e2]
 refine aj.seq (Ox (A:=A) KD I₃ (Og.mono q₃.toLe) rx) (λu' u' x=>x) λd QU g₄ s₄ w u' q₄ I₄ rd=>?_
 exact aj.seq (xD (A:=A) B aw I₄ (((ry.mono q₂.toLe).mono q₃.toLe).mono q₄.toLe) rd) (λu' u' x=>x) (K:=λu' Q E s=>Q .next s) λu' u' g₅ s₅ u' u' u' I₅ u'=>λQ E q=>q _ _ _ (.refl _) I₅ .next
end
section
variable {prog:Program} {w:World} {A:Around} {E:Value->Shared->Prop} {s:Shared}
theorem Pr {l:Addr} {items:Array Value} {n:Nat} {k:Int} {t:Tok} {v:Value} {Q:Unit->Shared->Prop} (hl:IsL s.heap l items n) (h0:0<=k) (vZ:k<2 ^ 63) (hn:k<items.size)
  (hQ:Q () {s with heap:=s.heap.update l (Obj.mapSeq (·.setIfInBounds k.toNat v))}):wpAny (model prog w) A (setItem (.ref l) (.int k t) v) Q E s:=by
 have ho:s.heap.get? l=some _:=hl
 have d5:s.heap.IsList l items:=hl.isList
 unfold setItem
 try with_reducible refine wpAny_holding ?_
 first|refine wpAny_bind (wpAny_pure ?_)|skip
 refine wpAny_bind (wpAny_sequenceKey d5.typeIs (by decide) ?_)
 refine wpAny_bind (wpAny_callSpecial?_slot (name:=Str.ofString "__setitem__") d5.typeIs PySem.F.slot_list_setitem
  (wpAny_call_entry PySem.F.slot_list_setitem d5.typeIs PySem.F.entry_list_setitem ?_ (PySem.F.args_list_setitem_3 _ _ _)))
 show wpAny _ _ (Builtin.List.listSubscript? (.int k t) >>= _) _ _ s
 refine wpAny_bind (wpAny_listSubscript_int (fitsIndex_of h0 vZ) ?_)
 obtain ⟨j,rfl⟩:=Int.eq_ofNat_of_zero_le h0
 have hj:j<items.size:=by omega
 have p7:items[j]?=some items[j]:=Array.getElem?_eq_getElem hj
 show wpAny _ _ ((seqItemAt l j >>= λr=>pure (r.map (j,·))) >>= _) _ _ s
 refine wpAny_bind (wpAny_bind (wpAny_seqItemAt ho rfl (wpAny_pure ?_)))
 rw [p7]
 show wpAny _ _ (setSeqItemAt l j v >>= _) _ _ s
 refine wpAny_bind (wpAny_setSeqItemAt ho rfl ?_)
 first
  |exact wpAny_bind (wpAny_pure (wpAny_pure ⟨.none,rfl,wpAny_pure hQ⟩))
  |exact wpAny_pure ⟨.none,rfl,wpAny_pure hQ⟩
end
theorem DW {α β:Type} [DecidableEq α] (k:α) (v:β) : ∀ (l:List (α × β)),(l.map (·.1)).Nodup->putL k v l=if l.any (λkv=>kv.1=k) then l.map (λkv=>if kv.1=k then (kv.1,v) else kv) else l++[(k,v)]
 |[],_=>rfl
 |e::r,h=>by
  rw [map_cons,nodup_cons] at h
  unfold putL
  by_cases q:e.1=k
  ·have hn : ∀ x∈r,¬ x.1=k:=λx hx z=>h.1 (by rw [q,<-z]; exact mem_map_of_mem hx)
   have e1:r.map (λkv=>if kv.1=k then (kv.1,v) else kv)=r:=by
    conv=>rhs; rw [<-List.map_id r]
    exact List.map_congr_left λx hx=>by rw [if_neg (hn x hx)]; rfl
   simp [q,e1]
  ·have q':(e.1==k)=false:=by simpa using q
   rw [q',if_neg (by decide),DW k v r h.2]
   by_cases hr:r.any (λkv=>decide (kv.1=k))=true
   ·simp [q,hr]
   ·simp [q,hr]
theorem Aj {α β:Type} [DecidableEq α] (k:α) : ∀ (l:List (α × β)),(l.map (·.1)).Nodup->eK k l=l.filter λkv=>decide (kv.1≠k)
 |[],_=>rfl
 |e::r,h=>by
  rw [map_cons,nodup_cons] at h
  unfold eK
  by_cases q:e.1=k
  ·have hn : ∀ x∈r,¬ x.1=k:=λx hx z=>h.1 (by rw [q,<-z]; exact mem_map_of_mem hx)
   have e1:r.filter (λkv=>decide (kv.1≠k))=r:=filter_eq_self.mpr λx hx=>by simpa using hn x hx
   simp only [filter_cons,q,beq_self_eq_true,if_true,ne_eq,not_true_eq_false,decide_false,false_eq_true,if_false]
   simpa [q] using e1.symm
  ·have q':(e.1==k)=false:=by simpa using q
   rw [q',if_neg (by decide),Aj k r h.2]
   simp [filter_cons,q]
theorem a0.CC {V:av} {g:Gh} : ∀ {es:List (Int × D)} {aA:List (Int × Value)},a0 (gq V g) es aA->es.map (·.1)=aA.map (·.1)
 |[],[],_=>rfl
 |_::_,_::_,h=>by rw [map_cons,map_cons,h.1.1,h.2.CC]
 |[],_::_,h=>h.elim
 |_::_,[],h=>h.elim
theorem xk {V:av} {g:Gh} {k:Int} {d:D} {v:Value} (r:af V g d v) : ∀ {es:List (Int × D)} {aA:List (Int × Value)},a0 (gq V g) es aA->a0 (gq V g) (putL k d es) (putL k v aA)
 |[],[],_=>⟨⟨rfl,r⟩,trivial⟩
 |e::es,f::aA,h=>by
  unfold putL
  rw [h.1.1]
  induction f.1==k
  ·exact ⟨h.1,xk r h.2⟩
  ·exact ⟨⟨rfl,r⟩,h.2⟩
 |[],_::_,h=>h.elim
 |_::_,[],h=>h.elim
theorem Am {V:av} {g:Gh} {k:Int} : ∀ {es:List (Int × D)} {aA:List (Int × Value)},a0 (gq V g) es aA->a0 (gq V g) (eK k es) (eK k aA)
 |[],[],_=>trivial
 |e::es,f::aA,h=>by
  unfold eK
  rw [h.1.1]
  induction f.1==k
  ·exact ⟨h.1,Am h.2⟩
  ·exact h.2
 |[],_::_,h=>h.elim
 |_::_,[],h=>h.elim
theorem DX {α β:Type} [BEq α] (k:α) (v:β) : ∀ l:List (α × β),(putL k v l).length<=l.length+1
 |[]=>by simp [putL]
 |e::r=>by
  unfold putL
  have:=DX k v r
  split<;>simp<;>omega
theorem Al {α β:Type} [BEq α] (k:α) : ∀ l:List (α × β),(eK k l).length<=l.length
 |[]=>by simp [eK]
 |e::r=>by
  unfold eK
  have:=Al k r
  split<;>simp<;>omega
theorem aG.set {V:av} {g:Gh} {d:D} {v:Value} (r:af V g d v) : ∀ {ds:List D} {vs:List Value} (n:Nat),aG V g ds vs->aG V g (ds.set n d) (vs.set n v)
 |_,_,_,.nil=>.nil
 |_,_,0,.cons _ b=>.cons r b
 |_,_,n+1,.cons a b=>.cons a (aG.set r n b)
section
variable {prog:Program} {w:World} {K:Type} [DecidableEq K] {knd:KeyKind prog w K} {A:Around} {E:Value->Shared->Prop} {s:Shared}
theorem Pq {d:Addr} {aA:List (K × Value)} {ep:Nat} {k:K} {key v:Value} {Q:Unit->Shared->Prop} (sE:knd.is k key=true) (hm:s.heap.DictAt knd d aA ep) (bU:aA.length<=sizeLine)
  (hQ : ∀ h',h'.DictAt knd d (stored aA k v) (if (aA.any λkv=>decide (kv.1=k))=true then ep else ep+1)->Heap.SameBut d s.heap h'->Q () {s with heap:=h',toks:=s.toks+1}) :
  wpAny (model prog w) A (setItem (.ref d) key v) Q E s:=by
 have hT:s.TypeIs (.ref d) "dict":=hm.dictOf.typeIs
 obtain ⟨o,es,ho,hc,hd,hk,hp,hn⟩:=hm
 have hlen:es.toList.length=aA.length:=hp.length
 have Sb:es.toList.length=es.size:=by simp
 have same:(es.findIdx? λe=>knd.is k e.key)=aA.findIdx? λkv=>decide (kv.1=k):=by
  rw [<-hp.findIdx k]; obtain ⟨l⟩:=es; simp
 unfold setItem
 try with_reducible refine wpAny_holding ?_
 refine wpAny_bind (wpAny_sequenceKey hT (by decide) ?_)
 refine wpAny_bind (wpAny_callSpecial?_slot (name:=Str.ofString "__setitem__") hT slot_dict_setitem
  (wpAny_call_entry slot_dict_setitem hT entry_dict_setitem ?_ (args_dict_setitem _ _ _)))
 show wpAny _ _ (Builtin.Dict.notOrdered "__setitem__" ⟨[.ref d,key,v],[]⟩ >>= _) _ _ s
 refine wpAny_bind (wpAny_notOrdered_dict hT ?_)
 show wpAny _ _ (dictSet d key v >>= _) _ _ s
 refine wpAny_bind ?_
 unfold dictSet
 try with_reducible refine wpAny_holding ?_
 refine wpAny_bind (knd.pyHash sE ?_)
 unfold dictSetHashed
 try with_reducible refine wpAny_holding ?_
 refine wpAny_bind (wpAny_dictFind_of (s:={s with toks:=s.toks+1}) sE ho hd hk ?_)
 have fin : ∀ h',h'.DictAt knd d (stored aA k v) (if (aA.any λkv=>decide (kv.1=k))=true then ep else ep+1)->Heap.SameBut d s.heap h'->
   ∃ v_1,Fin.done (Flow.ret Value.none)=Fin.done (Flow.ret v_1)/\wpAny (model prog w) A (pure ()) Q E {s with heap:=h',toks:=s.toks+1}:=λh' x y=>⟨.none,rfl,wpAny_pure (hQ h' x y)⟩
 induction hi:es.findIdx? λe=>knd.is k e.key with
 |some i=>
  have mh:(aA.any λkv=>decide (kv.1=k))=true:=any_of_findIdx_some (same ▸ hi)
  rw [mh] at fin
  refine wpAny_bind (wpAny_rule (wpAny_bind (wpAny_updateDict (s:={s with toks:=s.toks+1}) ho hd (wpAny_point (wpAny_pure (fin _ ⟨_,_,Heap.get?_update_self _ ho (Obj.isFreed_of_dict (Obj.data_mapDict hd _)),
   hc.mapDict _,Obj.data_mapDict hd _,hk.modify _ _,?_,?_⟩ (Heap.SameBut.update ..)))))))
  ·have hl:(es.toList.findIdx? λe=>knd.is k e.key)=some i:=by rw [<-hi]; obtain ⟨l⟩:=es; simp
   have:=hp.modify hn hl v
   rw [stored,if_pos mh]
   obtain ⟨l⟩:=es
   simpa using this
  ·rw [stored,if_pos mh,keys_map_store]; exact hn
 |none=>
  have mz:k ∉ aA.map (·.1):=not_mem_of_findIdx_none (same ▸ hi)
  have mh : ¬ (aA.any λkv=>decide (kv.1=k))=true:=λz=>by
   obtain ⟨kv,h1,h2⟩:=any_eq_true.mp z
   exact mz (mem_map.mpr ⟨kv,h1,of_decide_eq_true h2⟩)
  rw [if_neg mh] at fin
  refine wpAny_bind (wpAny_rule (wpAny_updateDictKeys (hz:=by omega) (s:={s with toks:=s.toks+1}) ho hd (wpAny_pure (fin _ ⟨_,_,Heap.get?_update_self _ ho (Obj.isFreed_of_dict (Obj.data_mapDictKeys hd _)),
   hc.mapDictKeys _,Obj.data_mapDictKeys hd _,hk.push sE _,?_,?_⟩ (Heap.SameBut.update ..)))))
  ·have:=hp.append sE (knd.hash k) v
   rw [stored,if_neg mh]
   obtain ⟨l⟩:=es
   simpa using this
  ·rw [stored,if_neg mh,map_append,nodup_append]
   refine ⟨hn,by simp,λa ha b hb=>?_⟩
   rw [map_cons,map_nil,mem_singleton] at hb
   exact λe=>mz (by rw [e,hb] at ha; exact ha)
end
section
variable {V:av} {G:aV} {F:aD} {A:Around} {m:List (Option D)} {C:ai} {g:Gh} {s:Shared} {n l:Nat} {cl:Calls}
theorem Pn (I:ah V F m C g s) {j:Nat} {k:Int} {t:Tok} {d:D} {a v:Value} {ds:List D} (ro:af V g (.loc j) a) (rd:af V g d v) (hC:C[j]?=some (.list ds)) (hk:0<=k/\k<ds.length) :
  aE V F A dF (setItem a (.int k t) v) g s (.ok () ⟨m,C.set j (.list (ds.set k.toNat d))⟩):=λQ E q=>by
 obtain ⟨la,vs,k',rfl,hg,hl,hz,rs⟩:=I.lz ro hC
 have hlen:=rs.length
 have nY:=th hz
 exact Pr hl hk.1 (by omega) (by simp only [size_toArray]; omega) (q g _ _ (.refl g) (I.ti (t:=s.toks) (ws:=vs.set k.toNat v) hg hl (by simp) (rs.set rd _) (by simpa using hz)) trivial)
theorem Pm (I:ah V F m C g s) {j:Nat} {k:Int} {t:Tok} {d:D} {a v:Value} {fl:Bool} {es:List (Int × D)} (ro:af V g (.loc j) a) (rd:af V g d v) (hC:C[j]?=some (.dict fl es)) (hk:es.length<64) :
  aE V F A dF (setItem a (.int k t) v) g s (.ok () ⟨m,C.set j (.dict fl (putL k d es))⟩):=λQ E q=>by
 obtain ⟨_,h1,rfl⟩:=ro.gc
 obtain ⟨pF,aA,ep,hm,hA,jQ⟩:=I.dictAt h1 hC
 have hlen:es.length=aA.length:=hA.length
 refine Pq (knd:=intKind V.prog V.w) (k:=k) (intKind_is _ _ _ _) hm (by rw [sizeLine_eq]; omega) λh' wi eP=>?_
 obtain ⟨o',ph,g2,vE,iR,vI,pH,pG⟩:=wi
 have l8:stored aA k v=putL k v aA:=(DW k v aA hm.nodup).symm
 rw [l8] at pH pG
 refine q g _ _ (.refl g) (I.cellSet (t:=s.toks+1) h1 eP g2 ⟨le_trans (DX k d es) hk,ph,_,putL k v aA,vE,iR,vI,pH,pG,xk rd hA,λhf=>?_⟩) trivial
 have e1:(putL k d es).length=(putL k v aA).length:=(xk rd hA).length
 rw [e1,<-l8,stored,jQ hf,hlen]
 split
 ·rw [length_map]
 ·rw [length_append]; rfl
theorem Ex (I:ah V F m C g s) {o i d:D} {a b v:Value} (ro:af V g o a) (ri:af V g i b) (rd:af V g d v) :
  aE V F A dF (setItem a b v) g s (gh (ko o i d C) m):=by
 induction ho:ko o i d C with
 |none=>trivial
 |some C'=>
  show aE V F A dF (setItem a b v) g s (.ok () ⟨m,C'⟩)
  obtain ⟨j,e1,p1⟩:=aO ho
  obtain ⟨k,e2,p2⟩:=aO p1
  obtain ⟨ch,hC,p3⟩:=aO p2
  clear p1 p2 ho
  obtain rfl:=jv e1
  obtain ⟨t,rfl⟩:=ri.fp e2
  induction ch using Ch.casesOn<;>first|exact ao p3|skip
  ·obtain ⟨hk,p4⟩:=eA p3
   obtain rfl:=Option.some.inj p4
   exact Pn I ro rd hC hk
  ·obtain ⟨hk,p4⟩:=eA p3
   obtain rfl:=Option.some.inj p4
   exact Pm I ro rd hC hk.1
end
section
variable {V:av} {G:aV} {F:aD} {A:Around} {cl:Calls}
theorem PT {o i e:Expr} {ap p:Pos} {a b c:E} (wm:jw e=false) (h:az V F A cl a e) (ho:az V F A cl b o) (hi:az V F A cl c i) :
  aJ V F A cl (.kF b c a) (.Assign [.Subscript o i ap] e p):=λm C g s I=>by
 refine aj.seq (h m C g s I).1 (λQ E x=>wpAny_Assign_Subscript x (tA wm)) λd st g₁ s₁ v u' u' I₁ r=>?_
 refine aj.seq (ho _ _ _ _ I₁).1 (λu' u' x=>x) λy br g₂ s₂ ov u' q₂ I₂ ry=>?_
 refine aj.seq (hi _ _ _ _ I₂).1 (λu' u' x=>x) λz gn g₃ s₃ iv u' q₃ I₃ rz=>?_
 exact aj.seq (Ex (A:=A) I₃ (ry.mono q₃.toLe) rz ((r.mono q₂.toLe).mono q₃.toLe)) (λu' u' x=>x) (K:=λu' Q E s=>Q .next s) λu' u' g₄ s₄ u' u' u' I₄ u'=>λQ E q=>q _ _ _ (.refl _) I₄ .next
theorem PU (K:F.Ok) {c:aI} (hc:F.ctx c) {x:Str} {xp:Pos} {k:Nat} (hk:cZ c x=some k) {o i e:Expr} {ap p:Pos} {a b ci:E} (h:az V F A cl a e) (ho:az V F A cl b o) (hi:az V F A cl ci i) :
  aJ V F A cl (.oZ b ci k a) (.Assign [.Subscript o i ap,.Name x xp] e p):=λm C g s I=>by
 refine aj.seq (h m C g s I).1 (λQ E x=>wpAny_Assign_two x) λd st g₁ s₁ v u' u' I₁ r=>?_
 refine aj.seq (R:=dF) (W:=wpAny V.M A (assign (.Subscript o i ap) F.env v)) (K:=λu' Q E s₂=>wpAny V.M A (assign (.Name x xp) F.env v) (λu'=>Q .next) E s₂) ?_ (λu' u' x=>x) λu' QU g₄ s₄ u' u' q₄ I₄ u'=>?_
 ·have key:aj V F dF (λ(Q:Unit->Shared->Prop) E s=>wpAny V.M A (eval o F.env) (λov s₂=>wpAny V.M A (eval i F.env) (λiv s₃=>wpAny V.M A (setItem ov iv v) Q E s₃) E s₂) E s) g₁ s₁
    ((ev V.P cl b st).bind λy ae=>(ev V.P cl ci ae).bind λz aH=>gh (ko y z d aH.C) aH.m):=by
   refine aj.seq (ho _ _ _ _ I₁).1 (λu' u' x=>x) λy br g₂ s₂ ov u' q₂ I₂ ry=>?_
   refine aj.seq (hi _ _ _ _ I₂).1 (λu' u' x=>x) λz gn g₃ s₃ iv u' q₃ I₃ rz=>?_
   exact Ex (A:=A) I₃ (ry.mono q₃.toLe) rz ((r.mono q₂.toLe).mono q₃.toLe)
  refine key.wp λQ E x=>?_
  rw [assign_Subscript]
  refine wpAny_bind (wpAny_holding (wpAny_mono x (λov s₂ h₂=>?_) λu' u' e=>e))
  refine wpAny_bind (wpAny_holding (wpAny_mono h₂ (λiv s₃ h₃=>?_) λu' u' e=>e))
  exact wpAny_bind (wpAny_standAt (wpAny_bind (wpAny_holding (wpAny_mono h₃ (λu' s₄ h₄=>wpAny_release h₄) λu' u' e=>e))))
 ·exact aj.seq (lJ (A:=A) K I₄ hc hk (r.mono q₄.toLe)) (λu' u' x=>wpAny_assign_Name x) (K:=λu' Q E s=>Q .next s) λu' u' g₂ s₂ u' u' u' I₂ u'=>λQ E q=>q _ _ _ (.refl _) I₂ .next
theorem HC {m:List (Option D)} {C:ai} {g:Gh} {s:Shared} (I:ah V F m C g s) {j:Nat} {k:Int} {t:Tok} {a:Value} {fl:Bool} {es:List (Int × D)} (ro:af V g (.loc j) a) (hC:C[j]?=some (.dict fl es)) (hk:(es.lookup k).isSome=true) :
  aE V F A dF (delItem a (.int k t)) g s (.ok () ⟨m,C.set j (.dict false (eK k es))⟩):=λQ E q=>by
 obtain ⟨_,h1,rfl⟩:=ro.gc
 obtain ⟨bb,ob,e1,e2,pF,ents,ep,aA,hE,hD,hK,hP,hN,hA,_⟩:=I.cell _ _ hC
 cases I.uniq _ _ _ h1 e1
 have hlen:es.length=aA.length:=hA.length
 have hm:s.heap.DictOf (intKind V.prog V.w) _ aA:=⟨ob,ents,ep,e2,hE,hD,hK,hP,hN⟩
 have K4:(valueAt aA k).isSome=true:=by
  have:=a0.lookupI (V:=V) (g:=g) k hA
  induction hv:valueAt aA k with
  |some v=>rfl
  |none=>
   induction hl:es.lookup k with
   |none=>rw [hl] at hk; cases hk
   |some d=>rw [hv,hl] at this; exact this.elim
 unfold delItem
 refine wpAny_holding ?_
 refine wpAny_bind (wpAny_sequenceKey hm.typeIs (by decide) ?_)
 refine wpAny_bind (wpAny_callSpecial?_slot (name:=Str.ofString "__delitem__") hm.typeIs PySem.F.slot_dict_delitem
  (call_meetsIn PySem.F.slot_dict_delitem hm.typeIs PySem.F.entry_dict_delitem (PySem.F.args_dict_delitem_2 _ _) (meets_dict_delitem_pairs (intKind V.prog V.w) _ (k:=k) (intKind_is _ _ _ _)) ⟨aA,hm,by rw [sizeLine_eq]; omega,K4,λh' wi eP=>?_⟩))
 obtain ⟨o',ph,u6,g2,vE,iR,vI,pH,pG⟩:=wi
 have l8:without aA k=eK k aA:=(Aj k aA hN).symm
 rw [l8] at pH pG
 exact wpAny_pure (q g _ _ (.refl g) (I.cellSet (t:=s.toks+1) h1 eP g2 ⟨by have:=Al k es; omega,ph,u6,eK k aA,vE,iR,vI,pH,pG,Am hA,(λz=>by cases z)⟩) trivial)
theorem OM {m:List (Option D)} {C:ai} {g:Gh} {s:Shared} (I:ah V F m C g s) {o i:D} {a b:Value} (ro:af V g o a) (ri:af V g i b) :
  aE V F A dF (delItem a b) g s (gh (nH o i C) m):=by
 induction ho:nH o i C with
 |none=>trivial
 |some C'=>
  show aE V F A dF (delItem a b) g s (.ok () ⟨m,C'⟩)
  obtain ⟨j,e1,p1⟩:=aO ho
  obtain ⟨k,e2,p2⟩:=aO p1
  obtain ⟨ch,hC,p3⟩:=aO p2
  clear p1 p2 ho
  obtain rfl:=jv e1
  obtain ⟨t,rfl⟩:=ri.fp e2
  induction ch using Ch.casesOn<;>first|exact ao p3|skip
  obtain ⟨hk,p4⟩:=eA p3
  obtain rfl:=Option.some.inj p4
  exact HC I ro hC hk
theorem Qb {o i:Expr} {ap p:Pos} {b c:E} (ho:az V F A cl b o) (hi:az V F A cl c i) :
  aJ V F A cl (.pd b c) (.Delete [.Subscript o i ap] p):=λm C g s I=>by
 refine aj.seq (ho m C g s I).1 (λQ E x=>wpAny_Delete (wpAny_deleteEach_cons (wpAny_delete_Subscript (wpAny_mono x (λov s₁ h₁=>wpAny_mono h₁ (λiv s₂ h₂=>wpAny_mono h₂ (λu' s₃ h₃=>wpAny_deleteEach_nil h₃) λu' u' e=>e) λu' u' e=>e) λu' u' e=>e))))
  (K:=λov Q E s₁=>wpAny V.M A (eval i F.env) (λiv s₂=>wpAny V.M A (delItem ov iv) (λu'=>Q .next) E s₂) E s₁) λy st g₁ s₁ ov u' u' I₁ ry=>?_
 refine aj.seq (hi _ _ _ _ I₁).1 (λu' u' x=>x) λz gn g₃ s₃ iv u' q₃ I₃ rz=>?_
 exact aj.seq (OM (A:=A) I₃ (ry.mono q₃.toLe) rz) (λu' u' x=>x) (K:=λu' Q E s=>Q .next s) λu' u' g₄ s₄ u' u' u' I₄ u'=>λQ E q=>q _ _ _ (.refl _) I₄ .next
end
section
variable {V:av} {G:aV} {F:aD} {A:Around} {cl:Calls}
noncomputable def qZ (c:aI) (e:Expr) (n:Nat):Prop := ∃ x p,e=.Name x p/\cZ c x=some n
theorem E0 {e:Expr} {x:Str} (h:fM e=some x) : ∃ p,e=.Name x p:=by
 induction e using Expr.casesOn<;>first|((first|exact ao h|obtain rfl:=Option.some.inj h); exact ⟨_,rfl⟩)|exact ao h
theorem E3 {c:aI} : ∀ {es:List Expr} {ns:List Nat},((es.mapM fM).bind λxs=>xs.mapM (cZ c))=some ns->a0 (qZ c) es ns
 |[],ns,h=>by
  simp at h; subst h; trivial
 |e::es,ns,h=>by
  rw [mapM_cons] at h
  obtain ⟨xs,h1,h2⟩:=aO h
  obtain ⟨x,h0,h9⟩:=aO h1
  obtain ⟨p,rfl⟩:=E0 h0
  obtain ⟨ys,h3,h4⟩:=aO h9
  obtain rfl:=Option.some.inj h4
  rw [mapM_cons] at h2
  obtain ⟨n,h5,h6⟩:=aO h2
  obtain ⟨ms,h7,h8⟩:=aO h6
  obtain rfl:=Option.some.inj h8
  exact ⟨⟨x,p,rfl,h5⟩,E3 (by rw [h3]; exact h7)⟩
theorem xV {c:aI} {env:Env} : ∀ {es:List Expr} {ns:List Nat},a0 (qZ c) es ns->(assignEach es env).findIdx? (·.1)=none/\(assignEach es env).length=ns.length
 |[],[],_=>⟨rfl,rfl⟩
 |e::es,n::ns,h=>by
  obtain ⟨⟨x,p,rfl,_⟩,hr⟩:=h
  obtain ⟨h1,h2⟩:=xV (env:=env) hr
  show ((false,assign (.Name x p) env)::assignEach es env).findIdx? (·.1)=none/\((false,assign (.Name x p) env)::assignEach es env).length=_
  rw [List.findIdx?_cons,h1]
  exact ⟨rfl,by simp [h2]⟩
 |[],_::_,h=>h.elim
 |_::_,[],h=>h.elim
theorem xC (K:F.Ok) {c:aI} (hc:F.ctx c) : ∀ {es:List Expr} {ns:List Nat} {ds:List D} {vs:List Value} {m:List (Option D)} {C:ai} {g:Gh} {s:Shared},a0 (qZ c) es ns->aG V g ds vs->ns.length=ds.length->ah V F m C g s->
  aE V F A dF (assignInOrder ((assignEach es F.env).map (·.2)) vs) g s (lK ns ds ⟨m,C⟩)
 |[],[],[],_,m,C,g,s,_,.nil,_,I=>λQ E q=>wpAny_pure (q g _ _ (.refl g) I trivial)
 |e::es,n::ns,d::ds,_,m,C,g,s,h,.cons (v:=v) (vs:=vs) r rs,hl,I=>by
  obtain ⟨⟨x,p,rfl,hk⟩,hr⟩:=h
  refine aj.seq (lJ (A:=A) K I hc hk r) (λQ E x=>wpAny_bind (wpAny_holding (wpAny_assign_Name x))) (K:=λu' Q E s=>wpAny V.M A (assignInOrder ((assignEach es F.env).map (·.2)) vs) Q E s) λu' st g₁ s₁ u' u' q₁ I₁ u'=>?_
  exact xC K hc hr (rs.mono q₁.toLe) (by simpa using hl) I₁
 |[],_::_,_,_,_,_,_,_,h,_,_,_=>h.elim
 |_::_,[],_,_,_,_,_,_,h,_,_,_=>h.elim
 |_,_::_,[],_,_,_,_,_,_,_,h,_=>by simp at h
 |_,[],_::_,_,_,_,_,_,_,_,h,_=>by simp at h
theorem Nq {es:List Expr} {cx:Nat} {tp:Pos} {e:Expr} {env:Env} (ht:wN e=false):swappedStores [.Tuple es cx tp] e env=pure none:=by
 induction e using Expr.casesOn<;>first|rfl|exact fN ht
set_option tactic.hygienic true in
theorem PX (K:F.Ok) (et:cl.fuel≠0->A.handled=none) {c:aI} (hc:F.ctx c) {es:List Expr} {ns:List Nat} (jV:((es.mapM fM).bind λxs=>xs.mapM (cZ c))=some ns) {cx:Nat} {tp p:Pos} {a:E} {e:Expr}
  (hn:jw e=false) (ht:wN e=false) (h:az V F A cl a e):aJ V F A cl (.o3 ns a) (.Assign [.Tuple es cx tp] e p):=λm C g s I=>by
 show aj _ _ _ _ _ _ (if cl.fuel==0 then _ else _)
 split
 ·trivial
 ·rename_i hf
  have hh:A.handled=none:=et λz=>hf (by rw [z]; rfl)
  refine aj.seq (h m C g s I).1 (λQ E x=>wpAny_Assign_stores x (by unfold swapsWithSole; exact tA hn) (Nq ht)) λd st g₁ s₁ v u' u' I₁ r=>?_
  induction d using D.casesOn with
  |tup ds=>
   show aj _ _ _ _ _ _ (if ns.length==ds.length then _ else _)
   split
   ·rename_i hl
    have hl:=eq_of_beq hl
    obtain ⟨la,vs,k,rfl,pU,hz,rs⟩:=I₁.tup r
    have hT:=E3 jV
    have JP:(assignEach [.Tuple es cx tp] F.env).map (·.2)=[assign (.Tuple es cx tp) F.env]:=by rfl
    obtain ⟨p0,lh⟩:=xV (env:=F.env) hT
    refine aj.seq (R:=dF) (W:=wpAny V.M A (assign (.Tuple es cx tp) F.env (.ref la))) (K:=λu' Q E s=>Q .next s) ?_ (λQ E x=>by rw [JP]; exact x) λu' br g₂ s₂ u' u' u' I₂ u'=>λQ E q=>q _ _ _ (.refl _) I₂ .next
    have I₃ : ∀ h',Heap.ExtBut s₁.heap.objs.size s₁.heap h'->ah V F st.m st.C g₁ {s₁ with heap:=h'}:=λh' he=>I₁.heap λb o e=>he b o (ne_of_lt (Heap.lt_size e)) e
    have key : ∀ h',Heap.ExtBut s₁.heap.objs.size s₁.heap h'->aE V F A dF (assignInOrder ((assignEach es F.env).map (·.2)) vs) g₁ {s₁ with heap:=h'} (lK ns ds st):=λh' he=>xC K hc hT rs hl (I₃ h' he)
    induction ho:lK ns ds st with
    |fail=>trivial
    |ok b aB=>
     intro Q E q
     refine wpAny_assign_Tuple hh ⟨_,pU,rfl,_,rfl⟩ (by rw [lh,hl,rs.length]; simp) p0 λh' he=>?_
     have:=key h' he
     rw [ho] at this
     exact this Q E q
    |exc b aB=>
     intro Q E q
     refine wpAny_assign_Tuple hh ⟨_,pU,rfl,_,rfl⟩ (by rw [lh,hl,rs.length]; simp) p0 λh' he=>?_
     have:=key h' he
     rw [ho] at this
     exact this Q E q
   ·trivial
  |_=>trivial
end
section
variable {V:av} {G:aV} {F:aD} {A:Around} {cl:Calls}
theorem Er {m:List (Option D)} {C:ai} {g:Gh} {s:Shared} (I:ah V F m C g s) {ds:List D} {vs:List Value} (rs:aG V g ds vs) (hz:ds.length<=aF) {n t:Nat} {Q:Value->Shared->Prop}
  (q : ∀ g' a s',g.Step g'->ah V F m (C++[.list ds]) g' s'->af V g' (.loc C.length) a->Q a s') :
  Q (.ref s.heap.objs.size) {s with heap:=s.heap.push {cls:=.type "list",data:=.seq vs.toArray n},toks:=t}:=by
 have hl:=rs.length
 obtain ⟨st,I',r'⟩:=I.tx (c:=.list ds) (t:=t) (λu' u' h=>Heap.get?_push_of_some _ h) (Heap.get?_push_size s.heap (o:={cls:=.type "list",data:=.seq vs.toArray n}) rfl)
  ⟨vs,⟨by omega,n,rfl⟩,rs.mono (Gh.qH (i:=C.length) I.eY).toLe⟩
 exact q _ _ _ st I' r'
set_option tactic.hygienic true in
theorem PL {f:Expr->E} {es:List Expr} {p:Pos} (h : ∀ e∈es,az V F A cl (f e) e):da V F A cl (.list (kK f es)) (.List es p):=λm C g s I=>by
 unfold kK
 induction hs:es.any dp with
 |true=>trivial
 |false=>
  rw [if_neg (by decide)]
  have e:((ev V.P cl (.list (bq f es)) ⟨m,C⟩).bind λx st=>fT (cD (.list (bq f es))) x st)=(bE V.P cl (bq f es) ⟨m,C⟩).bind λd st=>match d with
    |.lst ds=>if ds.length<=aF then .ok (.loc st.C.length) ⟨st.m,st.C++[.list ds]⟩ else .fail
    |_=>.fail:=by
   show (match bE V.P cl (bq f es) ⟨m,C⟩ with|.ok (.lst ds) aa=>(if ds.length<=aF then .ok (.lst ds) aa else .fail:ak D)|.exc x aa=>.exc x aa|_=>.fail).bind _=_
   induction bE V.P cl (bq f es) ⟨m,C⟩ with
   |ok d ae=>
    induction d using D.casesOn<;>try rfl
    rename_i ds
    show (if ds.length<=aF then (.ok (.lst ds) ae:ak D) else .fail).bind _=(if ds.length<=aF then _ else _)
    split<;>rfl
   |exc x ae=>rfl
   |fail=>rfl
  rw [e]
  refine aj.seq (tS (p:=p) es hs h m C g s I) (λu' u' x=>wpAny_List_spliced x) λd st g₁ s₁ vs u' u' I₁ rd=>?_
  obtain ⟨ds,rfl,rs⟩:=rd
  dsimp only
  split
  ·rename_i hz
   have gH:vs.length<=aF:=by rw [<-rs.length]; exact hz
   exact λQ E k=>⟨dv gH,Er (n:=0) (t:=s₁.toks) I₁ rs hz k⟩
  ·trivial
theorem Ot {m:List (Option D)} {C:ai} {g:Gh} {s:Shared} (I:ah V F m C g s) {x y:D} {a b:Value} (hx:af V g x a) (hy:af V g y b) :
  aE V F A (af V) (binaryOp .Add a b) g s ((cW (dz C .add x y) ⟨m,C⟩).bind λx st=>fT true x st):=by
 induction h:dz C .add x y with
 |none=>trivial
 |some d=>
  rcases yX h with ⟨i,j,_,_,e⟩|⟨_,⟨i,j,_,_,e⟩|e⟩
  ·obtain ⟨z,_,rfl⟩:=cf e
   trivial
  ·obtain ⟨_,e⟩:=eA e
   obtain rfl:=Option.some.inj e
   trivial
  ·obtain ⟨xs,ex,e⟩:=aO e
   obtain ⟨ys,ey,e⟩:=aO e
   obtain ⟨hz,e⟩:=eA e
   obtain rfl:=Option.some.inj e
   obtain ⟨l,vs,n,rfl,hl,mD,r1⟩:=I.list hx ex
   obtain ⟨l',ws,n',rfl,d5,Lh,r2⟩:=I.list hy ey
   intro Q E k
   have e1:=r1.length
   have e2:=r2.length
   refine P.add_list hl d5 ?_ (dv (by simpa [<-e1,<-e2] using hz))
   rw [show vs.toArray++ws.toArray=(vs++ws).toArray from by simp]
   exact Er (n:=0) (t:=s.toks) I (r1.append r2) (by simpa using hz) k
theorem PK {a b:E} {l r:Expr} {p:Pos} (hl:az V F A cl a l) (hr:az V F A cl b r):da V F A cl (.bin .add a b) (.BinOp l .Add r p):=λm C g s I=>by
 have e:((ev V.P cl (.bin .add a b) ⟨m,C⟩).bind λx st=>fT (cD (.bin .add a b)) x st)=(ev V.P cl a ⟨m,C⟩).bind λx aa=>(ev V.P cl b aa).bind λy ae=>(cW (dz ae.C .add x y) ae).bind λx st=>fT true x st:=by
  show ((ev V.P cl a ⟨m,C⟩).bind λx aa=>(ev V.P cl b aa).bind λy ae=>cW (dz ae.C .add x y) ae).bind _=_
  rw [ak.bind_assoc]
  congr 1; funext x aa
  rw [ak.bind_assoc]
  rfl
 rw [e]
 exact aj.seq (hl m C g s I).1 (λu' u' x=>wpAny_BinOp x) λu' u' u' u' u' u' u' I₁ rx=>
  aj.seq (hr _ _ _ _ I₁).1 (λu' u' x=>x) λu' u' u' u' u' u' br I₂ ry=>Ot I₂ (rx.mono br.toLe) ry
theorem SN {a:E} {e:Expr} (he:isTrue e F.env (eval e F.env)=(do let v <-eval e F.env; standAt e.pos; holding [v] (truthy v))) (h:da V F A cl a e):az V F A cl (.uQ a) e:=
 .of he λm C g s I=>h m C g s I
theorem Qc {p:Pos}:az V F A cl .l6 (.Dict [] [] p):=.of rfl λm C g s I Q E q=>by
 refine wpAny_Dict_empty ?_
 obtain ⟨st,I',r'⟩:=I.tx (c:=.dict true []) (t:=s.toks) (λu' u' h=>Heap.get?_push_of_some _ h) (Heap.get?_push_size s.heap (o:={cls:=.type "dict",data:=.dict #[]}) rfl)
  ⟨by decide,#[],_,[],⟨rfl,rfl,rfl⟩,rfl,(by intro e h; simp at h),.nil,nodup_nil,trivial,λu'=>rfl⟩
 exact q _ _ _ st I' r'
set_option tactic.hygienic true in
theorem SO {a:E} {v:Expr} {p:Pos} (h:az V F A cl a v):az V F A cl (.D7 a) (.FormattedValue v 114 none p):=.of rfl λm C g s I=>by
 refine aj.seq (h m C g s I).1 (λu' u' x=>wpAny_FormattedValue_repr x) λd st g₁ s₁ u u' u' I₁ r=>?_
 induction r using af.casesOn with
 |@int i t=>
  show aj _ _ _ _ _ _ (if small i then _ else _)
  split
  ·rename_i hs
   intro Q E q
   refine pyReprObj_int (xM hs) (wpAny_handedOn (q _ _ _ (.refl _) (I₁.tok _) (.str _ _)) (q _ _ _ (.refl _) (I₁.tok _) (.str _ _)) (int_text_fits (xM hs)))
  ·trivial
 |_=>trivial
end
section
variable {V:av} {G:aV} {F:aD} {A:Around} {cl:Calls}
theorem Fe {a:E} {t:Expr} {x y:Ss} {b o:List Stmt} (h:az V F A cl a t) (hb:cB V F A cl x b) (ho:cB V F A cl y o) {oc:ak Fl} (jX:oc≠.fail) {R:Result->Shared->Prop}
  {g:Gh} {m:List (Option D)} {C:ai} {s:Shared} (I:ah V F m C g s) {n:Nat} (e:whileLoop (λaa=>ev V.P cl a aa) (λaa=>aq V.P cl x aa) (λaa=>aq V.P cl y aa) n ⟨m,C⟩=oc)
  (fD : ∀ fl aB,oc=.ok fl aB->∀ g' f s',g.Step g'->ah V F aB.m aB.C g' s'->cG V g' fl f->R (.ok f) s')
  (hex : ∀ xx aB,oc=.exc xx aB->∀ g' e s',g.Step g'->dG V F xx aB g' e s'->notedBy V.M A F.env (λe s'=>R (.error e) s') e s') :
  codeAny V.M A (.whileLoop t b o F.env) R s:=by
 refine codeAny_whileLoop (λn s => ∃ g1 m1 C1,g.Step g1/\ah V F m1 C1 g1 s/\whileLoop (λaa=>ev V.P cl a aa) (λaa=>aq V.P cl x aa) (λaa=>aq V.P cl y aa) n ⟨m1,C1⟩=oc) (λn s hI=>?_) n ⟨g,m,C,.refl g,I,e⟩
 obtain ⟨g1,m1,C1,aa,I1,e1⟩:=hI
 induction n using Nat.casesOn with
 |zero=>exact absurd e1.symm jX
 |succ n=>
  have ht:=(h m1 C1 g1 s I1).2
  unfold whileLoop at e1
  induction hc:ev V.P cl a ⟨m1,C1⟩ with
  |fail=>rw [hc] at e1; exact absurd e1.symm jX
  |exc xx st=>
   rw [hc] at e1 ht
   exact ht _ _ λg' e s' q1 hx=>hex xx st e1.symm g' e s' (aa.trans q1) hx
  |ok d st=>
   rw [hc] at e1 ht
   have Ca:aE V F A jH (isTrue t F.env (eval t F.env)) g1 s (gu (bA st.C d) st):=ht
   dsimp only at e1
   induction hd:bA st.C d with
   |none=>rw [hd] at e1; exact absurd e1.symm jX
   |some bb=>
    rw [hd] at e1 Ca
    refine Ca _ _ λg2 b2 s2 q1 I2 r=>?_
    subst r
    induction bb with
    |false=>
     dsimp only at e1
     rw [if_neg (by decide)]
     have hs:=ho _ _ _ _ I2
     rw [e1] at hs
     induction oc with
     |fail=>exact absurd rfl jX
     |ok fl aB=>exact hs _ _ λg' f s' q2 I' r'=>fD fl aB rfl g' f s' ((aa.trans q1).trans q2) I' r'
     |exc xx aB=>exact hs _ _ λg' e s' q2 hx=>hex xx aB rfl g' e s' ((aa.trans q1).trans q2) hx
    |true=>
     dsimp only at e1
     rw [if_pos rfl]
     have hs:=hb _ _ _ _ I2
     induction hx:aq V.P cl x st with
     |fail=>rw [hx] at e1; exact absurd e1.symm jX
     |exc xx aB=>
      rw [hx] at e1 hs
      exact hs _ _ λg' e s' q2 hx=>hex xx aB e1.symm g' e s' ((aa.trans q1).trans q2) hx
     |ok fl aB=>
      rw [hx] at e1 hs
      refine hs _ _ λg' f s' q2 I' r'=>?_
      induction r' using cG.casesOn with
      |next=>exact ⟨n,lt_succ_self _,g',aB.m,aB.C,(aa.trans q1).trans q2,I',e1⟩
      |cont=>exact ⟨n,lt_succ_self _,g',aB.m,aB.C,(aa.trans q1).trans q2,I',e1⟩
      |brk=>exact fD .next aB e1.symm g' .next s' ((aa.trans q1).trans q2) I' .next
      |ret r=>exact fD _ aB e1.symm g' _ s' ((aa.trans q1).trans q2) I' (.ret r)
noncomputable def kB (V:av) (F:aD) (x:X) (st:St) (g:Gh) (e:Value) (s:Shared):Prop:=
 dG V F x st g e s/\∃ a oe vs T,e=.ref a/\s.heap.get? a=some oe/\oe.data=.fields vs/\vs[1]?=some (.ref T)
noncomputable def qT (V:av) (F:aD) (A:Around):Prop := ∀ (x:X) (st:St) (g:Gh) (e:Value) (s:Shared) (E:Value->Shared->Prop),dG V F x st g e s->
 (∀ g' s',g.Step g'->kB V F x st g' e s'->E e s')->notedBy V.M A F.env E e s
noncomputable def qP (V:av) (F:aD) (A:Around):Prop := ∀ (x:X) (st:St) (g:Gh) (e:Value) (s:Shared) (E:Value->Shared->Prop),kB V F x st g e s->
 (∀ g' s',g.Step g'->dG V F x st g' e s'->E e s')->cameBackBy V.M A F.env E e s
theorem QE (hN:qT V F A) (hB:qP V F A) {a:E} {t:Expr} {x y:Ss} {b o:List Stmt} {p:Pos} (h:az V F A cl a t) (hb:cB V F A cl x b) (ho:cB V F A cl y o) :
  aJ V F A cl (.kx a x y) (.While t b o p):=λm C g s I=>by
 show aj _ _ _ _ _ _ (whileLoop (λaa=>ev V.P cl a aa) (λaa=>aq V.P cl x aa) (λaa=>aq V.P cl y aa) cl.fuel ⟨m,C⟩)
 induction hw:whileLoop (λaa=>ev V.P cl a aa) (λaa=>aq V.P cl x aa) (λaa=>aq V.P cl y aa) cl.fuel ⟨m,C⟩ with
 |fail=>trivial
 |ok fl aB=>
  intro Q E q
  refine wpAny_While (Fe h hb ho (oc:=.ok fl aB) (by intro z; exact DF z) I hw (λvi fL e g' f s' q1 I' r=>?_) (λxx fL e=>by cases e))
  obtain ⟨rfl,rfl⟩:=ak.ok.inj e
  exact q g' f s' q1 I' r
 |exc xx aB=>
  intro Q E q
  refine wpAny_While (Fe h hb ho (oc:=.exc xx aB) (by intro z; exact AU z) I hw (λvi fL e=>by exact ve e) (λRE fL e g' e' s' q1 hx=>?_))
  cases e
  refine hN _ _ _ _ _ _ hx λg2 s2 q2 j4=>?_
  exact hB _ _ _ _ _ _ j4 λg3 s3 q3 ez=>q g3 e' s3 ((q1.trans q2).trans q3) ez
end
section
variable {V:av} {F:aD} {m:List (Option D)} {C:ai} {g:Gh} {s:Shared}
theorem ah.away (I:ah V F m C g s) {h':Heap} {t:Nat} {T:Addr} (hT:g T=none) (h0:V.h₀.get? T=none) (hs:Heap.SameBut T s.heap h'):ah V F m C g {s with heap:=h',toks:=t}:=by
 have ne : ∀ {b y},g b=some y->b≠T:=λ{b y} e z=>by subst z; rw [hT] at e; exact ao e
 have nk : ∀ {b o},V.h₀.get? b=some o->b≠T:=λ{b o} e z=>by subst z; rw [h0] at e; exact ao e
 refine ⟨λb o e=>(hs.2 b (nk e)).trans (I.keep b o e),I.new,λb y e=>?_,λb o e=>(hs.2 b (ne e)).trans (I.ay b o e),λb o e=>?_,λj c e=>?_,I.uniq,I.c4,?_,I.gens,I.os⟩
 ·obtain ⟨o,ho⟩:=I.live b y e
  exact ⟨o,(hs.2 b (ne e)).trans ho⟩
 ·obtain ⟨sl,q,q'⟩:=I.ax b o e
  exact ⟨sl,(hs.2 b (ne e)).trans q,q'⟩
 ·obtain ⟨b,o,h1,h2,h3⟩:=I.cell j c e
  exact ⟨b,o,h1,(hs.2 b (ne h1)).trans h2,h3⟩
 ·have x:=I.fr
  refine ⟨x.len,x.above,x.out,x.here,?_,λy hy=>?_,x.free⟩
  ·obtain ⟨M,a,b⟩:=x.loc
   exact ⟨M,a.sameBut hs (ne x.here),b⟩
  ·obtain ⟨c,v,a,b,d,e⟩:=x.cell y hy
   exact ⟨c,v,a,b,d.sameBut hs (ne b),e⟩
end
section
variable {V:av} {F:aD} {A:Around}
theorem Gg:qP V F A:=λx st g e s E hx k=>by
 obtain ⟨⟨I,a,cls,args,L,rfl,hL,hr,hT⟩,a',oe,vs,T,ha,ij,hd,h1⟩:=hx
 cases ha
 obtain ⟨f7,dS,qo,iy,t,h2,h3,h4,h5,h6,h7,h8⟩:=hT
 rw [ij] at h2; obtain rfl:=Option.some.inj h2
 rw [hd] at h4; cases h4
 rcases h8 with h8|⟨T',oT,ts,e1,e2,e3,e4,e5,e6,e7⟩
 ·rw [h1] at h8; cases h8
 rw [h1] at e1; cases e1
 have bU:3<ts.size:=by
  rcases e7 with e7|e7<;>exact (Array.getElem?_eq_some_iff.mp e7).1
 unfold cameBackBy
 refine wpAny_bind (wpAny_field ij hd h1 ?_)
 rw [if_neg (by simp)]
 unfold setFlight
 refine wpAny_bind (wpAny_field ij hd h1 ?_)
 rw [if_pos (show (Value.ref T != Value.none)=true from by simp)]
 refine wpAny_setField e5 e6 bU ?_
 rw [hL]
 have hs:Heap.SameBut T s.heap (s.heap.update T (Obj.mapFields (·.setIfInBounds 3 (rawInt L)))):=Heap.SameBut.update ..
 have pI:a≠T:=λz=>e2 z.symm
 have fX:=Obj.data_mapFields e6 (·.setIfInBounds 3 (rawInt L))
 have p5:=Heap.get?_update_self (Obj.mapFields (·.setIfInBounds 3 (rawInt L))) e5 (Obj.isFreed_of_fields fX)
 refine k g _ (.refl g) ⟨I.away (t:=s.toks) e3 e4 hs,a,cls,args,L,rfl,hL,hr,f7,dS,oe,vs,t,(hs.2 a pI).trans ij,h3,hd,h5,?_,h7,.inr ⟨T,_,_,h1,e2,e3,e4,p5,fX,.inr ?_⟩⟩
 ·obtain ⟨o,n,q1,q2,q3⟩:=h6
  refine ⟨o,n,(hs.2 t λz=>?_).trans q1,q2,q3⟩
  rw [z,e5] at q1; obtain rfl:=Option.some.inj q1
  rw [e6] at q3; cases q3
 ·simp [bU]
end
section
variable {V:av} {F:aD} {m:List (Option D)} {C:ai} {g:Gh} {s:Shared}
theorem ah.frames (I:ah V F m C g s) {h':Heap} {t:Nat} {P:Addr->Prop} (hP : ∀ b,P b->yl g b) (k : ∀ b o,¬ P b->s.heap.get? b=some o->h'.get? b=some o)
  (ks : ∀ b o,P b->s.heap.get? b=some o->∃ sl,h'.get? b=some {o with slots:=sl}):ah V F m C g {s with heap:=h',toks:=t}:=by
 have up:s.heap.UpToSlots h':=λb o e u'=>by
  by_cases q:P b
  ·exact ks b o q e
  ·exact ⟨o.slots,k b o q e⟩
 have nP : ∀ {b y},g b=some y->(y≠.locals)->(∀ o,y≠.ax o)->¬ P b:=λ{b y} e h1 h2 q=>by
  rcases hP b q with z|⟨o,es,n,z,_⟩
  ·rw [e] at z; obtain rfl:=Option.some.inj z; exact h1 rfl
  ·rw [e] at z; obtain rfl:=Option.some.inj z; exact h2 _ rfl
 refine ⟨λb o e=>k b o (λq=>?_) (I.keep b o e),I.new,λb y e=>?_,λb o e=>k b o (nP e (by intro z; cases z) (by intro o z; cases z)) (I.ay b o e),λb o e=>?_,λj c e=>?_,I.uniq,I.c4,?_,I.gens,I.os⟩
 ·rcases hP b q with z|⟨o',es,n,z,_⟩<;>(have:=I.new _ _ z; rw [e] at this; exact jE this)
 ·obtain ⟨o,ho⟩:=I.live b y e
  by_cases q:P b
  ·obtain ⟨sl,h⟩:=ks b o q ho; exact ⟨_,h⟩
  ·exact ⟨o,k b o q ho⟩
 ·obtain ⟨sl,q,q'⟩:=I.ax b o e
  by_cases z:P b
  ·obtain ⟨xJ,h⟩:=ks b _ z q
   refine ⟨xJ,h,λhT=>?_⟩
   rcases hP b z with z|⟨o',es,n,z,zd⟩
   ·rw [e] at z; cases z
   ·rw [e] at z; cases z; exact absurd zd (hT.2 es n)
  ·exact ⟨sl,k b _ z q,q'⟩
 ·obtain ⟨b,o,h1,h2,h3⟩:=I.cell j c e
  exact ⟨b,o,h1,k b o (nP h1 (by intro z; cases z) (by intro o z; cases z)) h2,h3⟩
 ·have x:=I.fr
  refine ⟨x.len,x.above,x.out,x.here,?_,λy hy=>?_,x.free⟩
  ·obtain ⟨M,a,b⟩:=x.loc
   exact ⟨M,up.ns a,b⟩
  ·obtain ⟨c,v,a,b,d,e⟩:=x.cell y hy
   obtain ⟨o,ho,hr⟩:=d
   exact ⟨c,v,a,b,⟨o,k c o (nP b (by intro z; cases z) (by intro o z; cases z)) ho,hr⟩,e⟩
end
open Classical in
noncomputable def eN (h:Heap) (P:Addr->Prop):Heap:=⟨h.objs.mapIdx λi o=>if P i then {cls:=.none,data:=.freed} else o,h.life⟩
theorem pQ {h:Heap} {P:Addr->Prop} {a:Addr} (q:P a):(eN h P).get? a=none:=by
 unfold eN Heap.get?
 simp only [Array.getElem?_mapIdx]
 induction h.objs[a]? with
 |none=>rfl
 |some o=>simp [q]
theorem nU {h:Heap} {P:Addr->Prop} {a:Addr} (q : ¬ P a):(eN h P).get? a=h.get? a:=by
 unfold eN Heap.get?
 simp only [Array.getElem?_mapIdx]
 induction h.objs[a]? with
 |none=>rfl
 |some o=>simp [q]
theorem sz {h:Heap} {P:Addr->Prop}:(eN h P).StaysIn h:=λb o e=>by
 by_cases q:P b
 ·rw [pQ q] at e; exact ao e
 ·rwa [nU q] at e
section
variable {V:av} {F:aD} {m:List (Option D)} {C:ai} {g:Gh} {s:Shared}
theorem r9 (I:ah V F m C g s) {L:Addr} (h:eh F g L) : ∃ o,s.heap.get? L=some o/\(∀ vs,o.data≠.fields vs):=by
 rcases h with rfl|⟨o,es,n,h,hd⟩
 ·obtain ⟨M,hM,_⟩:=I.fr.loc
  obtain ⟨o,es,n,ho,hd,_⟩:=hM
  exact ⟨o,ho,λvs=>by rw [hd]; intro z; cases z⟩
 ·obtain ⟨sl,ho,_⟩:=I.ax _ _ h
  exact ⟨_,ho,λvs=>by rw [hd]; intro z; cases z⟩
theorem Be (I:ah V F m C g s) {L:Addr} (h:eh F g L):yl g L:=by
 rcases h with rfl|h
 ·exact .inl I.fr.here
 ·exact .inr h
theorem Bi (I:ah V F m C g s) {P:Addr->Prop} (hP : ∀ L,eh F g L->P L) : ∀ {l:List Env},(∀ e∈l,e∈F.stack)->s.heap.FunFrames (eN s.heap P) l
 |[],_=>trivial
 |e::l,h=>by
  obtain ⟨k,L,q,r⟩:=I.fr.out e (h e (.head _))
  obtain ⟨o,ho,hf⟩:=r9 I r
  exact ⟨k,⟨L,o,q,pQ (hP L r),ho,hf⟩,Bi I hP λe' he=>h e' (.tail _ he)⟩
end
section
variable {V:av} {F:aD} {m:List (Option D)} {C:ai} {g:Gh} {s:Shared}
theorem ah.IF (I:ah V F m C g s) {h':Heap} {t:Nat} (up:s.heap.UpToSlots h') (k : ∀ b o,¬ eh F g b->(g b≠none\/V.h₀.get? b≠none)->s.heap.get? b=some o->h'.get? b=some o) :
  ah V F m C g {s with heap:=h',toks:=t}:=by
 have nP : ∀ {b y},g b=some y->(y≠.locals)->(∀ o,y≠.ax o)->¬ eh F g b:=λ{b y} e h1 h2 q=>by
  rcases q with z|⟨o,es,n,z,_⟩
  ·have:=I.fr.here; rw [<-z,e] at this; obtain rfl:=Option.some.inj this; exact h1 rfl
  ·rw [e] at z; obtain rfl:=Option.some.inj z; exact h2 _ rfl
 have kk : ∀ {b y o},g b=some y->¬ eh F g b->s.heap.get? b=some o->h'.get? b=some o:=λ{b y o} e q=>k b o q (.inl (by rw [e]; intro z; exact jE z))
 refine ⟨λb o e=>k b o (λq=>?_) (.inr (by rw [e]; intro z; exact jE z)) (I.keep b o e),I.new,λb y e=>?_,λb o e=>kk e (nP e (by intro z; cases z) (by intro o z; cases z)) (I.ay b o e),λb o e=>?_,λj c e=>?_,I.uniq,I.c4,?_,I.gens,I.os⟩
 ·rcases Be I q with z|⟨o',es,n,z,_⟩<;>(have:=I.new _ _ z; rw [e] at this; exact jE this)
 ·by_cases q:eh F g b
  ·obtain ⟨o,ho,hf⟩:=r9 I q
   obtain ⟨sl,h⟩:=up b o ho hf
   exact ⟨_,h⟩
  ·obtain ⟨o,ho⟩:=I.live b y e
   exact ⟨o,kk e q ho⟩
 ·obtain ⟨sl,q,q'⟩:=I.ax b o e
  by_cases z:eh F g b
  ·obtain ⟨o1,gF,bg⟩:=r9 I z
   rw [q] at gF; obtain rfl:=Option.some.inj gF
   obtain ⟨xJ,h⟩:=up b _ q bg
   refine ⟨xJ,h,λhT=>?_⟩
   rcases Be I z with z|⟨o',es,n,z,zd⟩
   ·rw [e] at z; cases z
   ·rw [e] at z; cases z; exact absurd zd (hT.2 es n)
  ·exact ⟨sl,kk e z q,q'⟩
 ·obtain ⟨b,o,h1,h2,h3⟩:=I.cell j c e
  exact ⟨b,o,h1,kk h1 (nP h1 (by intro z; cases z) (by intro o z; cases z)) h2,h3⟩
 ·have x:=I.fr
  refine ⟨x.len,x.above,x.out,x.here,?_,λy hy=>?_,x.free⟩
  ·obtain ⟨M,a,b⟩:=x.loc
   exact ⟨M,up.ns a,b⟩
  ·obtain ⟨c,v,a,b,d,e⟩:=x.cell y hy
   obtain ⟨o,ho,hr⟩:=d
   exact ⟨c,v,a,b,⟨o,kk b (nP b (by intro z; cases z) (by intro o z; cases z)) ho,hr⟩,e⟩
end
section
variable {V:av} {F:aD} {A:Around}
theorem tD {outer:List Env} (dQ:A.frames=some F.stack) (aM:F.stack=F.env::outer) {x:X} {st:St} {g:Gh} {e:Value} {s:Shared} {Q:Shared->Prop} {E:Value->Shared->Prop} (hx:dG V F x st g e s)
  (k : ∀ g' s',g.Step g'->kB V F x st g' e s'->Q s'):wpAny V.M A (noteFrame e F.env) (λu' s'=>Q s') E s:=by
 obtain ⟨I,a,cls,args,L,rfl,hL,hr,hT⟩:=id hx
 obtain ⟨f7,dS,oe,vs,t,h2,h3,h4,h5,h6,h7,h8⟩:=hT
 have hP : ∀ L,eh F g L->(λb=>eh F g b\/(g b=none/\V.h₀.get? b=none)) L:=λu' h=>.inl h
 have hl:s.heap.FunFrames (eN s.heap λb=>eh F g b\/(g b=none/\V.h₀.get? b=none)) (F.env::outer):=Bi I hP (λe he=>by rw [aM]; exact he)
 rw [aM] at dQ
 have BJ:(eN s.heap λb=>eh F g b\/(g b=none/\V.h₀.get? b=none)).get? a=none:=pQ (.inr ⟨f7,dS⟩)
 have fin : ∀ h',Heap.NotedW (eN s.heap λb=>eh F g b\/(g b=none/\V.h₀.get? b=none)) (F.env::outer) a oe.cls (.ref t) (rawInt L) s.heap h'->Q {s with heap:=h'}:=by
  intro h' hz
  obtain ⟨x1,x2,⟨qo,iy,T,oT,ts,q1,⟨q2,q3⟩,q4,q5,q6,q7,q8,q9,N2⟩,x4⟩:=hz
  have BA:g T=none/\V.h₀.get? T=none:=by
   by_cases z:eh F g T
   ·obtain ⟨o,ho,hf⟩:=r9 I z
    obtain ⟨sl,q⟩:=x4 T o ho hf
    rw [q8] at q; obtain rfl:=Option.some.inj q
    exact absurd q9 (hf ts)
   ·by_cases w:g T=none/\V.h₀.get? T=none
    ·exact w
    ·rw [nU (by intro y; rcases y with y|y; exact z y; exact w y)] at q6
     refine ⟨I.apart q6,?_⟩
     induction y:V.h₀.get? T with
     |none=>rfl
     |some o=>rw [I.keep _ _ y] at q6; exact jE q6
  refine k g _ (.refl g) ⟨⟨I.IF (t:=s.toks) x4 (λb o nf tr e=>x1 b o ?_),a,cls,args,L,rfl,hL,hr,f7,dS,qo,iy,t,q1,q2.trans h3,q4,q3,h6.of_slots x4,h7,.inr ⟨T,oT,ts,q5,q7,BA.1,BA.2,q8,q9,.inr N2⟩⟩,a,qo,iy,T,rfl,q1,q4,q5⟩
  rw [nU (by
   intro y; rcases y with y|y
   ·exact nf y
   ·rcases tr with tr|tr
    ·exact tr y.1
    ·exact tr y.2)]
  exact e
 rcases h8 with h8|⟨T,oT,ts,e1,e2,e3,e4,e5,e6,e7⟩
 ·unfold noteFrame
  simp only [hL]
  refine wpAny_bind (wpAny_field h2 h4 h8 ?_)
  rw [if_neg (by decide)]
  exact wpAny_entryW dQ hl hL h2 sz BJ h4 (Array.getElem?_eq_some_iff.mp h8).1 h5 fin
 ·rcases e7 with e7|e7
  ·exact wpAny_noteFrame_onW dQ hl hL ⟨oe,vs,T,oT,ts,h2,⟨rfl,h5⟩,h4,e1,pQ (.inr ⟨e3,e4⟩),e2,e5,e6,e7⟩ sz BJ fin
  ·exact wpAny_noteFrame_inFlight hL h2 h4 e1 e5 e6 e7 (k g _ (.refl g) ⟨hx,a,oe,vs,T,rfl,h2,h4,e1⟩)
theorem Nz {outer:List Env} (dQ:A.frames=some F.stack) (aM:F.stack=F.env::outer):qT V F A:=λx st g e s E hx k=>tD dQ aM hx k
end
theorem LP {x:D} {p:Nat × Nat} (h:Cx x=some p):x=.inst p.1 p.2:=by induction x using D.casesOn<;>first|exact ao h|(obtain rfl:=Option.some.inj h; rfl)
mutual
theorem yT : ∀ {a b:D},D.beq a b=true->a=b
 |.int x,b,h=>(qd (eq_of_beq h)).symm
 |.bool x,b,h=>(Cw (eq_of_beq h)).symm
 |.str x,b,h=>(sU (eq_of_beq h)).symm
 |.loc x,b,h=>(jv (eq_of_beq h)).symm
 |.inst x y,b,h=>(LP (eq_of_beq h)).symm
 |.lst x,b,h=>by
  induction b using D.casesOn<;>first|exact bo h|exact congrArg D.lst (uE h)
 |.none,b,h=>bo h
 |.bytes _,b,h=>bo h
 |.bn _,b,h=>bo h
 |.fn _,b,h=>bo h
 |.cls _,b,h=>bo h
 |.tup _,b,h=>bo h
 |.bZ _ _,b,h=>bo h
 |.bm _ _,b,h=>bo h
 |.c7 _,b,h=>bo h
 |.e9 _,b,h=>bo h
theorem uE : ∀ {a b:List D},D.lY a b=true->a=b
 |[],b,h=>(isEmpty_iff.mp h).symm
 |x::a,b,h=>by
  induction b using List.casesOn with
  |nil=>exact bo h
  |cons y b=>
   obtain ⟨h1,h2⟩:=and_eq_true_iff.mp (show (D.beq x y&&D.lY a b)=true from h)
   rw [yT h1,uE h2]
end
theorem yR : ∀ {a b:List (Int × D)},ny a b=true->a=b
 |[],b,h=>(isEmpty_iff.mp h).symm
 |x::a,b,h=>by
  induction b using List.casesOn with
  |nil=>exact bo h
  |cons y b=>
   obtain ⟨h1,h2⟩:=and_eq_true_iff.mp (show (x.1==y.1&&D.beq x.2 y.2&&ny a b)=true from h)
   obtain ⟨h3,h4⟩:=and_eq_true_iff.mp h1
   rw [show x=y from Prod.ext (eq_of_beq h3) (yT h4),yR h2]
set_option tactic.hygienic true in
theorem Oq {c c':Ch} (h:Ee c c'=true):c=c':=by
 induction c using Ch.casesOn<;>first|exact bo h|skip
 ·induction c' using Ch.casesOn<;>first|exact bo h|exact congrArg Ch.list (uE h)
 ·rename_i b es
  induction b<;>first|exact bo h|skip
  induction c' using Ch.casesOn<;>first|exact bo h|skip
  rename_i b l8
  induction b<;>first|exact bo h|exact congrArg (Ch.dict true) (yR h)
theorem xS {C C':ai} {i:Nat} (h:jF C C' i=true):C'[i]?=C[i]?:=by
 unfold jF at h
 induction h1:C[i]? with
 |none=>rw [h1] at h; exact bo h
 |some c=>
  induction h2:C'[i]? with
  |none=>rw [h1,h2] at h; exact bo h
  |some c'=>rw [h1,h2] at h; rw [Oq h]
theorem EU {C C':ai} {y:D} (h:aY C C' y=true) {items:List D} (e:bF C y=some items):bF C' y=some items:=by
 induction y using D.casesOn<;>first|exact ao e|exact e|skip
 ·exact (congrArg (·.bind qe) (xS h)).trans e
 ·exact (congrArg (·.bind x9) (xS h)).trans e
noncomputable def ft (C:ai):D->Bool
 |.loc i=>match C[i]? with
  |some (.dict _ _)=>true
  |_=>false
 |_=>false
theorem zo {C:ai} {i:Nat} {ds:List D} (h:C[i]?=some (.list ds)):ft C (.loc i)=false:=by unfold ft; dsimp only; rw [h]
theorem zm {C:ai} {i:Nat} {b:Bool} {es:List (Int × D)} (h:C[i]?=some (.dict b es)):ft C (.loc i)=true:=by unfold ft; dsimp only; rw [h]
set_option tactic.hygienic true in
theorem ET {C C':ai} {y:D} (h:aY C C' y=true):ft C' y=ft C y:=by
 induction y using D.casesOn<;>first|rfl|skip
 rename_i i
 unfold ft
 dsimp only
 rw [xS h]
noncomputable def cO (V:av) (g:Gh) (k:Bool) (items:List D) (i:Nat) (y:D) (o:Obj):Prop:=match y with
 |.lst _ => ∃ l,af V g y (.ref l)/\o.cls=.type "list_iterator"/\o.data=.fields #[.ref l,.int i 0]
 |.tup _ => ∃ l,af V g y (.ref l)/\o.cls=.type "tuple_iterator"/\o.data=.fields #[.ref l,.int i 0]
 |.bZ a _=>o={cls:=.type "range_iterator",dict:=none,data:=.fields #[rawInt (a+(i:Int)),rawInt ((items.length:Int) - (i:Int)),rawInt 1],slots := #[]}
 |.bytes b => ∃ t,b.length<=aF/\o.cls=.type "bytes_iterator"/\o.data=.fields #[.bytes b.toArray t,.int i 0]
 |.loc _ => ∃ l,af V g y (.ref l)/\((k=false/\o.cls=.type "list_iterator"/\o.data=.fields #[.ref l,.int i 0])\/(k=true/\o.cls=.type "dict_keyiterator"/\o.data=.fields #[.ref l,.int i 0,.int items.length 0,.int items.length 0]))
 |.c7 j => ∃ d,g d=some (.cell j)/\o.cls=.type "dict_valueiterator"/\o.data=.fields #[.ref d,.int i 0,.int items.length 0,.int items.length 0]
 |_=>False
theorem cO.mono {V:av} {g g':Gh} (L:g.Le g') {k:Bool} {items:List D} {i:Nat} {y:D} {o:Obj} (h:cO V g k items i y o):cO V g' k items i y o:=by
 induction y using D.casesOn<;>first|exact h|skip
 ·obtain ⟨l,a,b⟩:=h; exact ⟨l,a.mono L,b⟩
 ·obtain ⟨l,a,b⟩:=h; exact ⟨l,a.mono L,b⟩
 ·obtain ⟨l,a,b⟩:=h; exact ⟨l,a.mono L,b⟩
 ·obtain ⟨l,a,b⟩:=h; exact ⟨l,L.cell _ _ a,b⟩
theorem cO.tY {V:av} {g:Gh} {k:Bool} {items:List D} {i:Nat} {y:D} {o:Obj} (h:cO V g k items i y o):jI o:=by
 have key : ∀ {vs},o.data=.fields vs->jI o:=λe=>⟨λv z=>(by rw [e] at z; cases z),λes n z=>(by rw [e] at z; cases z)⟩
 induction y using D.casesOn<;>first|(exact h.elim)|skip
 ·obtain ⟨t,_,_,e⟩:=h; exact key e
 ·obtain ⟨l,_,_,e⟩:=h; exact key e
 ·obtain ⟨l,_,_,e⟩:=h; exact key e
 ·have h:o=_:=h; subst h; exact key rfl
 ·obtain ⟨l,_,⟨_,_,e⟩|⟨_,_,e⟩⟩:=h<;>exact key e
 ·obtain ⟨d,_,_,e⟩:=h; exact key e
section
variable {V:av} {F:aD} {A:Around} {m:List (Option D)} {C:ai} {g:Gh} {s:Shared}
theorem ah.Ge (I:ah V F m C g s) {h':Heap} {t:Nat} {T:Addr} (hT:g T=none) (h0:V.h₀.get? T=none) (hs:Heap.ExtBut T s.heap h'):ah V F m C g {s with heap:=h',toks:=t}:=by
 have ne : ∀ {b y},g b=some y->b≠T:=λ{b y} e z=>by subst z; rw [hT] at e; exact ao e
 have nk : ∀ {b o},V.h₀.get? b=some o->b≠T:=λ{b o} e z=>by subst z; rw [h0] at e; exact ao e
 refine ⟨λb o e=>hs b o (nk e) (I.keep b o e),I.new,λb y e=>?_,λb o e=>hs b o (ne e) (I.ay b o e),λb o e=>?_,λj c e=>?_,I.uniq,I.c4,?_,I.gens,I.os⟩
 ·obtain ⟨o,ho⟩:=I.live b y e
  exact ⟨o,hs b o (ne e) ho⟩
 ·obtain ⟨sl,q,q'⟩:=I.ax b o e
  exact ⟨sl,hs b _ (ne e) q,q'⟩
 ·obtain ⟨b,o,h1,h2,h3⟩:=I.cell j c e
  exact ⟨b,o,h1,hs b o (ne h1) h2,h3⟩
 ·have x:=I.fr
  refine ⟨x.len,x.above,x.out,x.here,?_,λy hy=>?_,x.free⟩
  ·obtain ⟨M,a,b⟩:=x.loc
   exact ⟨M,a.extBut hs (ne x.here),b⟩
  ·obtain ⟨c,v,a,b,⟨oc,d,d'⟩,e⟩:=x.cell y hy
   exact ⟨c,v,a,b,⟨oc,hs c oc (ne b) d,d'⟩,e⟩
theorem N6 {a b:Int} {i:Nat} {d:D} (h:(eD a b)[i]?=some d):d=.int (a+(i:Int))/\i<(eD a b).length:=by
 have hl:i<(eD a b).length:=(List.getElem?_eq_some_iff.mp h).1
 unfold eD at h
 rw [getElem?_map] at h
 obtain ⟨j,h1,h2⟩:=cf h
 have:i<(b - a).toNat:=by simpa [eD] using hl
 rw [getElem?_range this] at h1
 obtain rfl:=Option.some.inj h1
 exact ⟨h2.symm,hl⟩
theorem N7 {a b:Int}:Builtin.Range.rangeSize a b 1=((eD a b).length:Int):=by
 unfold Builtin.Range.rangeSize eD
 simp
 split<;>omega
set_option tactic.hygienic true in
theorem tQ (B:V.Base) (I:ah V F m C g s) {y:D} {v:Value} (r:af V g y v) {items:List D} (h:bF C y=some items) {Q:Value->Shared->Prop} {E:Value->Shared->Prop}
  (q : ∀ o h',cO V g (ft C y) items 0 y o->(∀ b o,s.heap.get? b=some o->h'.get? b=some o)->ah V F m C (g.put s.heap.objs.size (some (.ax o))) {s with heap:=h'}->Q (.ref s.heap.objs.size) {s with heap:=h'}):wpAny V.M A (pyIter v) Q E s:=by
 have new : ∀ o:Obj,o.isFreed=false->ah V F m C (g.put s.heap.objs.size (some (.ax o))) {s with heap:=s.heap.push o}:=λo hf=>
  I.more (t:=s.toks) (λu' u' h=>Heap.get?_push_of_some _ h) (Heap.get?_none_of_le (le_refl _)) (Heap.get?_push_size _ hf) (.inr rfl)
 induction y using D.casesOn<;>first|exact ao h|skip
 ·obtain rfl:=Option.some.inj h
  obtain ⟨t,hz,rfl⟩:=r.mE
  exact W.KBw.pyIter_bytes (q _ _ ⟨t,hz,rfl,rfl⟩ (λu' u' h=>Heap.get?_push_of_some _ h) (new _ rfl))
 ·obtain rfl:=Option.some.inj h
  obtain ⟨l,vs,n,rfl,hl,hz,rs⟩:=I.tup r
  exact wpAny_pyIter_tuple ⟨_,hl,rfl,_,rfl⟩ (q _ _ ⟨l,r,rfl,rfl⟩ (λu' u' h=>Heap.get?_push_of_some _ h) (new _ rfl))
 ·obtain rfl:=Option.some.inj h
  obtain ⟨l,vs,n,rfl,hl,hz,rs⟩:=I.list r (ds:=_) rfl
  exact wpAny_pyIter_list hl.isList (q _ _ ⟨l,r,rfl,rfl⟩ (λu' u' h=>Heap.get?_push_of_some _ h) (new _ rfl))
 ·rename_i a b
  obtain ⟨hr,h⟩:=eA h
  obtain rfl:=Option.some.inj h
  obtain ⟨ra,o,t₁,t₂,t₃,h1,h2,rfl⟩:=r.Ls
  have KP:IsRange s.heap ra a b 1 t₁ t₂ t₃:=by rw [eG] at h2; subst h2; exact I.ay _ _ h1
  refine wpAny_pyIter_range KP (D9 hr).1 (q _ _ ?_ (λu' u' h=>Heap.get?_push_of_some _ h) (new _ rfl))
  rw [N7]
  show _=_
  simp
 ·obtain ⟨ch,hC,h⟩:=aO h
  obtain ⟨l,hg,rfl⟩:=r.gc
  induction ch using Ch.casesOn<;>first|exact ao h|skip
  ·obtain rfl:=Option.some.inj h
   obtain ⟨l',vs,n,e,_,hl,hz,rs⟩:=I.lz (.loc hg) hC
   cases e
   exact wpAny_pyIter_list hl.isList (q _ _ ⟨l,.loc hg,.inl ⟨zo hC,rfl,rfl⟩⟩ (λu' u' h=>Heap.get?_push_of_some _ h) (new _ rfl))
  ·rename_i b es
   induction b<;>first|exact ao h|skip
   obtain rfl:=Option.some.inj h
   obtain ⟨hz,aA,ep,hd,hA,jQ⟩:=I.dictAt hg hC
   have e1:aA.length=es.length:=hA.length.symm
   refine wpAny_pyIter_dict (knd:=intKind V.prog V.w) (qK I hg B.mods) hd (q _ _ ⟨l,.loc hg,.inr ⟨zm hC,rfl,?_⟩⟩ (λu' u' h=>Heap.get?_push_of_some _ h) (new _ rfl))
   rw [jQ rfl,e1,length_map]; rfl
 ·obtain ⟨ch,hC,h⟩:=aO h
  induction ch using Ch.casesOn<;>first|exact ao h|skip
  rename_i b es
  induction b<;>first|exact ao h|skip
  obtain rfl:=Option.some.inj h
  obtain ⟨a,d,o,h1,h2,h3,rfl⟩:=r.Lv
  obtain ⟨hz,aA,ep,hd,hA,jQ⟩:=I.dictAt h3 hC
  have e1:aA.length=es.length:=hA.length.symm
  have hv:s.heap.IsValuesView a d:=by
   have:=I.ay _ _ h1
   rw [eG] at h2; subst h2
   exact ⟨_,this,rfl,rfl⟩
  refine wpAny_pyIter_values (knd:=intKind V.prog V.w) hv hd (q _ _ ⟨d,h3,rfl,?_⟩ (λu' u' h=>Heap.get?_push_of_some _ h) (new _ rfl))
  rw [jQ rfl,e1,length_map]; rfl
end
noncomputable def RJ (M:Model) (A:Around) (it:Addr) (Q:Option Value->Shared->Prop) (E:Value->Shared->Prop) (s:Shared):Prop:=wpAny M A (pyNext (.ref it)) Q E s
section
variable {V:av} {F:aD} {A:Around} {m:List (Option D)} {C:ai} {g:Gh} {s:Shared}
theorem a0.get {α β:Type} {R:α->β->Prop} : ∀ {as:List α} {bs:List β} {i:Nat} {a:α} {b:β},a0 R as bs->as[i]?=some a->bs[i]?=some b->R a b
 |_::_,_::_,0,_,_,h,h1,h2=>by obtain rfl:=Option.some.inj h1; obtain rfl:=Option.some.inj h2; exact h.1
 |_::_,_::_,_+1,_,_,h,h1,h2=>a0.get h.2 h1 h2
 |[],_,_,_,_,_,h1,_=>by exact ao h1
 |_::_,[],_,_,_,_,_,h2=>by exact ao h2
structure lS (V:av) (g:Gh) (s:Shared) (it:Addr) (k:Bool) (items:List D) (i:Nat) (y:D) (Q:Option Value->Shared->Prop):Prop where
 stop:items[i]?=none->∀ h',Heap.ExtBut it s.heap h'->Q none {s with heap:=h'}
 go : ∀ {d v o'} {h':Heap} (t:Nat),items[i]?=some d->af V g d v->h'.get? it=some o'->Heap.SameBut it s.heap h'->cO V g k items (i+1) y o'->Q (some v) {s with heap:=h',toks:=t}
section
variable {items:List D} {i:Nat} {it:Addr} {o:Obj} {k:Bool} {Q:Option Value->Shared->Prop} {E:Value->Shared->Prop}
theorem HG (hh:A.handled=none) {b:List UInt8} (ho:s.heap.get? it=some o) (hi:cO V g k items i (.bytes b) o) (h:bF C (.bytes b)=some items) (N:lS V g s it k items i (.bytes b) Q):wpAny V.M A (pyNext (.ref it)) Q E s:=by
 obtain ⟨t,hz,hc,hd⟩:=hi
 obtain rfl:=Option.some.inj h
 have hit:W.KBw.IsBytesIter s.heap it b.toArray t i:=⟨o,ho,hc,hd⟩
 induction hb:b[i]? with
 |none=>exact W.KBw.next_end hh hit (by simpa using hb) (N.stop (by rw [getElem?_map,hb]; rfl))
 |some c=>
  refine W.KBw.next_item hit (c:=c) (by simpa using hb) λh' ⟨o',h1,h2,h3⟩ hs=>N.go (s.toks+1) (d:=.int c.toNat) (by rw [getElem?_map,hb]; rfl) (.int _ _) h1 hs ⟨t,hz,h2,h3⟩
theorem HL (hh:A.handled=none) (I:ah V F m C g s) {ds:List D} (ho:s.heap.get? it=some o) (hi:cO V g k items i (.tup ds) o) (h:bF C (.tup ds)=some items) (N:lS V g s it k items i (.tup ds) Q):wpAny V.M A (pyNext (.ref it)) Q E s:=by
 obtain ⟨l,r,hc,hd⟩:=hi
 cases h
 obtain ⟨l',vs,n,ev,hl,hz,rs⟩:=I.tup r
 cases ev
 have hit:s.heap.IsTupleIter it l i:=⟨o,ho,hc,hd⟩
 have Ce:s.heap.IsTuple l vs.toArray:=⟨_,hl,rfl,_,rfl⟩
 induction hx:items[i]? with
 |none=>
  refine wpAny_pyNext_tuple_end hh hit Ce ?_ (N.stop hx)
  have:=rs.length
  rw [List.getElem?_eq_none_iff] at hx
  simp; omega
 |some d=>
  obtain ⟨v,hv,rv⟩:=rs.get hx
  exact wpAny_pyNext_tuple_item hit Ce (x:=v) (by simpa using hv) λh' ⟨o',h1,h2,h3⟩ hs=>N.go s.toks hx rv h1 hs ⟨l,r,h2,h3⟩
theorem HJ (hh:A.handled=none) (I:ah V F m C g s) {ds:List D} (ho:s.heap.get? it=some o) (hi:cO V g k items i (.lst ds) o) (h:bF C (.lst ds)=some items) (N:lS V g s it k items i (.lst ds) Q):wpAny V.M A (pyNext (.ref it)) Q E s:=by
 obtain ⟨l,r,hc,hd⟩:=hi
 cases h
 obtain ⟨l',vs,n,ev,hl,hz,rs⟩:=I.list r (ds:=items) rfl
 cases ev
 have hit:s.heap.IsListIter it l i:=⟨o,ho,hc,hd⟩
 induction hx:items[i]? with
 |none=>
  refine wpAny_pyNext_list_end hh hit hl.isList ?_ (N.stop hx)
  have:=rs.length
  rw [List.getElem?_eq_none_iff] at hx
  simp; omega
 |some d=>
  obtain ⟨v,hv,rv⟩:=rs.get hx
  exact wpAny_pyNext_list_item hit hl.isList (x:=v) (by simpa using hv) λh' ⟨o',h1,h2,h3⟩ hs=>N.go s.toks hx rv h1 hs ⟨l,r,h2,h3⟩
theorem HK (hh:A.handled=none) {a b:Int} (ho:s.heap.get? it=some o) (hi:cO V g k items i (.bZ a b) o) (h:bF C (.bZ a b)=some items) (N:lS V g s it k items i (.bZ a b) Q):wpAny V.M A (pyNext (.ref it)) Q E s:=by
 have hi:o=_:=hi
 subst hi
 obtain ⟨_,h⟩:=eA h
 ·obtain rfl:=Option.some.inj h
  have hit:IsRangeIter s.heap it (a+(i:Int)) (((eD a b).length:Int) - (i:Int)) 1:=ho
  induction hx:(eD a b)[i]? with
  |none=>
   rw [List.getElem?_eq_none_iff] at hx
   exact wpAny_pyNext_range_end hh hit (by omega) (N.stop (List.getElem?_eq_none_iff.mpr hx))
  |some d=>
   obtain ⟨rfl,bQ⟩:=N6 hx
   refine wpAny_pyNext_range_item hit (by omega) λh' h1 hs=>N.go (s.toks+1) hx (.int _ _) h1 hs ?_
   show _=_
   have e1:a+(i:Int)+1=a+((i+1:Nat):Int):=by omega
   have e2:((eD a b).length:Int) - (i:Int) - 1=((eD a b).length:Int) - ((i+1:Nat):Int):=by omega
   rw [e1,e2]
set_option tactic.hygienic true in
theorem HH (hh:A.handled=none) (I:ah V F m C g s) {j:Nat} (ho:s.heap.get? it=some o) (hi:cO V g k items i (.loc j) o) (h:bF C (.loc j)=some items) (hk:ft C (.loc j)=k) (N:lS V g s it k items i (.loc j) Q):wpAny V.M A (pyNext (.ref it)) Q E s:=by
 obtain ⟨l,r,hs⟩:=hi
 obtain ⟨ch,hC,h⟩:=aO h
 induction ch using Ch.casesOn<;>first|exact ao h|skip
 ·cases h
  have i0:k=false:=hk.symm.trans (zo hC)
  obtain ⟨l',vs,n,ev,_,hl,hz,rs⟩:=I.lz r hC
  cases ev
  rcases hs with ⟨_,hc,hd⟩|⟨z,_⟩
  ·have hit:s.heap.IsListIter it l i:=⟨o,ho,hc,hd⟩
   induction hx:items[i]? with
   |none=>
    refine wpAny_pyNext_list_end hh hit hl.isList ?_ (N.stop hx)
    have:=rs.length
    rw [List.getElem?_eq_none_iff] at hx
    simp; omega
   |some d=>
    obtain ⟨v,hv,rv⟩:=rs.get hx
    exact wpAny_pyNext_list_item hit hl.isList (x:=v) (by simpa using hv) λh' ⟨o',h1,h2,h3⟩ hs=>N.go s.toks hx rv h1 hs ⟨l,r,.inl ⟨i0,h2,h3⟩⟩
  ·rw [i0] at z; exact bo z
 ·rename_i b es
  induction b<;>first|exact ao h|skip
  obtain rfl:=Option.some.inj h
  have i0:k=true:=hk.symm.trans (zm hC)
  rcases hs with ⟨z,_⟩|⟨_,hc,hd⟩
  ·rw [i0] at z; exact fN z
  ·cases r with
   |loc BS=>
    obtain ⟨hz,aA,ep,pM,hA,jQ⟩:=I.dictAt BS hC
    have e1:aA.length=es.length:=hA.length.symm
    have e2:(es.map λe=>D.int e.1).length=aA.length:=by rw [length_map,e1]
    have e3:aA.length=ep:=by rw [e1,jQ rfl]
    rw [e2] at hd
    have hit:s.heap.IsKeyIter it l i aA.length ep:=⟨o,ho,hc,by rw [hd,e3]⟩
    induction hx:aA[i]? with
    |none=>
     refine wpAny_pyNext_dict_end (knd:=intKind V.prog V.w) hh hit pM hx (N.stop ?_)
     rw [List.getElem?_eq_none_iff] at hx ⊢
     omega
    |some kv=>
     obtain ⟨key,v⟩:=kv
     refine wpAny_pyNext_dict_item (knd:=intKind V.prog V.w) hit pM hx λkk h' Kk ⟨o',h1,h2,h3⟩ hs=>?_
     have bQ:i<es.length:=by rw [<-e1]; exact (List.getElem?_eq_some_iff.mp hx).1
     have Kj:=a0.CC hA
     have Ki:es[i].1=key:=by
      have h5:(es.map (·.1))[i]?=(aA.map (·.1))[i]?:=by rw [Kj]
      rw [getElem?_map,getElem?_map,hx,getElem?_eq_getElem bQ] at h5
      simpa using h5
     obtain ⟨t,rfl⟩:=Value.isInt_shape Kk
     refine N.go s.toks (d:=.int key) ?_ (.int _ _) h1 hs ⟨l,.loc BS,.inr ⟨i0,h2,by rw [h3,e2,e3]⟩⟩
     rw [getElem?_map,getElem?_eq_getElem bQ]
     show some (D.int es[i].1)=_
     rw [Ki]
set_option tactic.hygienic true in
theorem HM (hh:A.handled=none) (I:ah V F m C g s) {j:Nat} (ho:s.heap.get? it=some o) (hi:cO V g k items i (.c7 j) o) (h:bF C (.c7 j)=some items) (N:lS V g s it k items i (.c7 j) Q):wpAny V.M A (pyNext (.ref it)) Q E s:=by
 obtain ⟨dd,BQ,hc,hd⟩:=hi
 obtain ⟨ch,hC,h⟩:=aO h
 induction ch using Ch.casesOn<;>first|exact ao h|skip
 ·rename_i b es
  induction b<;>first|exact ao h|skip
  obtain rfl:=Option.some.inj h
  obtain ⟨hz,aA,ep,pM,hA,jQ⟩:=I.dictAt BQ hC
  have e1:aA.length=es.length:=hA.length.symm
  have e2:(es.map λe=>e.2).length=aA.length:=by rw [length_map,e1]
  have e3:aA.length=ep:=by rw [e1,jQ rfl]
  rw [e2] at hd
  have hit:s.heap.IsValIter it dd i aA.length ep:=⟨o,ho,hc,by rw [hd,e3]⟩
  induction hx:aA[i]? with
  |none=>
   refine wpAny_pyNext_values_end (knd:=intKind V.prog V.w) hh hit pM hx (N.stop ?_)
   rw [List.getElem?_eq_none_iff] at hx ⊢
   omega
  |some kv=>
   obtain ⟨key,v⟩:=kv
   refine wpAny_pyNext_values_item (knd:=intKind V.prog V.w) hit pM hx λh' ⟨o',h1,h2,h3⟩ hs=>?_
   have bQ:i<es.length:=by rw [<-e1]; exact (List.getElem?_eq_some_iff.mp hx).1
   have hv:gq V g es[i] (key,v):=a0.get hA (getElem?_eq_getElem bQ) hx
   refine N.go s.toks (d:=es[i].2) ?_ hv.2 h1 hs ⟨dd,BQ,h2,by rw [h3,e2,e3]⟩
   rw [getElem?_map,getElem?_eq_getElem bQ]; rfl
end
theorem Em (hh:A.handled=none) (I:ah V F m C g s) {y:D} {items:List D} {i:Nat} {it:Addr} {o:Obj} (hg:g it=some (.ax o)) {k:Bool} (hi:cO V g k items i y o) (h:bF C y=some items) (hk:ft C y=k)
  {Q:Option Value->Shared->Prop} {E:Value->Shared->Prop}
  (q : ∀ d,items[i]?=some d->∀ v o' h' t,af V (g.put it (some (.ax o'))) d v->cO V (g.put it (some (.ax o'))) k items (i+1) y o'->ah V F m C (g.put it (some (.ax o'))) {s with heap:=h',toks:=t}->Q (some v) {s with heap:=h',toks:=t})
  (e:items[i]?=none->∀ h',ah V F m C (g.put it none) {s with heap:=h'}->Q none {s with heap:=h'}):wpAny V.M A (pyNext (.ref it)) Q E s:=by
 have ht:=hi.tY
 have ho:=I.lF hg ht
 have Lp : ∀ x,g.Le (g.put it x):=λx=>⟨λb o' e'=>by rw [Gh.aW _ _ (λz=>by subst z; rw [hg] at e'; cases e')]; exact e',λb o' e'=>by rw [Gh.aW _ _ (λz=>by subst z; rw [hg] at e'; cases e')]; exact e'⟩
 have stop:items[i]?=none->∀ h',Heap.ExtBut it s.heap h'->Q none {s with heap:=h'}:=λhn h' he=>
  e hn h' ((I.qv hg ht).Ge (t:=s.toks) (Gh.bh ..) (I.new _ _ hg) he)
 have go : ∀ {d v o'} {h':Heap} (t:Nat),items[i]?=some d->af V g d v->h'.get? it=some o'->Heap.SameBut it s.heap h'->cO V g k items (i+1) y o'->Q (some v) {s with heap:=h',toks:=t}:=λ{d v o' h'} t hd r dm hs pO=>
  q d hd v o' h' t (r.mono (Lp _)) (pO.mono (Lp _)) (I.oC hg ht hs.extBut dm)
 have N:lS V g s it k items i y Q:=⟨stop,go⟩
 induction y using D.casesOn<;>first|exact ao h|skip
 ·exact HG hh ho hi h N
 ·exact HL hh I ho hi h N
 ·exact HJ hh I ho hi h N
 ·exact HK hh ho hi h N
 ·exact HH hh I ho hi h hk N
 ·exact HM hh I ho hi h N
end
theorem Gh.bH.drop {S:Addr} {g g':Gh} (h:Gh.bH S g g') (hg:g S=none):g.Step (g'.put S none):=by
 refine ⟨⟨λa o e=>?_,λa i e=>?_⟩,λa o=>?_⟩
 ·have ne:a≠S:=λz=>by subst z; rw [hg] at e; exact ao e
  rw [Gh.aW _ _ ne]; exact h.ay a o ne e
 ·have ne:a≠S:=λz=>by subst z; rw [hg] at e; exact ao e
  rw [Gh.aW _ _ ne]; exact h.cell a i ne e
 ·by_cases ne:a=S
  ·subst ne; rw [Gh.bh,hg]
  ·rw [Gh.aW _ _ ne]; exact h.ax a o ne
section
variable {V:av} {G:aV} {F:aD} {A:Around} {cl:Calls} {m:List (Option D)} {C:ai} {g:Gh} {s:Shared}
theorem te {it:Addr} {o:Obj} (hg:g it=some (.ax o)) (x:Option GO):g.Le (g.put it x):=
 ⟨λb o' e'=>by rw [Gh.aW _ _ (λz=>by subst z; rw [hg] at e'; cases e')]; exact e',λb o' e'=>by rw [Gh.aW _ _ (λz=>by subst z; rw [hg] at e'; cases e')]; exact e'⟩
theorem cG.mono {g g':Gh} (L:g.Le g') {fl:Fl} {f:Flow} (h:cG V g fl f):cG V g' fl f:=by
 induction h using cG.casesOn with
 |next=>exact .next
 |brk=>exact .brk
 |cont=>exact .cont
 |ret r=>exact .ret (r.mono L)
theorem dG.drop {x:X} {st:St} {e:Value} (h:dG V F x st g e s) {it:Addr} {o:Obj} (hg:g it=some (.ax o)) (ht:jI o):dG V F x st (g.put it none) e s:=by
 obtain ⟨I,a,cls,args,L,rfl,hL,hr,⟨f7,dS,oe,vs,t,h2,h3,h4,h5,h6,h7,h8⟩⟩:=h
 have dn : ∀ {b},g b=none->g.put it none b=none:=λ{b} e=>by
  by_cases z:b=it
  ·subst z; exact Gh.bh ..
  ·rw [Gh.aW _ _ z]; exact e
 refine ⟨I.qv hg ht,a,cls,args,L,rfl,hL,hr,⟨dn f7,dS,oe,vs,t,h2,h3,h4,h5,h6,⟨h7.1,dn h7.2⟩,?_⟩⟩
 rcases h8 with h8|⟨T,oT,ts,e1,e2,e3,e4⟩
 ·exact .inl h8
 ·exact .inr ⟨T,oT,ts,e1,e2,dn e3,e4⟩
inductive uh (V:av) (F:aD) (it:Addr) (g₀:Gh) (y:D) (items:List D) (loop:List D->St->ak Fl) (oc:ak Fl) (n:Nat) (s:Shared):Prop
 |mk (g1:Gh) (m1:List (Option D)) (C1:ai) (i:Nat) (o:Obj) (b1:Gh.bH it g₀ g1) (iZ:g1 it=some (.ax o)) (pP:cO V g1 (ft C1 y) items i y o) (mr:bF C1 y=some items) (I1:ah V F m1 C1 g1 s)
   (hn:n=items.length+1 - i) (hle:i<=items.length) (e1:loop (items.drop i) ⟨m1,C1⟩=oc):uh V F it g₀ y items loop oc n s
set_option tactic.hygienic true in
theorem Bc (hh:A.handled=none) (K:F.Ok) {c:aI} (hc:F.ctx c) {x:Str} {px:Pos} {k:Nat} (hk:cZ c x=some k) {body:Ss} {b:List Stmt} (hb:cB V F A cl body b) {y:D} {items:List D} {it:Addr}
  {oc:ak Fl} (jX:oc≠.fail) {R:Result->Shared->Prop} {g₀:Gh} (mn:g₀ it=none)
  {g:Gh} {m:List (Option D)} {C:ai} {s:Shared} {o:Obj} (kY:Gh.bH it g₀ g) (hg:g it=some (.ax o)) (hi:cO V g (ft C y) items 0 y o) (hit:bF C y=some items) (I:ah V F m C g s)
  (e:forLoop (λC C'=>aY C C' y) (.one k) (λae=>aq V.P cl body ae) items ⟨m,C⟩=oc)
  (fD : ∀ fl aB,oc=.ok fl aB->∀ g' f s',g₀.Step g'->ah V F aB.m aB.C g' s'->cG V g' fl f->R (.ok f) s')
  (hex : ∀ xx aB,oc=.exc xx aB->∀ g' e s',g₀.Step g'->dG V F xx aB g' e s'->notedBy V.M A F.env (λe s'=>R (.error e) s') e s') :
  codeAny V.M A (.forLoop (.Name x px) (.ref it) b [] F.env) R s:=by
 refine codeAny_forLoop (uh V F it g₀ y items (forLoop (λC C'=>aY C C' y) (.one k) (λae=>aq V.P cl body ae)) oc) (λn s hI=>?_) (items.length+1) ⟨g,m,C,0,o,kY,hg,hi,hit,I,rfl,zero_le _,e⟩
 obtain ⟨g1,m1,C1,i,o1,b1,iZ,pP,mr,I1,rfl,hle,e1⟩:=hI
 refine Em hh I1 iZ pP mr rfl (λd hd v o2 h2 t2 rd mq I2=>?_) λhn h2 I2=>?_
 ·have bQ:i<items.length:=(List.getElem?_eq_some_iff.mp hd).1
  have vX:items.drop i=d::items.drop (i+1):=by
   rw [List.drop_eq_getElem_cons bQ]
   rw [getElem?_eq_getElem bQ] at hd
   obtain rfl:=Option.some.inj hd; rfl
  rw [vX] at e1
  unfold forLoop at e1
  dsimp only
  refine wpAny_assign_Name ?_
  have aM:=lJ (A:=A) K I2 hc hk rd
  unfold dE at aM
  unfold gv at e1
  dsimp only at e1 aM
  by_cases mv:k<m1.length
  ·rw [if_pos mv] at e1 aM
   dsimp only at e1
   refine aM _ _ λg3 u' s3 q3 I3 u'=>?_
   have b3:Gh.bH it g₀ g3:=(b1.trans (Gh.bH.put it g1 _)).trans (q3.but it)
   have v5:g3 it=some (.ax o2):=(q3.ax _ _).mp (Gh.bh ..)
   have hs:=hb _ _ _ _ I3
   have fZ:=mq.mono q3.toLe
   have ht:=mq.tY
   have turn : ∀ aa g4 s4,aq V.P cl body ⟨m1.set k (some d),C1⟩=.ok .next aa\/aq V.P cl body ⟨m1.set k (some d),C1⟩=.ok .cont aa->g3.Step g4->ah V F aa.m aa.C g4 s4->
     (if aY C1 aa.C y then forLoop (λC C'=>aY C C' y) (.one k) (λae=>aq V.P cl body ae) (items.drop (i+1)) aa else .fail)=oc->
     ∃ mm,mm<items.length+1 - i/\uh V F it g₀ y items (forLoop (λC C'=>aY C C' y) (.one k) (λae=>aq V.P cl body ae)) oc mm s4:=by
    intro aa g4 s4 _ q4 I4 e4
    split at e4
    ·rename_i aM
     refine ⟨items.length+1 - (i+1),Nat.sub_lt_sub_left (lt_succ_of_lt bQ) (lt_succ_self i),g4,aa.m,aa.C,i+1,o2,b3.trans (q4.but it),(q4.ax _ _).mp v5,?_,EU aM mr,I4,rfl,bQ,e4⟩
     rw [ET aM]
     exact fZ.mono q4.toLe
    ·exact absurd e4.symm jX
   induction hx:aq V.P cl body ⟨m1.set k (some d),C1⟩ with
   |fail=>rw [hx] at e1; exact absurd e1.symm jX
   |exc xx aB=>
    rw [hx] at e1 hs
    refine hs _ _ λg4 e4 s4 q4 p8=>hex xx aB e1.symm _ _ _ ((b3.trans (q4.but it)).drop mn) (p8.drop ((q4.ax _ _).mp v5) ht)
   |ok fl aB=>
    rw [hx] at e1 hs
    refine hs _ _ λg4 f s4 q4 I4 r4=>?_
    have sr:=(q4.ax _ _).mp v5
    have L4:=te sr none
    have eZ:g₀.Step (g4.put it none):=(b3.trans (q4.but it)).drop mn
    have I5:=I4.qv sr ht
    induction r4 using cG.casesOn with
    |next=>exact turn aB g4 s4 (.inl hx) q4 I4 e1
    |cont=>exact turn aB g4 s4 (.inr hx) q4 I4 e1
    |brk=>exact fD .next aB e1.symm _ .next s4 eZ I5 .next
    |ret r=>exact fD _ aB e1.symm _ _ s4 eZ I5 (.ret (r.mono L4))
  ·rw [if_neg mv] at e1; exact absurd e1.symm jX
 ·have wo:items.drop i=[]:=by rw [List.getElem?_eq_none_iff] at hn; exact List.drop_eq_nil_of_le hn
  rw [wo] at e1
  refine wpAny_execs_nil ?_
  exact fD .next ⟨m1,C1⟩ e1.symm _ .next _ (b1.drop mn) I2 .next
set_option tactic.hygienic true in
theorem Qe (B:V.Base) (hN:qT V F A) (hB:qP V F A) (et:cl.fuel≠0->A.handled=none) (K:F.Ok) {c:aI} (hc:F.ctx c) {x:Str} {px:Pos} {k:Nat} (hk:cZ c x=some k)
  {a:E} {t:Expr} {body:Ss} {b:List Stmt} {p:Pos} (h:az V F A cl a t) (hb:cB V F A cl body b) (hs : ∀ x,foldedSetIterable t F.env x=pure x) :
  aJ V F A cl (.dO (.one k) a body) (.For (.Name x px) t b [] p):=λm C g s I=>by
 show aj V F (cG V) _ g s (if cl.fuel==0 then .fail else (ev V.P cl a ⟨m,C⟩).bind λy aa=>match bF aa.C y with
  |some items=>forLoop (λC C'=>aY C C' y) (.one k) (λae=>aq V.P cl body ae) items aa
  |none=>.fail)
 split
 ·trivial
 rename_i hf
 have hh:A.handled=none:=et λz=>hf (by rw [z]; rfl)
 refine aj.seq (K:=λv Q E s₁=>wpAny V.M A (pyIter v) (λit s₂=>codeAny V.M A (.forLoop (.Name x px) it b [] F.env) (λr s'=>match r with|.ok f=>Q f s'|.error e=>cameBackBy V.M A F.env E e s') s₂) E s₁)
  (h m C g s I).1 (λQ E z=>wpAny_For z hs) λy st g₁ s₁ v u' q₁ I₁ r=>?_
 induction hi:bF st.C y with
 |none=>trivial
 |some items=>
  dsimp only
  have bU:=I₁.eY
  induction hw:forLoop (λC C'=>aY C C' y) (.one k) (λae=>aq V.P cl body ae) items st with
  |fail=>trivial
  |ok fl aB=>
   intro Q E q
   refine tQ B I₁ r hi λo h' ho u' I₂=>?_
   refine Bc hh K hc hk hb (oc:=.ok fl aB) (by intro z; exact DF z) bU (Gh.bH.put _ g₁ _) (Gh.bh ..) (ho.mono (Gh.gf _ bU)) hi I₂ hw (λvi fL e g' f s' q1 I' r=>?_) (λxx fL e=>by cases e)
   obtain ⟨rfl,rfl⟩:=ak.ok.inj e
   exact q g' f s' q1 I' r
  |exc xx aB=>
   intro Q E q
   refine tQ B I₁ r hi λo h' ho u' I₂=>?_
   refine Bc hh K hc hk hb (oc:=.exc xx aB) (by intro z; exact AU z) bU (Gh.bH.put _ g₁ _) (Gh.bh ..) (ho.mono (Gh.gf _ bU)) hi I₂ hw (λvi fL e=>by exact ve e) (λRE fL e g' e' s' q1 hx=>?_)
   cases e
   refine hN _ _ _ _ _ _ hx λg2 s2 q2 j4=>?_
   exact hB _ _ _ _ _ _ j4 λg3 s3 q3 ez=>q g3 e' s3 ((q1.trans q2).trans q3) ez
end
structure aV.Exc (G:aV):Prop where
 value:G.glob.lookup ("ValueError":Str)=some (.bn .t6)
 stop:G.glob.lookup ("StopIteration":Str)=some (.bn .stopIteration)
 hV:G.glob.lookup ("CycleError":Str)=some (.cls 1)
inductive jf (V:av):Prop
 |mk (nm:_) (q:_) (N:_) (bs:_) (k6:_) (sn:_) (sub:_) (ab:_) (col:_) (dd:_) (k0:_) (k1:_) (k2:_) (k3:_) (k5:_) (mN:_)
   (h1:V.h₀.get? (V.aX 1)=some (excClassObj nm q (V.aX 1) N bs [.type "ValueError",.type "Exception",.type "BaseException",.type "object"] k6 sn sub ab col dd k0 k1 k2 k3 k5 "ValueError.__new__")) (h2:V.h₀.Ns N mN) (h3:mN "__init__"=none):jf V
section
variable {V:av} {G:aV} {F:aD} {A:Around} {cl:Calls} {m:List (Option D)} {C:ai} {g:Gh} {s:Shared}
theorem ah.sf (I:ah V F m C g s) {a:Addr} (h:s.heap.get? a=none):V.h₀.get? a=none:=by
 induction q:V.h₀.get? a with
 |none=>rfl
 |some o=>rw [I.keep _ _ q] at h; exact jE h
theorem dG.made {L:Addr} (hf:F.env.frame=some L) {st:St} {x:X} (I:ah V F st.m st.C g s) {h':Heap} {e:Addr} {cls:Value} {args:List Value} (hx:uu V x cls args)
  (hk : ∀ b o,s.heap.get? b=some o->h'.get? b=some o) (hn:s.heap.get? e=none)
  (ht : ∃ t,h'.get? e=some {cls:=cls,data:=.fields #[.ref t,.none,.none,.none,.bool false,.none]}/\s.heap.get? t=none/\h'.get? t=some {cls:=.type "tuple",data:=.seq args.toArray}) :
  dG V F x st g (.ref e) {s with heap:=h'}:=by
 obtain ⟨t,h1,h2,h3⟩:=ht
 exact ⟨I.heap hk,e,cls,args,L,rfl,hf,hx,⟨I.apart hn,I.sf hn,_,_,t,h1,rfl,rfl,rfl,⟨_,_,h3,rfl,rfl⟩,⟨I.sf h2,I.apart h2⟩,.inl rfl⟩⟩
theorem M1 {c:aI} {x:Str} {d:D} (h:lD c x=true) (hd:G.glob.lookup x=some d):lB G c x=.cst d:=by
 unfold lB
 rw [eq_of_beq h,hd]
set_option tactic.hygienic true in
theorem Qu (O:V.Ok G) (K:F.Ok) (GE:G.Exc) (fA:jf V) (et:cl.fuel≠0->A.handled=none) {L:Addr} (hf:F.env.frame=some L) {c:aI} (hc:F.ctx c) {x:Str} (hx:lD c x=true) (hv:x=("CycleError":Str))
  {a a2:E} {e e2:Expr} {np cp p:Pos} (hs:dp e=false) (lh:dp e2=false) (h:az V F A cl a e) (h2:az V F A cl a2 e2):aJ V F A cl (.qw a a2) (.Raise (some (.Call (.Name x np) [e,e2] [] cp)) none p):=λm C g s I=>by
 show aj V F (cG V) _ g s (if cl.fuel==0 then .fail else (ev V.P cl a ⟨m,C⟩).bind λu' aa=>(ev V.P cl a2 aa).bind λu' ae=>.exc .hV ae)
 split
 ·trivial
 rename_i de
 have hh:A.handled=none:=et λz=>de (by rw [z]; rfl)
 have Kx:aE V F A (af V) (eval (.Name x np) F.env) g s (.ok (.cls 1) ⟨m,C⟩):=by
  have:=Et (A:=A) (P:=V.P) (cl:=cl) (p:=np) (x:=x) O K I hc
  rwa [M1 hx (by rw [hv]; exact GE.hV)] at this
 have aM:(backTo cp (starEach [e,e2] F.env)).any (·.1)=false:=by rw [rj]; exact qG (by rw [any_cons,any_cons,hs,lh]; rfl)
 obtain ⟨nm,q,N,bs,k6,sn,sub,ab,col,dd,k0,k1,k2,k3,k5,mN,hC,hN,n0⟩:=fA
 show aj V F (cG V) _ g s ((.ok (D.cls 1) ⟨m,C⟩:ak D).bind λu' QG=>(ev V.P cl a QG).bind λu' aa=>(ev V.P cl a2 aa).bind λu' ae=>.exc .hV ae)
 refine aj.seq (K:=λf Q E s₁=>f=.ref (V.aX 1)/\wpAny V.M A (evalArgs (.ref (V.aX 1)) true (backTo cp (starEach [e,e2] F.env)) [])
   (λa s₂=>a.kw=[]/\a.pos.length<=sizeLine/\s₂.heap.get? (V.aX 1)=some (excClassObj nm q (V.aX 1) N bs [.type "ValueError",.type "Exception",.type "BaseException",.type "object"] k6 sn sub ab col dd k0 k1 k2 k3 k5 "ValueError.__new__")/\s₂.heap.Ns N mN/\
    ∀ h' e,Heap.MadeExcOf s₂.heap h' e (.ref (V.aX 1)) a.pos->E (.ref e) {s₂ with heap:=h'}) E s₁) Kx
  (λQ E z=>wpAny_Raise_call_sub PySem.F.excBase_ValueError hh aM n0 z) λd st g₁ s₁ fv eo q₁ I₁ r=>?_
 obtain ⟨rfl,rfl⟩:=ak.ok.inj eo
 obtain rfl:=r.Ck
 refine aj.seq (K:=λv Q E s₂=>wpAny V.M A (eval e2 F.env) (λu s₂=>s₂.heap.get? (V.aX 1)=some (excClassObj nm q (V.aX 1) N bs [.type "ValueError",.type "Exception",.type "BaseException",.type "object"] k6 sn sub ab col dd k0 k1 k2 k3 k5 "ValueError.__new__")/\s₂.heap.Ns N mN/\
    ∀ h' ee,Heap.MadeExcOf s₂.heap h' ee (.ref (V.aX 1)) [v,u]->E (.ref ee) {s₂ with heap:=h'}) E s₂) (h _ _ _ _ I₁).1 (λQ E z=>⟨rfl,vc aM rfl ?_⟩) λd st g₂ s₂ v u' q₂ I₂ r=>?_
 ·rw [lN hs,lN lh]
  refine Calls.spliced_cons (wpAny_mono z (λv s₂ k=>Calls.spliced_cons (wpAny_mono k (λu s₃ k=>Calls.spliced_nil (wpAny_evalAll_nil ⟨rfl,?_,k⟩)) λu' u' z=>z)) λu' u' z=>z)
  rw [sizeLine_eq]; show 2<=_; omega
 ·refine aj.seq (K:=λu Q E s₂=>s₂.heap.get? (V.aX 1)=some (excClassObj nm q (V.aX 1) N bs [.type "ValueError",.type "Exception",.type "BaseException",.type "object"] k6 sn sub ab col dd k0 k1 k2 k3 k5 "ValueError.__new__")/\s₂.heap.Ns N mN/\
    ∀ h' ee,Heap.MadeExcOf s₂.heap h' ee (.ref (V.aX 1)) [v,u]->E (.ref ee) {s₂ with heap:=h'}) (h2 _ _ _ _ I₂).1 (λQ E z=>z) λd st g₃ s₃ u u' q₃ I₃ r=>?_
  exact λQ E k=>⟨I₃.keep _ _ hC,hN.keeps I₃.keep,λh' ee hm=>k g₃ _ _ (.refl _) (dG.made hf I₃ rfl hm.keeps hm.new hm.there)⟩
end
section
variable {V:av} {G:aV} {F:aD} {A:Around} {cl:Calls} {m:List (Option D)} {C:ai} {g:Gh} {s:Shared}
theorem rX {x:X} {st:St} {e:Value} {Q:Shared->Prop} {E:Value->Shared->Prop} (hx:kB V F x st g e s) (k : ∀ s',kB V F x st g e s'->Q s'):wpAny V.M A (setFlight e none) (λu' s'=>Q s') E s:=by
 obtain ⟨⟨I,a,cls,args,L,rfl,hL,hr,hT⟩,a',oe,vs,T,ha,ij,hd,h1⟩:=hx
 cases ha
 obtain ⟨f7,dS,qo,iy,t,h2,h3,h4,h5,h6,h7,h8⟩:=hT
 rw [ij] at h2; obtain rfl:=Option.some.inj h2
 rw [hd] at h4; cases h4
 rcases h8 with h8|⟨T',oT,ts,e1,e2,e3,e4,e5,e6,e7⟩
 ·rw [h1] at h8; cases h8
 rw [h1] at e1; cases e1
 have bU:3<ts.size:=by
  rcases e7 with e7|e7<;>exact (Array.getElem?_eq_some_iff.mp e7).1
 refine wpAny_setFlight_none ij hd h1 e5 e6 bU ?_
 have hs:Heap.SameBut T s.heap (s.heap.update T (Obj.mapFields (·.setIfInBounds 3 Value.none))):=Heap.SameBut.update ..
 have pI:a≠T:=λz=>e2 z.symm
 have fX:=Obj.data_mapFields e6 (·.setIfInBounds 3 Value.none)
 have p5:=Heap.get?_update_self (Obj.mapFields (·.setIfInBounds 3 Value.none)) e5 (Obj.isFreed_of_fields fX)
 have sI:=(hs.2 a pI).trans ij
 refine k _ ⟨⟨I.away (t:=s.toks) e3 e4 hs,a,cls,args,L,rfl,hL,hr,f7,dS,oe,vs,t,sI,h3,hd,h5,?_,h7,.inr ⟨T,_,_,h1,e2,e3,e4,p5,fX,.inl ?_⟩⟩,a,oe,vs,T,rfl,sI,hd,h1⟩
 ·obtain ⟨o,n,q1,q2,q3⟩:=h6
  refine ⟨o,n,(hs.2 t λz=>?_).trans q1,q2,q3⟩
  rw [z,e5] at q1; obtain rfl:=Option.some.inj q1
  rw [e6] at q3; cases q3
 ·simp [bU]
set_option tactic.hygienic true in
theorem ah.Mx (K:F.Ok) (I:ah V F m C g s) {h':Heap} {t:Nat} {x:Str} {k:Nat} {u:Option Value} {M:Str->Option Value} (hx:F.names.lookup x=some .local) (hk:F.slots.lookup x=some k)
  (hr : ∀ x n d,F.names.lookup x=some .local->F.slots.lookup x=some n->m[n]?=some (some d)->∃ v,M x=some v/\af V g d v)
  (hn:h'.Ns F.env.locals (λy=>if y=x then u else M y)) (hs:Heap.SameBut F.env.locals s.heap h'):ah V F (m.set k none) C g {s with heap:=h',toks:=t}:=by
 have hg:=I.fr.here
 have ne : ∀ {b y},g b=some y->y≠.locals->b≠F.env.locals:=λ{b y} e q z=>by subst z; rw [hg] at e; obtain rfl:=Option.some.inj e; exact q rfl
 have old : ∀ {y n d'},F.slots.lookup y=some n->(m.set k none)[n]?=some (some d')->y≠x/\m[n]?=some (some d'):=λ{y n d'} h2 h3=>by
  rw [getElem?_set] at h3
  split at h3
  ·split at h3<;>(first|exact ao h3|cases h3)
  ·rename_i dR
   refine ⟨λz=>?_,h3⟩
   subst z; rw [hk] at h2; obtain rfl:=Option.some.inj h2; exact dR rfl
 refine ⟨λb o' e=>?_,I.new,λb y e=>?_,λb o' e=>?_,λb o' e=>?_,λj c' e=>?_,I.uniq,I.c4,?_,I.gens,I.os⟩
 ·refine (hs.2 b λz=>?_).trans (I.keep b o' e)
  subst z; rw [I.new _ _ hg] at e; exact ao e
 ·by_cases z:b=F.env.locals
  ·subst z; obtain ⟨o,_,_,ho,_⟩:=hn; exact ⟨o,ho⟩
  ·obtain ⟨o',q⟩:=I.live b y e; exact ⟨o',(hs.2 b z).trans q⟩
 ·exact (hs.2 b (ne e (by intro z; cases z))).trans (I.ay b o' e)
 ·obtain ⟨sl,q,q'⟩:=I.ax b o' e
  exact ⟨sl,(hs.2 b (ne e (by intro z; cases z))).trans q,q'⟩
 ·obtain ⟨b,o',h1,h2,h3⟩:=I.cell j c' e
  exact ⟨b,o',h1,(hs.2 b (ne h1 (by intro z; cases z))).trans h2,h3⟩
 ·have fr:=I.fr
  refine ⟨by rw [length_set]; exact fr.len,fr.above,fr.out,fr.here,⟨_,hn,λy n d' h1 h2 h3=>?_⟩,λy hy=>?_,λy n d' h1 h2 h3=>?_⟩
  ·obtain ⟨q,h4⟩:=old h2 h3
   obtain ⟨v',e1,e2⟩:=hr y n d' h1 h2 h4
   exact ⟨v',by rw [if_neg q]; exact e1,e2⟩
  ·obtain ⟨c,v',h1,h2,h3,h4⟩:=fr.cell y hy
   exact ⟨c,v',h1,h2,h3.sameBut hs (ne h2 (by intro z; cases z)),λn d' e1 e2=>h4 n d' e1 (old e1 e2).2⟩
  ·exact fr.free y n d' h1 h2 (old h2 h3).2
noncomputable def Sg (V:av):Nat->Value
 |0=>.type "StopIteration"
 |1=>.ref (V.aX 1)
 |_=>.type "ValueError"
set_option tactic.hygienic true in
theorem Im {x:Str} {X':X} (h:nE (iL x) X'=true):(x=("StopIteration":Str)/\iL x=0/\X'=.stop)\/(x=("CycleError":Str)/\iL x=1/\X'=.hV)\/(x=("ValueError":Str)/\iL x=2/\∃ m,X'=.value m):=by
 unfold iL at h ⊢
 split at h
 ·rename_i e
  induction X'<;>first|((first|exact bo h|cases h); done)|skip
  exact .inl ⟨eq_of_beq e,by rw [if_pos e],rfl⟩
 ·split at h
  ·rename_i e0 e
   induction X'<;>first|((first|exact bo h|cases h); done)|skip
   exact .inr (.inl ⟨eq_of_beq e,by rw [if_neg e0,if_pos e],rfl⟩)
  ·split at h
   ·rename_i e0 e1 e
    induction X'<;>first|((first|exact bo h|cases h); done)|skip
    exact .inr (.inr ⟨eq_of_beq e,by rw [if_neg e0,if_neg e1,if_pos e],_,rfl⟩)
   ·induction X'<;>exact bo h
theorem w7 (O:V.Ok G) (K:F.Ok) (I:ah V F m C g s) {c:aI} (hc:F.ctx c) {x:Str} (hx:lD c x=true) {d:D} (hd:G.glob.lookup x=some d) {np:Pos} {Q:Value->Shared->Prop} {E:Value->Shared->Prop}
  (q : ∀ v,(∀ g,af V g d v)->Q v s):wpAny V.M A (eval (.Name x np) F.env) Q E s:=by
 have hk:F.names.lookup x=some .globalImplicit:=by rw [<-hc.1]; exact eq_of_beq hx
 have nX:=K.kinds x _ hk
 obtain ⟨mg,mb,h1,h2,h3⟩:=O.glob
 obtain ⟨v,hv,r⟩:=h3 x d hd
 have e1:s.heap.Ns F.env.globals mg:=by rw [K.glob]; exact h1.keeps I.keep
 have e2:s.heap.Ns F.env.builtins mb:=by rw [K.blt]; exact h2.keeps I.keep
 refine Calls.Name_function_global K.fn nX ?_ (K.oz hk)
 rcases hv with hv|⟨hm,hv⟩
 ·exact Calls.loadGlobal_global e1 hv (q v r)
 ·exact Calls.loadGlobal_builtin e1 hm e2 hv (q v r)
theorem LV:isSubtype (.type "StopIteration") (.type "StopIteration")=pure true:=by rw [isSubtype_type]; kernel_rfl
theorem LW:isSubtype (.type "ValueError") (.type "ValueError")=pure true:=by rw [isSubtype_type]; kernel_rfl
theorem LR:isSubtype (.type "StopIteration") (.type "BaseException")=pure true:=by rw [isSubtype_type]; kernel_rfl
theorem Ny:isSubtype (.type "type") (.type "tuple")=pure false:=by rw [isSubtype_type]; kernel_rfl
theorem Nx:isSubtype (.type ((Manifest.find? "StopIteration").elim "type" λx=>x.metatype)) (.type "tuple")=pure false:=by
 rw [show ((Manifest.find? "StopIteration").elim "type" λx=>x.metatype)="type" from by rw [find?_eq_fast]; kernel_rfl]; exact Ny
theorem CW (O:V.Ok G) (K:F.Ok) (GE:G.Exc) (fA:jf V) {c:aI} (hc:F.ctx c) {x:Str} (hx:lD c x=true) {X':X} (hX:nE (iL x) X'=true) {st:St} {e:Value} (h:kB V F X' st g e s) {np:Pos}
  {Q:Bool->Shared->Prop} {E:Value->Shared->Prop} (q:Q true s) :
  wpAny V.M A (eval (.Name x np) F.env) (λcv s₁=>wpAny V.M A (excMatches e cv) Q E s₁) E s:=by
 obtain ⟨⟨I,a,cls,args,L,rfl,hL,hr,hT⟩,_⟩:=h
 obtain ⟨f7,dS,oe,vs,t,h2,h3,h4,h5,h6,h7,h8⟩:=hT
 rcases Im hX with ⟨rfl,_,rfl⟩|⟨rfl,_,rfl⟩|⟨rfl,_,msg,rfl⟩
 ·refine w7 O K I hc hx GE.stop λv r=>?_
  cases r g
  obtain ⟨rfl,_⟩:=hr
  exact wpAny_excMatches_type (X:="StopIteration") (T:="StopIteration") ⟨oe,h2,h3⟩ LR Nx LV q
 ·refine w7 O K I hc hx GE.hV λv r=>?_
  cases r g
  have hr:cls=.ref (V.aX 1):=hr
  subst hr
  obtain ⟨nm,q',N,bs,k6,sn,sub,ab,col,dd,k0,k1,k2,k3,k5,mN,hC,hN,n0⟩:=fA
  obtain ⟨hh,gg,RX,tk,os⟩:=s
  exact wpAny_excMatches_sub_self (I.keep _ _ hC) h2 h3 (by decide +kernel) q
 ·refine w7 O K I hc hx GE.value λv r=>?_
  cases r g
  obtain ⟨rfl,_⟩:=hr
  exact wpAny_excMatches_type (X:="ValueError") (T:="ValueError") ⟨oe,h2,h3⟩ PySem.F.isExc_ValueError PySem.F.notTuple_ValueError LW q
theorem FL {F:aD} {A:Around} {n l:Nat} (h:ff F A cl n l) (e:Value):ff F (A.mark (some e)) gk n l:=
 ⟨h.frames,h.depth,h.units,λz=>absurd rfl z⟩
set_option tactic.hygienic true in
theorem Qz (O:V.Ok G) (K:F.Ok) (GE:G.Exc) (fA:jf V) {outer:List Env} (dQ:A.frames=some F.stack) (aM:F.stack=F.env::outer) {c:aI} (hc:F.ctx c) {x:Str} (hx:lD c x=true)
  {b h:Ss} {body lO:List Stmt} {b₀:Stmt} {np hp p:Pos} (hb:cB V F A cl b body) (hh : ∀ e,cB V F (A.mark (some e)) gk h (b₀::lO)) :
  aJ V F A cl (.lP b (iL x) none h) (.Try body [.ExceptHandler (some (.Name x np)) none (b₀::lO) hp] [] [] p):=λm C g s I=>by
 show aj V F (cG V) _ g s (if cl.fuel==0 then .fail else match aq V.P cl b ⟨m,C⟩ with
  |.exc x' aa=>if nE (iL x) x' then (match aq V.P gk h aa with|.ok f ae=>.ok f ae|_=>.fail) else .fail
  |o=>o)
 split
 ·trivial
 have hB:=hb m C g s I
 induction ho:aq V.P cl b ⟨m,C⟩ with
 |fail=>trivial
 |ok f st=>
  rw [ho] at hB
  intro Q E q
  refine wpAny_Try_except (hB _ _ λg' fl s' aB I' r=>?_)
  induction r using cG.casesOn with
  |next=>exact wpAny_execs_nil (q _ _ _ aB I' .next)
  |brk=>exact q _ _ _ aB I' .brk
  |cont=>exact q _ _ _ aB I' .cont
  |ret r=>exact q _ _ _ aB I' (.ret r)
 |exc X' st=>
  rw [ho] at hB
  dsimp only
  split
  ·rename_i hX
   induction hH:aq V.P gk h st with
   |fail=>trivial
   |exc _ _=>trivial
   |ok f ae=>
    intro Q E q
    refine wpAny_Try_except (hB _ _ λg' e s' aB p7=>?_)
    refine tD dQ aM p7 λg2 s2 q2 j4=>?_
    refine rX j4 λs3 ez=>?_
    refine wpAny_handleBy_cons (codeAny_handlers_test (CW (A:=A.mark (some e)) O K GE fA hc hx hX ez ?_)) (by obtain ⟨⟨_,a,_,_,_,rfl,_⟩,_⟩:=ez; intro z; cases z)
    refine codeAny_handlers_suite (rX ez λs4 p8=>?_)
    have hs:=hh e _ _ _ _ p8.1.1
    rw [hH] at hs
    exact hs _ _ λg5 fl s5 q5 I5 r5=>q _ _ _ ((aB.trans q2).trans q5) I5 r5
  ·trivial
theorem Io {msg:Str} {st:St} {e:Value} (h:kB V F (.value msg) st g e s) : ∃ g',g.Step g'/\ah V F st.m st.C g' s/\af V g' (.e9 msg) e:=by
 refine cps λQQ kQ=>?_
 obtain ⟨⟨I,a,cls,args,L,rfl,hL,⟨rfl,tk,rfl⟩,⟨f7,dS,oe,vs,t,h2,h3,h4,h5,⟨ot,n,h6,Ji,vC⟩,h7,h8⟩⟩,_⟩:=h
 have Cb:t≠a:=λz=>by
  rw [z,h2] at h6; obtain rfl:=Option.some.inj h6
  rw [h4] at vC; cases vC
 have I1:=I.adopt f7 dS h2
 have BU:(g.put a (some (.ay oe))) t=none:=by rw [Gh.aW _ _ Cb]; exact h7.2
 have I2:=I1.adopt BU h7.1 h6
 have ae:(g.put a (some (.ay oe))).Step ((g.put a (some (.ay oe))).put t (some (.ay ot))):=Gh.kr BU
 obtain ⟨vl,wz⟩ : ∃ vl,vs=(Value.ref t::vl).toArray:=by
  obtain ⟨l⟩:=vs
  induction l using List.casesOn with
  |nil=>simp at h5
  |cons v l=>
   simp at h5
   exact ⟨l,by rw [h5]⟩
 refine kQ ⟨_,(Gh.kr f7).trans ae,I2,.e9 (vs:=vl) (o:=oe) (o':=ot) (u:=tk) (t:=t) ?_ h3 (by rw [h4,wz]) (Gh.bh ..) ⟨Ji,n,vC⟩⟩
 rw [Gh.aW _ _ Cb.symm]; exact Gh.bh ..
set_option tactic.hygienic true in
theorem SP (O:V.Ok G) (K:F.Ok) (GE:G.Exc) (fA:jf V) {outer:List Env} (dQ:A.frames=some F.stack) (aM:F.stack=F.env::outer) {c:aI} (hc:F.ctx c) {x:Str} (hx:lD c x=true)
  {y:Str} {i:Nat} (hy:c.names.lookup y=some .local) (hi:cZ c y=some i)
  {b h:Ss} {body lO:List Stmt} {b₀:Stmt} {np hp p:Pos} (hb:cB V F A cl b body) (hh : ∀ e,cB V F (A.mark (some e)) gk h (b₀::lO)) :
  aJ V F A cl (.lP b (iL x) (some i) h) (.Try body [.ExceptHandler (some (.Name x np)) (some y) (b₀::lO) hp] [] [] p):=λm C g s I=>by
 show aj V F (cG V) _ g s (if cl.fuel==0 then .fail else match aq V.P cl b ⟨m,C⟩ with
  |.exc x' aa=>if nE (iL x) x' then (match x' with
     |.value s=>if i<aa.m.length then (match aq V.P gk h ⟨aa.m.set i (some (.e9 s)),aa.C⟩ with
      |.ok f ae=>.ok f ⟨ae.m.set i none,ae.C⟩
      |_=>.fail) else .fail
     |_=>.fail) else .fail
  |o=>o)
 split
 ·trivial
 have hB:=hb m C g s I
 induction ho:aq V.P cl b ⟨m,C⟩ with
 |fail=>trivial
 |ok f st=>
  rw [ho] at hB
  intro Q E q
  refine wpAny_Try_except (hB _ _ λg' fl s' aB I' r=>?_)
  induction r using cG.casesOn with
  |next=>exact wpAny_execs_nil (q _ _ _ aB I' .next)
  |brk=>exact q _ _ _ aB I' .brk
  |cont=>exact q _ _ _ aB I' .cont
  |ret r=>exact q _ _ _ aB I' (.ret r)
 |exc X' st=>
  rw [ho] at hB
  dsimp only
  split
  ·rename_i hX
   induction X' with
   |stop=>trivial
   |hV=>trivial
   |value msg=>
    dsimp only
    split
    ·rename_i J7
     induction hH:aq V.P gk h ⟨st.m.set i (some (.e9 msg)),st.C⟩ with
     |fail=>trivial
     |exc _ _=>trivial
     |ok f ae=>
      intro Q E q
      have Bt:F.names.lookup y=some .local:=by rw [<-hc.1]; exact hy
      have vF:F.slots.lookup y=some i:=by
       unfold cZ at hi; rw [hy] at hi; rw [<-hc.2.1]; exact hi
      refine wpAny_Try_except (hB _ _ λg' e s' aB p7=>?_)
      refine tD dQ aM p7 λg2 s2 q2 j4=>?_
      refine rX j4 λs3 ez=>?_
      refine wpAny_handleBy_cons (codeAny_handlers_test (CW (A:=A.mark (some e)) O K GE fA hc hx hX ez ?_)) (by obtain ⟨⟨_,a,_,_,_,rfl,_⟩,_⟩:=ez; intro z; cases z)
      refine codeAny_handlers_suite_as (rX ez λs4 p8=>?_)
      obtain ⟨g5,q5,I5,r5⟩:=Io p8
      have aM:=lJ (A:=A.mark (some e)) K I5 hc hi r5
      unfold dE at aM
      dsimp only at aM
      rw [if_pos J7] at aM
      refine aM _ _ λg6 u' s6 q6 I6 u'=>?_
      have hs:=hh e _ _ _ _ I6
      rw [hH] at hs
      refine hs _ _ λg7 fl s7 q7 I7 r7=>?_
      obtain ⟨M,hM,hr⟩:=I7.fr.loc
      refine wpAny_nameGoes_keeps (K.kinds y _ Bt) hM (by rw [K.fn]; rfl) λh' v hn eP=>?_
      have I8:=I7.Mx (t:=s7.toks+1) K Bt vF hr hn eP
      exact q g7 _ _ (((aB.trans q2).trans q5).trans (q6.trans q7)) I8 r7
    ·trivial
  ·trivial
end
noncomputable def Gh.bk (g:Gh) (h:Heap):Gh:=λa=>match g a with
 |some .locals=>(h.get? a).map GO.ax
 |some (.b7 _)=>(h.get? a).map GO.ax
 |r=>r
noncomputable def Gh.over (N:Addr->Option GO) (g:Gh):Gh:=λa=>match N a with
 |some x=>some x
 |none=>g a
noncomputable def Gh.dW (g g':Gh):Gh:=λa=>match g a with
 |some .locals=>some .locals
 |some (.b7 x)=>some (.b7 x)
 |_=>match g' a with
  |some .locals=>none
  |some (.b7 _)=>none
  |r=>r
set_option tactic.hygienic true in
theorem Gh.qE {g:Gh} {h:Heap} {a:Addr} {o:Obj}:g.bk h a=some (.ay o)↔g a=some (.ay o):=by
 unfold Gh.bk
 induction g a with
 |none=>exact .rfl
 |some k=>induction k<;>first|exact .rfl|(induction h.get? a<;>simp)
set_option tactic.hygienic true in
theorem Gh.lL {g:Gh} {h:Heap} {a:Addr} {i:Nat}:g.bk h a=some (.cell i)↔g a=some (.cell i):=by
 unfold Gh.bk
 induction g a with
 |none=>exact .rfl
 |some k=>induction k<;>first|exact .rfl|(induction h.get? a<;>simp)
theorem Gh.lM {g:Gh} {h:Heap} {a:Addr} {o:Obj} (e:g a=some (.ax o)):g.bk h a=some (.ax o):=by
 unfold Gh.bk; rw [e]
theorem Gh.oG {g:Gh} {h:Heap} {a:Addr} {o:Obj} (e:g a=some .locals) (ho:h.get? a=some o):g.bk h a=some (.ax o):=by
 unfold Gh.bk; rw [e]; simp [ho]
theorem Gh.qD {g:Gh} {h:Heap} {a:Addr} {o:Obj} {x:Str} (e:g a=some (.b7 x)) (ho:h.get? a=some o):g.bk h a=some (.ax o):=by
 unfold Gh.bk; rw [e]; simp [ho]
theorem Gh.xG {g:Gh} {h:Heap} {a:Addr} (e:g a=none):g.bk h a=none:=by unfold Gh.bk; rw [e]
set_option tactic.hygienic true in
theorem Gh.SI {g:Gh} {h:Heap} {a:Addr}:g.bk h a≠some .locals/\∀ x,g.bk h a≠some (.b7 x):=by
 unfold Gh.bk
 split
 ·induction h.get? a<;>simp
 ·induction h.get? a<;>simp
 ·rename_i h1 h2; exact ⟨h1,h2⟩
theorem Gh.tU {g:Gh} {h:Heap} {a:Addr} {x:GO} (e:g.bk h a=some x) : ∃ y,g a=some y:=by
 induction q:g a with
 |none=>rw [Gh.xG q] at e; exact ao e
 |some y=>exact ⟨y,rfl⟩
theorem Gh.tf {g:Gh} {h:Heap}:g.Le (g.bk h):=⟨λu' u' e=>Gh.qE.mpr e,λu' u' e=>Gh.lL.mpr e⟩
theorem Gh.qx {g g':Gh} {a:Addr} (h1:g a≠some .locals) (h2 : ∀ x,g a≠some (.b7 x)):g.dW g' a=match g' a with
  |some .locals=>none
  |some (.b7 _)=>none
  |r=>r:=by
 unfold Gh.dW
 split
 ·exact absurd ‹_› h1
 ·exact absurd ‹_› (h2 _)
 ·rfl
theorem Gh.Ob {g g':Gh} {a:Addr} (h:g a=some .locals):g.dW g' a=some .locals:=by unfold Gh.dW; rw [h]
theorem Gh.Oa {g g':Gh} {a:Addr} {x:Str} (h:g a=some (.b7 x)):g.dW g' a=some (.b7 x):=by unfold Gh.dW; rw [h]
section
variable {V:av} {F F₁:aD} {m m₁:List (Option D)} {C C₁:ai} {g g₂:Gh} {s s₁ s₂:Shared}
structure iA (s s₁:Shared) (N:Addr->Option GO):Prop where
 new : ∀ a x,N a=some x->s.heap.get? a=none
 there : ∀ a x,N a=some x->∃ o,s₁.heap.get? a=some o
 kind : ∀ a x,N a=some x->x=.locals\/∃ y,x=.b7 y
theorem iA.none (I:ah V F m C g s) {N:Addr->Option GO} (hN:iA s s₁ N) {a:Addr} {x:GO} (h:g a=some x):N a=none:=by
 induction q:N a with
 |none=>rfl
 |some y=>rw [I.apart (hN.new a y q)] at h; exact ao h
set_option tactic.hygienic true in
theorem mT (I:ah V F m C g s) {N:Addr->Option GO} (hN:iA s s₁ N):(g.bk s.heap).Step (Gh.over N (g.bk s.heap)):=by
 have key : ∀ {a x},g.bk s.heap a=some x->Gh.over N (g.bk s.heap) a=some x:=λ{a x} e=>by
  obtain ⟨y,hy⟩:=Gh.tU e
  unfold Gh.over; rw [hN.none I hy]; exact e
 refine ⟨⟨λa o e=>key e,λa i e=>key e⟩,λa o=>⟨λe=>key e,λe=>?_⟩⟩
 unfold Gh.over at e
 split at e
 ·rename_i x hx
  obtain rfl:=Option.some.inj e
  rcases hN.kind a _ hx with z|⟨y,z⟩<;>cases z
 ·exact e
set_option tactic.hygienic true in
theorem ah.enter (I:ah V F m C g s) {N:Addr->Option GO} (hN:iA s s₁ N) (hk : ∀ b o,s.heap.get? b=some o->s₁.heap.get? b=some o) (hg:s₁.gens=s.gens) (ho:s₁.os=s.os)
  (fr:kC V F₁ m₁ (Gh.over N (g.bk s.heap)) s₁.heap):ah V F₁ m₁ C (Gh.over N (g.bk s.heap)) s₁:=by
 have aM:=mT I hN
 have back : ∀ {a x},Gh.over N (g.bk s.heap) a=some x->(N a=some x)\/(N a=none/\g.bk s.heap a=some x):=λ{a x} e=>by
  unfold Gh.over at e
  split at e
  ·rename_i y hy; obtain rfl:=Option.some.inj e; exact .inl hy
  ·rename_i hy; exact .inr ⟨hy,e⟩
 have kinds : ∀ {a x},Gh.over N (g.bk s.heap) a=some x->x≠.locals->(∀ y,x≠.b7 y)->g.bk s.heap a=some x:=λ{a x} e h1 h2=>by
  rcases back e with e|⟨_,e⟩
  ·rcases hN.kind _ _ e with z|⟨y,z⟩
   ·exact absurd z h1
   ·exact absurd z (h2 y)
  ·exact e
 refine ⟨λb o e=>hk b o (I.keep b o e),λa x e=>?_,λa x e=>?_,λa o e=>?_,λa o e=>?_,λi c e=>?_,λa b i e e'=>?_,λa i e=>?_,fr,by rw [hg]; exact I.gens,by rw [ho]; exact I.os⟩
 ·rcases back e with e|⟨_,e⟩
  ·exact I.sf (hN.new _ _ e)
  ·obtain ⟨y,hy⟩:=Gh.tU e; exact I.new a y hy
 ·rcases back e with e|⟨_,e⟩
  ·exact hN.there _ _ e
  ·obtain ⟨y,hy⟩:=Gh.tU e
   obtain ⟨o,ho⟩:=I.live a y hy
   exact ⟨o,hk a o ho⟩
 ·exact hk a o (I.ay a o (Gh.qE.mp (kinds e (by simp) (by simp))))
 ·have e:=kinds e (by simp) (by simp)
  obtain ⟨y,hy⟩:=Gh.tU e
  obtain ⟨o',dm⟩:=I.live a y hy
  induction y with
  |ay o1=>rw [Gh.qE.mpr hy] at e; cases e
  |cell i=>rw [Gh.lL.mpr hy] at e; cases e
  |ax o1=>
   rw [Gh.lM hy] at e; cases e
   obtain ⟨sl,h1,h2⟩:=I.ax a o hy
   exact ⟨sl,hk a _ h1,h2⟩
  |locals=>
   rw [Gh.oG hy dm] at e; cases e
   exact ⟨o.slots,hk a o dm,λu'=>rfl⟩
  |b7 y=>
   rw [Gh.qD hy dm] at e; cases e
   exact ⟨o.slots,hk a o dm,λu'=>rfl⟩
 ·obtain ⟨a,o,h1,h2,h3⟩:=I.cell i c e
  exact ⟨a,o,aM.cell a i (Gh.lL.mpr h1),hk a o h2,h3.mono (Gh.tf.trans aM.toLe)⟩
 ·exact I.uniq a b i (Gh.lL.mp (kinds e (by simp) (by simp))) (Gh.lL.mp (kinds e' (by simp) (by simp)))
 ·exact I.c4 a i (Gh.lL.mp (kinds e (by simp) (by simp)))
theorem tM (I:ah V F m C g s) (aM:(g.bk s.heap).Step g₂):g₂.Le (g.dW g₂):=by
 have key : ∀ {a x},g₂ a=some x->(∀ o,x≠.ax o)->x≠.locals->(∀ y,x≠.b7 y)->g.dW g₂ a=some x:=λ{a x} e h0 h1 h2=>by
  have n1:g a≠some .locals:=λz=>by
   obtain ⟨o,ho⟩:=I.live a _ z
   have:=(aM.ax a o).mp (Gh.oG z ho)
   rw [e] at this; obtain rfl:=Option.some.inj this; exact h0 o rfl
  have n2 : ∀ y,g a≠some (.b7 y):=λy z=>by
   obtain ⟨o,ho⟩:=I.live a _ z
   have:=(aM.ax a o).mp (Gh.qD z ho)
   rw [e] at this; obtain rfl:=Option.some.inj this; exact h0 o rfl
  rw [Gh.qx n1 n2,e]
  induction x<;>first|rfl|exact absurd rfl h1|exact absurd rfl (h2 _)
 exact ⟨λa o e=>key e (by simp) (by simp) (by simp),λa i e=>key e (by simp) (by simp) (by simp)⟩
set_option tactic.hygienic true in
theorem tN (I:ah V F m C g s) (aM:(g.bk s.heap).Step g₂):g.Step (g.dW g₂):=by
 have L:=tM I aM
 refine ⟨⟨λa o e=>L.ay a o (aM.ay a o (Gh.qE.mpr e)),λa i e=>L.cell a i (aM.cell a i (Gh.lL.mpr e))⟩,λa o=>⟨λe=>?_,λe=>?_⟩⟩
 ·rw [Gh.qx (by rw [e]; simp) (by rw [e]; simp),(aM.ax a o).mp (Gh.lM e)]
 ·unfold Gh.dW at e
  split at e
  ·cases e
  ·cases e
  ·rename_i n1 n2
   have e2:g₂ a=some (.ax o):=by
    split at e
    ·exact ao e
    ·exact ao e
    ·exact e
   have:=(aM.ax a o).mpr e2
   unfold Gh.bk at this
   induction q:g a with
   |none=>rw [q] at this; exact this
   |some k=>rw [q] at this; induction k<;>first|exact this|exact absurd q n1|exact absurd q (n2 _)
theorem ah.leave (I:ah V F m C g s) (aM:(g.bk s.heap).Step g₂) (I₂:ah V F₁ m₁ C₁ g₂ s₂):ah V F m C₁ (g.dW g₂) s₂:=by
 have L:=tM I aM
 have S:=tN I aM
 have back : ∀ {a x},g.dW g₂ a=some x->x≠.locals->(∀ y,x≠.b7 y)->g₂ a=some x:=λ{a x} e h1 h2=>by
  unfold Gh.dW at e
  split at e
  ·obtain rfl:=Option.some.inj e; exact absurd rfl h1
  ·obtain rfl:=Option.some.inj e; exact absurd rfl (h2 _)
  ·split at e
   ·exact ao e
   ·exact ao e
   ·exact e
 have loc : ∀ {a o},g a=some .locals->s.heap.get? a=some o->∃ sl,s₂.heap.get? a=some {o with slots:=sl}:=λ{a o} e ho=>by
  obtain ⟨sl,h,_⟩:=I₂.ax a o ((aM.ax a o).mp (Gh.oG e ho)); exact ⟨sl,h⟩
 have AX : ∀ {a o x},g a=some (.b7 x)->s.heap.get? a=some o->∃ sl,s₂.heap.get? a=some {o with slots:=sl}:=λ{a o x} e ho=>by
  obtain ⟨sl,h,_⟩:=I₂.ax a o ((aM.ax a o).mp (Gh.qD e ho)); exact ⟨sl,h⟩
 refine ⟨I₂.keep,λa x e=>?_,λa x e=>?_,λa o e=>I₂.ay a o (back e (by simp) (by simp)),λa o e=>I₂.ax a o (back e (by simp) (by simp)),λi c e=>?_,λa b i e e'=>I₂.uniq a b i (back e (by simp) (by simp)) (back e' (by simp) (by simp)),
  λa i e=>I₂.c4 a i (back e (by simp) (by simp)),?_,I₂.gens,I₂.os⟩
 ·induction x with
  |locals=>
   unfold Gh.dW at e
   split at e
   ·exact I.new a _ ‹_›
   ·exact I.new a _ ‹_›
   ·split at e<;>first|(exact ao e; done)|exact I₂.new a _ e
  |b7 y=>
   unfold Gh.dW at e
   split at e
   ·exact I.new a _ ‹_›
   ·exact I.new a _ ‹_›
   ·split at e<;>first|(exact ao e; done)|exact I₂.new a _ e
  |_=>exact I₂.new a _ (back e (by simp) (by simp))
 ·have old : ∀ y,g a=some y->∃ o,s₂.heap.get? a=some o:=λy hy=>by
   obtain ⟨o,ho⟩:=I.live a y hy
   induction y with
   |locals=>obtain ⟨sl,h⟩:=loc hy ho; exact ⟨_,h⟩
   |b7 z=>obtain ⟨sl,h⟩:=AX hy ho; exact ⟨_,h⟩
   |ay o'=>exact I₂.live a _ (aM.ay a o' (Gh.qE.mpr hy))
   |cell i=>exact I₂.live a _ (aM.cell a i (Gh.lL.mpr hy))
   |ax o'=>exact I₂.live a _ ((aM.ax a o').mp (Gh.lM hy))
  unfold Gh.dW at e
  split at e
  ·exact old _ ‹_›
  ·exact old _ ‹_›
  ·split at e<;>first|(exact ao e; done)|exact I₂.live a _ e
 ·obtain ⟨a,o,h1,h2,h3⟩:=I₂.cell i c e
  exact ⟨a,o,L.cell a i h1,h2,h3.mono L⟩
 ·have fr:=I.fr
  refine ⟨fr.len,fr.above,λe he=>?_,Gh.Ob fr.here,?_,λy hy=>?_,λx n d h1 h2 h3=>?_⟩
  ·obtain ⟨k,L',q,r⟩:=fr.out e he
   refine ⟨k,L',q,?_⟩
   rcases r with r|⟨o,es,n,r,z⟩
   ·exact .inl r
   ·exact .inr ⟨o,es,n,(S.ax _ _).mp r,z⟩
  ·obtain ⟨M,⟨o,es,ep,ho,hd,hr⟩,b⟩:=fr.loc
   obtain ⟨sl,h⟩:=loc fr.here ho
   exact ⟨M,⟨_,es,ep,h,hd,hr⟩,λx n d h1 h2 h3=>(b x n d h1 h2 h3).imp λv q=>⟨q.1,q.2.mono S.toLe⟩⟩
  ·obtain ⟨c,v,h1,h2,⟨o,ho,hd⟩,h4⟩:=fr.cell y hy
   obtain ⟨sl,h⟩:=AX h2 ho
   exact ⟨c,v,h1,Gh.Oa h2,⟨_,h,hd⟩,λn d e1 e2=>(h4 n d e1 e2).imp λv q=>⟨q.1,q.2.mono S.toLe⟩⟩
  ·obtain ⟨c,o,v,h4,h5,h6,h7⟩:=fr.free x n d h1 h2 h3
   exact ⟨c,o,v,h4,(S.ax _ _).mp h5,h6,h7.mono S.toLe⟩
end
theorem i9 {α:Type} : ∀ {l:List (Str × α)} {x:Str} {a:α},(l.map (·.1)).Nodup->(x,a)∈l->l.lookup x=some a
 |[],_,_,_,h=>by cases h
 |e::r,x,a,hn,h=>by
  rw [map_cons,nodup_cons] at hn
  rw [lookup_cons]
  rcases mem_cons.mp h with rfl|h
  ·simp
  ·have:x≠e.1:=λz=>hn.1 (z ▸ mem_map_of_mem (f:=Prod.fst) h)
   rw [beq_false_of_ne this]
   exact i9 hn.2 h
theorem lA {α:Type} : ∀ {l:List (Str × α)} {x:Str} {a:α},(x,a)∈l->∃ b,l.lookup x=some b
 |e::r,x,a,h=>by
  rw [lookup_cons]
  induction q:x==e.1 with
  |true=>exact ⟨_,rfl⟩
  |false=>
   rcases mem_cons.mp h with rfl|h
   ·simp at q
   ·exact lA h
theorem j9 {α:Type} {a:α} : ∀ {l l':List (Str × α)} {x:Str},l.lookup x=some a->(l++l').lookup x=some a
 |e::r,l',x,h=>by
  rw [cons_append,lookup_cons]
  rw [lookup_cons] at h
  induction q:x==e.1 with
  |true=>rw [q] at h; exact h
  |false=>rw [q] at h; exact j9 h
theorem mO {α:Type} : ∀ {l l':List (Str × α)} {x:Str},l.lookup x=none->(l++l').lookup x=l'.lookup x
 |[],l',x,h=>rfl
 |e::r,l',x,h=>by
  rw [cons_append,lookup_cons]
  rw [lookup_cons] at h
  induction q:x==e.1 with
  |true=>rw [q] at h; exact jE h
  |false=>rw [q] at h; exact mO h
theorem tj {p:Str->Bool} {α:Type} {a:α} : ∀ {l:List (Str × α)} {x:Str},(l.filter λe=>p e.1).lookup x=some a->l.lookup x=some a/\p x=true
 |[],x,h=>by exact ao h
 |e::r,x,h=>by
  rw [filter_cons] at h
  rw [lookup_cons]
  induction q:x==e.1 with
  |true=>
   have hx:=eq_of_beq q
   induction hp:p e.1 with
   |true=>
    rw [hp,if_pos rfl,lookup_cons,q] at h
    exact ⟨h,by rw [hx]; exact hp⟩
   |false=>
    rw [hp,if_neg (by decide)] at h
    have:=(tj h).2
    rw [hx,hp] at this; exact bo this
  |false=>
   induction hp:p e.1 with
   |true=>
    rw [hp,if_pos rfl,lookup_cons,q] at h
    exact tj h
   |false=>
    rw [hp,if_neg (by decide)] at h
    exact tj h
theorem MH {p:Str->Bool} {α:Type} {a:α} : ∀ {l:List (Str × α)} {x:Str},l.lookup x=some a->p x=true->(l.filter λe=>p e.1).lookup x=some a
 |[],x,h,_=>by exact ao h
 |e::r,x,h,hp=>by
  rw [filter_cons]
  rw [lookup_cons] at h
  induction q:x==e.1 with
  |true=>
   rw [q] at h
   have hx:=eq_of_beq q
   rw [<-hx,hp,if_pos rfl,lookup_cons,q]; exact h
  |false=>
   rw [q] at h
   have ih:=MH (p:=p) h hp
   split
   ·rw [lookup_cons,q]; exact ih
   ·exact ih
theorem jh : ∀ (names:List (Str × NameKind)) (n:Nat) (acc:List (Str × Addr)),cellsFrom n names acc=cellsFrom n names []++acc
 |[],_,_=>rfl
 |(x,k)::r,n,acc=>by
  unfold cellsFrom
  split
  ·rw [jh r (n+1) ((x,n)::acc),jh r (n+1) [(x,n)]]; simp
  ·exact jh r n acc
set_option tactic.hygienic true in
theorem rB : ∀ {names:List (Str × NameKind)} {n:Nat} {x:Str} {c:Addr},(x,c)∈cellsFrom n names []->(x,NameKind.cell)∈names
 |[],_,_,_,h=>by cases h
 |(y,k)::r,n,x,c,h=>by
  unfold cellsFrom at h
  split at h
  ·rename_i hk
   rw [jh] at h
   rcases mem_append.mp h with h|h
   ·exact .tail _ (rB h)
   ·rw [mem_singleton] at h; cases h
    rw [eq_of_beq hk]; exact .head _
  ·exact .tail _ (rB h)
theorem jL : ∀ {names:List (Str × NameKind)} {n:Nat} {x:Str},(x,NameKind.cell)∈names->∃ c,(x,c)∈cellsFrom n names []
 |(y,k)::r,n,x,h=>by
  unfold cellsFrom
  rcases mem_cons.mp h with e|h
  ·cases e
   rw [if_pos (beq_self_eq_true _),jh]
   exact ⟨n,mem_append_right _ (.head _)⟩
  ·split
   ·rw [jh]
    obtain ⟨c,hc⟩:=jL (n:=n+1) h
    exact ⟨c,mem_append_left _ hc⟩
   ·exact jL h
theorem wY {α:Type} : ∀ {l:List (Str × α)} {x:Str},(∀ a,(x,a) ∉ l)->l.lookup x=none
 |[],_,_=>rfl
 |e::r,x,h=>by
  rw [lookup_cons]
  induction q:x==e.1 with
  |true=>exact absurd (by rw [eq_of_beq q]; exact .head _) (h e.2)
  |false=>exact wY λa z=>h a (.tail _ z)
noncomputable def ej (cells:List (Str × Addr)):List (Str × NameKind)->List (Str × Addr)->List (Str × Addr)
 |[],acc=>acc
 |(x,k)::r,acc=>if k==.free then ej cells r ((x,(cells.lookup x).getD 0)::acc) else ej cells r acc
theorem G4 {scope:Scope} {env:Env} (h : ∀ x,(x,NameKind.free)∈scope.names->(env.cells.lookup x).isSome=true):closureFor scope env=pure (ej env.cells scope.names []):=by
 have key : ∀ (names:List (Str × NameKind)) (acc:List (Str × Addr)),(∀ x,(x,NameKind.free)∈names->(env.cells.lookup x).isSome=true)->
   (forIn names acc λ(p:Str × NameKind) (r:List (Str × Addr))=>(if (p.2==.free)=true then (do let a <-cellOf env p.1; pure (ForInStep.yield ((p.1,a)::r))) else pure (ForInStep.yield r):Sem (ForInStep (List (Str × Addr)))))=pure (ej env.cells names acc):=by
  intro names
  induction names with
  |nil=>intro acc _; rfl
  |cons p r ih=>
   intro acc hn
   obtain ⟨x,k⟩:=p
   rw [forIn_cons]
   unfold ej
   dsimp only
   induction hk:(k==NameKind.free) with
   |true=>
    rw [if_pos rfl,if_pos rfl]
    have hx:=hn x (by rw [eq_of_beq hk]; exact .head _)
    obtain ⟨c,hc⟩:=isSome_iff_exists.mp hx
    have:cellOf env x=pure c:=by unfold cellOf; rw [hc]
    rw [this,hc]
    simp only [pure_bind,Option.getD_some]
    exact ih _ λy hy=>hn y (.tail _ hy)
   |false=>
    rw [if_neg (by decide),if_neg (by decide)]
    simp only [pure_bind]
    exact ih _ λy hy=>hn y (.tail _ hy)
 have e:=key scope.names [] h
 unfold closureFor
 simp only [bind_pure_comp] at e ⊢
 first|(rw [e]; rfl)|(simp only [e]; rfl)
theorem uV {cells:List (Str × Addr)} : ∀ {names:List (Str × NameKind)} {acc:List (Str × Addr)} {x:Str} {a:Addr},(x,a)∈ej cells names acc->(x,a)∈acc\/a=(cells.lookup x).getD 0
 |[],acc,x,a,h=>.inl h
 |(y,k)::r,acc,x,a,h=>by
  unfold ej at h
  split at h
  ·rcases uV h with h|h
   ·rcases mem_cons.mp h with h|h
    ·cases h; exact .inr rfl
    ·exact .inl h
   ·exact .inr h
  ·exact uV h
theorem uT {cells:List (Str × Addr)} : ∀ {names:List (Str × NameKind)} {acc:List (Str × Addr)} {p:Str × Addr},p∈acc->p∈ej cells names acc
 |[],acc,p,h=>h
 |(y,k)::r,acc,p,h=>by
  unfold ej
  split
  ·exact uT (.tail _ h)
  ·exact uT h
theorem uU {cells:List (Str × Addr)} : ∀ {names:List (Str × NameKind)} {acc:List (Str × Addr)} {x:Str},(x,NameKind.free)∈names->∃ a,(x,a)∈ej cells names acc
 |(y,k)::r,acc,x,h=>by
  unfold ej
  rcases mem_cons.mp h with e|h
  ·cases e
   rw [if_pos (beq_self_eq_true _)]
   exact ⟨_,uT (.head _)⟩
  ·split
   ·exact uU h
   ·exact uU h
theorem G3 {cells:List (Str × Addr)} {names:List (Str × NameKind)} {x:Str} {c:Addr} (h:(x,NameKind.free)∈names) (hc:cells.lookup x=some c):(ej cells names []).lookup x=some c:=by
 obtain ⟨a,ha⟩:=uU (cells:=cells) (acc:=[]) h
 obtain ⟨b,hb⟩:=lA ha
 rw [hb]
 rcases uV (mem_of_lookup hb) with z|z
 ·cases z
 ·rw [z,hc]; rfl
section
variable {M:Model} {A:Around} {E:Value->Shared->Prop} {s:Shared}
theorem M8 {scope:Scope} {globals:Addr} {cl:List (Str × Addr)} {qual:Str} {outer:Env} {Q:Env->Shared->Prop}
  (h:Q (newEnv scope s.heap.objs.size globals (cellsFrom (s.heap.objs.size+1) scope.names cl) qual none .none (some outer) builtinsNs) {s with heap:=pushCells (s.heap.push {cls:=.type "dict",data:=.dict #[]}) scope.names}) :
  wpAny M A (newFunctionEnv scope globals cl [] qual none .none (some outer)) Q E s:=by
 simp only [newFunctionEnv,isSome_some,if_true]
 refine wpAny_bind (wpAny_alloc ?_)
 refine wpAny_bind (wpAny_layCells _ (λname kind cells=>by induction Kh:kind==NameKind.cell<;>simp [Kh]) _ _ _ _ ?_)
 rw [show ({s with heap:=s.heap.push {cls:=.type "dict",data:=.dict #[]}}:Shared).heap.objs.size=s.heap.objs.size+1 from Heap.size_push ..]
 exact wpAny_bind (wpAny_pure (wpAny_pure h))
end
noncomputable def He (sc:Scope) (cl:List (Str × Addr)) (L:Addr) (env:Env):Env:={newEnv sc L env.globals (cellsFrom (L+1) sc.names cl) env.qual none .none (some env) builtinsNs with scope:=relabel sc env}
noncomputable def aD.comp (F:aD) (sc:Scope) (L:Addr):aD where
 env:=He sc (ej F.env.cells sc.names []) L F.env
 names:=sc.names
 slots:=F.slots.filter λp=>!own sc.names p.1
 base:=F.base
 stack:=F.stack
noncomputable def bj (L:Addr) (names:List (Str × NameKind)):Addr->Option GO:=λa=>if a=L then some .locals else ((cellsFrom (L+1) names []).find? λp=>p.2==a).map λp=>.b7 p.1
theorem CR (env:Env) : ∀ (names:List (Str × NameKind)) (x:Str),(names.map λ(n,k)=>if (k==NameKind.free&&env.scope.kind==.function&&env.kindOf n==some .cell) then (n,NameKind.cell) else (n,k)).lookup x =
  (names.lookup x).map λk=>if (k==NameKind.free&&env.scope.kind==.function&&env.kindOf x==some .cell) then NameKind.cell else k
 |[],_=>rfl
 |(n,k)::r,x=>by
  have ih:=CR env r x
  show List.lookup x ((if (k==NameKind.free&&env.scope.kind==.function&&env.kindOf n==some .cell)=true then (n,NameKind.cell) else (n,k))::_)=_
  by_cases hc:(k==NameKind.free&&env.scope.kind==.function&&env.kindOf n==some .cell)=true
  ·rw [if_pos hc,lookup_cons,lookup_cons]
   induction q:x==n with
   |true=>
    have e:=eq_of_beq q
    subst e
    show some NameKind.cell=some (if _ then _ else _)
    rw [if_pos hc]
   |false=>exact ih
  ·rw [if_neg hc,lookup_cons,lookup_cons]
   induction q:x==n with
   |true=>
    have e:=eq_of_beq q
    subst e
    show some k=some (if _ then _ else _)
    rw [if_neg hc]
   |false=>exact ih
structure gW (c:aI) (sc:Scope):Prop where
 fn:sc.kind=.function
 nodup:(sc.names.map (·.1)).Nodup
 free : ∀ x,(x,NameKind.free)∈sc.names->c.names.lookup x=some .cell\/c.names.lookup x=some .free
 debug:sc.names.lookup ("__debug__":Str)=none
 l1:sc.names.lookup ("__classdict__":Str)=none
theorem uW {c:aI} {sc:Scope} (h:l3 c sc=true):gW c sc:=by
 unfold l3 at h
 simp only [and_eq_true,isNone_iff_eq_none,decide_eq_true_eq] at h
 obtain ⟨⟨⟨⟨h1,h2⟩,h3⟩,h4⟩,h5⟩:=h
 refine ⟨eq_of_beq h1,h2,λx hx=>?_,h4,h5⟩
 have:=all_eq_true.mp h3 _ hx
 simp only [or_eq_true,bne_self_eq_false,false_eq_true,false_or] at this
 rcases this with h|h
 ·exact .inl (eq_of_beq h)
 ·exact .inr (eq_of_beq h)
theorem DL {names:List (Str × NameKind)} {x:Str} (h:own names x=false):names.lookup x≠some .local/\names.lookup x≠some .cell:=by
 unfold own at h
 refine ⟨λz=>?_,λz=>?_⟩<;>(rw [z] at h; exact fN h)
section
variable {V:av} {F:aD} {m:List (Option D)} {C:ai} {g:Gh} {s:Shared} {c:aI} {sc:Scope} {L:Addr}
theorem nG {x:Str} {n:Nat} (h:(F.comp sc L).slots.lookup x=some n):F.slots.lookup x=some n/\own sc.names x=false:=by
 have:=tj (p:=λx=>!own sc.names x) h
 exact ⟨this.1,by simpa using this.2⟩
theorem Hh {cl:List (Str × Addr)} {x:Str} (hn:(sc.names.map (·.1)).Nodup) (h:(x,NameKind.free)∈sc.names):(cellsFrom (L+1) sc.names cl).lookup x=cl.lookup x:=by
 rw [jh]
 refine mO (wY λa z=>?_)
 have h1:=i9 hn (rB z)
 have h2:=i9 hn h
 rw [h1] at h2; cases h2
theorem vp (K:F.Ok) (hc:F.ctx c) (ok:gW c sc) {x:Str} (h:(x,NameKind.free)∈sc.names) : ∃ a,F.env.cells.lookup x=some a/\(F.comp sc L).env.cells.lookup x=some a:=by
 have hx:=ok.free x h
 rw [hc.1] at hx
 have:(F.env.cells.lookup x).isSome=true:=by
  rcases hx with hx|hx
  ·exact K.cells x _ hx (.inl rfl)
  ·exact K.cells x _ hx (.inr rfl)
 obtain ⟨a,ha⟩:=isSome_iff_exists.mp this
 refine ⟨a,ha,?_⟩
 show (cellsFrom (L+1) sc.names (ej F.env.cells sc.names [])).lookup x=some a
 rw [Hh ok.nodup h]
 exact G3 h ha
theorem Hm (K:F.Ok) (hc:F.ctx c) (ok:gW c sc):(F.comp sc L).Ok:=by
 refine ⟨ok.fn,K.glob,K.blt,λx k h=>?_,λx y n h1 h2=>?_,λx n h=>K.bound x n (nG h).1,K.frame,λx k h hk=>?_,ok.debug,ok.l1⟩
 ·have e:(F.comp sc L).env.kindOf x=(sc.names.lookup x).map λk=>if (k==NameKind.free&&F.env.scope.kind==.function&&F.env.kindOf x==some .cell) then NameKind.cell else k:=CR F.env sc.names x
  have h:sc.names.lookup x=some k:=h
  rw [e,h]
  induction k using NameKind.casesOn<;>first|rfl|skip
  show yp .free (some (if _ then NameKind.cell else NameKind.free))
  split
  ·exact .inr rfl
  ·exact .inl rfl
 ·exact K.inj x y n (nG h1).1 (nG h2).1
 ·have h:sc.names.lookup x=some k:=h
  have hm:=mem_of_lookup h
  rcases hk with rfl|rfl
  ·obtain ⟨a,ha⟩:=jL (n:=L+1) hm
   obtain ⟨b,hb⟩:=lA ha
   show ((cellsFrom (L+1) sc.names _).lookup x).isSome=true
   rw [jh,j9 hb]; rfl
  ·obtain ⟨a,_,ha⟩:=vp (L:=L) K hc ok hm
   rw [ha]; rfl
theorem zS (K:F.Ok) (hc:F.ctx c) (ok:gW c sc):closureFor sc F.env=pure (ej F.env.cells sc.names []):=
 G4 λx h=>by
  obtain ⟨a,ha,_⟩:=vp (L:=0) K hc ok h
  rw [ha]; rfl
theorem Sz {names:List (Str × NameKind)} : ∀ {h:Heap},h.objs.size<=(pushCells h names).objs.size:=by
 induction names with
 |nil=>intro h; exact le_refl _
 |cons p r ih=>
  intro h
  obtain ⟨x,k⟩:=p
  unfold pushCells
  split
  ·refine le_trans ?_ ih
   rw [Heap.size_push]; exact le_succ _
  ·exact ih
set_option tactic.hygienic true in
theorem Bh (h:Heap) (o:Obj) (names:List (Str × NameKind)) (ho:o.isFreed=false) {s₁:Shared} (e:s₁.heap=pushCells (h.push o) names) (hs:s.heap=h):iA s s₁ (bj h.objs.size names):=by
 subst hs
 have ok:=cellsFrom_ok names (s.heap.push o) (s.heap.objs.size+1) [] ⟨λu' u' z=>(nomatch z),List.Pairwise.nil⟩ (by rw [Heap.size_push]; exact le_refl _)
 rw [Heap.size_push] at ok
 have back : ∀ {a x},bj s.heap.objs.size names a=some x->(a=s.heap.objs.size/\x=.locals)\/∃ y,(y,a)∈cellsFrom (s.heap.objs.size+1) names []/\x=.b7 y:=λ{a x} h=>by
  unfold bj at h
  split at h
  ·rename_i q; obtain rfl:=Option.some.inj h; exact .inl ⟨q,rfl⟩
  ·obtain ⟨p,hp,hx⟩:=cf h
   have h1:=mem_of_find?_eq_some hp
   have h2:=find?_some hp
   obtain ⟨y,b⟩:=p
   have h2:b=a:=eq_of_beq h2
   subst h2
   exact .inr ⟨y,h1,hx.symm⟩
 refine ⟨λa x h=>?_,λa x h=>?_,λa x h=>?_⟩
 ·rcases back h with ⟨rfl,_⟩|⟨y,hy,_⟩
  ·exact Heap.get?_none_of_le (le_refl _)
  ·exact Heap.get?_none_of_le (le_of_succ_le (ok.empty y a hy).2)
 ·rcases back h with ⟨rfl,_⟩|⟨y,hy,_⟩
  ·rw [e]; exact ⟨o,pushCells_keeps _ _ _ _ (Heap.get?_push_size _ ho)⟩
  ·rw [e]; obtain ⟨o',h1,_⟩:=(ok.empty y a hy).1; exact ⟨o',h1⟩
 ·rcases back h with ⟨_,rfl⟩|⟨y,_,rfl⟩
  ·exact .inl rfl
  ·exact .inr ⟨y,rfl⟩
theorem M9 {h:Heap} {o:Obj} {names:List (Str × NameKind)} {x:Str} {a:Addr} (hx:(x,a)∈cellsFrom (h.objs.size+1) names []):bj h.objs.size names a=some (.b7 x)/\(pushCells (h.push o) names).IsCell a none:=by
 have ok:=cellsFrom_ok names (h.push o) (h.objs.size+1) [] ⟨λu' u' z=>(nomatch z),List.Pairwise.nil⟩ (by rw [Heap.size_push]; exact le_refl _)
 rw [Heap.size_push] at ok
 obtain ⟨h1,h2⟩:=ok.empty x a hx
 refine ⟨?_,h1⟩
 unfold bj
 rw [if_neg (λz=>by rw [z] at h2; exact absurd h2 (Nat.not_succ_le_self _))]
 induction hf:(cellsFrom (h.objs.size+1) names []).find? λp=>p.2==a with
 |none=>
  have:=List.find?_eq_none.mp hf _ hx
  simp at this
 |some p=>
  have h3:=mem_of_find?_eq_some hf
  have h4:=find?_some hf
  obtain ⟨y,b⟩:=p
  have h4:b=a:=eq_of_beq h4
  subst h4
  rw [name_of_addr ok.apart h3 hx]; rfl
theorem Hk (I:ah V F m C g s) (K:F.Ok) (hc:F.ctx c) (ok:gW c sc) :
  ah V (F.comp sc s.heap.objs.size) m C (Gh.over (bj s.heap.objs.size sc.names) (g.bk s.heap)) {s with heap:=pushCells (s.heap.push {cls:=.type "dict",data:=.dict #[]}) sc.names}:=by
 have hN:iA s {s with heap:=pushCells (s.heap.push {cls:=.type "dict",data:=.dict #[]}) sc.names} (bj s.heap.objs.size sc.names):=Bh s.heap _ sc.names rfl rfl rfl
 have hk : ∀ b o,s.heap.get? b=some o->(pushCells (s.heap.push {cls:=.type "dict",data:=.dict #[]}) sc.names).get? b=some o:=λb o e=>pushCells_keeps _ _ b o (Heap.get?_push_of_some _ e)
 have aM:=mT I hN
 have L1:g.Le (Gh.over (bj s.heap.objs.size sc.names) (g.bk s.heap)):=Gh.tf.trans aM.toLe
 have fr:=I.fr
 refine I.enter hN hk rfl rfl ⟨fr.len,?_,λe he=>?_,?_,⟨_,(Heap.Ns.new s.heap (.type "dict")).keeps (pushCells_keeps _ _),λx n d h1 h2 h3=>?_⟩,λx hx=>?_,λx n d h1 h2 h3=>?_⟩
 ·obtain ⟨o,ho⟩:=I.live _ _ fr.here
  exact le_trans fr.above (le_of_lt (Heap.lt_size ho))
 ·obtain ⟨k,L',q,r⟩:=fr.out e he
  refine ⟨k,L',q,.inr ?_⟩
  rcases r with rfl|⟨o,es,n,r,z⟩
  ·obtain ⟨M,⟨o,es,ep,ho,hd,_⟩,_⟩:=fr.loc
   exact ⟨o,es,ep,(aM.ax _ _).mp (Gh.oG fr.here ho),hd⟩
  ·exact ⟨o,es,n,(aM.ax _ _).mp (Gh.lM r),z⟩
 ·show Gh.over _ _ s.heap.objs.size=_
  unfold Gh.over bj
  rw [if_pos rfl]
 ·have h1:sc.names.lookup x=some .local:=h1
  exact absurd h1 (DL (nG h2).2).1
 ·have hx:sc.names.lookup x=some .cell:=hx
  have hm:=mem_of_lookup hx
  obtain ⟨a,ha⟩:=jL (n:=s.heap.objs.size+1) hm
  obtain ⟨b,hb⟩:=lA ha
  obtain ⟨h1,h2⟩:=M9 (o:={cls:=.type "dict",data:=.dict #[]}) (mem_of_lookup hb)
  refine ⟨b,none,?_,?_,h2,λn d e1 e2=>?_⟩
  ·show (cellsFrom (s.heap.objs.size+1) sc.names _).lookup x=some b
   rw [jh,j9 hb]
  ·unfold Gh.over; rw [h1]
  ·exact absurd hx (DL (nG e1).2).2
 ·have h1:sc.names.lookup x=some .free:=h1
  obtain ⟨h2,_⟩:=nG h2
  have hm:=mem_of_lookup h1
  obtain ⟨a,ha,sh⟩:=vp (L:=s.heap.objs.size) K hc ok hm
  have hx:=ok.free x hm
  rw [hc.1] at hx
  rcases hx with hx|hx
  ·obtain ⟨c',v,e1,e2,⟨o,ho,hd⟩,e4⟩:=fr.cell x hx
   rw [ha] at e1; obtain rfl:=Option.some.inj e1
   obtain ⟨v',rfl,r⟩:=e4 n d h2 h3
   exact ⟨a,o,v',sh,(aM.ax _ _).mp (Gh.qD e2 ho),hd,r.mono L1⟩
  ·obtain ⟨c',o,v,e1,e2,e3,r⟩:=fr.free x n d hx h2 h3
   rw [ha] at e1; obtain rfl:=Option.some.inj e1
   exact ⟨a,o,v,sh,(aM.ax _ _).mp (Gh.lM e2),e3,r.mono L1⟩
end
noncomputable def kD (M:Model) (A:Around) (elt:Expr) (gens:List Comprehension) (scope:Scope) (pos:Pos) (depth:Nat) (acc:Value) (env:Env):Tr Unit:=λQ E s=>match gens[depth+1]? with
 |some g=>wpAny M A (eval g.iter env) (λx s₁=>g.is_async=0/\foldedSetIterable g.iter env x=pure x/\wpAny M A (pyIter x) (λit s₂=>
   codeAny M A (.compStart (.ListComp elt gens scope pos) (depth+1) it acc env) (λr s'=>match r with|.ok _=>Q () s'|.error e=>cameBackBy M A env E e s') s₂) E s₁) E s
 |none=>wpAny M A (eval elt env) (λx s₁=>wpAny M A (call (.builtin "list.append") [acc,x]) (λu' s₂=>Q () s₂) E s₁) E s
noncomputable def qL (ifs:List Expr) (env:Env):Sem Bool:=forIn ifs true λc r=>if r=true then do let ok <-isTrue c env (eval c env); pure (ForInStep.yield ok) else pure (ForInStep.yield r)
section
variable {prog:Program} {w:World} {A:Around} {E:Value->Shared->Prop} {R:Result->Shared->Prop} {s:Shared}
set_option tactic.hygienic true in
theorem Ha {elt:Expr} {gens:List Comprehension} {scope:Scope} {pos:Pos} {depth:Nat} {target iter:Expr} {ifs:List Expr} {it acc:Value} {env:Env} (hg:gens[depth]?=some ⟨target,iter,ifs,0⟩) (J:Nat->Shared->Prop)
  (turn : ∀ n s,J n s->wpAny (model prog w) A (pyNext it) (λr s₁=>match r with
   |none=>R (.ok .next) s₁
   |some v=>wpAny (model prog w) A (letOwnedTupleGo target it v) (λu' EZ=>wpAny (model prog w) A (assign target env v) (λu' s₂=>wpAny (model prog w) A (qL ifs env) (λok s₃=>
     if ok=true then kD (model prog w) A elt gens scope pos depth acc env (λu' s₄ => ∃ m,m<n/\J m s₄) (notedBy (model prog w) A env λe s'=>R (.error e) s') s₃ else ∃ m,m<n/\J m s₃)
     (notedBy (model prog w) A env λe s'=>R (.error e) s') s₂) (notedBy (model prog w) A env λe s'=>R (.error e) s') EZ) (notedBy (model prog w) A env λe s'=>R (.error e) s') s₁) (notedBy (model prog w) A env λe s'=>R (.error e) s') s)
  (n:Nat) (h:J n s):codeAny (model prog w) A (.compLoop (.ListComp elt gens scope pos) depth it acc env) R s:=by
 refine codeAny_loop rfl J (λn s hI=>?_) n h
 show wpAny _ A ((compTurn (.ListComp elt gens scope pos) depth it acc env).onRaise (λx=>do noteFrame x env; theTreesLotGoes x)) _ _ s
 refine wpAny_noted ?_
 unfold compTurn
 dsimp only
 rw [hg]
 dsimp only
 refine wpAny_bind (wpAny_standAt ?_)
 rw [if_neg (by decide)]
 refine wpAny_bind (wpAny_mono (turn n s hI) (λr s₁ h₁=>?_) λu' u' h'=>h')
 induction r with
 |none=>exact wpAny_pure h₁
 |some v=>
  refine wpAny_bind (wpAny_mono h₁ (λu' EZ Lj=>?_) λu' u' h'=>h')
  refine wpAny_bind (wpAny_mono Lj (λu' s₂ h₂=>?_) λu' u' h'=>h')
  refine wpAny_bind (wpAny_mono h₂ (λok s₃ h₃=>?_) λu' u' h'=>h')
  induction ok with
  |false=>
   rw [if_neg (by decide)] at h₃
   rw [if_neg (by decide)]
   exact wpAny_pure ⟨rfl,h₃⟩
  |true=>
   rw [if_pos rfl] at h₃
   rw [if_pos rfl]
   unfold kD at h₃
   split at h₃
   ·rename_i g' mj
    rw [mj]
    dsimp only
    refine wpAny_bind (wpAny_mono h₃ (λx s₄ h₄=>?_) λu' u' h'=>h')
    obtain ⟨ha,hf,h₄⟩:=h₄
    refine wpAny_bind (wpAny_standAt ?_)
    rw [ha,if_neg (by decide),hf]
    refine wpAny_bind (wpAny_pure ?_)
    rw [if_neg (by decide)]
    refine wpAny_bind (wpAny_holding (wpAny_mono h₄ (λfH s₅ h₅=>?_) λu' u' h'=>h'))
    refine wpAny_bind (wpAny_runOwn (codeAny_mono h₅ λr s' hr=>?_))
    induction r using Except.casesOn with
    |ok f=>exact wpAny_pure ⟨rfl,hr⟩
    |error e=>exact hr
   ·rename_i mj
    rw [mj]
    dsimp only
    exact wpAny_bind (wpAny_bind (wpAny_mono h₃ (λx s₄ h₄=>wpAny_bind (wpAny_mono h₄ (λu' s₅ h₅=>wpAny_pure (wpAny_pure ⟨rfl,h₅⟩)) λu' u' h'=>h')) λu' u' h'=>h'))
theorem zP {elt:Expr} {gens:List Comprehension} {scope:Scope} {pos:Pos} {depth:Nat} {target iter:Expr} {ifs:List Expr} {it acc:Value} {env:Env} (hg:gens[depth]?=some ⟨target,iter,ifs,0⟩)
  (h0:codeAny (model prog w) A (.compLoop (.ListComp elt gens scope pos) depth it acc env) R s)
  (h:wpAny (model prog w) A (pyIter it) (λfH s'=>fH=it/\s'=s) (notedBy (model prog w) A env λx s'=>R (.error x) s') s) :
  codeAny (model prog w) A (.compStart (.ListComp elt gens scope pos) depth it acc env) R s:=by
 have hc:(clausesOf (.ListComp elt gens scope pos))[depth]?=some ⟨target,iter,ifs,0⟩:=hg
 refine codeAny_of_tree ?_
 show wpAny _ _ ((compStart (.ListComp elt gens scope pos) depth it acc env).onRaise (λx=>do noteFrame x env; standAt theWindowsPlace)) _ _ s
 refine wpAny_notedAt ?_
 unfold compStart
 rw [hc]
 show wpAny _ _ (ask >>= _) _ _ s
 refine wpAny_bind (wpAny_askSetting (wpAny_ite ?_))
 split
 ·first
   |exact wpAny_bind (wpAny_pure (wpAny_pure (And.intro rfl h0)))
   |exact wpAny_pure (And.intro rfl h0)
 ·have fin : ∀ fH s',(fH=it/\s'=s)->wpAny (model prog w) A (again (.compLoop (.ListComp elt gens scope pos) depth fH acc env)) (λfin s'=>match fin with|.done f=>R (.ok f) s'|.again c'=>c'.quiet=true/\codeAny (model prog w) A c' R s') (notedBy (model prog w) A env λx s'=>R (.error x) s') s':=by
   rintro fH s' ⟨rfl,rfl⟩
   exact wpAny_pure (And.intro rfl h0)
  refine wpAny_bind (wpAny_rule ?_)
  show wpAny _ _ (standAt iter.pos >>= _) _ _ s
  exact wpAny_bind (wpAny_standAt (wpAny_bind (wpAny_mono h (λfH s' h'=>fin fH s' h') λu' u' x=>x)))
end
section
variable {V:av} {F:aD} {A:Around} {m:List (Option D)} {C:ai} {g:Gh} {s:Shared}
theorem En (I:ah V F m C g s) {k:Bool} {y:D} {items:List D} {i:Nat} {it:Addr} {o:Obj} (hg:g it=some (.ax o)) (hi:cO V g k items i y o) {Q:Value->Shared->Prop} {E:Value->Shared->Prop} (q:Q (.ref it) s):wpAny V.M A (pyIter (.ref it)) Q E s:=by
 have ho:=I.lF hg hi.tY
 induction y using D.casesOn<;>first|(exact hi.elim)|skip
 ·obtain ⟨t,hz,hc,hd⟩:=hi
  exact W.KBw.pyIter_self (i:=i) (b:=_) ⟨o,ho,hc,hd⟩ q
 ·obtain ⟨l,r,hc,hd⟩:=hi
  exact wpAny_pyIter_tupleiter ⟨o,ho,hc,hd⟩ q
 ·obtain ⟨l,r,hc,hd⟩:=hi
  exact wpAny_pyIter_listiter ⟨o,ho,hc,hd⟩ q
 ·have hi:o=_:=hi
  subst hi
  exact wpAny_pyIter_rangeiter ho q
 ·obtain ⟨l,r,⟨_,hc,hd⟩|⟨_,hc,hd⟩⟩:=hi
  ·exact wpAny_pyIter_listiter ⟨o,ho,hc,hd⟩ q
  ·exact wpAny_pyIter_keyiter (n:=items.length) (ep:=items.length) ⟨o,ho,hc,hd⟩ q
 ·obtain ⟨d,r,hc,hd⟩:=hi
  exact wpAny_pyIter_valiter (n:=items.length) (ep:=items.length) ⟨o,ho,hc,hd⟩ q
theorem cO.kind {V:av} {g:Gh} {k:Bool} {y:D} {items:List D} {i:Nat} {o:Obj} (hi:cO V g k items i y o) : ∃ T vs,o.cls=.type T/\o.data=.fields vs/\
  (["enumerate","zip","dict_itemiterator","dict_reverseitemiterator","odict_iterator","itertools.zip_longest","itertools.pairwise"].contains T)=false:=by
 induction y using D.casesOn<;>first|(exact hi.elim)|skip
 ·obtain ⟨t,hz,hc,hd⟩:=hi
  exact ⟨_,_,hc,hd,by decide⟩
 ·obtain ⟨l,r,hc,hd⟩:=hi
  exact ⟨_,_,hc,hd,by decide⟩
 ·obtain ⟨l,r,hc,hd⟩:=hi
  exact ⟨_,_,hc,hd,by decide⟩
 ·have hi:o=_:=hi
  subst hi
  exact ⟨_,_,rfl,rfl,by decide⟩
 ·obtain ⟨l,r,⟨_,hc,hd⟩|⟨_,hc,hd⟩⟩:=hi
  ·exact ⟨_,_,hc,hd,by decide⟩
  ·exact ⟨_,_,hc,hd,by decide⟩
 ·obtain ⟨d,r,hc,hd⟩:=hi
  exact ⟨_,_,hc,hd,by decide⟩
theorem OW (I:ah V F m C g s) {k:Bool} {y:D} {items:List D} {i:Nat} {it:Addr} {o:Obj} (hg:g it=some (.ax o)) (hi:cO V g k items i y o) {target:Expr} {v:Value} {Q:Unit->Shared->Prop} {E:Value->Shared->Prop} (q:Q () s) :
  wpAny V.M A (letOwnedTupleGo target (.ref it) v) Q E s:=by
 have ho:=I.lF hg hi.tY
 obtain ⟨T,vs,hc,hd,hT⟩:=hi.kind
 have key : ∀ a,wpAny V.M A (do
   let o <-load it
   match o.cls,o.data with
   |.type n,.fields vs=>
    if ["enumerate","zip","dict_itemiterator","dict_reverseitemiterator","odict_iterator","itertools.zip_longest","itertools.pairwise"].contains n&&vs[0]?==some (rawInt a) then
     rule "for.unpacks-the-owned-tuple"
     updateField it 0 .none
   |_,_=>pure ()) Q E s:=λa=>by
  refine wpAny_bind (wpAny_load ho ?_)
  rw [hc,hd]
  dsimp only
  rw [hT,Bool.false_and,if_neg (by decide)]
  exact wpAny_pure q
 unfold letOwnedTupleGo
 induction target using Expr.casesOn<;>first|exact wpAny_pure q|(induction v using Value.casesOn<;>first|exact wpAny_pure q|exact key _)
end
noncomputable def aD.ext (F:aD) (xs:List Str):aD:={F with slots:=b9 xs F.base++F.slots,base:=F.base+xs.length}
theorem SV (b:Nat):b9 [] b=[]:=rfl
theorem yd : ∀ (xs:List Str) (k b:Nat),(xs.zipIdx k).map (λp=>(p.1,b+p.2))=b9 xs (b+k)
 |[],_,_=>rfl
 |x::r,k,b=>by
  have ih:=yd r (k+1) b
  have qb:=yd r 1 (b+k)
  unfold b9
  rw [zipIdx_cons,zipIdx_cons,map_cons,map_cons,ih]
  rw [show (0:Nat)+1=1 from rfl,qb]
  simp [add_assoc]
theorem qO (x:Str) (r:List Str) (b:Nat):b9 (x::r) b=(x,b)::b9 r (b+1):=by
 have:=yd r 1 b
 unfold b9
 rw [zipIdx_cons,map_cons,show (0:Nat)+1=1 from rfl,this]; rfl
theorem gp : ∀ {xs:List Str} {b:Nat} {x:Str} {n:Nat},(b9 xs b).lookup x=some n->x∈xs/\b<=n/\n<b+xs.length/\xs[n - b]?=some x
 |[],_,_,_,h=>by exact ao h
 |y::r,b,x,n,h=>by
  rw [qO,lookup_cons] at h
  induction q:x==y with
  |true=>
   rw [q] at h
   obtain rfl:=Option.some.inj h
   have e:=eq_of_beq q
   subst e
   exact ⟨.head _,le_refl _,by simp,by simp⟩
  |false=>
   rw [q] at h
   obtain ⟨h1,h2,h3,h4⟩:=gp h
   refine ⟨.tail _ h1,le_of_succ_le h2,by rw [length_cons,add_comm r.length,<-add_assoc]; exact h3,?_⟩
   rw [show n - b=(n - (b+1))+1 from (Nat.sub_add_cancel (sub_pos_of_lt h2)).symm]
   exact h4
theorem Fu : ∀ {xs:List Str} {b:Nat} {x:Str},x∈xs->∃ n,(b9 xs b).lookup x=some n
 |y::r,b,x,h=>by
  rw [qO,lookup_cons]
  induction q:x==y with
  |true=>exact ⟨_,rfl⟩
  |false=>
   rcases mem_cons.mp h with e|h
   ·rw [e] at q; simp at q
   ·exact Fu h
theorem rU {F:aD} {xs:List Str} (hx : ∀ x∈xs,F.slots.lookup x=none) {x:Str} {n:Nat}:(F.ext xs).slots.lookup x=some n↔(b9 xs F.base).lookup x=some n\/F.slots.lookup x=some n:=by
 show (b9 xs F.base++F.slots).lookup x=some n↔_
 induction q:(b9 xs F.base).lookup x with
 |some k=>
  rw [j9 q]
  refine ⟨λh=>.inl h,λh=>?_⟩
  rcases h with h|h
  ·exact h
  ·rw [hx x (gp q).1] at h; exact ao h
 |none=>
  rw [mO q]
  refine ⟨λh=>.inr h,λh=>?_⟩
  rcases h with h|h
  ·exact ao h
  ·exact h
theorem pB {F:aD} (K:F.Ok) {xs:List Str} (hx : ∀ x∈xs,F.slots.lookup x=none):(F.ext xs).Ok:=by
 refine ⟨K.fn,K.glob,K.blt,K.kinds,λx y n h1 h2=>?_,λx n h=>?_,K.frame,K.cells,K.debug,K.l1⟩
 ·rw [rU hx] at h1 h2
  rcases h1 with h1|h1<;>rcases h2 with h2|h2
  ·have e1:=(gp h1).2.2.2
   rw [(gp h2).2.2.2] at e1
   obtain rfl:=Option.some.inj e1; rfl
  ·exact absurd (K.bound _ _ h2) (not_lt.mpr (gp h1).2.1)
  ·exact absurd (K.bound _ _ h1) (not_lt.mpr (gp h2).2.1)
  ·exact K.inj x y n h1 h2
 ·rw [rU hx] at h
  show n<F.base+xs.length
  rcases h with h|h
  ·exact (gp h).2.2.1
  ·exact lt_of_lt_of_le (K.bound _ _ h) (le_add_right _ _)
theorem AW {F:aD} {c:aI} (hc:F.ctx c) (xs:List Str):(F.ext xs).ctx (dY c xs):=by
 obtain ⟨h1,h2,h3⟩:=hc
 refine ⟨h1,?_,?_⟩
 ·show b9 xs c.base++c.slots=b9 xs F.base++F.slots
  rw [h2,h3]
 ·show c.base+xs.length=F.base+xs.length
  rw [h3]
section
variable {V:av} {F F':aD} {A:Around} {cl:Calls} {m m':List (Option D)} {C:ai} {g:Gh} {s:Shared}
theorem ah.D6 (I:ah V F m C g s) (he:F'.env=F.env) (hn:F'.names=F.names) (hs:F'.stack=F.stack) (hl:m'.length=F'.base)
  (h : ∀ x n d,F'.slots.lookup x=some n->m'[n]?=some (some d)->F.slots.lookup x=some n/\m[n]?=some (some d)):ah V F' m' C g s:=by
 refine ⟨I.keep,I.new,I.live,I.ay,I.ax,I.cell,I.uniq,I.c4,?_,I.gens,I.os⟩
 have fr:=I.fr
 refine ⟨hl,by rw [he]; exact fr.above,by rw [hs]; intro e h; obtain ⟨k,L,q,r⟩:=fr.out e h; refine ⟨k,L,q,?_⟩; (rcases r with r|r; exact .inl (by rw [he]; exact r); exact .inr r),by rw [he]; exact fr.here,?_,λx hx=>?_,λx n d h1 h2 h3=>?_⟩
 ·obtain ⟨M,a,b⟩:=fr.loc
  exact ⟨M,by rw [he]; exact a,λx n d h1 h2 h3=>let ⟨p,q⟩:=h x n d h2 h3; b x n d (by rw [<-hn]; exact h1) p q⟩
 ·obtain ⟨c,v,h1,h2,h3,h4⟩:=fr.cell x (by rw [<-hn]; exact hx)
  exact ⟨c,v,by rw [he]; exact h1,h2,h3,λn d e1 e2=>let ⟨p,q⟩:=h x n d e1 e2; h4 n d p q⟩
 ·obtain ⟨p,q⟩:=h x n d h2 h3
  obtain ⟨c,o,v,h4,h5⟩:=fr.free x n d (by rw [<-hn]; exact h1) p q
  exact ⟨c,o,v,by rw [he]; exact h4,h5⟩
theorem ah.extend (K:F.Ok) (I:ah V F m C g s) {xs:List Str} (hx : ∀ x∈xs,F.slots.lookup x=none):ah V (F.ext xs) (m++replicate xs.length none) C g s:=by
 refine I.D6 rfl rfl rfl ?_ λx n d h1 h2=>?_
 ·rw [length_append,List.length_replicate,I.fr.len]; rfl
 ·rw [rU hx] at h1
  rcases h1 with h1|h1
  ·have h3:=(gp h1).2.1
   rw [getElem?_append_right (by rw [I.fr.len]; exact h3),List.getElem?_replicate] at h2
   split at h2<;>(first|exact ao h2|cases h2)
  ·refine ⟨h1,?_⟩
   have:=K.bound _ _ h1
   rwa [List.getElem?_append_left (by rw [I.fr.len]; exact this)] at h2
theorem ah.Of (K:F.Ok) {xs:List Str} (hx : ∀ x∈xs,F.slots.lookup x=none) (I:ah V (F.ext xs) m C g s):ah V F (m.take F.base) C g s:=by
 refine I.D6 (F:=F.ext xs) rfl rfl rfl ?_ λx n d h1 h2=>?_
 ·rw [length_take,I.fr.len]; exact Nat.min_eq_left (le_add_right _ _)
 ·have:=K.bound _ _ h1
  rw [getElem?_take,if_pos this] at h2
  exact ⟨(rU hx).mpr (.inr h1),h2⟩
inductive lW (c:aI):Expr->T->Prop where
 |one {x:Str} {p:Pos} {n:Nat}:cZ c x=some n->lW c (.Name x p) (.one n)
 |many {es:List Expr} {cx:Nat} {p:Pos} {ns:List Nat}:a0 (qZ c) es ns->lW c (.Tuple es cx p) (.many ns)
set_option tactic.hygienic true in
theorem EJ {F:aD} {c:aI} (hc:F.ctx c) {xs:List Str} (hf:jP c xs=true) {x:Str} {n:Nat} (h:(b9 xs c.base).lookup x=some n):cZ (dY c xs) x=some n:=by
 unfold jP at hf
 rw [and_eq_true] at hf
 have:=all_eq_true.mp hf.2 x (gp h).1
 rw [and_eq_true] at this
 have ho:=this.1
 unfold cZ
 unfold own at ho
 show (match c.names.lookup x with|some .local|some .cell=>(b9 xs c.base++c.slots).lookup x|_=>none)=some n
 rw [j9 h]
 induction hx:c.names.lookup x with
 |none=>rw [hx] at ho; exact bo ho
 |some kd=>rw [hx] at ho; induction kd using NameKind.casesOn<;>first|exact bo ho|rfl
theorem Ft : ∀ {xs:List Str} {b i:Nat} {x:Str},xs.Nodup->xs[i]?=some x->(b9 xs b).lookup x=some (b+i)
 |[],_,_,_,_,h=>by exact ao h
 |y::r,b,0,x,_,h=>by
  obtain rfl:=Option.some.inj h
  rw [qO,lookup_cons]; simp
 |y::r,b,i+1,x,hn,h=>by
  rw [nodup_cons] at hn
  rw [qO,lookup_cons]
  have hm:x∈r:=mem_of_getElem? h
  rw [beq_false_of_ne (λz:x=y=>hn.1 (by rw [<-z]; exact hm))]
  have:=Ft (b:=b+1) hn.2 (by simpa using h)
  show (b9 r (b+1)).lookup x=some (b+(i+1))
  rw [this]; exact congrArg some ((add_assoc b 1 i).trans (congrArg (b + ·) (add_comm 1 i)))
theorem CV : ∀ {es:List Expr} {xs:List Str},es.mapM fM=some xs->xs.length=es.length/\∀ (i:Nat) (e:Expr),es[i]?=some e->∃ x p,e=Expr.Name x p/\xs[i]?=some x
 |[],xs,h=>by simp at h; subst h; exact ⟨rfl,λi e h=>by cases h⟩
 |e::es,xs,h=>by
  rw [mapM_cons] at h
  simp only [Option.pure_def,Option.bind_eq_bind] at h
  obtain ⟨x,h1,h2⟩:=aO h
  obtain ⟨ys,h3,h4⟩:=aO h2
  obtain rfl:=Option.some.inj h4
  obtain ⟨hl,ih⟩:=CV h3
  obtain ⟨p,rfl⟩:=E0 h1
  refine ⟨by simp [hl],λi e he=>?_⟩
  induction i using Nat.casesOn with
  |zero=>obtain rfl:=Option.some.inj he; exact ⟨x,p,rfl,rfl⟩
  |succ i=>exact ih i e he
theorem yG {α β:Type} {R:α->β->Prop} : ∀ {as:List α} {bs:List β},as.length=bs.length->(∀ (i:Nat) (a:α) (b:β),as[i]?=some a->bs[i]?=some b->R a b)->a0 R as bs
 |[],[],_,_=>trivial
 |a::as,b::bs,hl,h=>⟨h 0 a b rfl rfl,yG (by simpa using hl) λi x y e1 e2=>h (i+1) x y e1 e2⟩
 |[],_::_,hl,_=>by cases hl
 |_::_,[],hl,_=>by cases hl
theorem A6 {F:aD} {c:aI} (hc:F.ctx c) {xs:List Str} (hf:jP c xs=true) : ∀ x∈xs,F.slots.lookup x=none:=λx h=>by
 unfold jP at hf
 rw [and_eq_true] at hf
 have:=all_eq_true.mp hf.2 x h
 rw [and_eq_true] at this
 have:=this.2
 rw [hc.2.1] at this
 exact isNone_iff_eq_none.mp this
set_option tactic.hygienic true in
theorem E2 {F:aD} {c:aI} (hc:F.ctx c) {t:Expr} {xs:List Str} (hx:oJ t=some xs) (hf:jP c xs=true):lW (dY c xs) t (kj xs (jx t) c.base)/\(kj xs (jx t) c.base).width=xs.length:=by
 have fC:xs.Nodup:=by
  unfold jP at hf; rw [and_eq_true] at hf; exact of_decide_eq_true hf.1
 induction t using Expr.casesOn<;>first|((first|exact ao hx|obtain rfl:=Option.some.inj hx); done)|skip
 ·obtain rfl:=Option.some.inj hx
  refine ⟨.one (EJ hc hf ?_),rfl⟩
  rw [qO,lookup_cons]; simp
 ·rename_i es cx p
  have hx:es.mapM fM=some xs:=hx
  obtain ⟨hl,hg⟩:=CV hx
  refine ⟨.many ?_,by show List.length _=_; simp⟩
  refine yG (by simp [hl]) λi e n he hn=>?_
  obtain ⟨x,q,rfl,h1⟩:=hg i e he
  refine ⟨x,q,rfl,EJ hc hf ?_⟩
  rw [Ft fC h1]
  rw [getElem?_map,List.getElem?_zipIdx,h1] at hn
  simpa using hn
set_option tactic.hygienic true in
theorem Oz (hh:A.handled=none) (K:F.Ok) {c:aI} (hc:F.ctx c) {t:Expr} {T':T} (ht:lW c t T') (I:ah V F m C g s) {d:D} {v:Value} (r:af V g d v) :
  aE V F A dF (assign t F.env v) g s (fq T' d ⟨m,C⟩):=by
 induction ht using lW.casesOn with
 |one hk=>exact (lJ (A:=A) K I hc hk r).wp λu' u' x=>wpAny_assign_Name x
 |many hT=>
  rename_i es cx p ns
  induction d using D.casesOn with
  |tup ds=>
   show aj _ _ _ _ _ _ (if ns.length==ds.length then _ else _)
   split
   ·rename_i hl
    have hl:=eq_of_beq hl
    obtain ⟨la,vs,k,rfl,pU,hz,rs⟩:=I.tup r
    obtain ⟨p0,lh⟩:=xV (env:=F.env) hT
    have I₃ : ∀ h',Heap.ExtBut s.heap.objs.size s.heap h'->ah V F m C g {s with heap:=h'}:=λh' he=>I.heap λb o e=>he b o (ne_of_lt (Heap.lt_size e)) e
    have key : ∀ h',Heap.ExtBut s.heap.objs.size s.heap h'->aE V F A dF (assignInOrder ((assignEach es F.env).map (·.2)) vs) g {s with heap:=h'} (lK ns ds ⟨m,C⟩):=λh' he=>xC K hc hT rs hl (I₃ h' he)
    induction ho:lK ns ds ⟨m,C⟩ with
    |fail=>trivial
    |ok b aB=>
     intro Q E q
     refine wpAny_assign_Tuple hh ⟨_,pU,rfl,_,rfl⟩ (by rw [lh,hl,rs.length]; simp) p0 λh' he=>?_
     have:=key h' he
     rw [ho] at this
     exact this Q E q
    |exc b aB=>
     intro Q E q
     refine wpAny_assign_Tuple hh ⟨_,pU,rfl,_,rfl⟩ (by rw [lh,hl,rs.length]; simp) p0 λh' he=>?_
     have:=key h' he
     rw [ho] at this
     exact this Q E q
   ·trivial
  |_=>trivial
theorem E1 {M:Model} {env:Env} {Q:Bool->Shared->Prop} {E:Value->Shared->Prop} : ∀ {ifs:List Expr},Q false s->wpAny M A (forIn ifs false λc r=>if r=true then do let ok <-isTrue c env (eval c env); pure (ForInStep.yield ok) else pure (ForInStep.yield r)) Q E s
 |[],h=>by rw [List.forIn_nil]; exact wpAny_pure h
 |e::r,h=>by
  rw [forIn_cons,if_neg (by decide)]
  exact wpAny_bind (wpAny_pure (E1 h))
theorem EA {f:Expr->E} : ∀ {ifs:List Expr},(∀ e∈ifs,az V F A cl (f e) e)->∀ m C g s,ah V F m C g s->aj V F (λ_ (d:D) (b:Bool)=>d=.bool b) (wpAny V.M A (qL ifs F.env)) g s (ck V.P cl (bq f ifs) ⟨m,C⟩)
 |[],_,m,C,g,s,I=>λQ E q=>wpAny_pure (q g true s (.refl g) I rfl)
 |e::r,h,m,C,g,s,I=>by
  have e1:ck V.P cl (bq f (e::r)) ⟨m,C⟩=(cy (ev V.P cl (f e) ⟨m,C⟩)).bind λq aa=>if q then ck V.P cl (bq f r) aa else .ok (.bool false) aa:=by
   show (ev V.P cl (f e) ⟨m,C⟩).bind _=_
   unfold cy
   rw [ak.bind_assoc]
   congr 1; funext x aa
   induction bA aa.C x with
   |none=>rfl
   |some q=>induction q<;>rfl
  rw [e1]
  have ih:=EA (f:=f) (ifs:=r) λx hx=>h x (.tail _ hx)
  refine aj.seq (h e (.head _) m C g s I).2 (K:=λb Q E s=>if b=true then wpAny V.M A (qL r F.env) Q E s else Q false s) (λQ E x=>?_) λq st g₁ s₁ q' u' u' I₁ rq=>?_
  ·unfold qL
   rw [forIn_cons,if_pos rfl]
   refine wpAny_bind (wpAny_bind (wpAny_mono x (λb s₁ y=>wpAny_pure ?_) λu' u' y=>y))
   induction b with
   |true=>exact y
   |false=>exact E1 y
  ·cases rq
   induction q
   ·exact λQ E k=>k _ _ _ (.refl _) I₁ rfl
   ·exact ih _ _ _ _ I₁
end
structure Gh.Off (P:Addr->Prop) (g g':Gh):Prop where
 ay : ∀ a o,¬ P a->g a=some (.ay o)->g' a=some (.ay o)
 cell : ∀ a i,¬ P a->g a=some (.cell i)->g' a=some (.cell i)
 ax : ∀ a o,¬ P a->(g a=some (.ax o)↔g' a=some (.ax o))
theorem Gh.Off.trans {P:Addr->Prop} {g₁ g₂ g₃:Gh} (x:Gh.Off P g₁ g₂) (y:Gh.Off P g₂ g₃):Gh.Off P g₁ g₃:=
 ⟨λa o h e=>y.ay a o h (x.ay a o h e),λa o h e=>y.cell a o h (x.cell a o h e),λa o h=>(x.ax a o h).trans (y.ax a o h)⟩
theorem Gh.Step.off {g g':Gh} (x:g.Step g') (P:Addr->Prop):Gh.Off P g g':=⟨λa o u' e=>x.ay a o e,λa i u' e=>x.cell a i e,λa o u'=>x.ax a o⟩
theorem Gh.Off.put {P:Addr->Prop} {a:Addr} (h:P a) (g:Gh) (x:Option GO):Gh.Off P g (g.put a x):=by
 have key : ∀ {b},¬ P b->g.put a x b=g b:=λ{b} hb=>Gh.aW _ _ λz=>hb (z ▸ h)
 exact ⟨λb o hb e=>by rw [key hb]; exact e,λb o hb e=>by rw [key hb]; exact e,λb o hb=>by rw [key hb]⟩
theorem Gh.bH.off {S:Addr} {g g':Gh} (x:Gh.bH S g g') {P:Addr->Prop} (h:P S):Gh.Off P g g':=
 ⟨λa o hb e=>x.ay a o (λz=>hb (z ▸ h)) e,λa o hb e=>x.cell a o (λz=>hb (z ▸ h)) e,λa o hb=>x.ax a o (λz=>hb (z ▸ h))⟩
theorem Gh.Off.but {S it:Addr} {g g':Gh} (x:Gh.Off (λa=>a=it\/a=S) g g') (hg:g it=none):Gh.bH S g (g'.put it none):=by
 refine ⟨λa o h e=>?_,λa i h e=>?_,λa o h=>?_⟩
 ·have n:a≠it:=λz=>by subst z; rw [hg] at e; exact ao e
  rw [Gh.aW _ _ n]; exact x.ay a o (λz=>z.elim n h) e
 ·have n:a≠it:=λz=>by subst z; rw [hg] at e; exact ao e
  rw [Gh.aW _ _ n]; exact x.cell a i (λz=>z.elim n h) e
 ·by_cases n:a=it
  ·subst n; rw [Gh.bh,hg]
  ·rw [Gh.aW _ _ n]; exact x.ax a o λz=>z.elim n h
inductive dw (V:av) (g:Gh) (Dd:Addr) (ds:List Mine.Lake.D):Prop
 |mk (vs:List Value) (k:Nat) (h1:g Dd=some (.ax (bG vs k))) (h2:aG V g ds vs) (h3:vs.length<=aF):dw V g Dd ds
theorem dw.mono {V:av} {g g':Gh} (L:g.Le g') {D:Addr} (hp : ∀ o,g D=some (.ax o)->g' D=some (.ax o)) {ds:List Mine.Lake.D} (h:dw V g D ds):dw V g' D ds:=
 let ⟨vs,k,a,b,c⟩:=h; ⟨vs,k,hp _ a,b.mono L,c⟩
theorem dw.step {V:av} {g g':Gh} (L:g.Step g') {D:Addr} {ds:List Mine.Lake.D} (h:dw V g D ds):dw V g' D ds:=h.mono L.toLe λo=>(L.ax D o).mp
noncomputable def lV (V:av) (F:aD) (D:Addr) (W:Tr Unit) (g:Gh) (s:Shared):ak Mine.Lake.D->Prop
 |.ok (.lst ds) st => ∀ (Q:Unit->Shared->Prop) (E:Value->Shared->Prop),(∀ g' s',Gh.bH D g g'->dw V g' D ds->ah V F st.m st.C g' s'->Q () s')->W Q E s
 |_=>True
section
variable {V:av} {F:aD} {A:Around} {cl:Calls} {m:List (Option Mine.Lake.D)} {C:ai} {g:Gh} {s:Shared}
set_option tactic.hygienic true in
theorem ON {D:Addr} {elt:Expr} {gens:List Comprehension} {scope:Scope} {pos:Pos} {depth:Nat} (hg:gens[depth+1]?=none) {c:Mine.Lake.E} (h:az V F A cl c elt) {acc:List Mine.Lake.D} (I:ah V F m C g s) (ha:dw V g D acc) :
  lV V F D (kD V.M A elt gens scope pos depth (.ref D) F.env) g s (dM V.P cl (λst=>ev V.P cl c st) .nil acc ⟨m,C⟩):=by
 show lV _ _ _ _ _ _ ((ev V.P cl c ⟨m,C⟩).bind λx aa=>if acc.length<aF then .ok (.lst (acc++[x])) aa else .fail)
 have hs:=(h m C g s I).1
 induction ho:ev V.P cl c ⟨m,C⟩ with
 |fail=>trivial
 |exc _ _=>trivial
 |ok x st=>
  rw [ho] at hs
  show lV _ _ _ _ _ _ (if acc.length<aF then ak.ok (Mine.Lake.D.lst (acc++[x])) st else .fail)
  split
  ·rename_i hz
   intro Q E q
   unfold kD
   rw [hg]
   dsimp only
   refine hs _ _ λg' v s' aB I' r=>?_
   obtain ⟨vs,k,hD,rs,hl⟩:=ha.step aB
   have jW:=I'.lF hD i7
   have hlen:=rs.length
   refine call_meets PySem.F.slot_list_append ⟨_,jW,rfl⟩ PySem.F.entry_list_append (PySem.F.args_list_append_2 _ _) (PySem.list_append D vs.toArray k v (dv (by simpa using hl))) ⟨jW,?_⟩
   obtain ⟨k₁,dS⟩:=DV jW v
   have kY:Gh.bH D g (g'.put D (some (.ax (bG (vs++[v]) k₁)))):=(aB.but D).trans (Gh.bH.put D g' _)
   have L':g'.Le (g'.put D (some (.ax (bG (vs++[v]) k₁)))):=(Gh.bH.put D g' _).le hD
   exact q _ _ kY ⟨vs++[v],k₁,Gh.bh ..,(rs.mono L').append (.cons (r.mono L') .nil),by simp; omega⟩ (I'.oC (t:=s'.toks) hD i7 ((Heap.SameBut.update s'.heap D (Obj.mapSeq (·.push v))).extBut) dS)
  ·trivial
inductive ui (t:T) (tests:St->ak Mine.Lake.D) (inner:List Mine.Lake.D->St->ak Mine.Lake.D) (aS:ai->ai->Bool) (L:List Mine.Lake.D->List Mine.Lake.D->St->ak Mine.Lake.D) (d:Mine.Lake.D) (r acc:List Mine.Lake.D) (st:St) (x:Mine.Lake.D) (aB:St):Prop
 |mk (u:Unit) (aa:St) (b:Bool) (ae:St) (aR:List Mine.Lake.D) (aH:St) (h1:fq t d ⟨st.m++replicate t.width none,st.C⟩=.ok u aa) (h2:tests aa=.ok (.bool b) ae)
   (h3:(if b=true then inner acc ae else .ok (.lst acc) ae)=.ok (.lst aR) aH) (h4:aS st.C aH.C=true) (h5:L r aR ⟨aH.m.take st.m.length,aH.C⟩=.ok x aB):ui t tests inner aS L d r acc st x aB
set_option tactic.hygienic true in
theorem Ro {tests:St->ak Mine.Lake.D} {inner:List Mine.Lake.D->St->ak Mine.Lake.D} {acc:List Mine.Lake.D} {st aH:St} {x:Mine.Lake.D} (e:bD tests inner acc st=.ok x aH) : ∃ b ae,tests st=.ok (.bool b) ae/\(if b=true then inner acc ae else .ok (.lst acc) ae)=.ok x aH:=by
 unfold bD at e
 induction h:tests st with
 |fail=>rw [h] at e; exact cn e
 |exc _ _=>rw [h] at e; exact cn e
 |ok d ae=>
  rw [h] at e
  induction d using D.casesOn<;>first|(exact cn e; done)|skip
  rename_i b
  induction b<;>exact ⟨_,_,rfl,e⟩
set_option tactic.hygienic true in
theorem IW {t:T} {tests:St->ak Mine.Lake.D} {inner:List Mine.Lake.D->St->ak Mine.Lake.D} {aS:ai->ai->Bool} {d:Mine.Lake.D} {r acc:List Mine.Lake.D} {st aB:St} {x:Mine.Lake.D} (e:cI t (bD tests inner) aS (d::r) acc st=.ok x aB) :
  ui t tests inner aS (cI t (bD tests inner) aS) d r acc st x aB:=by
 have e:(match fq t d ⟨st.m++replicate t.width none,st.C⟩ with
  |.ok _ aa=>match bD tests inner acc aa with
   |.ok (.lst aR) ae=>if aS st.C ae.C then cI t (bD tests inner) aS r aR ⟨ae.m.take st.m.length,ae.C⟩ else .fail
   |_=>.fail
  |_=>.fail)=.ok x aB:=e
 induction h1:fq t d ⟨st.m++replicate t.width none,st.C⟩ with
 |fail=>rw [h1] at e; exact cn e
 |exc _ _=>rw [h1] at e; exact cn e
 |ok u aa=>
  rw [h1] at e
  dsimp only at e
  induction h2:bD tests inner acc aa with
  |fail=>rw [h2] at e; exact cn e
  |exc _ _=>rw [h2] at e; exact cn e
  |ok y aH=>
   rw [h2] at e
   induction y using D.casesOn<;>first|(exact cn e; done)|skip
   rename_i aR
   dsimp only at e
   induction h4:aS st.C aH.C with
   |false=>rw [h4] at e; exact cn e
   |true=>
    rw [h4,if_pos rfl] at e
    obtain ⟨b,ae,a1,a2⟩:=Ro h2
    exact ⟨u,aa,b,ae,aR,aH,h1,a1,a2,h4,e⟩
inductive ub (V:av) (F:aD) (it Dd:Addr) (g₀:Gh) (y:Mine.Lake.D) (items:List Mine.Lake.D) (loop:List Mine.Lake.D->List Mine.Lake.D->St->ak Mine.Lake.D) (ds:List Mine.Lake.D) (aB:St) (n:Nat) (s:Shared):Prop
 |mk (g1:Gh) (m1:List (Option Mine.Lake.D)) (C1:ai) (i:Nat) (o:Obj) (nq:List Mine.Lake.D) (b1:Gh.Off (λa=>a=it\/a=Dd) g₀ g1) (iZ:g1 it=some (.ax o)) (pP:cO V g1 (ft C1 y) items i y o) (mr:bF C1 y=some items)
   (jm:dw V g1 Dd nq) (I1:ah V F m1 C1 g1 s) (hn:n=items.length+1 - i) (hle:i<=items.length) (e1:loop (items.drop i) nq ⟨m1,C1⟩=.ok (.lst ds) aB):ub V F it Dd g₀ y items loop ds aB n s
set_option tactic.hygienic true in
theorem Hl (hh:A.handled=none) (K:F.Ok) {D it:Addr} (iS:D≠it) {elt:Expr} {gens:List Comprehension} {scope:Scope} {pos:Pos} {depth:Nat} {target iter:Expr} {ifs:List Expr} (jS:gens[depth]?=some ⟨target,iter,ifs,0⟩)
  {c:aI} {xs:List Str} (hc:(F.ext xs).ctx c) (hx : ∀ x∈xs,F.slots.lookup x=none) {T':T} (hT:lW c target T') (hw:T'.width=xs.length) {tests:St->ak Mine.Lake.D} (p6 : ∀ m C g s,ah V (F.ext xs) m C g s->aj V (F.ext xs) (λ_ (d:Mine.Lake.D) (b:Bool)=>d=.bool b) (wpAny V.M A (qL ifs F.env)) g s (tests ⟨m,C⟩))
  {inner:List Mine.Lake.D->St->ak Mine.Lake.D} (fZ : ∀ acc m C g s,ah V (F.ext xs) m C g s->dw V g D acc->lV V (F.ext xs) D (kD V.M A elt gens scope pos depth (.ref D) F.env) g s (inner acc ⟨m,C⟩))
  {y:Mine.Lake.D} {items:List Mine.Lake.D} {g₀:Gh} (mn:g₀ it=none) {g:Gh} {m:List (Option Mine.Lake.D)} {C:ai} {s:Shared} {o:Obj} (pV:Gh.Off (λa=>a=it\/a=D) g₀ g) (hg:g it=some (.ax o)) (hi:cO V g (ft C y) items 0 y o) (hit:bF C y=some items) {acc:List Mine.Lake.D} (ha:dw V g D acc) (I:ah V F m C g s)
  {ds:List Mine.Lake.D} {aB:St} {L:List Mine.Lake.D->List Mine.Lake.D->St->ak Mine.Lake.D} (wo : ∀ acc st,L [] acc st=.ok (.lst acc) st) (JK : ∀ d r acc st,L (d::r) acc st=.ok (.lst ds) aB->ui T' tests inner (λC C'=>aY C C' y) L d r acc st (.lst ds) aB)
  (e:L items acc ⟨m,C⟩=.ok (.lst ds) aB) {R:Result->Shared->Prop}
  (fD : ∀ g' s',Gh.bH D g₀ g'->dw V g' D ds->ah V F aB.m aB.C g' s'->R (.ok .next) s') :
  codeAny V.M A (.compLoop (.ListComp elt gens scope pos) depth (.ref it) (.ref D) F.env) R s:=by
 refine Ha jS (ub V F it D g₀ y items L ds aB) (λn s hI=>?_) (items.length+1) ⟨g,m,C,0,o,acc,pV,hg,hi,hit,ha,I,rfl,zero_le _,e⟩
 obtain ⟨g1,m1,C1,i,o1,nq,b1,iZ,pP,mr,jm,I1,rfl,hle,e1⟩:=hI
 refine Em hh I1 iZ pP mr rfl (λd hd v o2 h2 t2 rd mq I2=>?_) λhn h2 I2=>?_
 ·have bQ:i<items.length:=(List.getElem?_eq_some_iff.mp hd).1
  have vX:items.drop i=d::items.drop (i+1):=by
   rw [List.drop_eq_getElem_cons bQ]
   rw [getElem?_eq_getElem bQ] at hd
   obtain rfl:=Option.some.inj hd; rfl
  rw [vX] at e1
  dsimp only
  refine cps λQ0 k0=>?_
  obtain ⟨u,aa,b0,ae,aR,aH,BF,JS,BW,aM,e5⟩:=JK _ _ _ _ e1
  have Lp:g1.Le (g1.put it (some (.ax o2))):=te iZ _
  have jT:(g1.put it (some (.ax o2))) it=some (.ax o2):=Gh.bh ..
  have I3:=I2.extend K hx
  have mx:m1.length=F.base:=I1.fr.len
  rw [hw] at BF
  have hb:=Oz (A:=A) hh (pB K hx) hc hT I3 rd
  rw [BF] at hb
  refine k0 (OW I2 jT mq (hb _ _ λg4 u' s4 q4 I4 u'=>?_))
  clear k0 hb
  refine cps λQ1 k1=>?_
  have b4:Gh.Off (λa=>a=it\/a=D) g₀ g4:=(b1.trans (Gh.Off.put (.inl rfl) g1 _)).trans (q4.off _)
  have sr:g4 it=some (.ax o2):=(q4.ax _ _).mp jT
  have si:dw V g4 D nq:=(jm.mono Lp λo h=>by rw [Gh.aW _ _ iS]; exact h).step q4
  have p6:=p6 aa.m aa.C g4 s4 I4
  rw [show (⟨aa.m,aa.C⟩:St)=aa from rfl,JS] at p6
  have next : ∀ (g5:Gh) (s5:Shared),Gh.Off (λa=>a=it\/a=D) g₀ g5->g5 it=some (.ax o2)->g4.Le g5->dw V g5 D aR->ah V (F.ext xs) aH.m aH.C g5 s5->
    ∃ mm,mm<items.length+1 - i/\ub V F it D g₀ y items L ds aB mm s5:=λg5 s5 b5 su J4 mf I5=>
   ⟨items.length+1 - (i+1),Nat.sub_lt_sub_left (lt_succ_of_lt bQ) (lt_succ_self i),g5,aH.m.take m1.length,aH.C,i+1,o2,aR,b5,su,by rw [ET aM]; exact (mq.mono q4.toLe).mono J4,EU aM mr,mf,by rw [mx]; exact I5.Of K hx,rfl,bQ,e5⟩
  refine k1 (p6 _ _ λg5 b s5 q5 I5 rb=>?_)
  cases (show Mine.Lake.D.bool b0=.bool b from rb)
  clear k1 p6
  have b5:=b4.trans (q5.off _)
  have su:=(q5.ax _ _).mp sr
  have mf:=si.step q5
  induction b0 with
  |false=>
   rw [if_neg (by decide)]
   cases BW
   exact next g5 s5 b5 su q5.toLe mf I5
  |true=>
   rw [if_pos rfl]
   have hn:=fZ nq ae.m ae.C g5 s5 I5 mf
   rw [show (⟨ae.m,ae.C⟩:St)=ae from rfl,show inner nq ae=_ from BW] at hn
   refine hn _ _ λg6 s6 b6 JA I6=>?_
   obtain ⟨SU,k5,Jl,_⟩:=id mf
   exact next g6 s6 (b5.trans (b6.off (.inr rfl))) ((b6.ax it o2 iS.symm).mp su) (q5.toLe.trans (b6.le Jl)) JA I6
 ·have Kw:items.drop i=[]:=by rw [List.getElem?_eq_none_iff] at hn; exact List.drop_eq_nil_of_le hn
  rw [Kw,wo] at e1
  cases e1
  have iR : ∀ o,g1 D=some (.ax o)->(g1.put it none) D=some (.ax o):=λo h=>by rw [Gh.aW _ _ iS]; exact h
  exact fD _ _ (b1.but mn) (jm.mono (te iZ none) iR) I2
theorem zU (hh:A.handled=none) (K:F.Ok) {D it:Addr} (iS:D≠it) {elt:Expr} {gens:List Comprehension} {scope:Scope} {pos:Pos} {depth:Nat} {target iter:Expr} {ifs:List Expr} (jS:gens[depth]?=some ⟨target,iter,ifs,0⟩)
  {c:aI} {xs:List Str} (hc:(F.ext xs).ctx c) (hx : ∀ x∈xs,F.slots.lookup x=none) {T':T} (hT:lW c target T') (hw:T'.width=xs.length) {f:Expr->Mine.Lake.E} (J6 : ∀ e∈ifs,az V (F.ext xs) A cl (f e) e)
  {inner:List Mine.Lake.D->St->ak Mine.Lake.D} (fZ : ∀ acc m C g s,ah V (F.ext xs) m C g s->dw V g D acc->lV V (F.ext xs) D (kD V.M A elt gens scope pos depth (.ref D) F.env) g s (inner acc ⟨m,C⟩))
  {y:Mine.Lake.D} {items:List Mine.Lake.D} {g₀:Gh} (mn:g₀ it=none) {g:Gh} {m:List (Option Mine.Lake.D)} {C:ai} {s:Shared} {o:Obj} (pV:Gh.Off (λa=>a=it\/a=D) g₀ g) (hg:g it=some (.ax o)) (hi:cO V g (ft C y) items 0 y o) (hit:bF C y=some items) {acc:List Mine.Lake.D} (ha:dw V g D acc) (I:ah V F m C g s)
  {ds:List Mine.Lake.D} {aB:St} (e:cI T' (bD (λae=>ck V.P cl (bq f ifs) ae) inner) (λC C'=>aY C C' y) items acc ⟨m,C⟩=.ok (.lst ds) aB) {R:Result->Shared->Prop}
  (fD : ∀ g' s',Gh.bH D g₀ g'->dw V g' D ds->ah V F aB.m aB.C g' s'->R (.ok .next) s') :
  codeAny V.M A (.compLoop (.ListComp elt gens scope pos) depth (.ref it) (.ref D) F.env) R s:=
 Hl hh K iS jS hc hx hT hw (EA (A:=A) (F:=F.ext xs) J6) fZ mn pV hg hi hit ha I (λ_ _=>rfl) (λ_ _ _ _ e=>IW e) e fD
end
theorem r6 {it:Expr} {env:Env} (h:lu it=false) (x:Value):foldedSetIterable it env x=pure x:=by induction it using Expr.casesOn<;>first|rfl|exact fN h
section
variable {V:av} {A:Around} {cl:Calls}
set_option tactic.hygienic true in
theorem zT (B:V.Base) (hh:A.handled=none) {D:Addr} {elt:Expr} {gens:List Comprehension} {scope:Scope} {pos:Pos} {f:aI->Expr->E} : ∀ (r:List Comprehension) (depth:Nat) (F:aD) (c:aI) (G':Gs) (cz:aI),(∀ i,gens[depth+1+i]?=r[i]?)->F.Ok->F.ctx c->
  nC f c r=some (G',cz)->(∀ (F':aD) (c':aI) (e':Expr),F'.Ok->F'.ctx c'->F'.stack=F.stack->F'.env=F.env->az V F' A cl (f c' e') e')->∀ acc m C g s,ah V F m C g s->dw V g D acc->
  lV V F D (kD V.M A elt gens scope pos depth (.ref D) F.env) g s (dM V.P cl (λst=>ev V.P cl (f cz elt) st) G' acc ⟨m,C⟩)
 |[],depth,F,c,G',cz,hr,K,hc,hG,hE,acc,m,C,g,s,I,ha=>by
  cases hG
  exact ON (by have:=hr 0; simpa using this) (hE F c elt K hc rfl rfl) I ha
 |⟨t,it,ifs,a⟩::r,depth,F,c,G',cz,hr,K,hc,hG,hE,acc,m,C,g,s,I,ha=>by
  unfold nC at hG
  induction hx:oJ t with
  |none=>rw [hx] at hG; exact ao hG
  |some xs=>
   rw [hx] at hG
   dsimp only at hG
   split at hG
   ·rename_i hb
    simp only [and_eq_true,not_eq_true'] at hb
    obtain ⟨⟨nT,ia⟩,kX⟩:=hb
    have vM:a=0:=eq_of_beq nT
    subst vM
    obtain ⟨⟨G2,uY⟩,vH,Jn⟩:=cf hG
    cases Jn
    have iZ:gens[depth+1]?=some ⟨t,it,ifs,0⟩:=by have:=hr 0; simpa using this
    have i4:=A6 hc kX
    obtain ⟨hT,hw⟩:=E2 hc hx kX
    have mi:=AW hc xs
    have ih:=zT B hh (D:=D) (elt:=elt) (gens:=gens) (scope:=scope) (pos:=pos) (f:=f) r (depth+1) (F.ext xs) (dY c xs) G2 uY (λi=>by have:=hr (i+1); rw [show depth+1+1+i=depth+1+(i+1) from by omega]; simpa using this)
     (pB K i4) mi vH (λF' c' e' k1 k2 k3 k4=>hE F' c' e' k1 k2 k3 k4)
    show lV V F D _ g s ((ev V.P cl (f c it) ⟨m,C⟩).bind λy aa=>match bF aa.C y with
     |some items=>cI (kj xs (jx t) c.base) (bD (λae=>ck V.P cl (bq (f (dY c xs)) ifs) ae) (λacc ae=>dM V.P cl (λst=>ev V.P cl (f uY elt) st) G2 acc ae)) (λC C'=>aY C C' y) items acc aa
     |none=>.fail)
    have hs:=(hE F c it K hc rfl rfl m C g s I).1
    induction ho:ev V.P cl (f c it) ⟨m,C⟩ with
    |fail=>trivial
    |exc _ _=>trivial
    |ok y aa=>
     rw [ho] at hs
     dsimp only [ak.bind]
     induction hi:bF aa.C y with
     |none=>trivial
     |some items=>
      dsimp only
      induction hl:cI (kj xs (jx t) c.base) (bD (λae=>ck V.P cl (bq (f (dY c xs)) ifs) ae) (λacc ae=>dM V.P cl (λst=>ev V.P cl (f uY elt) st) G2 acc ae)) (λC C'=>aY C C' y) items acc aa with
      |fail=>trivial
      |exc _ _=>trivial
      |ok dd aB=>
       cases dd<;>first|trivial|skip
       rename_i ds
       intro Q E q
       unfold kD
       rw [iZ]
       dsimp only
       refine hs _ _ λg1 v s1 q1 I1 ry=>⟨rfl,r6 ia v,?_⟩
       have bU:=I1.eY
       have jm:=ha.step q1
       have iS:D≠s1.heap.objs.size:=λz=>by
        obtain ⟨vs,k,hD,_⟩:=jm
        rw [z,bU] at hD; exact ao hD
       refine tQ B I1 ry hi λo h' jq u' I2=>?_
       have hL:g1.Le (g1.put s1.heap.objs.size (some (.ax o))):=Gh.gf _ bU
       have jT:(g1.put s1.heap.objs.size (some (.ax o))) s1.heap.objs.size=some (.ax o):=Gh.bh ..
       have vN:dw V (g1.put s1.heap.objs.size (some (.ax o))) D acc:=jm.mono hL λo' h=>by rw [Gh.aW _ _ iS]; exact h
       refine zP iZ (zU hh K iS iZ mi i4 hT hw (f:=f (dY c xs)) (λe u'=>hE (F.ext xs) (dY c xs) e (pB K i4) mi rfl rfl) ih bU (Gh.Off.put (.inl rfl) g1 _) jT (jq.mono hL) hi vN I2 hl λg' s' b' sh I'=>?_) (En I2 jT (jq.mono hL) ⟨rfl,rfl⟩)
       exact q g' s' ((q1.but D).trans b') sh I'
   ·exact ao hG
variable {F:aD} {m:List (Option Mine.Lake.D)} {C:ai} {g:Gh} {s:Shared}
set_option tactic.hygienic true in
theorem Hi (B:V.Base) (hh:A.handled=none) (K:F.Ok) {c:aI} (hc:F.ctx c) {elt:Expr} {t it:Expr} {ifs:List Expr} {r:List Comprehension} {sc:Scope} {pos:Pos} {f:aI->Expr->E} (ok:gW c sc) {xs:List Str} (hx:oJ t=some xs) (hf:jP (cP c sc) xs=true)
  {G':Gs} {cz:aI} (hG:nC f (dY (cP c sc) xs) r=some (G',cz))
  (hE : ∀ (F':aD) (c':aI) (e':Expr),F'.Ok->F'.ctx c'->F'.stack=F.stack->F'.env.frame=F.env.frame->az V F' A cl (f c' e') e')
  (I:ah V F m C g s) {y:Mine.Lake.D} {v:Value} (ry:af V g y v) {items:List Mine.Lake.D} (hi:bF C y=some items) {ds:List Mine.Lake.D} {aB:St}
  (hl:cI (kj xs (jx t) (cP c sc).base) (bD (λae=>ck V.P cl (bq (f (dY (cP c sc) xs)) ifs) ae) (λacc ae=>dM V.P cl (λst=>ev V.P cl (f cz elt) st) G' acc ae)) (λC C'=>aY C C' y) items [] ⟨m,C⟩=.ok (.lst ds) aB)
  {RR:Value->Addr->Result->Shared->Prop} {E:Value->Shared->Prop}
  (q : ∀ g' s' a vs k L M,g.Step g'->g' a=none->V.h₀.get? a=none->s'.heap.get? a=some (bG vs k)->aG V g' ds vs->vs.length<=aF->ah V F m aB.C g' s'->g' L=none->V.h₀.get? L=none->a≠L->s'.heap.Ns L M->RR (.ref a) L (.ok .next) s') :
  wpAny V.M A (pyIter v) (λwR s₂=>wpAny V.M A (newList []) (λacc s₃=>wpAny V.M A (newFunctionEnv sc F.env.globals (ej F.env.cells sc.names []) [] F.env.qual none .none (some F.env)) (λo7 s₄=>
   codeAny V.M A (.compStart (.ListComp elt (⟨t,it,ifs,0⟩::r) sc pos) 0 wR acc {o7 with scope:=relabel sc F.env}) (RR acc o7.locals) s₄) E s₃) E s₂) E s:=by
 have bU:=I.eY
 refine tQ B I ry hi λo h2 jq sD I2=>?_
 refine wpAny_newObj_type ?_
 have vD:(g.put s.heap.objs.size (some (.ax o))) h2.objs.size=none:=I2.eY
 have I3:=I2.more (t:=s.toks) (a:=h2.objs.size) (o:=bG [] 0) (x:=.ax (bG [] 0)) (h':=h2.push (bG [] 0)) (λu' u' h=>Heap.get?_push_of_some _ h) (Heap.get?_none_of_le (le_refl _)) (Heap.get?_push_size _ rfl) (.inr rfl)
 have iS:h2.objs.size≠s.heap.objs.size:=λz=>by
  rw [z,Gh.bh] at vD; cases vD
 have wc:g.Le (g.put s.heap.objs.size (some (.ax o))):=Gh.gf _ bU
 have mw:(g.put s.heap.objs.size (some (.ax o))).Le ((g.put s.heap.objs.size (some (.ax o))).put h2.objs.size (some (.ax (bG [] 0)))):=Gh.gf _ vD
 have L8 : ∀ b o,s.heap.get? b=some o->(h2.push (bG [] 0)).get? b=some o:=λb o' e=>Heap.get?_push_of_some _ (sD b o' e)
 generalize jT:(g.put s.heap.objs.size (some (.ax o))).put h2.objs.size (some (.ax (bG [] 0)))=g3 at I3 mw
 have Bk:g3 s.heap.objs.size=some (.ax o):=by rw [<-jT,Gh.aW _ _ iS.symm]; exact Gh.bh ..
 have se:g3 h2.objs.size=some (.ax (bG [] 0)):=by rw [<-jT]; exact Gh.bh ..
 have IQ : ∀ a,a≠s.heap.objs.size->a≠h2.objs.size->g3 a=g a:=λa h1 h3=>by rw [<-jT,Gh.aW _ _ h3,Gh.aW _ _ h1]
 generalize R8:s.heap.objs.size=fH at *
 generalize iR:h2.objs.size=D at *
 refine M8 ?_
 have I4:=Hk I3 K hc ok
 generalize sP:({s with heap:=h2.push (bG [] 0)}:Shared)=s3 at *
 have KV:s3.heap=h2.push (bG [] 0):=by rw [<-sP]
 have s9 : ∀ b o,s.heap.get? b=some o->s3.heap.get? b=some o:=λb o' e=>by rw [KV]; exact L8 b o' e
 have nQ:iA s3 {s3 with heap:=pushCells (s3.heap.push {cls:=.type "dict",data:=.dict #[]}) sc.names} (bj s3.heap.objs.size sc.names):=Bh s3.heap _ sc.names rfl rfl rfl
 have xO:=mT I3 nQ
 have Jv:iA s {s3 with heap:=pushCells (s3.heap.push {cls:=.type "dict",data:=.dict #[]}) sc.names} (bj s3.heap.objs.size sc.names):=⟨λa x h=>(by
   have:=nQ.new a x h
   induction q':s.heap.get? a with
   |none=>rfl
   |some o'=>rw [s9 a o' q'] at this; cases this),nQ.there,nQ.kind⟩
 have QN:=mT I Jv
 have Ju:bj s3.heap.objs.size sc.names fH=none:=nQ.none I3 Bk
 have Js:bj s3.heap.objs.size sc.names D=none:=nQ.none I3 se
 have IV:Gh.over (bj s3.heap.objs.size sc.names) (g.bk s.heap) fH=none:=by unfold Gh.over; rw [Ju]; exact Gh.xG bU
 have gD:g D=none:=by
  induction q':g D with
  |none=>rfl
  |some x=>obtain ⟨o',dm⟩:=I.live D x q'; have:=sD D o' dm; rw [<-iR,Heap.get?_none_of_le (le_refl _)] at this; cases this
 have IU:Gh.over (bj s3.heap.objs.size sc.names) (g.bk s.heap) D=none:=by unfold Gh.over; rw [Js]; exact Gh.xG gD
 have same : ∀ a,¬ (a=fH\/a=D)->Gh.over (bj s3.heap.objs.size sc.names) (g3.bk s3.heap) a=Gh.over (bj s3.heap.objs.size sc.names) (g.bk s.heap) a:=λa ha=>by
  have h1:=IQ a (λz=>ha (.inl z)) (λz=>ha (.inr z))
  unfold Gh.over Gh.bk
  rw [h1]
  induction bj s3.heap.objs.size sc.names a with
  |some x=>rfl
  |none=>
   dsimp only
   split
   ·rename_i hq; obtain ⟨o',dm⟩:=I.live a _ hq; rw [dm,s9 a o' dm]
   ·rename_i hq; obtain ⟨o',dm⟩:=I.live a _ hq; rw [dm,s9 a o' dm]
   ·rfl
 have pV:Gh.Off (λa=>a=fH\/a=D) (Gh.over (bj s3.heap.objs.size sc.names) (g.bk s.heap)) (Gh.over (bj s3.heap.objs.size sc.names) (g3.bk s3.heap)):=
  ⟨λa o h e=>by rw [same a h]; exact e,λa o h e=>by rw [same a h]; exact e,λa o h=>by rw [same a h]⟩
 have Bw:g.Le (Gh.over (bj s3.heap.objs.size sc.names) (g3.bk s3.heap)):=wc.trans (mw.trans (Gh.tf.trans xO.toLe))
 have Bl:=(xO.ax _ _).mp (Gh.lM (h:=s3.heap) Bk)
 have IS:=(xO.ax _ _).mp (Gh.lM (h:=s3.heap) se)
 have vU:(F.comp sc s3.heap.objs.size).ctx (cP c sc):=by
  obtain ⟨c1,c2,c3⟩:=hc
  exact ⟨rfl,by show c.slots.filter _=F.slots.filter _; rw [c2],c3⟩
 have Kc:=Hm (L:=s3.heap.objs.size) K hc ok
 have i4:=A6 vU hf
 obtain ⟨hT,hw⟩:=E2 vU hx hf
 have mi:=AW vU xs
 have gL:g s3.heap.objs.size=none:=by
  induction q':g s3.heap.objs.size with
  |none=>rfl
  |some x=>obtain ⟨o',dm⟩:=I.live _ x q'; have:=s9 _ o' dm; rw [Heap.get?_none_of_le (le_refl _)] at this; cases this
 have Bs:D≠s3.heap.objs.size:=λz=>by
  obtain ⟨o',dm⟩:=I3.live _ _ se
  rw [z,Heap.get?_none_of_le (le_refl _)] at dm; cases dm
 subst sP
 refine zP (env:=(F.comp sc _).env) rfl (zU hh Kc (Ne.symm (λz=>iS z.symm)) rfl mi i4 hT hw (f:=f (dY (cP c sc) xs)) (λe u'=>hE _ _ e (pB Kc i4) mi rfl rfl)
  (zT B hh (elt:=elt) (gens:=⟨t,it,ifs,0⟩::r) (scope:=sc) (pos:=pos) (f:=f) r 0 _ _ G' cz (λi=>by rw [show 0+1+i=i+1 from by omega]; rfl) (pB Kc i4) mi hG (λF' c' e' k1 k2 k3 k4=>hE F' c' e' k1 k2 k3 (by rw [k4]; rfl)))
  IV pV Bl (jq.mono Bw) hi ⟨[],0,IS,.nil,zero_le _⟩ I4 hl λg5 s5 b5 mf I5=>?_) (En I4 Bl (jq.mono Bw) ⟨rfl,rfl⟩)
 obtain ⟨vs,k,vB,rs,nY⟩:=mf
 obtain ⟨M5,Jr,_⟩:=I5.fr.loc
 have I6:=I5.qv vB i7
 have xR:=QN.trans (b5.drop IU)
 have I7:=I.leave xR I6
 have L7:=tM I xR
 have Jq:(g.dW (g5.put D none)) ({s with heap:=h2.push (bG [] 0)}:Shared).heap.objs.size=none:=by
  rw [Gh.qx (by rw [gL]; simp) (by rw [gL]; simp),Gh.aW _ _ Bs.symm]
  have:g5 ({s with heap:=h2.push (bG [] 0)}:Shared).heap.objs.size=some .locals:=I5.fr.here
  rw [this]
 have kU:(g.dW (g5.put D none)) D=none:=by
  rw [Gh.qx (by rw [gD]; simp) (by rw [gD]; simp),Gh.bh]
 have Jd:V.h₀.get? ({s with heap:=h2.push (bG [] 0)}:Shared).heap.objs.size=none:=I3.sf (Heap.get?_none_of_le (le_refl _))
 have Jc:V.h₀.get? D=none:=I3.new _ _ se
 exact q _ _ D vs k _ M5 (tN I xR) kU Jc (I5.lF vB i7) (rs.mono ((te vB none).trans L7)) nY I7 Jq Jd Bs Jr
end
section
variable {V:av} {A:Around} {cl:Calls} {F:aD} {m:List (Option Mine.Lake.D)} {C:ai} {g:Gh} {s:Shared}
set_option tactic.hygienic true in
theorem ah.yF (I:ah V F m C g s) {a:Addr} {o:Obj} {c:Ch} (hg:g a=none) (hn:V.h₀.get? a=none) (ho:s.heap.get? a=some o) (hc:kA V (g.put a (some (.cell C.length))) c o) :
  ah V F m (C++[c]) (g.put a (some (.cell C.length))) s:=by
 have L:g.Le (g.put a (some (.cell C.length))):=Gh.gf _ hg
 have other : ∀ {b y},g b=some y->g.put a (some (.cell C.length)) b=some y:=λ{b y} e=>by
  rw [Gh.aW]; exact e; intro q; subst q; rw [hg] at e; exact ao e
 refine ⟨I.keep,λb y e=>?_,λb y e=>?_,λb o' e=>?_,λb o' e=>?_,λi c' e=>?_,λb c' i e e'=>?_,λb i e=>?_,?_,I.gens,I.os⟩
 ·rcases Gh.bz e with ⟨rfl,_⟩|⟨_,q⟩
  ·exact hn
  ·exact I.new b y q
 ·rcases Gh.bz e with ⟨rfl,_⟩|⟨_,q⟩
  ·exact ⟨o,ho⟩
  ·exact I.live b y q
 ·rcases Gh.bz e with ⟨rfl,q⟩|⟨_,q⟩
  ·cases q
  ·exact I.ay b o' q
 ·rcases Gh.bz e with ⟨rfl,q⟩|⟨_,q⟩
  ·cases q
  ·exact I.ax b o' q
 ·rw [List.getElem?_append] at e
  split at e
  ·obtain ⟨b,o',h1,h2,h3⟩:=I.cell i c' e
   exact ⟨b,o',other h1,h2,h3.mono L⟩
  ·rename_i hi
   have pO:i=C.length:=by
    induction hq:i - C.length using Nat.casesOn with
    |zero=>exact Nat.le_antisymm (Nat.le_of_sub_eq_zero hq) (not_lt.mp hi)
    |succ n=>rw [hq] at e; simp at e
   subst pO
   simp at e
   subst e
   exact ⟨a,o,Gh.bh ..,ho,hc⟩
 ·rcases Gh.bz e with ⟨rfl,q⟩|⟨_,q⟩
  ·cases q
   rcases Gh.bz e' with ⟨rfl,_⟩|⟨_,q'⟩
   ·rfl
   ·exact absurd (I.c4 _ _ q') (lt_irrefl _)
  ·rcases Gh.bz e' with ⟨rfl,q'⟩|⟨_,q'⟩
   ·cases q'; exact absurd (I.c4 _ _ q) (lt_irrefl _)
   ·exact I.uniq b c' i q q'
 ·rw [length_append]
  rcases Gh.bz e with ⟨rfl,q⟩|⟨_,q⟩
  ·cases q; simp
  ·exact lt_of_lt_of_le (I.c4 b i q) (le_add_right ..)
 ·exact I.fr.mono L (λc e=>other e) (λc y e=>other e) (λc o e=>other e)
noncomputable def nO (V:av) (F:aD) (A:Around) (cl:Calls) (f:aI->Expr->E):Prop := ∀ (F':aD) (c':aI) (e':Expr),F'.Ok->F'.ctx c'->F'.stack=F.stack->F'.env.frame=F.env.frame->az V F' A cl (f c' e') e'
noncomputable def CH (V:av) (F:aD) (A:Around) (elt:Expr) (gens:List Comprehension) (sc:Scope) (pos:Pos) (RR:Value->Addr->Result->Shared->Prop) (E:Value->Shared->Prop) (s:Shared):Prop:=match gens with
 |[]=>True
 |⟨t,it,ifs,a⟩::r=>a=0/\lu it=false/\wpAny V.M A (eval it F.env) (λv s₁=>wpAny V.M A (pyIter v) (λwR s₂=>wpAny V.M A (newList []) (λacc s₃=>wpAny V.M A (newFunctionEnv sc F.env.globals (ej F.env.cells sc.names []) [] F.env.qual none .none (some F.env)) (λo7 s₄=>
   codeAny V.M A (.compStart (.ListComp elt (⟨t,it,ifs,0⟩::r) sc pos) 0 wR acc {o7 with scope:=relabel sc F.env}) (RR acc o7.locals) s₄) E s₃) E s₂) E s₁) E s
noncomputable def yh (V:av) (F:aD) (g:Gh) (s:Shared) (W:(Value->Addr->Result->Shared->Prop)->(Value->Shared->Prop)->Prop):ak Mine.Lake.D->Prop
 |.ok d st => ∃ ds,d=.lst ds/\∀ RR E,(∀ g' s' a vs k L M,g.Step g'->g' a=none->V.h₀.get? a=none->s'.heap.get? a=some (bG vs k)->aG V g' ds vs->vs.length<=aF->ah V F st.m st.C g' s'->g' L=none->V.h₀.get? L=none->a≠L->s'.heap.Ns L M->RR (.ref a) L (.ok .next) s')->W RR E
 |.exc x st => ∀ RR E,(∀ g' e s',g.Step g'->dG V F x st g' e s'->E e s')->W RR E
 |.fail=>True
set_option tactic.hygienic true in
theorem xy (B:V.Base) (et:cl.fuel≠0->A.handled=none) (K:F.Ok) {c:aI} (hc:F.ctx c) {elt:Expr} {gens:List Comprehension} {sc:Scope} {pos:Pos} {f:aI->Expr->E} (ok:gW c sc) (hE:nO V F A cl f) (I:ah V F m C g s) :
  yh V F g s (λRR E=>gens≠[]/\CH V F A elt gens sc pos RR E s) (ev V.P cl (eJ f (cP c sc) c elt gens) ⟨m,C⟩):=by
 induction gens using List.casesOn with
 |nil=>trivial
 |cons g0 r=>
  obtain ⟨t,it,ifs,a⟩:=g0
  unfold eJ
  dsimp only
  induction hx:oJ t with
  |none=>trivial
  |some xs=>
   dsimp only
   split
   ·rename_i hb
    simp only [and_eq_true,not_eq_true'] at hb
    obtain ⟨⟨nT,ia⟩,kX⟩:=hb
    have vM:a=0:=eq_of_beq nT
    subst vM
    induction hG:nC f (dY (cP c sc) xs) r with
    |none=>trivial
    |some p=>
     obtain ⟨G',cz⟩:=p
     dsimp only
     show yh _ _ _ _ _ (if cl.fuel==0 then .fail else (ev V.P cl (f c it) ⟨m,C⟩).bind λy aa=>match bF aa.C y with
      |some items=>(match cI (kj xs (jx t) (cP c sc).base) (bD (λae=>ck V.P cl (bq (f (dY (cP c sc) xs)) ifs) ae) (λacc ae=>dM V.P cl (λaH=>ev V.P cl (f cz elt) aH) G' acc ae)) (λC C'=>aY C C' y) items [] aa with
       |.ok (.lst ds) ae=>.ok (.lst ds) ⟨aa.m,ae.C⟩
       |_=>.fail)
      |none=>.fail)
     split
     ·trivial
     rename_i hf
     have hh:A.handled=none:=et λz=>hf (by rw [z]; rfl)
     have hs:=(hE F c it K hc rfl rfl m C g s I).1
     induction ho:ev V.P cl (f c it) ⟨m,C⟩ with
     |fail=>trivial
     |exc x aa=>
      rw [ho] at hs
      exact λRR E q=>⟨by simp,rfl,ia,hs _ _ λg' e s' q1 hx=>q g' e s' q1 hx⟩
     |ok y aa=>
      rw [ho] at hs
      dsimp only [ak.bind]
      induction hi:bF aa.C y with
      |none=>trivial
      |some items=>
       dsimp only
       induction hl:cI (kj xs (jx t) (cP c sc).base) (bD (λae=>ck V.P cl (bq (f (dY (cP c sc) xs)) ifs) ae) (λacc ae=>dM V.P cl (λaH=>ev V.P cl (f cz elt) aH) G' acc ae)) (λC C'=>aY C C' y) items [] aa with
       |fail=>trivial
       |exc _ _=>trivial
       |ok dd ae=>
        induction dd using D.casesOn<;>first|trivial|skip
        rename_i ds
        refine ⟨ds,rfl,λRR E q=>⟨by simp,rfl,ia,hs _ _ λg1 v s1 q1 I1 ry=>?_⟩⟩
        exact Hi (f:=f) (cz:=cz) B hh K hc ok hx kX hG hE I1 ry hi hl λg' s' a vs k L M q2 h1 h2 h3 h4 h5 h6 h7 h8 h9 er=>q g' s' a vs k L M (q1.trans q2) h1 h2 h3 h4 h5 h6 h7 h8 h9 er
   ·trivial
theorem CH.toEval (K:F.Ok) {c:aI} (hc:F.ctx c) {elt:Expr} {gens:List Comprehension} {sc:Scope} {pos:Pos} (ok:gW c sc) {Q:Value->Shared->Prop} {E:Value->Shared->Prop}
  (h:gens≠[]/\CH V F A elt gens sc pos (compPost V.M A E none Q) E s):wpAny V.M A (eval (.ListComp elt gens sc pos) F.env) Q E s:=by
 induction gens using List.casesOn with
 |nil=>exact absurd rfl h.1
 |cons g0 r=>
  obtain ⟨t,it,ifs,a⟩:=g0
  obtain ⟨_,rfl,ia,z⟩:=h
  rw [eval_ListComp]
  exact wpAny_comprehension_free (use:=none) rfl (r6 ia) (zS K hc ok) ok.fn (λx hx hl=>i9 ok.nodup (by rw [<-hl]; exact hx)) z
theorem EM (B:V.Base) (et:cl.fuel≠0->A.handled=none) (K:F.Ok) {c:aI} (hc:F.ctx c) {elt:Expr} {gens:List Comprehension} {sc:Scope} {pos:Pos} {f:aI->Expr->E} (ok:gW c sc) (hE:nO V F A cl f) :
  az V F A cl (eJ f (cP c sc) c elt gens) (.ListComp elt gens sc pos):=.of rfl λm C g s I=>by
 have h:=xy (A:=A) (cl:=cl) (pos:=pos) B et K hc (elt:=elt) (gens:=gens) ok hE I
 induction ho:ev V.P cl (eJ f (cP c sc) c elt gens) ⟨m,C⟩ with
 |fail=>trivial
 |exc x st=>rw [ho] at h; exact λQ E q=>CH.toEval K hc ok (h _ _ q)
 |ok d st=>
  rw [ho] at h
  obtain ⟨ds,rfl,h⟩:=h
  intro Q E q
  refine CH.toEval K hc ok (h _ _ λg' s' a vs k L M q1 h1 h2 h3 rs hl I' h4 h5 h6 h7=>⟨M,h7,λh' hs=>?_⟩)
  have I2:=I'.away (t:=s'.toks) h4 h5 hs
  have ae:g'.Step (g'.put a (some (.ay (bG vs k)))):=Gh.kr h1
  exact q _ _ _ (q1.trans ae) (I2.adopt h1 h2 ((hs.2 a h6).trans h3)) (.lst (Gh.bh ..) ⟨hl,k,rfl⟩ (rs.mono ae.toLe))
theorem Bg {f:aI->Expr->E} {ci c:aI} {elt:Expr} {gens:List Comprehension}:eJ f ci c elt gens=.bad\/cD (eJ f ci c elt gens)=true:=by
 unfold eJ
 split
 ·exact .inl rfl
 ·split
  ·split
   ·split
    ·exact .inr rfl
    ·exact .inl rfl
   ·exact .inl rfl
  ·exact .inl rfl
theorem EL (B:V.Base) (et:cl.fuel≠0->A.handled=none) (K:F.Ok) {c:aI} (hc:F.ctx c) {elt:Expr} {gens:List Comprehension} {sc:Scope} {pos:Pos} {f:aI->Expr->E} (ok:gW c sc) (hE:nO V F A cl f) :
  da V F A cl (eJ f (cP c sc) c elt gens) (.ListComp elt gens sc pos):=λm C g s I=>by
 rcases Bg (f:=f) (ci:=cP c sc) (c:=c) (elt:=elt) (gens:=gens) with e|e
 ·rw [e]; trivial
 rw [e]
 have h:=xy (A:=A) (cl:=cl) (pos:=pos) B et K hc (elt:=elt) (gens:=gens) ok hE I
 induction ho:ev V.P cl (eJ f (cP c sc) c elt gens) ⟨m,C⟩ with
 |fail=>trivial
 |exc x st=>rw [ho] at h; exact λQ E q=>CH.toEval K hc ok (h _ _ q)
 |ok d st=>
  rw [ho] at h
  obtain ⟨ds,rfl,h⟩:=h
  intro Q E q
  refine CH.toEval K hc ok (h _ _ λg' s' a vs k L M q1 h1 h2 h3 rs hl I' h4 h5 h6 h7=>⟨M,h7,λh' hs=>?_⟩)
  have I2:=I'.away (t:=s'.toks) h4 h5 hs
  have ae:g'.Step (g'.put a (some (.cell st.C.length))):=Gh.qH h1
  have hlen:=rs.length
  exact q _ _ _ (q1.trans ae) (I2.yF (c:=.list ds) h1 h2 ((hs.2 a h6).trans h3) ⟨vs,⟨hl,k,rfl⟩,rs.mono ae.toLe⟩) (.loc (Gh.bh ..))
theorem Q3 {elt:Expr} {gens:List Comprehension} {sc:Scope} {pos xp:Pos} {x:Str} {n:Nat} {env:Env}:swapsWith (.ListComp elt gens sc pos) (some (.Name x xp)) n env=pure false\/(swapsWith (.ListComp elt gens sc pos) (some (.Name x xp)) n env=pure true/\env.kindOf x=some .local):=by
 unfold swapsWith
 dsimp only
 induction h:(env.blockKind==.function&&env.kindOf x==some .local&&xp.line==(Expr.ListComp elt gens sc pos).pos.line&&!(sc.names.any λ(n,k)=>n==x&&(k==.local||k==.cell))) with
 |false=>exact .inl rfl
 |true=>
  refine .inr ⟨rfl,?_⟩
  simp only [and_eq_true] at h
  exact eq_of_beq h.1.1.2
theorem CH.toUsed (K:F.Ok) {c:aI} (hc:F.ctx c) {elt:Expr} {gens:List Comprehension} {sc:Scope} {pos xp p:Pos} {x:Str} (ok:gW c sc) {Q:Flow->Shared->Prop} {E:Value->Shared->Prop} (lj:swapsWith (.ListComp elt gens sc pos) (some (.Name x xp)) p.line F.env=pure true)
  (h:gens≠[]/\CH V F A elt gens sc pos (compPost V.M A E (some (assign (.Name x xp) F.env)) (λu' s'=>Q .next s')) E s):wpAny V.M A (exec (.Assign [.Name x xp] (.ListComp elt gens sc pos) p) F.env) Q E s:=by
 induction gens using List.casesOn with
 |nil=>exact absurd rfl h.1
 |cons g0 r=>
  obtain ⟨t,it,ifs,a⟩:=g0
  obtain ⟨_,rfl,ia,z⟩:=h
  rw [exec_Assign_Name_used _ _ _ _ lj]
  refine wpAny_bind (wpAny_standAt (wpAny_bind ?_))
  show wpAny _ A (do let _ <-comprehension (.ListComp elt (⟨t,it,ifs,0⟩::r) sc pos) sc F.env _ (newList []) false (eval it F.env) (some (assign (.Name x xp) F.env))) _ _ s
  exact wpAny_bind (wpAny_mono (wpAny_comprehension_free (use:=some (assign (.Name x xp) F.env)) (Q:=λu' s'=>Q .next s') rfl (r6 ia) (zS K hc ok) ok.fn (λx hx hl=>i9 ok.nodup (by rw [<-hl]; exact hx)) z) (λu' s' hq=>wpAny_pure (wpAny_pure hq)) λu' u' e=>e)
set_option tactic.hygienic true in
theorem PS (B:V.Base) (et:cl.fuel≠0->A.handled=none) (K:F.Ok) {c:aI} (hc:F.ctx c) {x:Str} {xp p:Pos} {k:Nat} (hk:cZ c x=some k) {mu:Bool} {elt:Expr} {gens:List Comprehension} {sc:Scope} {pos:Pos} {f:aI->Expr->E} (ok:gW c sc) (hE:nO V F A cl f) :
  aJ V F A cl (.aL k mu (eJ f (cP c sc) c elt gens)) (.Assign [.Name x xp] (.ListComp elt gens sc pos) p):=λm C g s I=>by
 rcases Q3 (elt:=elt) (gens:=gens) (sc:=sc) (pos:=pos) (xp:=xp) (x:=x) (n:=p.line) (env:=F.env) with lj|⟨lj,wh⟩
 ·refine aj.seq (tR (mu:=mu) (EM B et K hc ok hE) (EL B et K hc ok hE) I) (λQ E x=>wpAny_Assign_Name x lj) λd st g₁ s₁ v u' u' I₁ r=>?_
  exact aj.seq (lJ (A:=A) K I₁ hc hk r) (λu' u' x=>x) (K:=λu' Q E s=>Q .next s) λu' u' g₂ s₂ u' u' u' I₂ u'=>λQ E q=>q _ _ _ (.refl _) I₂ .next
 ·show aj _ _ (cG V) _ _ _ (((ev V.P cl (eJ f (cP c sc) c elt gens) ⟨m,C⟩).bind λx aa=>fT (mu&&cD (eJ f (cP c sc) c elt gens)) x aa).bind λd ae=>(dE k d ae).bind λu' aH=>(ak.ok Fl.next aH:ak Fl))
  rcases Bg (f:=f) (ci:=cP c sc) (c:=c) (elt:=elt) (gens:=gens) with e|e
  ·rw [e]; trivial
  rw [e,Bool.and_true]
  have h:=xy (A:=A) (cl:=cl) (pos:=pos) B et K hc (elt:=elt) (gens:=gens) ok hE I
  have vG:F.names.lookup x=some .local:=by
   unfold cZ at hk
   rw [hc.1] at hk
   induction hx:F.names.lookup x with
   |none=>rw [hx] at hk; exact ao hk
   |some kd=>
    rw [hx] at hk
    induction kd using NameKind.casesOn<;>first|rfl|exact ao hk|skip
    have:=K.kinds x _ hx
    have this:F.env.kindOf x=some .cell:=this
    rw [wh] at this; cases this
  have vF:F.slots.lookup x=some k:=by
   unfold cZ at hk
   rw [hc.1,vG] at hk; rw [<-hc.2.1]; exact hk
  induction ho:ev V.P cl (eJ f (cP c sc) c elt gens) ⟨m,C⟩ with
  |fail=>trivial
  |exc x st=>rw [ho] at h; exact λQ E q=>CH.toUsed K hc ok lj (h _ _ q)
  |ok d st=>
   rw [ho] at h
   obtain ⟨ds,rfl,h⟩:=h
   have fin : ∀ (d':Mine.Lake.D) (aB:St),aB.m=st.m->(∀ g' s' a vs k,g' a=none->V.h₀.get? a=none->s'.heap.get? a=some (bG vs k)->aG V g' ds vs->vs.length<=aF->ah V F st.m st.C g' s'->∃ g2,g'.Step g2/\(∀ L,L≠a->g2 L=g' L)/\ah V F aB.m aB.C g2 s'/\af V g2 d' (.ref a))->
     aj V F (cG V) (wpAny V.M A (exec (.Assign [.Name x xp] (.ListComp elt gens sc pos) p) F.env)) g s ((dE k d' aB).bind λu' aH=>(ak.ok Fl.next aH:ak Fl)):=by
    intro d' aB hm dB
    unfold dE
    split
    ·intro Q E q
     refine CH.toUsed K hc ok lj (h _ _ λg' s' a vs kk L M q1 h1 h2 h3 rs hl I' h4 h5 h6 h7=>?_)
     obtain ⟨g2,q2,KW,I2,r2⟩:=dB g' s' a vs kk h1 h2 h3 rs hl I'
     obtain ⟨Mf,Bx,hr⟩:=I2.fr.loc
     show wpAny _ _ (assign (.Name x xp) F.env (.ref a)) _ _ _
     refine wpAny_assign_Name (wpAny_storeName_local (K.kinds x _ vG) Bx (λh' hn hs=>?_) (by rw [K.fn]; rfl))
     have Jp:L≠F.env.locals:=λz=>by
      have:=I'.fr.here
      rw [z] at h4; rw [this] at h4; exact jE h4
     have I3:=I2.localSet (t:=s'.toks+1) K vG vF Bx hr hn hs r2
     refine ⟨M,h7.sameBut hs Jp,λR6 KS=>?_⟩
     have I4:=I3.away (t:=s'.toks+1) (T:=L) (by rw [KW L h6.symm]; exact h4) h5 KS
     exact q _ _ _ (q1.trans q2) I4 .next
    ·trivial
   induction mu with
   |false=>
    refine fin (.lst ds) st rfl λg' s' a vs k h1 h2 h3 rs hl I'=>?_
    have ae:g'.Step (g'.put a (some (.ay (bG vs k)))):=Gh.kr h1
    exact ⟨_,ae,λL hL=>Gh.aW _ _ hL,I'.adopt h1 h2 h3,.lst (Gh.bh ..) ⟨hl,k,rfl⟩ (rs.mono ae.toLe)⟩
   |true=>
    refine fin (.loc st.C.length) ⟨st.m,st.C++[.list ds]⟩ rfl λg' s' a vs k h1 h2 h3 rs hl I'=>?_
    have ae:g'.Step (g'.put a (some (.cell st.C.length))):=Gh.qH h1
    exact ⟨_,ae,λL hL=>Gh.aW _ _ hL,I'.yF (c:=.list ds) h1 h2 h3 ⟨vs,⟨hl,k,rfl⟩,rs.mono ae.toLe⟩,.loc (Gh.bh ..)⟩
theorem PR (B:V.Base) (aw:V.cN) {o:Expr} {attr:Str} {n:Nm} {ap p:Pos} (hn:cJ attr=some n) {mu:Bool} {a b:E} {e:Expr} (lj:swapsWith e (some (.Attribute o attr ap)) p.line F.env=pure false) (h:az V F A cl a e) (hC:da V F A cl a e) (ho:az V F A cl b o) :
  aJ V F A cl (.cH b n mu a) (.Assign [.Attribute o attr ap] e p):=λm C g s I=>by
 have e1:=lC hn
 subst e1
 refine aj.seq (tR (mu:=mu) h hC I) (λQ E x=>plainObj_wpAny_Assign_Attribute x lj) λd st g₁ s₁ v u' u' I₁ r=>?_
 refine aj.seq (ho _ _ _ _ I₁).1 (λu' u' x=>x) λy br g₂ s₂ ov u' q₂ I₂ ry=>?_
 exact aj.seq (xD (A:=A) B aw I₂ ry (r.mono q₂.toLe)) (λu' u' x=>x) (K:=λu' Q E s=>Q .next s) λu' u' g₃ s₃ u' u' u' I₃ u'=>λQ E q=>q _ _ _ (.refl _) I₃ .next
end
theorem CS {α:Type} : ∀ {ks:List Str} {vs:List α} {i:Nat} {k:Str} {v:α},ks.Nodup->ks[i]?=some k->vs[i]?=some v->(ks.zip vs).lookup k=some v
 |[],_,_,_,_,_,h,_=>by exact ao h
 |_::_,[],_,_,_,_,_,h=>by exact ao h
 |a::ks,b::vs,0,k,v,_,h1,h2=>by obtain rfl:=Option.some.inj h1; obtain rfl:=Option.some.inj h2; rw [List.zip_cons_cons,lookup_cons]; simp
 |a::ks,b::vs,i+1,k,v,hn,h1,h2=>by
  rw [nodup_cons] at hn
  have hm:k∈ks:=mem_of_getElem? (by simpa using h1)
  rw [List.zip_cons_cons,lookup_cons,beq_false_of_ne (λz:k=a=>hn.1 (by rw [<-z]; exact hm))]
  exact CS hn.2 (by simpa using h1) (by simpa using h2)
theorem qg {α:Type} {l:List (Str × α)} {k:Str} (h:k ∉ l.map (·.1)):l.lookup k=none:=
 wY λa z=>h (mem_map_of_mem (f:=Prod.fst) z)
theorem oO {α:Type} : ∀ (ks:List Str) (vs:List α),(ks.zip vs).map (·.1)=ks.take vs.length
 |[],_=>by simp
 |_::_,[]=>by simp
 |k::ks,v::vs=>by simp [oO ks vs]
theorem vh {α β:Type} {f:α->Option β} : ∀ {l:List α} {r:List β},l.length=r.length->(∀ (i:Nat) (a:α) (b:β),l[i]?=some a->r[i]?=some b->f a=some b)->l.filterMap f=r
 |[],[],_,_=>rfl
 |a::l,b::r,hl,h=>by
  rw [List.filterMap_cons,h 0 a b rfl rfl]
  exact congrArg (b :: ·) (vh (by simpa using hl) λi x y e1 e2=>h (i+1) x y e1 e2)
 |[],_::_,hl,_=>by cases hl
 |_::_,[],hl,_=>by cases hl
section
variable {M:Model} {A:Around} {E:Value->Shared->Prop} {s:Shared}
theorem vm {α β γ:Type} {l:List α} {body:α->β->Sem (ForInStep β)} {K:β->Sem γ} {b0 X:β} (F:List α->β) {Q:γ->Shared->Prop} (h0:b0=F l) (hX:F []=X)
  (step : ∀ x rest done,l=done++x::rest->∀ {Q'},Q' (.yield (F rest)) s->wpAny M A (body x (F (x::rest))) Q' E s) (k:wpAny M A (K X) Q E s):wpAny M A (forIn l b0 body >>= K) Q E s:=by
 subst h0 hX
 refine wpAny_bind (wpAny_forIn_list _ (λrest acc s'=>(∃ done,l=done++rest)/\acc=F rest/\s'=s) _ (λx rest acc s' hI=>?_) (λacc s' hI=>?_) l _ ⟨⟨[],rfl⟩,rfl,rfl⟩)
 ·obtain ⟨⟨done,e⟩,rfl,rfl⟩:=hI
  exact step x rest done e ⟨⟨done++[x],by rw [e,append_assoc]; rfl⟩,rfl,rfl⟩
 ·obtain ⟨_,rfl,rfl⟩:=hI
  exact k
theorem oI {α:Type} {l done rest:List α} (e:l=done++rest):l.take (l.length - rest.length)=done:=by
 rw [e,length_append,Nat.add_sub_cancel,take_left' rfl]
theorem uz {p d v:Nat} (h:p - v<=d):p - d<=v:=Nat.sub_le_iff_le_add.mpr (add_comm d v ▸ Nat.sub_le_iff_le_add.mp h)
theorem yI {p d v j:Nat} (h:p - v<=d) (hj:j<p - d):j<v:=lt_of_lt_of_le hj (uz h)
theorem FQ {p d:Nat} (h:d<=p):p - (p - d)<=d:=le_of_eq (Nat.sub_sub_self h)
theorem FR {p d v i:Nat} (h:p - v<=d) (h2:v<=i):p - d+(i - (p - d))=i:=Nat.add_sub_cancel' (le_trans (uz h) h2)
theorem FT {p d v:Nat} (hm:p - v<=d):p=min p (min p v+(d - (d - (p - v)))):=by
 rw [Nat.sub_sub_self hm]
 rcases Nat.le_total v p with h|h
 ·rw [Nat.min_eq_right h,Nat.add_sub_cancel' h,Nat.min_self]
 ·rw [Nat.min_eq_left h,Nat.sub_eq_zero_of_le h,Nat.add_zero,Nat.min_self]
theorem FU {p d v i:Nat} (hi:i<p) (hv : ¬ i<v) (h:d<=p) (hm:p - v<=d):d - (p - v)+(i - min p v)=i - (p - d):=by
 have hv:=le_of_not_lt hv
 have h1:=uz hm
 rw [Nat.min_eq_right (le_of_lt (lt_of_le_of_lt hv hi))]
 obtain ⟨e,rfl⟩:=Nat.exists_eq_add_of_le h
 rw [add_sub_cancel_left] at h1 ⊢
 obtain ⟨f,rfl⟩:=Nat.exists_eq_add_of_le h1
 obtain ⟨g,rfl⟩:=Nat.exists_eq_add_of_le hv
 rw [add_sub_cancel_left,add_assoc,add_sub_cancel_left,add_comm d,Nat.add_sub_add_left,Nat.sub_sub_self]
 exact Nat.le_of_add_le_add_left (le_of_lt (lt_of_le_of_lt (le_add_right _ g) (add_comm d e ▸ hi)))
section
variable {P NK:List Str} {vs dl:List Value} {aA:List (Str × Value)}
theorem Gj (gE:P.Nodup) {i:Nat} {k:Str} {v:Value} (h1:P[i]?=some k) (h2:vs[i]?=some v):(P.zip vs++aA).lookup k=some v:=j9 (CS gE h1 h2)
theorem Gl (gE:P.Nodup) (hk:aA.map (·.1)=NK) (iY : ∀ k∈NK,k ∉ P) {i:Nat} {k:Str} (h1:P[i]?=some k) (h2:vs.length<=i):(P.zip vs++aA).lookup k=none:=by
 refine qg λz=>?_
 rw [map_append,oO,mem_append] at z
 rcases z with z|z
 ·obtain ⟨j,hj⟩:=mem_iff_getElem?.mp z
  have BY:j<vs.length:=(lt_min.mp (length_take ▸ (List.getElem?_eq_some_iff.mp hj).1)).1
  rw [getElem?_take,if_pos BY] at hj
  exact not_lt.mpr h2 ((List.getElem?_inj (List.getElem?_eq_some_iff.mp h1).1 gE (j:=j)).mp (h1.trans hj.symm) ▸ BY)
 ·rw [hk] at z; exact iY _ z (mem_of_getElem? h1)
theorem Gm (hk:aA.map (·.1)=NK) (iY : ∀ k∈NK,k ∉ P) {k:Str} (ie:k∈NK):((P.zip vs++aA).lookup k).isSome=true:=by
 rw [mO (qg λz=>iY k ie (by rw [oO] at z; exact mem_of_mem_take z))]
 rw [<-hk] at ie
 obtain ⟨p,hp,rfl⟩:=mem_map.mp ie
 obtain ⟨b,hb⟩:=lA (x:=p.1) (a:=p.2) hp
 rw [hb]; rfl
theorem Gn (hd:dl.length<=P.length) (hm:P.length - vs.length<=dl.length) {S:List (Str × Value)} {i:Nat} {k:Str} {v:Value} (h1:P[i]?=some k) (h3:(vs.take P.length++dl.drop (dl.length - (P.length - vs.length)))[i]?=some v)
  (t1:vs[i]?=some v->S.lookup k=some v) (t2:vs.length<=i->dl[i - (P.length - dl.length)]?=some v->S.lookup k=some v):S.lookup k=some v:=by
 have hi:=(List.getElem?_eq_some_iff.mp h1).1
 by_cases sA:i<vs.length
 ·rw [List.getElem?_append_left (by rw [length_take]; exact lt_min.mpr ⟨hi,sA⟩),getElem?_take,if_pos hi] at h3
  exact t1 h3
 ·rw [getElem?_append_right (by rw [length_take]; exact le_trans (Nat.min_le_right _ _) (le_of_not_lt sA)),length_take,List.getElem?_drop,FU hi sA hd hm] at h3
  exact t2 (le_of_not_lt sA) h3
theorem Gp (hd:dl.length<=P.length) (hm:P.length - vs.length<=dl.length) (k8:NK.Nodup) (hk:aA.map (·.1)=NK) {S:List (Str × Value)}
  (t1 : ∀ (i:Nat) (k:Str) (v:Value),P[i]?=some k->vs[i]?=some v->S.lookup k=some v) (t2 : ∀ (i:Nat) (k:Str) (v:Value),P[i]?=some k->vs.length<=i->dl[i - (P.length - dl.length)]?=some v->S.lookup k=some v)
  (t3 : ∀ k∈NK,S.lookup k=aA.lookup k):(P++NK).filterMap (λn=>(S.lookup n).map λx=>(n,x))=P.zip (vs.take P.length++dl.drop (dl.length - (P.length - vs.length)))++aA:=by
 rw [List.filterMap_append]
 congr 1
 ·refine vh (by rw [List.length_zip,length_append,length_take,length_drop]; exact FT hm) λi k b h1 h2=>?_
  have h2:=List.getElem?_zip_eq_some.mp h2
  obtain rfl:=Option.some.inj (h1.symm.trans h2.1)
  rw [Gn hd hm h1 h2.2 (t1 i _ _ h1) (t2 i _ _ h1)]; rfl
 ·rw [<-hk,List.filterMap_map]
  refine vh rfl λi p b h1 h2=>?_
  obtain rfl:=Option.some.inj (h1.symm.trans h2)
  have my:p∈aA:=mem_of_getElem? h1
  show (S.lookup p.1).map _=some p
  rw [t3 p.1 (hk ▸ mem_map_of_mem my),i9 (a:=p.2) (hk ▸ k8) my]
  rfl
theorem Gq (k8:NK.Nodup) (hk:aA.map (·.1)=NK) (iY : ∀ k∈NK,k ∉ P) {x:Str × Value} {rest done:List (Str × Value)} (e1:aA=done++x::rest):x.1∈NK/\(P.zip vs++done).lookup x.1=none:=by
 rw [e1,map_append,map_cons] at hk
 have jr:x.1∈NK:=hk ▸ mem_append_right _ (.head _)
 refine ⟨jr,qg λz=>?_⟩
 rw [map_append,oO,mem_append] at z
 rcases z with z|z
 ·exact iY _ jr (mem_of_mem_take z)
 ·rw [<-hk,nodup_append] at k8
  exact k8.2.2 x.1 z x.1 (.head _) rfl
theorem Gu {D G:List (Str × Value)} (kU:(D.map (·.1)).Nodup) {x:Str × Value} {rest done:List (Str × Value)} (e1:D=done++x::rest):((G++done.filter λp=>(G.lookup p.1).isNone).lookup x.1).isNone=(G.lookup x.1).isNone:=by
 induction q:G.lookup x.1 with
 |some v=>rw [j9 q]
 |none=>
  rw [mO q,qg λz=>?_]
  obtain ⟨p,hp,he⟩:=mem_map.mp z
  rw [e1,map_append,nodup_append] at kU
  exact kU.2.2 p.1 (mem_map_of_mem (mem_filter.mp hp).1) x.1 (.head _) he
theorem yU (gE:P.Nodup) (hd:dl.length<=P.length):(((P.drop (P.length - dl.length)).zip dl).map (·.1)).Nodup:=by
 rw [oO,List.take_of_length_le (by rw [length_drop]; exact FQ hd)]
 exact gE.sublist (List.drop_sublist _ _)
theorem Gv (gE:P.Nodup) (hd:dl.length<=P.length) (hm:P.length - vs.length<=dl.length) {G:List (Str × Value)} (s2 : ∀ (i:Nat) (k:Str),P[i]?=some k->vs.length<=i->G.lookup k=none) {i:Nat} {k:Str} {v:Value} (h1:P[i]?=some k) (h2:vs.length<=i)
  (h3:dl[i - (P.length - dl.length)]?=some v):(G++((P.drop (P.length - dl.length)).zip dl).filter (λp=>(G.lookup p.1).isNone)).lookup k=some v:=by
 rw [mO (s2 i k h1 h2)]
 refine i9 ((yU gE hd).sublist (List.Sublist.map _ List.filter_sublist)) (mem_filter.mpr ⟨mem_iff_getElem?.mpr ⟨i - (P.length - dl.length),?_⟩,by show (G.lookup k).isNone=true; rw [s2 i k h1 h2]; rfl⟩)
 rw [List.getElem?_zip_eq_some,List.getElem?_drop,FR hm h2]
 exact ⟨h1,h3⟩
theorem Gk (hm:P.length - vs.length<=dl.length) {G:List (Str × Value)} (s1 : ∀ (i:Nat) (k:Str) (v:Value),P[i]?=some k->vs[i]?=some v->G.lookup k=some v):(!((P.take (P.length - dl.length)).filter λn=>(G.lookup n).isNone).isEmpty)=true->False:=by
 intro q
 rw [not_eq_true',<-not_eq_true,isEmpty_iff,List.filter_eq_nil_iff] at q
 refine q λk ie=>?_
 obtain ⟨j,hj⟩:=mem_iff_getElem?.mp ie
 have wb:j<P.length - dl.length:=(lt_min.mp (length_take ▸ (List.getElem?_eq_some_iff.mp hj).1)).1
 rw [getElem?_take,if_pos wb] at hj
 rw [s1 j k (vs[j]'(yI hm wb)) hj (getElem?_eq_getElem (yI hm wb))]
 exact Bool.false_ne_true
end
theorem yY {fd:FuncData} {vs dl:List Value} {aA:List (Str × Value)} {Q:List (Str × Value)->Shared->Prop} {P NK:List Str} (hP:fd.params.posonlyargs.map (·.arg)++fd.params.args.map (·.arg)=P) (Jt:fd.params.kwonlyargs.map (·.arg)=NK)
  (pS:fd.params.kwarg=none) (fC:(P++NK).Nodup) (hk:aA.map (·.1)=NK) (BR:vs.length<=P.length\/fd.params.vararg.isSome=true) (hd:dl.length<=P.length) (hm:P.length - vs.length<=dl.length)
  (wu : ∃ o:Option (Array Value),(o.getD #[]).toList=dl/\∀ (Q:Option (Array Value)->Shared->Prop),Q o s->wpAny M A (seqItems? fd.defaults) Q E s)
  (h:match fd.params.vararg with
   |some a=>wpAny M A (newTuple (vs.drop P.length)) (λt s'=>Q (P.zip (vs.take P.length++dl.drop (dl.length - (P.length - vs.length)))++aA++[(a.arg,t)]) s') E s
   |none=>Q (P.zip (vs.take P.length++dl.drop (dl.length - (P.length - vs.length)))++aA) s):wpAny M A (bindArgs fd ⟨vs,aA⟩) Q E s:=by
 subst hP Jt
 obtain ⟨o,ho,wu⟩:=wu
 have iY : ∀ k∈fd.params.kwonlyargs.map (·.arg),k ∉ fd.params.posonlyargs.map (·.arg)++fd.params.args.map (·.arg):=λk hk hp=>(nodup_append.mp fC).2.2 k hp k hk rfl
 have gE:=(nodup_append.mp fC).1
 have k8:=(nodup_append.mp fC).2.1
 have b6:=λx rest done=>Gq (vs:=vs) (x:=x) (rest:=rest) (done:=done) k8 hk iY
 have s1:=λi k v=>Gj (aA:=aA) (vs:=vs) gE (i:=i) (k:=k) (v:=v)
 have s2:=λi k=>Gl (vs:=vs) gE hk iY (i:=i) (k:=k)
 have s3:=λk=>Gm (vs:=vs) hk iY (k:=k)
 have s4 : ∀ k∈fd.params.kwonlyargs.map (·.arg),((fd.params.posonlyargs.map (·.arg)++fd.params.args.map (·.arg)).zip vs++aA).lookup k=aA.lookup k:=λk ie=>mO (qg λz=>iY k ie (by rw [oO] at z; exact mem_of_mem_take z))
 obtain ⟨G,hG⟩ : ∃ G,(fd.params.posonlyargs.map (·.arg)++fd.params.args.map (·.arg)).zip vs++aA=G:=⟨_,rfl⟩
 rw [hG] at s1 s2 s3 s4
 have t2:=λi k v=>Gv (i:=i) (k:=k) (v:=v) gE hd hm s2
 have kU:=yU gE hd
 have m0:=Gk hm s1
 subst ho
 obtain ⟨D,hD⟩ : ∃ D,((fd.params.posonlyargs.map (·.arg)++fd.params.args.map (·.arg)).drop ((fd.params.posonlyargs.map (·.arg)++fd.params.args.map (·.arg)).length - (o.getD #[]).toList.length)).zip (o.getD #[]).toList=D:=⟨_,rfl⟩
 rw [hD] at t2 kU
 obtain ⟨S2,hS⟩ : ∃ S2,G++D.filter (λp=>(G.lookup p.1).isNone)=S2:=⟨_,rfl⟩
 rw [hS] at t2
 have t1 : ∀ (i:Nat) (k:Str) (v:Value),(fd.params.posonlyargs.map (·.arg)++fd.params.args.map (·.arg))[i]?=some k->vs[i]?=some v->S2.lookup k=some v:=λi k v h1 h2=>hS ▸ j9 (s1 i k v h1 h2)
 have t3 : ∀ k∈fd.params.kwonlyargs.map (·.arg),S2.lookup k=G.lookup k:=λk ie=>by
  obtain ⟨v,hv⟩:=isSome_iff_exists.mp (s3 k ie)
  rw [hv,<-hS]; exact j9 hv
 have fin:=Gp hd hm k8 hk t1 t2 λk ie=>(t3 k ie).trans (s4 k ie)
 have Rg : ¬(vs.length > (fd.params.posonlyargs.map (·.arg)++fd.params.args.map (·.arg)).length&&fd.params.vararg.isNone)=true:=by
  rw [and_eq_true,decide_eq_true_eq]
  rintro ⟨z1,z2⟩
  rcases BR with z|z
  ·exact not_lt.mpr z z1
  ·rw [isNone_iff_eq_none] at z2; rw [z2] at z; exact bo z
 have d0:(o.getD #[]).toList.drop ((o.getD #[]).toList.length - (fd.params.posonlyargs.map (·.arg)++fd.params.args.map (·.arg)).length)=(o.getD #[]).toList:=by rw [Nat.sub_eq_zero_of_le hd,List.drop_zero]
 have first : ∀ x rest done,aA=done++x::rest->aA.take (aA.length - rest.length)=done++[x]:=λx rest done e1=>oI (by rw [e1,append_assoc]; rfl)
 have second : ∀ x rest done,D=done++x::rest->((G++(D.take (D.length - (x::rest).length)).filter (λp=>(G.lookup p.1).isNone)).lookup x.1).isNone=(G.lookup x.1).isNone:=λx rest done e1=>by rw [oI e1]; exact Gu kU e1
 have Rc : ∀ x rest done,D=done++x::rest->(D.take (D.length - rest.length)).filter (λp=>(G.lookup p.1).isNone)=(D.take (D.length - (x::rest).length)).filter (λp=>(G.lookup p.1).isNone)++(if (G.lookup x.1).isNone then [x] else []):=λx rest done e1=>by
  rw [oI e1,oI (l:=D) (done:=done++[x]) (rest:=rest) (by rw [e1,append_assoc]; rfl),List.filter_append,filter_cons]; rfl
 have iR:=hD
 rw [<-d0] at m0 iR
 clear fC iY gE k8 s1 s2 t1 t2 kU s4 BR hd hm d0
 refine vm (X:=(G,[])) (λrest=>((fd.params.posonlyargs.map (·.arg)++fd.params.args.map (·.arg)).zip vs++aA.take (aA.length - rest.length),[])) (by rw [sub_self,take_zero,append_nil]) (by rw [length_nil,sub_zero,List.take_length,hG]) (λx rest done e1 Q' hq=>?_) ?_
 ·obtain ⟨jr,sG⟩:=b6 x rest done e1
  refine Cs (by rw [or_eq_true]; exact .inr (contains_iff_mem.mpr jr)) ?_
  refine n6 (by rw [oI e1,sG]; decide) ?_
  rw [first x rest done e1,<-append_assoc,<-oI e1] at hq
  exact wpAny_pure hq
 refine wpAny_bind (wu _ (n6 Rg (n6 m0 (vm (X:=S2) (λrest=>G++(D.take (D.length - rest.length)).filter (λp=>(G.lookup p.1).isNone)) ?_ ?_ (λx rest done e1 Q' hq=>?_) (vm (X:=(S2,[])) (λu'=>(S2,[])) rfl rfl (λx rest done e1 Q' hq=>n6 ?_ (wpAny_pure hq)) (n6 Bool.false_ne_true ?_))))))
 ·rw [iR,sub_self,take_zero,filter_nil,append_nil]
 ·rw [length_nil,sub_zero,List.take_length]; exact hS
 ·have e1:=iR.symm.trans e1
  have jU:=second x rest done e1
  rw [Rc x rest done e1,<-append_assoc] at hq
  induction q:(G.lookup x.1).isNone with
  |true=>
   rw [if_pos q] at hq
   exact Cs (jU.trans q) (wpAny_pure hq)
  |false=>
   rw [if_neg (by rw [q]; exact Bool.false_ne_true),append_nil] at hq
   exact n6 (by rw [jU,q]; exact Bool.false_ne_true) (wpAny_pure hq)
 ·have jr:x∈fd.params.kwonlyargs.map (·.arg):=by rw [e1]; exact mem_append_right _ (.head _)
  obtain ⟨v,hv⟩:=isSome_iff_exists.mp (s3 x jr)
  rw [t3 x jr,hv]; exact Bool.false_ne_true
 ·dsimp only
  rw [fin,pS]
  induction hv:fd.params.vararg with
  |some a=>
   rw [hv] at h
   exact wpAny_bind (wpAny_mono h (λt cY q=>wpAny_pure q) λu' u' x=>x)
  |none=>
   rw [hv] at h
   exact wpAny_pure h
end
structure ct (V:av) (G:aV) (F:aD) (A:Around) (cl:Calls) (n:Nat):Prop where
 O:V.Ok G
 B:V.Base
 aw:V.cN
 dk:V.lU
 GE:G.Exc
 dJ:jf V
 C:fP V cl n
 K:F.Ok
 A:ff F A cl n 1
section
variable {V:av} {G:aV} {F:aD} {A:Around} {cl:Calls} {n:Nat}
theorem ct.calls (H:ct V G F A cl n):qW V F A cl:=let ⟨L,hf⟩:=H.K.frame; PM H.B H.aw H.dk H.C H.K hf H.A (le_refl _)
theorem ct.other (H:ct V G F A cl n) {F':aD} (K:F'.Ok) (hs:F'.stack=F.stack):ct V G F' A cl n:=
 ⟨H.O,H.B,H.aw,H.dk,H.GE,H.dJ,H.C,K,⟨by rw [hs]; exact H.A.frames,H.A.depth,H.A.units,H.A.calm⟩⟩
theorem Ni {V:av} {n:Nat}:fP V gk n:=⟨λu' u' u' u' u'=>rfl,λu'=>by intros; trivial⟩
theorem ct.held (H:ct V G F A cl n) (e:Value):ct V G F (A.mark (some e)) gk n:=
 ⟨H.O,H.B,H.aw,H.dk,H.GE,H.dJ,Ni,H.K,FL H.A e⟩
theorem Qo {i:Int} {k:Nat} {p q:Pos}:az V F A cl (.cst (.int (-i))) (.UnaryOp .USub (.Constant (.int i) k p) q):=.of rfl λm C g s I Q E q=>by
 refine wpAny_UnaryOp (wpAny_mkInt ?_)
 exact PyProof.Rows.neg_int (q g _ _ (.refl g) ((I.tok _).tok _) (.int _ _))
theorem Me {ks:List Keyword} (h:(ks.all λk=>(k.arg.bind cJ).isSome)=true) : ∀ k∈ks,∃ n,k.arg.bind cJ=some n:=λk hk=>isSome_iff_exists.mp (all_eq_true.mp h k hk)
theorem az.dc {α:Type} {o:Option α} {f:α->E} {e:Expr} (h : ∀ x,o=some x->az V F A cl (f x) e):az V F A cl (Mine.Lake.dc o f) e:=by
 induction o with
 |none=>exact az.bad
 |some x=>exact h x rfl
theorem az.dT {b:Bool} {c:E} {e:Expr} (h:b=true->az V F A cl c e):az V F A cl (Mine.Lake.dT b c) e:=by
 induction b with
 |false=>exact az.bad
 |true=>exact h rfl
theorem kT {α:Type} {o:Option α} {f:α->E} (h : ∀ x,cD (f x)=false):cD (dc o f)=false:=by
 induction o with
 |none=>rfl
 |some x=>exact h x
theorem nM {b:Bool} {c:E} (h:cD c=false):cD (dT b c)=false:=by
 induction b with
 |false=>rfl
 |true=>exact h
theorem tH {α:Type} {l:List α} {x:α} (h:qp l=some x):l=[x]:=by
 match l with
 |[]=>exact ao h
 |[y]=>rw [Option.some.inj h]
 |_::_::_=>exact ao h
theorem ql {e:Expr} {x:Str} (h:fM e=some x) : ∃ p,e=.Name x p:=by
 induction e using Expr.casesOn<;>first|exact ao h|exact ⟨_,by rw [Option.some.inj h]⟩
theorem yP {e:Expr} {p:Expr × Str × Pos} (h:nu e=some p):e=.Attribute p.1 p.2.1 p.2.2:=by
 induction e using Expr.casesOn<;>first|exact ao h|(obtain rfl:=Option.some.inj h; rfl)
theorem F9 {e:Expr} (h:nu e=none):sV e=false:=by
 induction e using Expr.casesOn<;>first|exact jE h|rfl
theorem EY {e:Expr} {p:Expr × Expr} (h:xU e=some p) : ∃ q,e=.Subscript p.1 p.2 q:=by
 induction e using Expr.casesOn<;>first|exact ao h|(obtain rfl:=Option.some.inj h; exact ⟨_,rfl⟩)
theorem PD {e:Expr} {p:Option Expr × Option Expr × Option Expr} (h:tW e=some p) : ∃ q,e=.Slice p.1 p.2.1 p.2.2 q:=by
 induction e using Expr.casesOn<;>first|exact ao h|(obtain rfl:=Option.some.inj h; exact ⟨_,rfl⟩)
theorem GP {e:Expr} {p:Expr × List Expr × List Keyword} (h:uO e=some p) : ∃ q,e=.Call p.1 p.2.1 p.2.2 q:=by
 induction e using Expr.casesOn<;>first|exact ao h|(obtain rfl:=Option.some.inj h; exact ⟨_,rfl⟩)
set_option tactic.hygienic true in
theorem M6 {e:Expr} {i:Int} (h:Di e=some i) : ∃ k p,e=.Constant (.int i) k p:=by
 induction e using Expr.casesOn<;>first|exact ao h|skip
 rename_i a k p
 induction a using Const.casesOn<;>first|exact ao h|exact ⟨k,p,by rw [Option.some.inj h]⟩
section
variable {f:Expr->E}
theorem P7 (H:ct V G F A cl n) (ih : ∀ e,az V F A cl (f e) e) {l:Expr} {ops:List CmpOp} {rs:List Expr} {p:Pos}:az V F A cl (zJ f l ops rs) (.Compare l ops rs p):=az.dc λop h1=>az.dc λr h2=>by
 obtain rfl:=tH h1
 obtain rfl:=tH h2
 exact az.dT λh=>P6 H.B H.A (by simpa using h) (ih l) (ih _)
theorem QC (ih : ∀ e,az V F A cl (f e) e) {op:UnaryOp} {x:Expr} {p:Pos}:az V F A cl (xX f op x) (.UnaryOp op x p):=by
 induction op using UnaryOp.casesOn<;>first|exact az.bad|skip
 ·exact Qq (ih x)
 ·exact az.dc λi h=>let ⟨k,q,e⟩:=M6 h; e ▸ Qo
theorem Qy (ih : ∀ e,az V F A cl (f e) e) {v i:Expr} {p:Pos}:az V F A cl (qI f v i) (.Subscript v i p):=by
 unfold qI
 induction h:tW i with
 |none=>exact Qg (ih v) (ih _)
 |some q=>
  obtain ⟨lo,hi,st⟩:=q
  obtain ⟨q,rfl⟩:=PD h
  exact az.dT λh=>by
   obtain rfl:=isNone_iff_eq_none.mp h
   exact Qx (ih v) (λe u'=>ih e) (λe u'=>ih e)
theorem Ql (H:ct V G F A cl n) (ih : ∀ e,az V F A cl (f e) e) {o:Expr} {a:Str} {apos pos:Pos} {args:List Expr} {ks:List Keyword}:az V F A cl (C9 f o a apos args ks pos) (.Call (.Attribute o a apos) args ks pos):=az.dT λh=>by
 simp only [and_eq_true,not_eq_true',decide_eq_true_eq] at h
 obtain ⟨⟨⟨h1,h2⟩,h3⟩,h4⟩:=h
 obtain rfl:=isEmpty_iff.mp h2
 exact az.dc λb hb=>az.dc λp hs=>by
  obtain ⟨ps,st⟩:=p
  induction st with
  |none=>
   obtain ⟨rfl,jV⟩:=ES hs
   exact Qk H.B H.aw H.dk H.C H.K H.A h1 hb jV h3 h4 (ih o) λx u'=>ih x
  |some e=>exact Qm H.B H.aw H.dk H.C H.K H.A h1 hb hs h3 (ih o) λx u'=>ih x
theorem Qt (H:ct V G F A cl n) (ih : ∀ e,az V F A cl (f e) e) (ju : ∀ e,da V F A cl (f e) e) {fe:Expr} (hf:sV fe=false) {args:List Expr} {ks:List Keyword} {pos:Pos}:az V F A cl (DQ G f fe args ks) (.Call fe args ks pos):=az.dT λh=>by
 rw [and_eq_true,and_eq_true,not_eq_true',not_eq_true'] at h
 refine P4 H.calls hf (ih _) (fm.DD 0 h.1.2 λi e u'=>?_) (λk u'=>ih k.value) (Me h.2)
 unfold yJ
 induction zB G fe i with
 |true=>exact λm C g s I=>ju e m C g s I
 |false=>exact (ih e).val
theorem P5 (H:ct V G F A cl n) (ih : ∀ e,az V F A cl (f e) e) (ju : ∀ e,da V F A cl (f e) e) {fe:Expr} {args:List Expr} {ks:List Keyword} {pos:Pos}:az V F A cl (o6 G f fe args ks pos) (.Call fe args ks pos):=by
 unfold o6
 induction h:nu fe with
 |none=>exact Qt H ih ju (F9 h)
 |some p=>
  obtain ⟨o,a,apos⟩:=p
  obtain rfl:=yP h
  exact Ql H ih
end
theorem zu (k:Nat) (cV : ∀ {F:aD} {A:Around} {cl:Calls} {n:Nat},ct V G F A cl n->∀ {c:aI},F.ctx c->∀ (e:Expr),az V F A cl (cE G k c e) e)
  (sT : ∀ {F:aD} {A:Around} {cl:Calls} {n:Nat},ct V G F A cl n->∀ {c:aI},F.ctx c->∀ (e:Expr),da V F A cl (cE G k c e) e)
  {F:aD} {A:Around} {cl:Calls} {n:Nat} (H:ct V G F A cl n) {c:aI} (hc:F.ctx c) (e:Expr):az V F A cl (cE G (k+1) c e) e:=by
  have ih : ∀ e,az V F A cl (cE G k c e) e:=cV H hc
  have ju : ∀ e,da V F A cl (cE G k c e) e:=sT H hc
  have wI:nO V F A cl (cE G k):=λF' c' e' K' pJ eP BM=>cV (H.other K' eP) pJ e'
  induction e using Expr.casesOn with
  |Constant a b p=>exact P9
  |Name x p=>exact Qn H.O H.K hc
  |BinOp l op r p=>exact az.dc λo h=>P0 h (ih l) (ih r)
  |Compare l ops rs p=>exact P7 H ih
  |UnaryOp op x p=>exact QC ih
  |BoolOp op es p=>
   induction op using BoolOp.casesOn
   ·exact PN λe u'=>ih e
   ·exact Qr λe u'=>ih e
  |IfExp t a b p=>exact Qi (ih t) (ih a) (ih b)
  |List es p=>exact Qj λe u'=>ih e
  |Tuple es a p=>exact QB λe u'=>ih e
  |Dict ks vs p=>
   exact az.dT λh=>by
    obtain ⟨h1,h2⟩:=and_eq_true_iff.mp h
    obtain rfl:=isEmpty_iff.mp h1
    obtain rfl:=isEmpty_iff.mp h2
    exact Qc
  |Subscript v i p=>exact Qy ih
  |ListComp elt gens sc p=>exact az.dT λh=>EM H.B H.A.calm H.K hc (uW h) wI
  |Attribute v a p=>exact az.dT λh=>az.dc λb hb=>PY H.B H.aw (by simpa using h) hb (ih v)
  |NamedExpr t v p=>exact az.dc λx hx=>az.dc λj hj=>let ⟨q,e⟩:=ql hx; e ▸ QD H.K hc hj (ih v)
  |JoinedStr vs p=>exact Qf λe u'=>ih e
  |Call f args ks pos=>exact P5 H ih ju
  |_=>exact az.bad
theorem IJ (k:Const):cD (rG k)=false:=by induction k using Const.casesOn<;>rfl
theorem IK {c:aI} {x:Str}:cD (lB G c x)=false:=by
 unfold lB
 induction c.names.lookup x with
 |none=>rfl
 |some k=>induction k using NameKind.casesOn<;>first|rfl|(induction c.slots.lookup x<;>rfl)|(induction G.glob.lookup x<;>rfl)
theorem IM {f:Expr->E} {op:UnaryOp} {x:Expr}:cD (xX f op x)=false:=by
 induction op using UnaryOp.casesOn<;>first|rfl|exact kT λu'=>rfl
theorem IL {f:Expr->E} {v i:Expr}:cD (qI f v i)=false:=by
 unfold qI
 induction tW i with
 |none=>rfl
 |some p=>exact nM rfl
theorem II {f:Expr->E} {fe:Expr} {args:List Expr} {ks:List Keyword} {pos:Pos}:cD (o6 G f fe args ks pos)=false:=by
 unfold o6
 induction nu fe with
 |none=>exact nM rfl
 |some p=>exact nM (kT λu'=>kT λp=>by obtain ⟨ps,st⟩:=p; induction st<;>rfl)
theorem GK (k:Nat) (cV : ∀ {F:aD} {A:Around} {cl:Calls} {n:Nat},ct V G F A cl n->∀ {c:aI},F.ctx c->∀ (e:Expr),az V F A cl (cE G k c e) e)
  (sT : ∀ {F:aD} {A:Around} {cl:Calls} {n:Nat},ct V G F A cl n->∀ {c:aI},F.ctx c->∀ (e:Expr),da V F A cl (cE G k c e) e)
  {F:aD} {A:Around} {cl:Calls} {n:Nat} (H:ct V G F A cl n) {c:aI} (hc:F.ctx c) (e:Expr):da V F A cl (cE G (k+1) c e) e:=by
  have ih : ∀ e,az V F A cl (cE G k c e) e:=cV H hc
  have ju : ∀ e,da V F A cl (cE G k c e) e:=sT H hc
  have wI:nO V F A cl (cE G k):=λF' c' e' K' pJ eP BM=>cV (H.other K' eP) pJ e'
  have key:cD (cE G (k+1) c e)=false->da V F A cl (cE G (k+1) c e) e:=λh=>da.of h (zu k cV sT H hc e)
  induction e using Expr.casesOn with
  |Constant a b p=>exact key (IJ a)
  |Name x p=>exact key IK
  |BinOp l op r p=>
   by_cases h:jb op=some .add
   ·obtain rfl:=DH h
    exact PK (ih l) (ih r)
   ·refine key ?_
    show cD (dc (jb op) λo=>.bin o (cE G k c l) (cE G k c r))=false
    induction ho:jb op with
    |none=>rfl
    |some o=>induction o using Op.casesOn<;>first|rfl|exact absurd ho h
  |List es p=>exact PL λe u'=>ih e
  |ListComp elt gens sc p=>
   show da V F A cl (dT (l3 c sc) (eJ (cE G k) (cP c sc) c elt gens)) _
   induction h:l3 c sc with
   |true=>exact EL H.B H.A.calm H.K hc (uW h) wI
   |false=>exact λu' u' u' u' u'=>trivial
  |BoolOp op es p=>
   induction op using BoolOp.casesOn
   ·match es with
    |[]=>exact λu' u' u' u' u'=>trivial
    |[e]=>exact λm C g s I=>ju e m C g s I
    |_::_::_=>exact key rfl
   ·match es with
    |[]=>exact λu' u' u' u' u'=>trivial
    |[e]=>exact λm C g s I=>ju e m C g s I
    |_::_::_=>exact key rfl
  |Compare l ops rs p=>exact key (kT λu'=>kT λu'=>nM rfl)
  |UnaryOp op x p=>exact key IM
  |Dict ks vs p=>exact key (nM rfl)
  |Subscript v i p=>exact key IL
  |Attribute v a p=>exact key (nM (kT λu'=>rfl))
  |NamedExpr t v p=>exact key (kT λu'=>kT λu'=>rfl)
  |Call f args ks pos=>exact key II
  |_=>exact key rfl
theorem gz : ∀ (k:Nat),(∀ {F:aD} {A:Around} {cl:Calls} {n:Nat},ct V G F A cl n->∀ {c:aI},F.ctx c->∀ (e:Expr),az V F A cl (cE G k c e) e)/\
  (∀ {F:aD} {A:Around} {cl:Calls} {n:Nat},ct V G F A cl n->∀ {c:aI},F.ctx c->∀ (e:Expr),da V F A cl (cE G k c e) e)
 |0=>⟨λu' u' u' u'=>az.bad,λu' u' u' u' u' u' u' u' u'=>trivial⟩
 |k+1=>⟨zu k (gz k).1 (gz k).2,GK k (gz k).1 (gz k).2⟩
end
section
variable {V:av} {G:aV} {F:aD} {A:Around} {cl:Calls} {n:Nat}
theorem cB.all {f:Stmt->S} : ∀ {ts:List Stmt},(∀ t,aJ V F A cl (f t) t)->cB V F A cl (gZ f ts) ts
 |[],_=>Qp
 |t::ts,h=>P8 (h t) (cB.all h)
theorem Np {e o:Expr} {attr:Str} {ap:Pos} {n:Nat} {env:Env}:swapsWith e (some (.Attribute o attr ap)) n env=pure false:=by induction e using Expr.casesOn<;>rfl
theorem aJ.bB {α:Type} {o:Option α} {f:α->S} {t:Stmt} (h : ∀ x,o=some x->aJ V F A cl (f x) t):aJ V F A cl (Mine.Lake.bB o f) t:=by
 induction o with
 |none=>exact aJ.bad
 |some x=>exact h x rfl
theorem aJ.cU {b:Bool} {c:S} {t:Stmt} (h:b=true->aJ V F A cl c t):aJ V F A cl (Mine.Lake.cU b c) t:=by
 induction b with
 |false=>exact aJ.bad
 |true=>exact h rfl
theorem JB {h:ExceptHandler} {p:Expr × Option Str × List Stmt} (e:BC h=some p) : ∃ q,h=.ExceptHandler (some p.1) p.2.1 p.2.2 q:=by
 induction h using ExceptHandler.casesOn
 obtain ⟨x,rfl,rfl⟩:=cf e
 exact ⟨_,rfl⟩
section
variable {f:Expr->E} {c:aI}
set_option tactic.hygienic true in
theorem PV (H:ct V G F A cl n) (hc:F.ctx c) {k:Nat} {x:Str} {xp p:Pos} {j:Nat} {mu:Bool} (hj:cZ c x=some j) (e:Expr):aJ V F A cl (.aL j mu (cE G k c e)) (.Assign [.Name x xp] e p):=by
 induction sm:jw e with
 |false=>exact PO H.K hc hj sm ((gz k).1 H hc e) ((gz k).2 H hc e)
 |true=>
  induction k using Nat.casesOn with
  |zero=>exact λm C g s I=>trivial
  |succ k'=>
   induction e using Expr.casesOn<;>first|exact bo sm|(exact λm C g s I=>trivial)|skip
   rename_i elt gens sc pos
   show aJ V F A cl (.aL j mu (dT (l3 c sc) (eJ (cE G k') (cP c sc) c elt gens))) _
   induction h:l3 c sc with
   |true=>exact PS H.B H.A.calm H.K hc hj (uW h) λF' c' e' K' pJ eP BM=>(gz k').1 (H.other K' eP) pJ e'
   |false=>exact λm C g s I=>trivial
theorem PQ (H:ct V G F A cl n) (hc:F.ctx c) {k:Nat} {t e:Expr} {p:Pos}:aJ V F A cl (yM G c (cE G k c) t e) (.Assign [t] e p):=by
 have cV : ∀ e,az V F A cl (cE G k c e) e:=(gz k).1 H hc
 have ju : ∀ e,da V F A cl (cE G k c e) e:=(gz k).2 H hc
 induction t using Expr.casesOn<;>first|exact aJ.bad|skip
 ·exact aJ.cU λh=>aJ.bB λb hb=>PR H.B H.aw hb Np (cV e) (ju e) (cV _)
 ·exact aJ.cU λh=>PT (by simpa using h) (cV e) (cV _) (cV _)
 ·exact aJ.bB λj hj=>PV H hc hj e
 ·exact aJ.cU λh=>aJ.bB λns hn=>by
   rw [and_eq_true,not_eq_true',not_eq_true'] at h
   exact PX H.K H.A.calm hc hn h.2 h.1 (cV e)
theorem PW (H:ct V G F A cl n) (hc:F.ctx c) {k:Nat} {ts:List Expr} {e:Expr} {p:Pos}:aJ V F A cl (yN G c (cE G k c) ts e) (.Assign ts e p):=by
 match ts with
 |[]=>exact aJ.bad
 |[t]=>exact PQ H hc
 |[t,u]=>
  exact aJ.bB λq hq=>aJ.bB λx hx=>aJ.bB λj hj=>by
   obtain ⟨_,rfl⟩:=EY hq
   obtain ⟨_,rfl⟩:=ql hx
   exact PU H.K hc hj ((gz k).1 H hc e) ((gz k).1 H hc _) ((gz k).1 H hc _)
 |_::_::_::_=>exact aJ.bad
theorem Qv (H:ct V G F A cl n) (hc:F.ctx c) (ih : ∀ e,az V F A cl (f e) e) {exc cause:Option Expr} {p:Pos}:aJ V F A cl (D0 c f exc cause) (.Raise exc cause p):=aJ.cU λh=>aJ.bB λe he=>aJ.bB λq hq=>aJ.bB λx hx=>aJ.cU λhk=>aJ.cU λhn=>by
 obtain ⟨L,hf⟩:=H.K.frame
 obtain rfl:=isNone_iff_eq_none.mp h
 subst he
 obtain ⟨_,rfl⟩:=GP hq
 obtain ⟨fe,args,ks⟩:=q
 obtain ⟨_,e⟩:=ql hx
 have bx:=isEmpty_iff.mp hk
 dsimp only at e bx ⊢
 subst e bx
 match args with
 |[]=>exact aJ.bad
 |[e]=>exact aJ.bad
 |[a,b]=>
  exact aJ.cU λh=>by
   rw [and_eq_true,and_eq_true,not_eq_true',not_eq_true'] at h
   exact Qu H.O H.K H.GE H.dJ H.A.calm hf hc hn (eq_of_beq h.1.1) h.1.2 h.2 (ih _) (ih _)
 |_::_::_::_=>exact aJ.bad
theorem QA (H:ct V G F A cl n) {outer:List Env} (aM:F.stack=F.env::outer) (hc:F.ctx c) {k:Stmt->S} (ih : ∀ t,aJ V F A cl (k t) t) (wJ : ∀ e t,aJ V F (A.mark (some e)) gk (k t) t)
  {b orelse fin:List Stmt} {hs:List ExceptHandler} {p:Pos}:aJ V F A cl (E4 c (gZ k) b hs (orelse.isEmpty&&fin.isEmpty)) (.Try b hs orelse fin p):=aJ.cU λh0=>aJ.bB λh hh=>aJ.bB λq hq=>aJ.bB λx hx=>aJ.cU λhn=>by
 obtain ⟨h1,h2⟩:=and_eq_true_iff.mp h0
 obtain rfl:=isEmpty_iff.mp h1
 obtain rfl:=isEmpty_iff.mp h2
 obtain rfl:=tH hh
 obtain ⟨_,rfl⟩:=JB hq
 obtain ⟨t,nm,lO⟩:=q
 obtain ⟨_,e⟩:=ql hx
 dsimp only at e hn ⊢
 subst e
 rw [and_eq_true,not_eq_true'] at hn
 induction lO using List.casesOn with
 |nil=>exact fN hn.2
 |cons b₀ lO=>
  induction nm with
  |none=>exact Qz H.O H.K H.GE H.dJ H.A.frames aM hc hn.1 (cB.all ih) λe=>cB.all (wJ e)
  |some y=>exact aJ.bad
end
theorem rA : ∀ (k:Nat) {F:aD} {A:Around} {cl:Calls} {n:Nat} {outer:List Env},ct V G F A cl n->F.stack=F.env::outer->∀ {c:aI},F.ctx c->∀ (t:Stmt),aJ V F A cl (cS G k c t) t
 |0,_,_,_,_,_,_,_,_,_,_=>aJ.bad
 |k+1,F,A,cl,n,outer,H,aM,c,hc,t=>by
  have ih : ∀ t,aJ V F A cl (cS G k c t) t:=rA k H aM hc
  have wJ : ∀ e t,aJ V F (A.mark (some e)) gk (cS G k c t) t:=λe=>rA k (H.held e) aM hc
  have cV : ∀ e,az V F A cl (cE G k c e) e:=(gz k).1 H hc
  have hN:qT V F A:=Nz H.A.frames aM
  have hB:qP V F A:=Gg
  induction t using Stmt.casesOn with
  |Pass p=>exact Qs
  |Break p=>exact P1
  |Continue p=>exact Qa
  |Expr e p=>exact aJ.cU λh=>Qd H.K (by simpa using h) (cV e)
  |Return v p=>exact aJ.bB λe h=>h ▸ Qw (cV e)
  |If t a b p=>exact Qh (cV t) (cB.all ih) (cB.all ih)
  |While t a b p=>exact QE hN hB (cV t) (cB.all ih) (cB.all ih)
  |For t it a orelse p=>
   exact aJ.cU λh=>aJ.bB λx hx=>aJ.bB λj hj=>by
    obtain ⟨h1,h2⟩:=and_eq_true_iff.mp h
    obtain rfl:=isEmpty_iff.mp h1
    obtain ⟨_,rfl⟩:=ql hx
    exact Qe H.B hN hB H.A.calm H.K hc hj (cV it) (cB.all ih) (r6 (by simpa using h2))
  |Delete ts p=>
   exact aJ.bB λt h=>aJ.bB λq hq=>by
    obtain rfl:=tH h
    obtain ⟨_,rfl⟩:=EY hq
    exact Qb (cV _) (cV _)
  |AugAssign t op e p=>
   exact aJ.bB λq hq=>aJ.bB λb hb=>aJ.bB λo ho=>by
    obtain rfl:=yP hq
    exact PZ H.B H.aw hb ho (cV _) (cV _)
  |Raise exc cause p=>exact Qv H hc cV
  |Try b hs orelse fin p=>exact QA H aM hc ih wJ
  |Assign ts e p=>exact PW H hc
  |_=>exact aJ.bad
end
inductive ue (V:av) (G:aV) (k:Nat) (f:Fn):Prop
 |mk (o:Obj) (fd:FuncData) (body:List Stmt) (dl:List Value) (h1:V.h₀.get? (V.a6 k)=some o) (h2:o.data=.func fd) (h3:fd.body=.stmts body) (h4:V.h₀.CodeRec fd.code fd.qualname) (h5:fd.closure=[]) (h6:fd.globals=mainGlobals)
  (h7:fd.builtins=builtinsNs) (h8:r3 fd.params fd.scope=true) (h9:f=dU G fd.params body fd.scope) (er:a0 (λd v => ∀ g,af V g d v) f.bL dl)
  (fy:(fd.defaults=.none/\dl=[])\/∃ a n o',fd.defaults=.ref a/\V.h₀.get? a=some o'/\o'.data=.seq dl.toArray n):ue V G k f
noncomputable def av.ug (V:av) (G:aV):Prop := ∀ k f,V.P.fns[k]?=some f->ue V G k f
structure nj (a:Arguments) (sc:Scope):Prop where
 fn:sc.kind=.function
 co:sc.isCoroutine=false
 gen:sc.isGenerator=false
 nodup:(sc.names.map (·.1)).Nodup
 w9 : ∀ x,(x,NameKind.free) ∉ sc.names
 debug:sc.names.lookup ("__debug__":Str)=none
 l1:sc.names.lookup ("__classdict__":Str)=none
 kwarg:a.kwarg=none
 NZ:(((a.posonlyargs.map (·.arg)++a.args.map (·.arg))++a.kwonlyargs.map (·.arg))++(a.vararg.map (·.arg)).toList).Nodup
 DM : ∀ x∈((a.posonlyargs.map (·.arg)++a.args.map (·.arg))++a.kwonlyargs.map (·.arg))++(a.vararg.map (·.arg)).toList,own sc.names x=true
 HE:a.defaults.length<=(a.posonlyargs.map (·.arg)++a.args.map (·.arg)).length
 Mg : ∀ x∈a.kwonlyargs,(cJ x.arg).isSome=true
theorem Ba {a:Arguments} {sc:Scope} (h:r3 a sc=true):nj a sc:=by
 unfold r3 at h
 simp only [and_eq_true,isNone_iff_eq_none,decide_eq_true_eq,not_eq_true'] at h
 obtain ⟨⟨⟨⟨⟨⟨⟨⟨⟨⟨⟨h1,h2⟩,h3⟩,h4⟩,h5⟩,h6⟩,h7⟩,h8⟩,h9⟩,er⟩,fy⟩,vy⟩:=h
 refine ⟨eq_of_beq h1,h2,h3,h4,λx hx=>?_,h6,h7,h8,h9,λx hx=>all_eq_true.mp er x hx,fy,λx hx=>all_eq_true.mp vy x hx⟩
 have:=all_eq_true.mp h5 _ hx
 simp at this
theorem DK : ∀ {names:List (Str × NameKind)} {x:Str},own names x=true->x∈cK names
 |[],x,h=>by exact bo h
 |(y,k)::r,x,h=>by
  unfold own at h
  rw [lookup_cons] at h
  induction q:x==y with
  |true=>
   rw [q] at h
   have e:=eq_of_beq q
   subst e
   induction k using NameKind.casesOn<;>first|((first|exact bo h|cases h); done)|exact .head _
  |false=>
   rw [q] at h
   have ih:=DK (names:=r) (x:=x) (by unfold own; exact h)
   induction k using NameKind.casesOn<;>first|exact ih|exact .tail _ ih
theorem tX {sc:Scope} {x:Arg} (h:own sc.names x.arg=true):(b9 (cK sc.names) 0).lookup x.arg=some (eE sc x):=by
 obtain ⟨n,hn⟩:=Fu (b:=0) (DK h)
 unfold eE kM
 dsimp only
 rw [hn]; rfl
theorem rC : ∀ {names:List (Str × NameKind)} {n:Nat},(names.map (·.1)).Nodup->((cellsFrom n names []).map (·.1)).Nodup
 |[],_,_=>nodup_nil
 |(x,k)::r,n,h=>by
  rw [map_cons,nodup_cons] at h
  unfold cellsFrom
  split
  ·rw [jh,map_append,nodup_append]
   refine ⟨rC h.2,by simp,λa ha b hb=>?_⟩
   obtain ⟨p,hp,rfl⟩:=mem_map.mp ha
   have hb:b=x:=by simpa using hb
   subst hb
   intro e
   have:=rB (x:=p.1) (c:=p.2) hp
   have h1:=mem_map_of_mem (f:=Prod.fst) this
   exact h.1 (by rw [<-e]; exact h1)
  ·exact rC h.2
noncomputable def aD.call (F:aD) (fd:FuncData) (L a:Addr):aD where
 env:=callEnvC fd L a
 names:=fd.scope.names
 slots:=b9 (cK fd.scope.names) 0
 base:=(cK fd.scope.names).length
 stack:=callEnvC fd L a::F.stack
theorem zv {F:aD} {fd:FuncData} {L a:Addr} (ok:nj fd.params fd.scope) (hg:fd.globals=mainGlobals) (hb:fd.builtins=builtinsNs):(F.call fd L a).Ok:=by
 refine ⟨ok.fn,hg,hb,λx k h=>?_,λx y n h1 h2=>?_,λx n h=>?_,⟨L,rfl⟩,λx k h hk=>?_,ok.debug,ok.l1⟩
 ·have e:(F.call fd L a).env.kindOf x=some k:=h
  rw [e]
  induction k using NameKind.casesOn<;>first|rfl|exact .inl rfl
 ·have e1:=(gp h1).2.2.2
  rw [(gp h2).2.2.2] at e1
  obtain rfl:=Option.some.inj e1; rfl
 ·have:=(gp h).2.2.1
  rw [zero_add] at this; exact this
 ·have h:fd.scope.names.lookup x=some k:=h
  have hm:=mem_of_lookup h
  rcases hk with rfl|rfl
  ·obtain ⟨c,hc⟩:=jL (n:=L+1) hm
   obtain ⟨b,hb⟩:=lA hc
   show ((cellsFrom (L+1) fd.scope.names []).lookup x).isSome=true
   rw [hb]; rfl
  ·exact absurd hm (ok.w9 x)
theorem GQ {F:aD} {fd:FuncData} {L a:Addr}:(F.call fd L a).ctx (kM fd.scope):=⟨rfl,rfl,rfl⟩
noncomputable def oU (V:av) (g:Gh) (names:List (Str × NameKind)) (p:Nat × D) (b:Str × Value):Prop:=(b9 (cK names) 0).lookup b.1=some p.1/\own names b.1=true/\af V g p.2 b.2
structure qU (V:av) (g:Gh) (names:List (Str × NameKind)) (m:List (Option D)) (Ml Mc:Str->Option Value):Prop where
 loc : ∀ x n d,names.lookup x=some .local->(b9 (cK names) 0).lookup x=some n->m[n]?=some (some d)->∃ v,Ml x=some v/\af V g d v
 cell : ∀ x n d,names.lookup x=some .cell->(b9 (cK names) 0).lookup x=some n->m[n]?=some (some d)->∃ v,Mc x=some v/\af V g d v
theorem RF {xs:List Str} {b:Nat} {x y:Str} {n:Nat} (h1:(b9 xs b).lookup x=some n) (h2:(b9 xs b).lookup y=some n):x=y:=by
 have e1:=(gp h1).2.2.2
 rw [(gp h2).2.2.2] at e1
 obtain rfl:=Option.some.inj e1; rfl
theorem xg {V:av} {g:Gh} {names:List (Str × NameKind)} {kindOf:Str->Option NameKind} (hk : ∀ x,kindOf x=names.lookup x) : ∀ {ML:List (Nat × D)} {BL:List (Str × Value)} {m:List (Option D)} {Ml Mc:Str->Option Value},a0 (oU V g names) ML BL->qU V g names m Ml Mc->
  qU V g names (gO ML m) (bindL kindOf BL Ml) (bindC kindOf BL Mc)
 |[],[],m,Ml,Mc,_,J=>J
 |(sl,d)::ML,(x,v)::BL,m,Ml,Mc,h,J=>by
  obtain ⟨⟨h1,h2,h3⟩,hr⟩:=h
  have h1:(b9 (cK names) 0).lookup x=some sl:=h1
  have h2:own names x=true:=h2
  have h3:af V g d v:=h3
  have EF : ∀ {y n d'},(b9 (cK names) 0).lookup y=some n->(m.set sl (some d))[n]?=some (some d')->(y=x/\d'=d)\/(y≠x/\m[n]?=some (some d')):=λ{y n d'} e1 e2=>by
   rw [getElem?_set] at e2
   by_cases q:sl=n
   ·subst q
    rw [if_pos rfl] at e2
    split at e2
    ·cases e2; exact .inl ⟨RF e1 h1,rfl⟩
    ·exact ao e2
   ·rw [if_neg q] at e2
    refine .inr ⟨λz=>q ?_,e2⟩
    subst z; rw [h1] at e1; obtain rfl:=Option.some.inj e1; rfl
  have step:gO ((sl,d)::ML) m=gO ML (m.set sl (some d)):=rfl
  rw [step]
  unfold bindL bindC
  refine xg hk hr ?_
  rw [hk x]
  refine ⟨λy n d' e1 e2 e3=>?_,λy n d' e1 e2 e3=>?_⟩
  ·rcases EF e2 e3 with ⟨rfl,rfl⟩|⟨q,e4⟩
   ·rw [if_pos e1]; exact ⟨v,if_pos rfl,h3⟩
   ·obtain ⟨u,hu,ru⟩:=J.loc y n d' e1 e2 e4
    split
    ·exact ⟨u,(if_neg q).trans hu,ru⟩
    ·exact ⟨u,hu,ru⟩
  ·rcases EF e2 e3 with ⟨rfl,rfl⟩|⟨q,e4⟩
   ·rw [if_neg (by rw [e1]; decide)]; exact ⟨v,if_pos rfl,h3⟩
   ·obtain ⟨u,hu,ru⟩:=J.cell y n d' e1 e2 e4
    split
    ·exact ⟨u,hu,ru⟩
    ·exact ⟨u,(if_neg q).trans hu,ru⟩
 |[],_::_,_,_,_,h,_=>h.elim
 |_::_,[],_,_,_,h,_=>h.elim
theorem xi : ∀ (ML:List (Nat × D)) (m:List (Option D)),(gO ML m).length=m.length
 |[],_=>rfl
 |p::ML,m=>by
  show (gO ML (m.set p.1 (some p.2))).length=_
  rw [xi ML,length_set]
theorem xh (a b:List (Nat × D)) (m:List (Option D)):gO (a++b) m=gO b (gO a m):=by unfold gO; rw [List.foldl_append]
section
variable {V:av} {F:aD} {m:List (Option D)} {C:ai} {g:Gh} {s s₁:Shared}
set_option tactic.hygienic true in
theorem GR (I:ah V F m C g s) {fd:FuncData} {a:Addr} (ok:nj fd.params fd.scope) {Ml Mc:Str->Option Value} (x:InCallC s (callEnvC fd s.heap.objs.size a).locals Ml (callEnvC fd s.heap.objs.size a).cells Mc s₁)
  {m₁:List (Option D)} (hl:m₁.length=(cK fd.scope.names).length) (J:qU V g fd.scope.names m₁ Ml Mc) :
  ah V (F.call fd s.heap.objs.size a) m₁ C (Gh.over (bj s.heap.objs.size fd.scope.names) (g.bk s.heap)) s₁/\iA s s₁ (bj s.heap.objs.size fd.scope.names):=by
 have pK:=rC (n:=s.heap.objs.size+1) ok.nodup
 have iV : ∀ y c,(y,c)∈cellsFrom (s.heap.objs.size+1) fd.scope.names []->s₁.heap.IsCell c (Mc y):=λy c h=>x.cell y c (i9 pK h)
 have nR : ∀ y c,(y,c)∈cellsFrom (s.heap.objs.size+1) fd.scope.names []->s.heap.objs.size<c:=λy c h=>x.above y c h
 have back : ∀ {b z},bj s.heap.objs.size fd.scope.names b=some z->(b=s.heap.objs.size/\z=.locals)\/∃ y,(y,b)∈cellsFrom (s.heap.objs.size+1) fd.scope.names []/\z=.b7 y:=λ{b z} h=>by
  unfold bj at h
  split at h
  ·rename_i q; obtain rfl:=Option.some.inj h; exact .inl ⟨q,rfl⟩
  ·obtain ⟨p,hp,hx⟩:=cf h
   have h1:=mem_of_find?_eq_some hp
   have h2:=find?_some hp
   obtain ⟨y,b'⟩:=p
   have h2:b'=b:=eq_of_beq h2
   subst h2
   exact .inr ⟨y,h1,hx.symm⟩
 have hN:iA s s₁ (bj s.heap.objs.size fd.scope.names):=by
  refine ⟨λb z h=>?_,λb z h=>?_,λb z h=>?_⟩
  ·rcases back h with ⟨rfl,_⟩|⟨y,hy,_⟩
   ·exact Heap.get?_none_of_le (le_refl _)
   ·exact Heap.get?_none_of_le (le_of_lt (nR y b hy))
  ·rcases back h with ⟨rfl,_⟩|⟨y,hy,_⟩
   ·obtain ⟨o,_,_,ho,_⟩:=x.toInCall.ns; exact ⟨o,ho⟩
   ·obtain ⟨o,ho,_⟩:=iV y b hy; exact ⟨o,ho⟩
  ·rcases back h with ⟨_,rfl⟩|⟨y,_,rfl⟩
   ·exact .inl rfl
   ·exact .inr ⟨y,rfl⟩
 have aM:=mT I hN
 have L1:g.Le (Gh.over (bj s.heap.objs.size fd.scope.names) (g.bk s.heap)):=Gh.tf.trans aM.toLe
 have fr:=I.fr
 obtain ⟨h',tk,he⟩:=x.toInCall.same
 refine ⟨?_,hN⟩
 refine I.enter hN x.toInCall.keep (by rw [he]) (by rw [he]) ⟨hl,?_,λe hm=>?_,?_,⟨Ml,x.toInCall.ns,λy n d h1 h2 h3=>?_⟩,λy hy=>?_,λy n d h1 h2 h3=>?_⟩
 ·obtain ⟨o,ho⟩:=I.live _ _ fr.here
  exact le_trans fr.above (le_of_lt (Heap.lt_size ho))
 ·rcases mem_cons.mp hm with rfl|hm
  ·refine ⟨?_,s.heap.objs.size,rfl,.inl rfl⟩
   show fd.scope.kind≠.module
   rw [ok.fn]; intro z; cases z
  ·obtain ⟨k,L',q,r⟩:=fr.out e hm
   refine ⟨k,L',q,.inr ?_⟩
   rcases r with rfl|⟨o,es,n,r,z⟩
   ·obtain ⟨M,⟨o,es,ep,ho,hd,_⟩,_⟩:=fr.loc
    exact ⟨o,es,ep,(aM.ax _ _).mp (Gh.oG fr.here ho),hd⟩
   ·exact ⟨o,es,n,(aM.ax _ _).mp (Gh.lM r),z⟩
 ·show Gh.over _ _ s.heap.objs.size=_
  unfold Gh.over bj
  rw [if_pos rfl]
 ·obtain ⟨v,hv,r⟩:=J.loc y n d h1 h2 h3
  exact ⟨v,hv,r.mono L1⟩
 ·have hy:fd.scope.names.lookup y=some .cell:=hy
  obtain ⟨c,hc⟩:=jL (n:=s.heap.objs.size+1) (mem_of_lookup hy)
  have jU:=i9 pK hc
  refine ⟨c,Mc y,jU,?_,iV y c hc,λn d e1 e2=>let ⟨v,hv,r⟩:=J.cell y n d hy e1 e2; ⟨v,hv,r.mono L1⟩⟩
  have:bj s.heap.objs.size fd.scope.names c=some (.b7 y):=by
   unfold bj
   rw [if_neg (ne_of_gt (nR y c hc))]
   induction hf:(cellsFrom (s.heap.objs.size+1) fd.scope.names []).find? λp=>p.2==c with
   |none=>
    have:=List.find?_eq_none.mp hf _ hc
    simp at this
   |some p=>
    have h3:=mem_of_find?_eq_some hf
    have h4:=find?_some hf
    obtain ⟨z,b⟩:=p
    have h4:b=c:=eq_of_beq h4
    subst h4
    rw [name_of_addr x.apart h3 hc]; rfl
  unfold Gh.over; rw [this]
 ·exact absurd (mem_of_lookup h1) (ok.w9 y)
end
noncomputable def ud (V:av) (g:Gh) (x:X) (e:Value) (h:Heap):Prop := ∃ a cls args oe vs t T oT ts,e=.ref a/\uu V x cls args/\g a=none/\V.h₀.get? a=none/\h.get? a=some oe/\oe.cls=cls/\oe.data=.fields vs/\vs[0]?=some (.ref t)/\h.TupAt t args/\
 (V.h₀.get? t=none/\g t=none)/\vs[1]?=some (.ref T)/\T≠a/\g T=none/\V.h₀.get? T=none/\h.get? T=some oT/\oT.data=.fields ts/\ts[3]?=some .none
section
variable {V:av} {G:aV} {F:aD} {A:Around} {cl:Calls} {m:List (Option D)} {C:ai} {g:Gh} {s:Shared}
theorem Iz {x:X} {st:St} {e:Value} {Q:Shared->Prop} {E:Value->Shared->Prop} (hx:kB V F x st g e s) (k : ∀ s',ah V F st.m st.C g s'->ud V g x e s'.heap->Q s'):wpAny V.M A (setFlight e none) (λu' s'=>Q s') E s:=by
 obtain ⟨⟨I,a,cls,args,L,rfl,hL,hr,hT⟩,a',oe,vs,T,ha,ij,hd,h1⟩:=hx
 cases ha
 obtain ⟨f7,dS,qo,iy,t,h2,h3,h4,h5,h6,h7,h8⟩:=hT
 rw [ij] at h2; obtain rfl:=Option.some.inj h2
 rw [hd] at h4; cases h4
 rcases h8 with h8|⟨T',oT,ts,e1,e2,e3,e4,e5,e6,e7⟩
 ·rw [h1] at h8; cases h8
 rw [h1] at e1; cases e1
 have bU:3<ts.size:=by
  rcases e7 with e7|e7<;>exact (Array.getElem?_eq_some_iff.mp e7).1
 refine wpAny_setFlight_none ij hd h1 e5 e6 bU ?_
 have hs:Heap.SameBut T s.heap (s.heap.update T (Obj.mapFields (·.setIfInBounds 3 Value.none))):=Heap.SameBut.update ..
 have pI:a≠T:=λz=>e2 z.symm
 have fX:=Obj.data_mapFields e6 (·.setIfInBounds 3 Value.none)
 have p5:=Heap.get?_update_self (Obj.mapFields (·.setIfInBounds 3 Value.none)) e5 (Obj.isFreed_of_fields fX)
 have sI:=(hs.2 a pI).trans ij
 refine k _ (I.away (t:=s.toks) e3 e4 hs) ⟨a,cls,args,oe,vs,t,T,_,_,rfl,hr,f7,dS,sI,h3,hd,h5,?_,h7,h1,e2,e3,e4,p5,fX,?_⟩
 ·obtain ⟨o,n,q1,q2,q3⟩:=h6
  refine ⟨o,n,(hs.2 t λz=>?_).trans q1,q2,q3⟩
  rw [z,e5] at q1; obtain rfl:=Option.some.inj q1
  rw [e6] at q3; cases q3
 ·simp [bU]
theorem Oc {g₂:Gh} (I:ah V F m C g s) (aM:(g.bk s.heap).Step g₂) {a:Addr} (h:g₂ a=none):g.dW g₂ a=none:=by
 rw [Gh.qx,h]
 ·intro z
  obtain ⟨o,ho⟩:=I.live a _ z
  have:=(aM.ax a o).mp (Gh.oG z ho)
  rw [h] at this; exact ao this
 ·intro y z
  obtain ⟨o,ho⟩:=I.live a _ z
  have:=(aM.ax a o).mp (Gh.qD z ho)
  rw [h] at this; exact ao this
theorem ud.at {g₂:Gh} {x:X} {e:Value} {h:Heap} (d:ud V g₂ x e h) {g':Gh} (hn : ∀ a,g₂ a=none->g' a=none) {L:Addr} (hL:F.env.frame=some L) {st:St} {s':Shared} (I:ah V F st.m st.C g' s') (he:s'.heap=h):dG V F x st g' e s':=by
 obtain ⟨a,cls,args,oe,vs,t,T,oT,ts,rfl,hr,h1,h2,h3,h4,h5,h6,h7,h8,h9,er,fy,vy,Je,Jf,Jg⟩:=d
 subst he
 exact ⟨I,a,cls,args,L,rfl,hL,hr,⟨hn _ h1,h2,oe,vs,t,h3,h4,h5,h6,h7,⟨h8.1,hn _ h8.2⟩,.inr ⟨T,oT,ts,h9,er,hn _ fy,vy,Je,Jf,.inl Jg⟩⟩⟩
theorem DO {names:List (Str × NameKind)} {sc:Scope} (d6:sc.names=names) : ∀ {ps:List Arg} {ds:List D} {vs:List Value},(∀ p∈ps,own names p.arg=true)->aG V g ds vs->ps.length=ds.length->a0 (oU V g names) ((ps.map (eE sc)).zip ds) ((ps.map (·.arg)).zip vs)
 |[],[],_,_,.nil,_=>trivial
 |p::ps,d::ds,_,ho,.cons r rs,hl=>by
  subst d6
  exact ⟨⟨tX (ho p (.head _)),ho p (.head _),r⟩,DO rfl (λq hq=>ho q (.tail _ hq)) rs (by simpa using hl)⟩
 |[],_::_,_,_,_,hl=>by cases hl
 |_::_,[],_,_,_,hl=>by cases hl
theorem a0.append {α β:Type} {R:α->β->Prop} : ∀ {as yK:List α} {bs zk:List β},a0 R as bs->a0 R yK zk->a0 R (as++yK) (bs++zk)
 |[],_,[],_,_,h=>h
 |_::_,_,_::_,_,h,h'=>⟨h.1,h.2.append h'⟩
 |[],_,_::_,_,h,_=>h.elim
 |_::_,_,[],_,h,_=>h.elim
theorem DN {names:List (Str × NameKind)} {sc:Scope} (d6:sc.names=names) : ∀ {ps:List Arg} {ks:List (Nm × D)} {aA:List (Str × Value)},(∀ p∈ps,own names p.arg=true/\(cJ p.arg).isSome=true)->gs V g ks aA->ks.map (·.1)=ps.map (λx=>(cJ x.arg).getD .init)->
  a0 (oU V g names) ((ps.map (eE sc)).zip (ks.map (·.2))) aA/\aA.map (·.1)=ps.map (·.arg)
 |[],[],[],_,_,_=>⟨trivial,rfl⟩
 |p::ps,(k,d)::ks,(x,v)::aA,ho,⟨⟨h1,h2⟩,hr⟩,he=>by
  have vY:k=(cJ p.arg).getD .init/\ks.map (·.1)=ps.map (λx=>(cJ x.arg).getD .init):=by
   simp only [map_cons,List.cons.injEq] at he; exact he
  obtain ⟨hk,vY⟩:=vY
  obtain ⟨LI,qb⟩:=DN d6 (λq hq=>ho q (.tail _ hq)) hr vY
  obtain ⟨nn,hn⟩:=isSome_iff_exists.mp (ho p (.head _)).2
  have e1:=lC hn
  have h1:x=k.str:=h1
  have hx:x=p.arg:=by rw [h1,hk,hn,e1]; rfl
  subst d6
  refine ⟨⟨⟨?_,?_,h2⟩,LI⟩,by rw [map_cons,map_cons,qb]; simp [hx]⟩
  ·show (b9 (cK sc.names) 0).lookup x=_
   rw [hx]; exact tX (ho p (.head _)).1
  ·show own sc.names x=true
   rw [hx]; exact (ho p (.head _)).1
 |[],_::_,_,_,_,he=>by cases he
 |_::_,[],_,_,_,he=>by cases he
 |[],[],_::_,_,h,_=>h.elim
 |_::_,_::_,[],_,h,_=>h.elim
theorem Od {ds:List D} {vs:List Value} (h:a0 (λd v => ∀ g,af V g d v) ds vs) (g:Gh):aG V g ds vs:=by
 induction ds generalizing vs with
 |nil=>induction vs using List.casesOn with|nil=>exact .nil|cons _ _=>exact h.elim
 |cons d ds ih=>induction vs using List.casesOn with|nil=>exact h.elim|cons v vs=>exact .cons (h.1 g) (ih h.2)
end
section
variable {V:av} {G:aV} {F:aD} {A:Around} {m:List (Option D)} {C:ai} {g:Gh} {s:Shared}
set_option tactic.hygienic true in
theorem Gz (I:ah V F m C g s) {fd:FuncData} {body:List Stmt} {dl:List Value} (ok:nj fd.params fd.scope) (ib:a0 (λd v => ∀ g,af V g d v) (dU G fd.params body fd.scope).bL dl)
  (pL:(fd.defaults=.none/\dl=[])\/∃ a n o',fd.defaults=.ref a/\V.h₀.get? a=some o'/\o'.data=.seq dl.toArray n) {ds:List D} {vs:List Value} {ks:List (Nm × D)} {aA:List (Str × Value)} (rd:aG V g ds vs) (rk:gs V g ks aA)
  {m1:List (Option D)} (hb:fR (dU G fd.params body fd.scope) ds ks=some m1) {Q:List (Str × Value)->Shared->Prop} {E:Value->Shared->Prop}
  (q : ∀ g' s' binds ML,g.Step g'->ah V F m C g' s'->m1=gO ML (replicate (cK fd.scope.names).length none)->a0 (oU V g' fd.scope.names) ML binds->Q binds s'):wpAny V.M A (bindArgs fd ⟨vs,aA⟩) Q E s:=by
 unfold fR at hb
 dsimp only at hb
 split at hb
 ·rename_i hc
  simp only [and_eq_true,decide_eq_true_eq,or_eq_true] at hc
  obtain ⟨⟨⟨⟨vQ,iU⟩,vR⟩,vS⟩,vT⟩:=hc
  have sH:(dU G fd.params body fd.scope).bW.length=(fd.params.posonlyargs.map (·.arg)++fd.params.args.map (·.arg)).length:=by
   show ((fd.params.posonlyargs++fd.params.args).map _).length=_; simp
  have hlen:=rd.length
  have vW:(dU G fd.params body fd.scope).bL.length=dl.length:=ib.length
  have jZ:(fd.params.posonlyargs++fd.params.args).map (·.arg)=fd.params.posonlyargs.map (·.arg)++fd.params.args.map (·.arg):=map_append
  have sL : ∀ x∈((fd.params.posonlyargs.map (·.arg)++fd.params.args.map (·.arg))++fd.params.kwonlyargs.map (·.arg))++(fd.params.vararg.map (·.arg)).toList,own fd.scope.names x=true:=ok.DM
  obtain ⟨Kl,dR⟩:=DN (V:=V) (g:=g) (sc:=fd.scope) rfl (ps:=fd.params.kwonlyargs) (λp hp=>⟨sL _ (mem_append_left _ (mem_append_right _ (mem_map_of_mem hp))),ok.Mg p hp⟩) rk (by
   rw [vT]; show (fd.params.kwonlyargs.map _).map _=_; rw [map_map]; rfl)
  have Lc:aG V g (ds.take (dU G fd.params body fd.scope).bW.length++(dU G fd.params body fd.scope).bL.drop ((dU G fd.params body fd.scope).bL.length - ((dU G fd.params body fd.scope).bW.length - ds.length)))
    (vs.take (fd.params.posonlyargs.map (·.arg)++fd.params.args.map (·.arg)).length++dl.drop (dl.length - ((fd.params.posonlyargs.map (·.arg)++fd.params.args.map (·.arg)).length - vs.length))):=by
   rw [sH,hlen,vW]
   exact (rd.take _).append ((Od ib g).drop _)
  have B6:=DO (V:=V) (g:=g) (sc:=fd.scope) rfl (ps:=fd.params.posonlyargs++fd.params.args) (λp hp=>sL _ (mem_append_left _ (mem_append_left _ (by rw [<-jZ]; exact mem_map_of_mem hp)))) Lc (by
   have:=eq_of_beq vQ; rw [this]; show _=((fd.params.posonlyargs++fd.params.args).map _).length; simp)
  rw [jZ] at B6
  have jn:=a0.append B6 Kl
  have B0:(dU G fd.params body fd.scope).cb.map (·.2)=fd.params.kwonlyargs.map (eE fd.scope):=by
   show (fd.params.kwonlyargs.map _).map _=_; rw [map_map]; rfl
  have wA:(dU G fd.params body fd.scope).cj=fd.params.vararg.map (eE fd.scope):=rfl
  refine yY (NK:=fd.params.kwonlyargs.map (·.arg)) rfl rfl ok.kwarg (nodup_append.mp ok.NZ).1 dR (?_) (dl:=dl) (by rw [<-vW]; exact le_trans (by show (fd.params.defaults.map _).length<=_; rw [length_map]; exact le_refl _) ok.HE) (by rw [<-vW,<-sH,<-hlen]; exact vR) ?_ ?_
  ·rcases vS with h|h
   ·rw [wA,Option.isSome_map] at h; exact .inr h
   ·exact .inl (by rw [<-hlen,<-sH]; exact h)
  ·rcases pL with ⟨e,rfl⟩|⟨a,n,o',e,ho,hd⟩
   ·refine ⟨none,rfl,λQ hQ=>?_⟩
    rw [e]
    show wpAny _ _ (pure () >>= λu'=>pure none) _ _ _
    exact wpAny_bind (wpAny_pure (wpAny_pure hQ))
   ·exact ⟨some dl.toArray,rfl,λQ hQ=>by rw [e]; exact wpAny_seqItems (I.keep _ _ ho) hd hQ⟩
  ·induction n4:fd.params.vararg with
   |none=>
    dsimp only
    rw [wA,n4] at hb
    obtain rfl:=Option.some.inj hb
    refine q g s _ _ (.refl g) I ?_ jn
    rw [xh,B0]
    rfl
   |some va=>
    dsimp only
    rw [wA,n4] at hb
    obtain rfl:=Option.some.inj hb
    unfold newTuple
    have hz:(vs.drop (fd.params.posonlyargs.map (·.arg)++fd.params.args.map (·.arg)).length).length<=aF:=by
     rw [length_drop]; exact le_trans (sub_le _ _) (hlen ▸ iU)
    refine wpAny_newObj_type ?_ (by show Array.size _<=sizeLine; rw [size_toArray]; exact dv hz)
    have N9:=rd.drop (fd.params.posonlyargs.map (·.arg)++fd.params.args.map (·.arg)).length
    refine I.newList (T:="tuple") (n:=0) (t:=s.toks) (Q:=λt s'=>Q (_++aA++[(va.arg,t)]) s') N9 hz λg' st I' h1 h2 h3=>?_
    refine q g' _ _ (((fd.params.posonlyargs++fd.params.args).map (eE fd.scope)).zip _++(fd.params.kwonlyargs.map (eE fd.scope)).zip (ks.map (·.2))++[(eE fd.scope va,.tup (ds.drop (fd.params.posonlyargs.map (·.arg)++fd.params.args.map (·.arg)).length))]) st I' ?_
     (a0.append (jn.imp λa b ⟨x,y,z⟩=>⟨x,y,z.mono st.toLe⟩) ⟨⟨tX (sL _ (mem_append_right _ (by rw [n4]; exact .head _))),sL _ (mem_append_right _ (by rw [n4]; exact .head _)),.tup h1 h2 h3⟩,trivial⟩)
    rw [xh,xh,B0,sH]
    rfl
 ·exact ao hb
set_option tactic.hygienic true in
theorem zw (O:V.Ok G) (B:V.Base) (aw:V.cN) (dk:V.lU) (GE:G.Exc) (fA:jf V) (hF:V.ug G) {fuel:Nat} (pN:fuel≠0) : ∀ n,fP V ⟨aC V.P fuel n,fuel⟩ n
 |0=>⟨λh=>absurd h pN,λu'=>by intros; trivial⟩
 |n+1=>by
  have ih:=zw O B aw dk GE fA hF pN n
  refine ⟨λh=>absurd h pN,λ{F A m C g s} k {ds vs ks aA} K hA I rd rk=>?_⟩
  show aj V F (af V) (oQ V.M A (.call (.ref (V.a6 k)) ⟨vs,aA⟩)) g s (back m (match V.P.fns[k]? with
   |some f=>(match fR f ds ks with
    |some m1=>di (aq V.P ⟨aC V.P fuel n,fuel⟩ f.body ⟨m1,C⟩)
    |none=>.fail)
   |none=>.fail))
  induction hf:V.P.fns[k]? with
  |none=>trivial
  |some f=>
   dsimp only
   obtain ⟨o,fd,body,dl,ho,hd,vP,kZ,vV,v7,vO,fD,dB,ib,pL⟩:=hF k f hf
   have ok:=Ba fD
   subst dB
   induction hb:fR (dU G fd.params body fd.scope) ds ks with
   |none=>trivial
   |some m1=>
    dsimp only
    have KR:A.depth<recursionLimit:=lt_of_le_of_lt (le_trans (le_trans (le_add_right _ _) (le_add_right _ _)) hA.depth) (by decide)
    have enter : ∀ (R:Result->Shared->Prop),(∀ g' s' s₁,g.Step g'->ah V F m C g' s'->ah V (F.call fd s'.heap.objs.size (V.a6 k)) m1 C (Gh.over (bj s'.heap.objs.size fd.scope.names) (g'.bk s'.heap)) s₁->iA s' s₁ (bj s'.heap.objs.size fd.scope.names)->
      wpAny V.M (A.deeper (callEnvC fd s'.heap.objs.size (V.a6 k))) (execs body (callEnvC fd s'.heap.objs.size (V.a6 k))) (λf s'=>R (.ok (.ret (match f with|.ret v=>v|_=>.none))) s')
       (λe s₂=>wpAny V.M (A.deeper (callEnvC fd s'.heap.objs.size (V.a6 k))) (leaving (callEnvC fd s'.heap.objs.size (V.a6 k)) e) (λu' cY=>R (.error e) cY) (λe' cY=>R (.error e') cY) s₂) s₁)->codeAny V.M A (.call (.ref (V.a6 k)) ⟨vs,aA⟩) R s:=by
     intro R hR
     refine codeAny_call_function KR (I.keep _ _ ho) hd ok.co ok.gen vP (kZ.keeps I.keep) ?_
     refine Gz (G:=G) (body:=body) I ok ib pL rd rk hb λg' s' binds ML st I' mx jn=>?_
     rw [vV]
     refine wpAny_newFunctionEnv_cells ok.fn (λx hx=>?_) λenv he s₁ x=>?_
     ·
      have pW:own fd.scope.names x.1=true:=by
       have : ∀ {ML:List (Nat × D)} {BL:List (Str × Value)},a0 (oU V g' fd.scope.names) ML BL->∀ x∈BL,own fd.scope.names x.1=true:=by
        intro ML
        induction ML with
        |nil=>intro BL h x hx; induction BL using List.casesOn with|nil=>cases hx|cons _ _=>exact h.elim
        |cons p ML ih=>
         intro BL h x hx
         induction BL using List.casesOn with
         |nil=>cases hx
         |cons b BL=>
          rcases mem_cons.mp hx with rfl|hx
          ·exact h.1.2.1
          ·exact ih h.2 x hx
       exact this jn x hx
      unfold own at pW
      split at pW
      ·exact .inl ‹_›
      ·rename_i iV
       refine .inr ⟨iV,?_⟩
       obtain ⟨c,hc⟩:=jL (n:=s'.heap.objs.size+1) (mem_of_lookup iV)
       obtain ⟨b,nS⟩:=lA hc
       rw [nS]; rfl
      ·exact bo pW
     ·subst he
      have hN:s₁.heap.NoLimit:=by
       obtain ⟨mc,h1,h2⟩:=O.nolimit
       exact ⟨mc,h1.keeps λb o e=>x.toInCall.keep b o (I'.keep b o e),h2⟩
      refine ⟨hN,codeAny_func ?_⟩
      have J:=xg (V:=V) (g:=g') (names:=fd.scope.names) (kindOf:=(callEnvC fd s'.heap.objs.size (V.a6 k)).kindOf) (λx=>rfl) jn (m:=replicate (cK fd.scope.names).length none) (Ml:=λu'=>none) (Mc:=λu'=>none) (by
       have no : ∀ {n d},(replicate (cK fd.scope.names).length (none:Option D))[n]?=some (some d)->False:=λ{n d} h=>by
        rw [List.getElem?_replicate] at h; split at h<;>(first|exact ao h|cases h)
       exact ⟨λx n d u' u' h=>(no h).elim,λx n d u' u' h=>(no h).elim⟩)
      rw [<-mx] at J
      have hlen:m1.length=(cK fd.scope.names).length:=by rw [mx,xi,List.length_replicate]
      obtain ⟨I1,dQ⟩:=GR I' ok x hlen J
      exact hR g' s' s₁ st I' I1 dQ
    obtain ⟨LF,Jo⟩:=K.frame
    have zi : ∀ g' s' s₁,ah V F m C g' s'->ah V (F.call fd s'.heap.objs.size (V.a6 k)) m1 C (Gh.over (bj s'.heap.objs.size fd.scope.names) (g'.bk s'.heap)) s₁->
      aE V (F.call fd s'.heap.objs.size (V.a6 k)) (A.deeper (callEnvC fd s'.heap.objs.size (V.a6 k))) (cG V) (execs body (callEnvC fd s'.heap.objs.size (V.a6 k))) (Gh.over (bj s'.heap.objs.size fd.scope.names) (g'.bk s'.heap)) s₁
       (aq V.P ⟨aC V.P fuel n,fuel⟩ (dU G fd.params body fd.scope).body ⟨m1,C⟩):=λg' s' s₁ I' I1=>by
     have H:ct V G (F.call fd s'.heap.objs.size (V.a6 k)) (A.deeper (callEnvC fd s'.heap.objs.size (V.a6 k))) ⟨aC V.P fuel n,fuel⟩ n:=by
      refine ⟨O,B,aw,dk,GE,fA,ih,zv ok v7 vO,⟨?_,?_,?_,λu'=>hA.calm⟩⟩
      ·show A.frames.map _=_
       rw [hA.frames]; rfl
      ·exact FV hA.depth
      ·exact FX hA.units
     exact cB.all (rA 40 H rfl GQ) m1 C _ s₁ I1
    induction gF:aq V.P ⟨aC V.P fuel n,fuel⟩ (dU G fd.params body fd.scope).body ⟨m1,C⟩ with
    |fail=>trivial
    |ok fl st=>
     have main : ∀ (d:D),(∀ c8 (v:Value) (f:Flow),cG V c8 fl f->(v=match f with|.ret v=>v|_=>.none)->af V c8 d v)->aj V F (af V) (oQ V.M A (.call (.ref (V.a6 k)) ⟨vs,aA⟩)) g s (.ok d ⟨m,st.C⟩):=by
      intro d fX Q E q
      refine enter (tP Q E) λg' s' s₁ q1 I' I1 dQ=>?_
      have hs:=zi g' s' s₁ I' I1
      rw [gF] at hs
      refine hs _ _ λc8 f cY fL I2 r=>?_
      have aM:=(mT I' dQ).trans fL
      exact q _ _ cY (q1.trans (tN I' aM)) (I'.leave aM I2) ((fX c8 _ f r rfl).mono (tM I' aM))
     induction fl with
     |next=>exact main .none λc8 v f r e=>by cases r; subst e; exact .none
     |brk=>trivial
     |cont=>trivial
     |ret d=>exact main d λc8 v f r e=>by cases r with|ret r=>subst e; exact r
    |exc x st=>
     intro Q E q
     refine enter (tP Q E) λg' s' s₁ q1 I' I1 dQ=>?_
     have hs:=zi g' s' s₁ I' I1
     rw [gF] at hs
     refine hs _ _ λc8 e cY fL hx=>?_
     unfold leaving
     refine wpAny_bind (tD (F:=F.call fd s'.heap.objs.size (V.a6 k)) (outer:=F.stack) ?_ rfl hx λg3 s3 q3 ez=>Iz ez λs4 I4 hd=>?_)
     ·show A.frames.map _=_
      rw [hA.frames]; rfl
     ·have aM:=((mT I' dQ).trans fL).trans q3
      exact q _ _ s4 (q1.trans (tN I' aM)) (hd.at (λa h=>Oc I' aM h) Jo (st:=⟨m,st.C⟩) (I'.leave aM I4) rfl)
end
noncomputable def aD.top (fd:FuncData) (L a:Addr):aD where
 env:=callEnvC fd L a
 names:=fd.scope.names
 slots:=b9 (cK fd.scope.names) 0
 base:=(cK fd.scope.names).length
 stack:=[callEnvC fd L a]
theorem Rj {fd:FuncData} {L a:Addr} (ok:nj fd.params fd.scope) (hg:fd.globals=mainGlobals) (hb:fd.builtins=builtinsNs):(aD.top fd L a).Ok:=by
 have h:=zv (F:=⟨default,[],[],0,[]⟩) (L:=L) (a:=a) ok hg hb
 exact ⟨h.fn,h.glob,h.blt,h.kinds,h.inj,h.bound,h.frame,h.cells,h.debug,h.l1⟩
section
variable {V:av} {s s₁:Shared}
set_option tactic.hygienic true in
theorem Ri {sa:Addr} {ob:Obj} (hh:V.h₀=eN s.heap (λb=>b=sa)) (sJ:V.os=s.os) (jS:s.gens = #[]) (gG:s.heap.get? sa=some ob) {fd:FuncData} {a:Addr} (ok:nj fd.params fd.scope)
  {Ml Mc:Str->Option Value} (x:InCallC s (callEnvC fd s.heap.objs.size a).locals Ml (callEnvC fd s.heap.objs.size a).cells Mc s₁)
  {m₁:List (Option D)} (hl:m₁.length=(cK fd.scope.names).length) (J:qU V (λb=>if b=sa then some (.ay ob) else none) fd.scope.names m₁ Ml Mc) :
  ah V (aD.top fd s.heap.objs.size a) m₁ [] (Gh.over (bj s.heap.objs.size fd.scope.names) (λb=>if b=sa then some (.ay ob) else none)) s₁:=by
 have pK:=rC (n:=s.heap.objs.size+1) ok.nodup
 have iV : ∀ y c,(y,c)∈cellsFrom (s.heap.objs.size+1) fd.scope.names []->s₁.heap.IsCell c (Mc y):=λy c h=>x.cell y c (i9 pK h)
 have nR : ∀ y c,(y,c)∈cellsFrom (s.heap.objs.size+1) fd.scope.names []->s.heap.objs.size<c:=λy c h=>x.above y c h
 have B7:sa<s.heap.objs.size:=Heap.lt_size gG
 have mM : ∀ b o,V.h₀.get? b=some o->s.heap.get? b=some o:=λb o e=>by rw [hh] at e; exact sz b o e
 have Dl : ∀ {b},s.heap.objs.size<=b->V.h₀.get? b=none:=λ{b} hb=>by
  induction q:V.h₀.get? b with
  |none=>rfl
  |some o=>have:=mM b o q; rw [Heap.get?_none_of_le hb] at this; exact ao this
 have back : ∀ {b z},Gh.over (bj s.heap.objs.size fd.scope.names) (λb=>if b=sa then some (.ay ob) else none) b=some z->(b=s.heap.objs.size/\z=.locals)\/(∃ y,(y,b)∈cellsFrom (s.heap.objs.size+1) fd.scope.names []/\z=.b7 y)\/(b=sa/\z=.ay ob):=λ{b z} h=>by
  unfold Gh.over bj at h
  dsimp only at h
  split at h
  ·rename_i y hy
   split at hy
   ·rename_i q; obtain rfl:=Option.some.inj hy; obtain rfl:=Option.some.inj h; exact .inl ⟨q,rfl⟩
   ·obtain ⟨p,hp,hx⟩:=cf hy
    have h1:=mem_of_find?_eq_some hp
    have h2:=find?_some hp
    obtain ⟨y',b'⟩:=p
    have h2:b'=b:=eq_of_beq h2
    subst h2
    obtain rfl:=Option.some.inj h
    exact .inr (.inl ⟨y',h1,hx.symm⟩)
  ·split at h
   ·rename_i q; obtain rfl:=Option.some.inj h; exact .inr (.inr ⟨q,rfl⟩)
   ·exact ao h
 have J0:Gh.over (bj s.heap.objs.size fd.scope.names) (λb=>if b=sa then some (.ay ob) else none) sa=some (.ay ob):=by
  have:bj s.heap.objs.size fd.scope.names sa=none:=by
   unfold bj
   rw [if_neg (ne_of_lt B7)]
   induction hf:(cellsFrom (s.heap.objs.size+1) fd.scope.names []).find? λp=>p.2==sa with
   |none=>rfl
   |some p=>
    have h1:=mem_of_find?_eq_some hf
    have h2:=find?_some hf
    obtain ⟨y',b'⟩:=p
    have h2:b'=sa:=eq_of_beq h2
    subst h2
    have:=nR y' b' h1
    exact absurd B7 (not_lt.mpr (le_of_lt this))
  unfold Gh.over; rw [this]; exact if_pos rfl
 have L1:Gh.Le (λb=>if b=sa then some (.ay ob) else none) (Gh.over (bj s.heap.objs.size fd.scope.names) (λb=>if b=sa then some (.ay ob) else none)):=by
  refine ⟨λb o e=>?_,λb i e=>?_⟩
  ·split at e
   ·rename_i q; subst q; cases e; exact J0
   ·exact ao e
  ·split at e<;>(first|exact ao e|cases e)
 obtain ⟨h',tk,he⟩:=x.toInCall.same
 refine ⟨λb o e=>x.toInCall.keep b o (mM b o e),λb z e=>?_,λb z e=>?_,λb o e=>?_,λb o e=>?_,λi c e=>(by exact ao e),λb c i e u'=>?_,λb i e=>?_,?_,by rw [he]; exact jS,by rw [he]; exact sJ.symm⟩
 ·rcases back e with ⟨rfl,_⟩|⟨y,hy,_⟩|⟨rfl,_⟩
  ·exact Dl (le_refl _)
  ·exact Dl (le_of_lt (nR y b hy))
  ·rw [hh]; exact pQ rfl
 ·rcases back e with ⟨rfl,_⟩|⟨y,hy,_⟩|⟨rfl,_⟩
  ·obtain ⟨o,_,_,ho,_⟩:=x.toInCall.ns; exact ⟨o,ho⟩
  ·obtain ⟨o,ho,_⟩:=iV y b hy; exact ⟨o,ho⟩
  ·exact ⟨ob,x.toInCall.keep _ _ gG⟩
 ·rcases back e with ⟨_,z⟩|⟨y,_,z⟩|⟨rfl,z⟩
  ·cases z
  ·cases z
  ·cases z; exact x.toInCall.keep _ _ gG
 ·rcases back e with ⟨_,z⟩|⟨y,_,z⟩|⟨_,z⟩<;>cases z
 ·rcases back e with ⟨_,z⟩|⟨y,_,z⟩|⟨_,z⟩<;>cases z
 ·rcases back e with ⟨_,z⟩|⟨y,_,z⟩|⟨_,z⟩<;>cases z
 ·refine ⟨hl,?_,λe hm=>?_,?_,⟨Ml,x.toInCall.ns,λy n d h1 h2 h3=>?_⟩,λy hy=>?_,λy n d h1 h2 h3=>?_⟩
  ·rw [hh]
   show (eN s.heap _).objs.size<=s.heap.objs.size
   unfold eN
   rw [Array.size_mapIdx]; exact le_refl _
  ·rw [mem_singleton.mp hm]
   refine ⟨?_,s.heap.objs.size,rfl,.inl rfl⟩
   show fd.scope.kind≠.module
   rw [ok.fn]; intro z; cases z
  ·show Gh.over _ _ s.heap.objs.size=_
   unfold Gh.over bj
   rw [if_pos rfl]
  ·obtain ⟨v,hv,r⟩:=J.loc y n d h1 h2 h3
   exact ⟨v,hv,r.mono L1⟩
  ·have hy:fd.scope.names.lookup y=some .cell:=hy
   obtain ⟨c,hc⟩:=jL (n:=s.heap.objs.size+1) (mem_of_lookup hy)
   have jU:=i9 pK hc
   refine ⟨c,Mc y,jU,?_,iV y c hc,λn d e1 e2=>let ⟨v,hv,r⟩:=J.cell y n d hy e1 e2; ⟨v,hv,r.mono L1⟩⟩
   have:bj s.heap.objs.size fd.scope.names c=some (.b7 y):=by
    unfold bj
    rw [if_neg (ne_of_gt (nR y c hc))]
    induction hf:(cellsFrom (s.heap.objs.size+1) fd.scope.names []).find? λp=>p.2==c with
    |none=>
     have:=List.find?_eq_none.mp hf _ hc
     simp at this
    |some p=>
     have h3:=mem_of_find?_eq_some hf
     have h4:=find?_some hf
     obtain ⟨z,b⟩:=p
     have h4:b=c:=eq_of_beq h4
     subst h4
     rw [name_of_addr x.apart h3 hc]; rfl
   unfold Gh.over; rw [this]
  ·exact absurd (mem_of_lookup h1) (ok.w9 y)
set_option tactic.hygienic true in
theorem Rh {G:aV} (O:V.Ok G) (B:V.Base) (aw:V.cN) (dk:V.lU) (GE:G.Exc) (fA:jf V) (hF:V.ug G) {fuel n:Nat} (pN:fuel≠0) (hn:n<=12) {k:Nat} {f:Fn} (hf:V.P.fns[k]?=some f)
  (bg:f.bW.length=1) (dj:f.cj=none) (sq:f.cb=[]) (jR:f.bL=[]) {sa:Addr} {vs:List Value} {ns:List Int}
  (hh:V.h₀=eN s.heap (λb=>b=sa)) (sJ:V.os=s.os) (jS:s.gens = #[]) (gG:s.heap.get? sa=some {cls:=.type "list",data:=.seq vs.toArray}) (hi:IntsAre vs ns) (hz:ns.length<=63) {st:St}
  (fE:aC V.P fuel (n+1) k [.lst (ns.map .int)] [] []=.ok (.bool true) st) {R:Result->Shared->Prop}
  (hR : ∀ s',(∀ b o,s.heap.get? b=some o->s'.heap.get? b=some o)->s'.gens = #[]->s'.os=s.os->R (.ok (.ret (.bool true))) s') :
  codeAny V.M callerA (.call (.ref (V.a6 k)) ⟨[.ref sa],[]⟩) R s:=by
 have mM : ∀ b o,V.h₀.get? b=some o->s.heap.get? b=some o:=λb o e=>by rw [hh] at e; exact sz b o e
 have fE:(match V.P.fns[k]? with
  |some f=>(match fR f [.lst (ns.map .int)] [] with
   |some m1=>di (aq V.P ⟨aC V.P fuel n,fuel⟩ f.body ⟨m1,[]⟩)
   |none=>.fail)
  |none=>.fail)=.ok (.bool true) st:=fE
 rw [hf] at fE
 dsimp only at fE
 obtain ⟨o,fd,body,dl,ho,hd,vP,kZ,vV,v7,vO,fD,dB,ib,pL⟩:=hF k f hf
 have ok:=Ba fD
 subst dB
 have n4:fd.params.vararg=none:=by
  have:fd.params.vararg.map (eE fd.scope)=none:=dj
  simpa using this
 have pS:fd.params.kwonlyargs=[]:=by
  have:fd.params.kwonlyargs.map _=[]:=sq
  simpa using this
 have JN:dl=[]:=by
  have:fd.params.defaults.map uZ=[]:=jR
  have h2:=ib.length
  show dl=[]
  rw [show (dU G fd.params body fd.scope).bL=fd.params.defaults.map uZ from rfl,this] at h2
  exact List.length_eq_zero_iff.mp h2.symm
 have jZ:((fd.params.posonlyargs++fd.params.args).map (eE fd.scope)).length=1:=bg
 rw [length_map] at jZ
 obtain ⟨x,hx⟩:=List.length_eq_one_iff.mp jZ
 have hP:fd.params.posonlyargs.map (·.arg)++fd.params.args.map (·.arg)=[x.arg]:=by rw [<-map_append,hx]; rfl
 induction hb:fR (dU G fd.params body fd.scope) [.lst (ns.map .int)] [] with
 |none=>rw [hb] at fE; exact cn fE
 |some m1=>
  rw [hb] at fE
  dsimp only at fE
  have p9:own fd.scope.names x.arg=true:=ok.DM _ (mem_append_left _ (mem_append_left _ (by rw [hP]; exact .head _)))
  have mx:m1=gO [(eE fd.scope x,.lst (ns.map .int))] (replicate (cK fd.scope.names).length none):=by
   unfold fR at hb
   dsimp only at hb
   split at hb
   ·have e1:(dU G fd.params body fd.scope).bW=[eE fd.scope x]:=by show (fd.params.posonlyargs++fd.params.args).map _=_; rw [hx]; rfl
    rw [dj,e1,sq,jR] at hb
    obtain rfl:=Option.some.inj hb; rfl
   ·exact ao hb
  have hlen:=hi.length
  have wz:vs.length<=aF:=by
   have:aF=100000:=rfl
   have:vs.length=ns.length:=by first|exact hlen|exact hlen.symm
   omega
  refine codeAny_call_function (by decide) (mM _ _ ho) hd ok.co ok.gen vP (kZ.keeps mM) ?_
  refine yY (P:=[x.arg]) (NK:=[]) (vs:=[.ref sa]) (aA:=[]) (dl:=[]) hP (by rw [pS]; rfl) ok.kwarg (by simp) rfl (.inl (by simp)) (by simp) (by simp) ?_ ?_
  ·rcases pL with ⟨e,_⟩|⟨a,n,o',e,dm,fX⟩
   ·refine ⟨none,rfl,λQ hQ=>?_⟩
    rw [e]
    show wpAny _ _ (pure () >>= λu'=>pure none) _ _ _
    exact wpAny_bind (wpAny_pure (wpAny_pure hQ))
   ·exact ⟨some dl.toArray,JN,λQ hQ=>by rw [e]; exact wpAny_seqItems (mM _ _ dm) fX hQ⟩
  ·rw [n4]
   dsimp only
   rw [vV]
   have JE:([x.arg].zip (([Value.ref sa].take [x.arg].length)++([]:List Value).drop (([]:List Value).length - ([x.arg].length - [Value.ref sa].length)))++([]:List (Str × Value)))=[(x.arg,Value.ref sa)]:=rfl
   rw [JE]
   refine wpAny_newFunctionEnv_cells ok.fn (λy hy=>?_) λenv he s₁ xc=>?_
   ·rw [mem_singleton.mp hy]
    unfold own at p9
    split at p9
    ·exact .inl ‹_›
    ·rename_i iV
     refine .inr ⟨iV,?_⟩
     obtain ⟨c,hc⟩:=jL (n:=s.heap.objs.size+1) (mem_of_lookup iV)
     obtain ⟨b,nS⟩:=lA hc
     rw [nS]; rfl
    ·exact bo p9
   ·subst he
    have hN:s₁.heap.NoLimit:=by
     obtain ⟨mc,h1,h2⟩:=O.nolimit
     exact ⟨mc,h1.keeps λb o e=>xc.toInCall.keep b o (mM b o e),h2⟩
    refine ⟨hN,codeAny_func ?_⟩
    have Ol:af V (λb=>if b=sa then some (.ay {cls:=.type "list",data:=.seq vs.toArray}) else none) (.lst (ns.map .int)) (.ref sa):=
     .lst (if_pos rfl) ⟨wz,0,rfl⟩ (aG.ints hi)
    have J:=xg (V:=V) (g:=λb=>if b=sa then some (.ay {cls:=.type "list",data:=.seq vs.toArray}) else none) (names:=fd.scope.names) (kindOf:=(callEnvC fd s.heap.objs.size (V.a6 k)).kindOf) (λx=>rfl)
     (ML:=[(eE fd.scope x,.lst (ns.map .int))]) (BL:=[(x.arg,.ref sa)]) ⟨⟨tX p9,p9,Ol⟩,trivial⟩ (m:=replicate (cK fd.scope.names).length none) (Ml:=λu'=>none) (Mc:=λu'=>none) (by
     have no : ∀ {n d},(replicate (cK fd.scope.names).length (none:Option D))[n]?=some (some d)->False:=λ{n d} h=>by
      rw [List.getElem?_replicate] at h; split at h<;>(first|exact ao h|cases h)
     exact ⟨λx n d u' u' h=>(no h).elim,λx n d u' u' h=>(no h).elim⟩)
    rw [<-mx] at J
    have wc:m1.length=(cK fd.scope.names).length:=by rw [mx,xi,List.length_replicate]
    have I1:=Ri hh sJ jS gG ok xc wc J
    have H:ct V G (aD.top fd s.heap.objs.size (V.a6 k)) (callerA.deeper (callEnvC fd s.heap.objs.size (V.a6 k))) ⟨aC V.P fuel n,fuel⟩ n:=by
     refine ⟨O,B,aw,dk,GE,fA,zw O B aw dk GE fA hF pN n,Rj ok v7 vO,⟨rfl,?_,?_,λu'=>rfl⟩⟩
     ·show 301+1+8*n+8<=900; omega
     ·show 4+3+8*1+500*n+500<=9000; omega
    have hs:=cB.all (f:=cS G 40 (kM fd.scope)) (ts:=body) (rA 40 H rfl ⟨rfl,rfl,rfl⟩) m1 [] _ s₁ I1
    have fin : ∀ c8 f cY,(Gh.over (bj s.heap.objs.size fd.scope.names) (λb=>if b=sa then some (.ay {cls:=.type "list",data:=.seq vs.toArray}) else none)).Step c8->∀ m2 C2,ah V (aD.top fd s.heap.objs.size (V.a6 k)) m2 C2 c8 cY->f=Flow.ret (.bool true)->R (.ok (.ret (match f with|.ret v=>v|_=>.none))) cY:=by
     intro c8 f cY fL m2 C2 I2 ef
     subst ef
     refine hR cY (λb o' e=>?_) I2.gens (I2.os.trans sJ)
     by_cases q:b=sa
     ·subst q
      rw [gG] at e; obtain rfl:=Option.some.inj e
      refine I2.ay _ _ (fL.toLe.ay _ _ ?_)
      have bQ:b<s.heap.objs.size:=Heap.lt_size gG
      have:bj s.heap.objs.size fd.scope.names b=none:=by
       unfold bj
       rw [if_neg (ne_of_lt bQ)]
       induction BN:(cellsFrom (s.heap.objs.size+1) fd.scope.names []).find? λp=>p.2==b with
       |none=>rfl
       |some p=>
        have h1:=mem_of_find?_eq_some BN
        have h2:=find?_some BN
        obtain ⟨y',b'⟩:=p
        have h2:b'=b:=eq_of_beq h2
        subst h2
        have:=xc.above y' b' h1
        exact absurd bQ (not_lt.mpr (le_of_lt this))
      unfold Gh.over; rw [this]; exact if_pos rfl
     ·exact I2.keep b o' (by rw [hh,nU (P:=λb=>b=sa) q]; exact e)
    show wpAny _ _ (execs body (callEnvC fd s.heap.objs.size (V.a6 k))) _ _ s₁
    have j0:di (aq V.P ⟨aC V.P fuel n,fuel⟩ (gZ (cS G 40 (kM fd.scope)) body) ⟨m1,[]⟩)=.ok (.bool true) st:=fE
    induction gF:aq V.P ⟨aC V.P fuel n,fuel⟩ (gZ (cS G 40 (kM fd.scope)) body) ⟨m1,[]⟩ with
    |fail=>rw [gF] at j0; exact cn j0
    |exc _ _=>rw [gF] at j0; exact ve j0
    |ok fl ae=>
     rw [gF] at j0 hs
     induction fl with
     |next=>cases j0
     |brk=>exact cn j0
     |cont=>exact cn j0
     |ret d=>
      obtain ⟨rfl,rfl⟩:=ak.ok.inj j0
      refine hs _ _ λc8 f cY fL I2 r=>fin c8 f cY fL _ _ I2 ?_
      cases r with
      |ret r=>obtain rfl:=r.n5; rfl
end
noncomputable def d4 (aN:List Addr) (k:Nat):Addr:=(aN[k]?).getD (aN.headD 0)
noncomputable def jM (a7:List Addr) (k:Nat):Addr:=(a7[k]?).getD 0
noncomputable def xK (cL:List (List Nat)) (k i:Nat):Nat:=(((cL[k]?).getD [])[i]?).getD 999
noncomputable def mQ (prog:Program) (w:World) (s:Shared) (sa:Addr) (P:aP) (K:W.Frag) (aN a7:List Addr) (cL:List (List Nat)):av:=
 ⟨prog,w,eN s.heap (λb=>b=sa),s.os,P,K,d4 aN,jM a7,xK cL⟩
set_option backward.match.sparseCases false in
noncomputable def xZ:Value->Option Addr
 |.ref a=>some a
 |_=>none
set_option backward.match.sparseCases false in
noncomputable def x8:Value->Option Str
 |.str x _=>some x
 |_=>none
set_option backward.match.sparseCases false in
noncomputable def E9:Value->Option Int
 |.int i _=>some i
 |_=>none
set_option backward.match.sparseCases false in
noncomputable def E8:Value->Option (Array UInt8)
 |.bytes b _=>some b
 |_=>none
theorem Fb {v:Value} {a:Addr} (h:xZ v=some a):v=.ref a:=by induction v using Value.casesOn<;>first|exact ao h|rw [Option.some.inj h]
theorem Fc {v:Value} {a:Str} (h:x8 v=some a) : ∃ t,v=.str a t:=by induction v using Value.casesOn<;>first|exact ao h|exact ⟨_,by rw [Option.some.inj h]⟩
theorem Ry {v:Value} {a:Int} (h:E9 v=some a) : ∃ t,v=.int a t:=by induction v using Value.casesOn<;>first|exact ao h|exact ⟨_,by rw [Option.some.inj h]⟩
theorem Rx {v:Value} {a:Array UInt8} (h:E8 v=some a) : ∃ t,v=.bytes a t:=by induction v using Value.casesOn<;>first|exact ao h|exact ⟨_,by rw [Option.some.inj h]⟩
set_option backward.match.sparseCases false in
noncomputable def Ad:Data->Option (Array Value)
 |.fields vs=>some vs
 |_=>none
set_option backward.match.sparseCases false in
noncomputable def Af:Data->Option (Array Value)
 |.seq vs _=>some vs
 |_=>none
set_option backward.match.sparseCases false in
noncomputable def Ae:Data->Option FuncData
 |.func fd=>some fd
 |_=>none
set_option backward.match.sparseCases false in
noncomputable def Ac:Data->Option (Array DictEntry)
 |.dict es _=>some es
 |_=>none
set_option backward.match.sparseCases false in
noncomputable def Ab:Data->Option ClassData
 |.cls cd=>some cd
 |_=>none
theorem Hv {d:Data} {x:Array Value} (h:Ad d=some x):d=.fields x:=by induction d using Data.casesOn<;>first|exact ao h|rw [Option.some.inj h]
theorem Hx {d:Data} {x:Array Value} (h:Af d=some x) : ∃ n,d=.seq x n:=by induction d using Data.casesOn<;>first|exact ao h|exact ⟨_,by rw [Option.some.inj h]⟩
theorem Hw {d:Data} {x:FuncData} (h:Ae d=some x):d=.func x:=by induction d using Data.casesOn<;>first|exact ao h|rw [Option.some.inj h]
theorem Hu {d:Data} {x:Array DictEntry} (h:Ac d=some x) : ∃ n,d=.dict x n:=by induction d using Data.casesOn<;>first|exact ao h|exact ⟨_,by rw [Option.some.inj h]⟩
theorem Ht {d:Data} {x:ClassData} (h:Ab d=some x):d=.cls x:=by induction d using Data.casesOn<;>first|exact ao h|rw [Option.some.inj h]
noncomputable def qy (aN a7:List Addr) (d:D) (v:Value):Bool:=match d with
 |.none=>decide (v=.none)
 |.bool a=>decide (v=.bool a)
 |.int i=>E9 v==some i
 |.bytes a=>E8 v==some a.toArray&&decide (a.length<=aF)
 |.bn b=>decide (v=b.val)
 |.fn k=>decide (v=.ref (d4 aN k))
 |.cls k=>decide (v=.ref (jM a7 k))
 |_=>false
theorem xm {V:av} {aN a7:List Addr} (h1:V.a6=d4 aN) (h2:V.aX=jM a7) {d:D} {v:Value} (h:qy aN a7 d v=true) (g:Gh):af V g d v:=by
 induction d using D.casesOn<;>first|exact bo h|skip
 ·rw [of_decide_eq_true h]; exact .none
 ·rw [of_decide_eq_true h]; exact .bool _
 ·obtain ⟨t,rfl⟩:=Ry (eq_of_beq h); exact .int _ _
 ·obtain ⟨h3,h4⟩:=and_eq_true_iff.mp h
  obtain ⟨t,rfl⟩:=Rx (eq_of_beq h3); exact .bytes _ (of_decide_eq_true h4)
 ·rw [of_decide_eq_true h]; exact .bn _
 ·rw [of_decide_eq_true h,<-h1]; exact .fn _
 ·rw [of_decide_eq_true h,<-h2]; exact .cls _
noncomputable def tO (aN a7:List Addr):List D->List Value->Bool
 |[],vs=>vs.isEmpty
 |d::ds,vs=>match vs with
  |[]=>false
  |v::vs=>qy aN a7 d v&&tO aN a7 ds vs
theorem D8 {V:av} {aN a7:List Addr} (h1:V.a6=d4 aN) (h2:V.aX=jM a7) : ∀ {ds:List D} {vs:List Value},tO aN a7 ds vs=true->a0 (λd v => ∀ g,af V g d v) ds vs
 |[],vs,h=>by
  obtain rfl:=isEmpty_iff.mp h
  exact trivial
 |d::ds,vs,h=>by
  induction vs using List.casesOn with
  |nil=>exact bo h
  |cons v vs=>
   obtain ⟨a,b⟩:=and_eq_true_iff.mp (show (qy aN a7 d v&&tO aN a7 ds vs)=true from h)
   exact ⟨xm h1 h2 a,D8 h1 h2 b⟩
noncomputable def xb (K:W.Frag) (v:Value):Option Obj:=(xZ v).bind λc=>K.lookup c
theorem Dz {K:W.Frag} {v:Value} {o:Obj} (h:xb K v=some o) : ∃ a,v=.ref a/\K.lookup a=some o:=by
 obtain ⟨a,e,h⟩:=aO h
 exact ⟨a,Fb e,h⟩
noncomputable def zQ (K:W.Frag) (cd:Value):Option Str:=(xb K cd).bind λo=>(Ad o.data).bind λvs=>(vs[1]?:Option Value).bind x8
noncomputable def Pj (K:W.Frag) (v:Value):Option (List Value):=(xb K v).bind λo=>(Af o.data).map (·.toList)
noncomputable def u0 (K:W.Frag) (v:Value):Option (List Value):=match decide (v=.none) with
 |true=>some []
 |false=>Pj K v
noncomputable def EV:FuncBody->Option (List Stmt)
 |.stmts b=>some b
 |_=>none
theorem QR {b:FuncBody} {x:List Stmt} (h:EV b=some x):b=.stmts x:=by induction b using FuncBody.casesOn<;>first|exact ao h|rw [Option.some.inj h]
noncomputable def rZ (K:W.Frag) (G:aV) (aN a7:List Addr) (a:Addr):Option Fn:=(K.lookup a).bind λo=>(Ae o.data).bind λfd=>(EV fd.body).bind λbody=>(u0 K fd.defaults).bind λdl=>
 if zQ K fd.code==some fd.qualname&&fd.closure.isEmpty&&fd.globals==mainGlobals&&fd.builtins==builtinsNs&&r3 fd.params fd.scope&&tO aN a7 (dU G fd.params body fd.scope).bL dl then some (dU G fd.params body fd.scope) else none
theorem Hb {V:av} {K:W.Frag} (X:K.In V.h₀) {cd:Value} {q:Str} (h:zQ K cd=some q) : ∃ c oc vs t,cd=.ref c/\V.h₀.get? c=some oc/\oc.data=.fields vs/\(vs[1]?:Option Value)=some (.str q t):=by
 refine cps λQQ kQ=>?_
 obtain ⟨o,h1,h⟩:=aO h
 obtain ⟨vs,h2,h⟩:=aO h
 obtain ⟨v,h3,h⟩:=aO h
 obtain ⟨c,e,hc⟩:=Dz h1
 obtain ⟨t,rfl⟩:=Fc h
 exact kQ ⟨c,o,vs,t,e,X _ _ hc,Hv h2,h3⟩
theorem HD {V:av} {K:W.Frag} (X:K.In V.h₀) {v:Value} {dl:List Value} (h:u0 K v=some dl):(v=.none/\dl=[])\/∃ a n o,v=.ref a/\V.h₀.get? a=some o/\o.data=.seq dl.toArray n:=by
 unfold u0 at h
 induction hd:decide (v=.none) with
 |true=>rw [hd] at h; exact .inl ⟨of_decide_eq_true hd,(Option.some.inj h).symm⟩
 |false=>
  rw [hd] at h
  obtain ⟨o,h1,h⟩:=aO h
  obtain ⟨xs,h2,rfl⟩:=cf h
  obtain ⟨a,e,ha⟩:=Dz h1
  obtain ⟨n,hn⟩:=Hx h2
  exact .inr ⟨a,n,o,e,X _ _ ha,hn⟩
theorem IB {V:av} {K:W.Frag} {G:aV} {aN a7:List Addr} (X:K.In V.h₀) (h1:V.a6=d4 aN) (h2:V.aX=jM a7) {k:Nat} {f:Fn} (h:rZ K G aN a7 (V.a6 k)=some f):ue V G k f:=by
 refine cps λQQ kQ=>?_
 obtain ⟨o,ho,h⟩:=aO h
 obtain ⟨fd,hd,h⟩:=aO h
 obtain ⟨body,hb,h⟩:=aO h
 obtain ⟨dl,ib,h⟩:=aO h
 obtain ⟨hc,h⟩:=eA h
 rw [and_eq_true,and_eq_true,and_eq_true,and_eq_true,and_eq_true] at hc
 obtain ⟨⟨⟨⟨⟨vQ,iU⟩,vR⟩,vS⟩,vT⟩,JG⟩:=hc
 obtain rfl:=Option.some.inj h
 exact kQ ⟨o,fd,body,dl,X _ _ ho,Hw hd,QR hb,Hb X (eq_of_beq vQ),isEmpty_iff.mp iU,eq_of_beq vR,eq_of_beq vS,vT,rfl,D8 h1 h2 JG,HD X ib⟩
theorem FJ (n:Nm):n∈ux:=mem_of_getElem? n.gX
noncomputable def EH (K:W.Frag) (C:Addr) (n:Nm):Option Addr:=(W.findIn K (.ref C) n.str).bind λv=>v.bind xZ
theorem PE {K:W.Frag} {C:Addr} {n:Nm} {p:Addr} (h:EH K C n=some p):W.findIn K (.ref C) n.str=some (some (.ref p)):=by
 obtain ⟨v,h1,h⟩:=aO h
 obtain ⟨u,h2,h⟩:=aO h
 rw [h1,h2,Fb h]
noncomputable def EI (K:W.Frag) (C:Addr) (n:Nm) (ix:Nat):Bool:=match EH K C n with
 |some p=>decide (W.slotIn K p C=some ix)&&decide (W.typeIn K (.ref p)=some (.type "member_descriptor"))&&decide (W.specialIn K (.ref p) "__get__"=some (some (.builtin "member_descriptor.__get__")))&&decide (W.takesIn K (.ref p)=some true) &&
  decide (W.takerIn K C n.str=some (some (.ref p)))
 |none=>false
noncomputable def rD (K:W.Frag) (a6:Nat->Addr) (C:Addr) (ix:Nat->Nat) (c:gV):Bool:=
 W.plainGet K C ""&&decide (W.findIn K (.ref C) "__setattr__"=some (some (.builtin "object.__setattr__")))&&W.plainOver K C &&
 (c.meths.all λp=>decide (W.findIn K (.ref C) p.1.str=some (some (.ref (a6 p.2))))&&decide (W.typeIn K (.ref (a6 p.2))=some (.type "function"))&&decide (W.specialIn K (.ref (a6 p.2)) "__get__"=some (some (.builtin "function.__get__"))) &&
  decide (W.takesIn K (.ref (a6 p.2))=some false)&&!W.copiedNames.contains p.1.str) &&
 decide (W.findIn K (.ref C) "__init__"=some (some (.ref (a6 c.init))))&&decide (W.typeIn K (.ref (a6 c.init))=some (.type "function"))&&W.makesIn K C &&
 (!(c.meths.lookup .bO).isSome||(decide (W.findIn K (.ref C) "__len__"=some none)&&decide (W.findIn K (.ref C) "__length_hint__"=some none))) &&
 (match c.slots with
  |none=>W.hasDictIn K C&&(ux.all λn=>!n.mH||(decide (W.findIn K (.ref C) n.str=some none)&&decide (W.takerIn K C n.str=some none)))
  |some ns=>(ns.all λn=>EI K C n (ix (ns.idxOf n)))&&decide (((List.range ns.length).map ix).Nodup)&&((List.range ns.length).all λi=>decide (ix i<1000))&&(W.clsIn K C).isSome)
set_option tactic.hygienic true in
theorem G6 {V:av} {k:Nat} {c:gV} (h:rD V.K V.a6 (V.aX k) (V.gR k) c=true):yg V k c:=by
 unfold rD at h
 simp only [and_eq_true,decide_eq_true_eq,or_eq_true,not_eq_true'] at h
 obtain ⟨⟨⟨⟨⟨⟨⟨⟨h1,h2⟩,h3⟩,h4⟩,h5⟩,h6⟩,h7⟩,h8⟩,h9⟩:=h
 refine ⟨h1,h2,h3,λn f hf=>?_,h5,h6,h7,λhn=>?_,λhs=>?_,λns hs=>?_⟩
 ·have hm:(n,f)∈c.meths:=by
   have : ∀ {l:List (Nm × Nat)},l.lookup n=some f->(n,f)∈l:=by
    intro l
    induction l with
    |nil=>intro h; exact ao h
    |cons e r ih=>
     intro h
     rw [lookup_cons] at h
     split at h
     ·rename_i q; obtain rfl:=Option.some.inj h; rw [eq_of_beq q]; exact .head _
     ·exact .tail _ (ih h)
   exact this hf
  have:=all_eq_true.mp h4 _ hm
  simp only [and_eq_true,decide_eq_true_eq,not_eq_true'] at this
  obtain ⟨⟨⟨⟨a1,a2⟩,a3⟩,a4⟩,a5⟩:=this
  exact ⟨a1,a2,a3,a4,a5⟩
 ·rcases h8 with h8|h8
  ·rw [hn] at h8; exact fN h8
  ·exact h8
 ·rw [hs] at h9
  dsimp only at h9
  rw [and_eq_true] at h9
  refine ⟨h9.1,λn hn=>?_⟩
  have:=all_eq_true.mp h9.2 n (FJ n)
  rw [hn] at this
  simpa using this
 ·rw [hs] at h9
  dsimp only at h9
  simp only [and_eq_true,decide_eq_true_eq] at h9
  obtain ⟨⟨⟨b1,b2⟩,b3⟩,b4⟩:=h9
  refine ⟨λn hn=>?_,λi j hi hj e=>?_,λi hi=>?_,b4⟩
  ·have:=all_eq_true.mp b1 n (contains_iff_mem.mp hn)
   unfold EI at this
   split at this
   ·rename_i p hp
    simp only [and_eq_true,decide_eq_true_eq] at this
    obtain ⟨⟨⟨⟨a1,a2⟩,a3⟩,a4⟩,a5⟩:=this
    exact ⟨p,PE hp,a1,a2,a3,a4,a5⟩
   ·exact bo this
  ·have gi:((List.range ns.length).map (V.gR k))[i]?=some (V.gR k i):=by rw [getElem?_map,getElem?_range hi]; rfl
   have gj:((List.range ns.length).map (V.gR k))[j]?=some (V.gR k j):=by rw [getElem?_map,getElem?_range hj]; rfl
   exact (List.getElem?_inj (by simpa using hi) b2).mp (by rw [gi,gj,e])
  ·exact of_decide_eq_true (all_eq_true.mp b3 i (mem_range.mpr hi))
noncomputable def tq (K:W.Frag):Option (Array DictEntry):=match K.lookup mainGlobals with
 |some o=>match o.data with
  |.dict es _=>some es
  |_=>none
 |none=>none
noncomputable def vv (aN a7:List Addr) (es:Array DictEntry) (p:Str × D):Bool:=match nsFind es p.1 with
 |some v=>qy aN a7 p.2 v
 |none=>decide (p.1≠("__name__":Str))&&(match bootBuiltins p.1 with
  |some v=>qy aN a7 p.2 v
  |none=>false)
noncomputable def Hr (o:Obj):Option ClassData:=if (decide (o.cls=.type "type")&&decide (o.slots.size=6)&&decide (o.slots[4]?=some (some (.builtin "ValueError.__new__"))))=true then Ab o.data else none
noncomputable def Aa (K:W.Frag) (a:Addr):Option (Array DictEntry):=(K.lookup a).bind λo=>(Ac o.data).bind λes=>if (es.toList.all (λe=>(x8 e.key).isSome)&&(nsFind es "__init__").isNone)=true then some es else none
noncomputable def Hs (K:W.Frag) (C:Addr):Option (Array DictEntry):=(K.lookup C).bind λo=>(Hr o).bind λcd=>
 if (decide (cd.mro=.ref C::[.type "ValueError",.type "Exception",.type "BaseException",.type "object"])&&decide (cd.hasDel=false))=true then Aa K cd.ns else none
noncomputable def uX (K:W.Frag) (C:Addr):Bool:=(Hs K C).isSome
theorem PA {α:Type} {l:List α} {x:α} (h:l.length=6) (e:l[4]?=some x) : ∃ k0 k1 k2 k3 k5,l=[k0,k1,k2,k3,x,k5]:=by
 refine cps λQQ kQ=>?_
 obtain ⟨k0,l,rfl⟩:=exists_cons_of_length_eq_add_one h
 obtain ⟨k1,l,rfl⟩:=exists_cons_of_length_eq_add_one (Nat.succ.inj h)
 obtain ⟨k2,l,rfl⟩:=exists_cons_of_length_eq_add_one (Nat.succ.inj (Nat.succ.inj h))
 obtain ⟨k3,l,rfl⟩:=exists_cons_of_length_eq_add_one (Nat.succ.inj (Nat.succ.inj (Nat.succ.inj h)))
 obtain ⟨y,l,rfl⟩:=exists_cons_of_length_eq_add_one (Nat.succ.inj (Nat.succ.inj (Nat.succ.inj (Nat.succ.inj h))))
 obtain ⟨k5,l,rfl⟩:=exists_cons_of_length_eq_add_one (Nat.succ.inj (Nat.succ.inj (Nat.succ.inj (Nat.succ.inj (Nat.succ.inj h)))))
 obtain rfl:=List.eq_nil_of_length_eq_zero (Nat.succ.inj (Nat.succ.inj (Nat.succ.inj (Nat.succ.inj (Nat.succ.inj (Nat.succ.inj h))))))
 obtain rfl:=Option.some.inj e
 exact kQ ⟨_,_,_,_,_,rfl⟩
theorem Hq {K:W.Frag} {a:Addr} {es:Array DictEntry} (h:Aa K a=some es) : ∃ o n,K.lookup a=some o/\o.data=.dict es n/\(∀ e∈es,∃ x t,e.key=.str x t)/\nsFind es "__init__"=none:=by
 refine cps λQQ kQ=>?_
 obtain ⟨o,ho,h⟩:=aO h
 obtain ⟨l8,hd,h⟩:=aO h
 obtain ⟨hc,h⟩:=eA h
 obtain rfl:=Option.some.inj h
 obtain ⟨h1,h2⟩:=and_eq_true_iff.mp hc
 obtain ⟨n,hn⟩:=Hu hd
 refine kQ ⟨o,n,ho,hn,λe he=>?_,isNone_iff_eq_none.mp h2⟩
 obtain ⟨x,hx⟩:=isSome_iff_exists.mp (all_eq_true.mp h1 e (Array.mem_toList_iff.mpr he))
 exact ⟨x,Fc hx⟩
theorem Hp {V:av} (X:V.K.In V.h₀) (h:uX V.K (V.aX 1)=true):jf V:=by
 refine cps λQQ kQ=>?_
 obtain ⟨es,h⟩:=isSome_iff_exists.mp h
 obtain ⟨o,ho,h⟩:=aO h
 obtain ⟨cd,kZ,h⟩:=aO h
 obtain ⟨hm,h⟩:=eA h
 obtain ⟨hc,kZ⟩:=eA kZ
 rw [and_eq_true,decide_eq_true_eq,decide_eq_true_eq] at hm
 rw [and_eq_true,and_eq_true,decide_eq_true_eq,decide_eq_true_eq,decide_eq_true_eq] at hc
 obtain ⟨h1,h2⟩:=hm
 obtain ⟨⟨c1,c2⟩,c3⟩:=hc
 have hd:=Ht kZ
 obtain ⟨oN,n,hN,JM,hk,hi⟩:=Hq h
 obtain ⟨oc,dd,od,⟨sl⟩⟩:=o
 obtain ⟨k0,k1,k2,k3,k5,e⟩:=PA (l:=sl) c2 (by rw [<-c3]; exact (List.getElem?_toArray ..).symm)
 obtain ⟨nm,bs,mro,ns,q,k6,sn,sub,ab,col,dl⟩:=cd
 dsimp only at c1 hd h1 h2 hN
 subst c1 hd h1 h2 e
 exact kQ ⟨nm,q,ns,bs,k6,sn,sub,ab,col,dd,k0,k1,k2,k3,k5,nsFind es,X _ _ ho,⟨oN,es,n,X _ _ hN,JM,hk,λu'=>rfl⟩,hi⟩
noncomputable def Obj.tC (o:Obj):Bool:=match o.cls with
 |.type t=>t != "list"
 |_=>true
noncomputable def DE (P:aP) (p:Nat->gV->Bool):Bool:=(List.range P.nF.length).all λk=>match P.dg k with
 |some c=>p k c
 |none=>true
noncomputable def kc (K:W.Frag):Array DictEntry:=(tq K).getD #[]
structure uk (K:W.Frag) (P:aP) (G:aV) (aN a7:List Addr) (cL:List (List Nat)):Prop where
 main:(tq K).isSome=true
 plain:(K.all λp=>Obj.tC p.2)=true
 glob:(G.glob.all (vv aN a7 (kc K)))=true
 cls:DE P (λk c=>rD K (d4 aN) (jM a7 k) (xK cL k) c)=true
 keep:((aN.headD 0::aN).all λa=>W.keepIn K (.ref a)&&W.fnIn K a)=true
 dJ:uX K (jM a7 1)=true
 fns:((List.range P.fns.length).map λk=>rZ K G aN a7 (d4 aN k))=P.fns.map some
set_option tactic.hygienic true in
theorem CD {K:W.Frag} {a:Addr} {o:Obj}:K.lookup a=some o->(a,o)∈K:=by
 induction K with
 |nil=>intro h; exact ao h
 |cons e r ih=>
  intro h
  rw [lookup_cons] at h
  split at h
  ·rename_i q; obtain rfl:=Option.some.inj h; rw [eq_of_beq q]; exact .head _
  ·exact .tail _ (ih h)
set_option tactic.hygienic true in
theorem Mr {prog:Program} {w:World} {s:Shared} {sa:Addr} {P:aP} {K:W.Frag} {G:aV} {aN a7:List Addr} {cL:List (List Nat)} {mg mb:Str->Option Value}
  (L:uk K P G aN a7 cL) (KX:K.In s.heap) {vs:List Value} (gG:s.heap.get? sa=some {cls:=.type "list",data:=.seq vs.toArray})
  (gN:s.heap.Ns mainGlobals mg) (bN:s.heap.Ns builtinsNs mb) (nl:s.heap.NoLimit) (nb : ∀ x:Str,x≠"__name__"->mb x=bootBuiltins x) (mods : ∃ mm,s.heap.Ns sysModules mm) :
  (mQ prog w s sa P K aN a7 cL).Ok G/\(mQ prog w s sa P K aN a7 cL).Base/\(mQ prog w s sa P K aN a7 cL).cN/\(mQ prog w s sa P K aN a7 cL).lU/\
   jf (mQ prog w s sa P K aN a7 cL)/\(mQ prog w s sa P K aN a7 cL).ug G/\∀ x v,nsFind (kc K) x=some v->mg x=some v:=by
 have uj:K.In (eN s.heap λb=>b=sa):=λa o e=>by
  have h1:=KX a o e
  have:a≠sa:=by
   rintro rfl
   rw [gG] at h1; obtain rfl:=Option.some.inj h1
   have:=all_eq_true.mp L.plain _ (CD e)
   simp [Obj.tC] at this
  rw [nU (P:=λb=>b=sa) this]; exact h1
 have tE : ∀ {a m},s.heap.Ns a m->(eN s.heap λb=>b=sa).Ns a m:=λ{a m} x=>by
  obtain ⟨o,e1,ep,h1,h2,h3⟩:=x
  have:a≠sa:=by
   rintro rfl
   rw [gG] at h1; obtain rfl:=Option.some.inj h1; cases h2
  exact ⟨o,e1,ep,by rw [nU (P:=λb=>b=sa) this]; exact h1,h2,h3⟩
 obtain ⟨es,BK⟩:=isSome_iff_exists.mp L.main
 have Kz:kc K=es:=by unfold kc; rw [BK]; rfl
 have wj : ∀ x,mg x=nsFind (kc K) x:=by
  rw [Kz]
  have hm:=BK
  unfold tq at hm
  split at hm
  ·rename_i o ho
   split at hm
   ·rename_i l8 n hd
    obtain rfl:=Option.some.inj hm
    obtain ⟨o2,R0,ep,h1,h2,_,h3⟩:=gN
    rw [KX _ _ ho] at h1; obtain rfl:=Option.some.inj h1
    rw [hd] at h2; cases h2
    exact λx=>(h3 x).symm
   ·exact ao hm
  ·exact ao hm
 have BP : ∀ k,W.keepIn K (.ref (d4 aN k))=true/\W.fnIn K (d4 aN k)=true:=λk=>by
  have hk:d4 aN k∈aN.headD 0::aN:=by
   unfold d4
   induction q:aN[k]? with
   |none=>exact .head _
   |some a=>exact .tail _ (mem_of_getElem? q)
  have:=all_eq_true.mp L.keep _ hk
  rwa [and_eq_true] at this
 refine ⟨⟨⟨mg,mb,tE gN,tE bN,λx d hx=>?_⟩,?_⟩,⟨?_,uj⟩,λk c hk=>?_,⟨λk=>(BP k).1,λk=>(BP k).2⟩,Hp uj L.dJ,λk f hk=>?_,λx v h=>(wj x).trans h⟩
 ·have hm:(x,d)∈G.glob:=by
   have : ∀ {l:List (Str × D)},l.lookup x=some d->(x,d)∈l:=by
    intro l
    induction l with
    |nil=>intro h; exact ao h
    |cons e r ih=>
     intro h
     rw [lookup_cons] at h
     split at h
     ·rename_i q; obtain rfl:=Option.some.inj h; rw [eq_of_beq q]; exact .head _
     ·exact .tail _ (ih h)
   exact this hx
  have hg:=all_eq_true.mp L.glob _ hm
  unfold vv at hg
  split at hg
  ·rename_i v hv
   exact ⟨v,.inl ((wj x).trans hv),λg=>xm rfl rfl hg g⟩
  ·rename_i hv
   rw [and_eq_true,decide_eq_true_eq] at hg
   obtain ⟨h1,h2⟩:=hg
   split at h2
   ·rename_i v hb
    exact ⟨v,.inr ⟨(wj x).trans hv,(nb x h1).trans hb⟩,λg=>xm rfl rfl h2 g⟩
   ·exact bo h2
 ·obtain ⟨mc,h1,h2⟩:=nl
  exact ⟨mc,tE h1,h2⟩
 ·obtain ⟨mm,h⟩:=mods
  obtain ⟨o,_,_,h1,_⟩:=tE h
  exact ⟨o,h1⟩
 ·have bQ:k<P.nF.length:=by
   have:P.dg k=some c:=hk
   unfold aP.dg at this
   induction q:P.nF[k]? with
   |none=>rw [q] at this; exact ao this
   |some c'=>exact (List.getElem?_eq_some_iff.mp q).1
  have:=all_eq_true.mp L.cls k (mem_range.mpr bQ)
  have i0:P.dg k=some c:=hk
  rw [i0] at this
  exact G6 this
 ·have i0:P.fns[k]?=some f:=hk
  have h1:(P.fns.map some)[k]?=some (some f):=by rw [getElem?_map,i0]; rfl
  rw [<-L.fns,getElem?_map] at h1
  have bQ:k<P.fns.length:=(List.getElem?_eq_some_iff.mp i0).1
  rw [getElem?_range bQ] at h1
  have h2:rZ K G aN a7 (d4 aN k)=some f:=by
   simpa using h1
  exact IB uj rfl rfl h2
theorem LZ {prog:Program} {w:World} {s:Shared} {K:W.Frag} {P:aP} {G:aV} {aN a7:List Addr} {cL:List (List Nat)} {mg mb:Str->Option Value} {fa sa:Addr} {vs:List Value} {ns:List Int} {k:Nat}
  (KX:K.In s.heap) (JU:mg "law"=some (.ref fa)) (gN:s.heap.Ns mainGlobals mg) (bN:s.heap.Ns builtinsNs mb) (nl:s.heap.NoLimit) (nb : ∀ x:Str,x≠"__name__"->mb x=bootBuiltins x) (mods:s.heap.NoSeer)
  (jS:s.gens = #[]) (gG:s.heap.get? sa=some {cls:=.type "list",data:=.seq vs.toArray}) (hi:IntsAre vs ns) (hz:ns.length<=63)
  (L:uk K P G aN a7 cL) (GE:G.Exc) (wd:nsFind (kc K) "law"=some (.ref (d4 aN k))) {f:Fn} (hf:P.fns[k]?=some f) (bg:f.bW.length=1) (dj:f.cj=none) (sq:f.cb=[]) (jR:f.bL=[])
  (fE : ∃ st,aC P 10000 12 k [.lst (ns.map .int)] [] []=.ok (.bool true) st) {R:Result->Shared->Prop}
  (hR : ∀ s',(∀ b o,s.heap.get? b=some o->s'.heap.get? b=some o)->s'.gens = #[]->s'.os=s.os->R (.ok (.ret (.bool true))) s') :
  codeAny (model prog w) callerA (.call (.ref fa) ⟨[.ref sa],[]⟩) R s:=by
 obtain ⟨O,B,aw,dk,fA,hF,hm⟩:=Mr (prog:=prog) (w:=w) L KX gG gN bN nl nb (let ⟨mm,h,_⟩:=mods.mods; ⟨mm,h⟩)
 obtain ⟨st,fE⟩:=fE
 have h1:=hm _ _ wd
 rw [JU] at h1
 obtain rfl:fa=d4 aN k:=by cases h1; rfl
 exact Rh (V:=mQ prog w s sa P K aN a7 cL) O B aw dk GE fA hF (fuel:=10000) (n:=11) (by decide) (by decide) hf bg dj sq jR (sa:=sa) rfl rfl jS gG hi hz fE hR
theorem Mw {P:Params} {h:Heap} {sa:Addr} {xs:List PyData} {vs:List Value} (w:W.Well P h (.ref sa) (W.ofPy (PyData.list xs))) (L:h.IsList sa vs.toArray):h.get? sa=some {cls:=.type "list",data:=.seq vs.toArray}:=by
 have e:W.ofPy (PyData.list xs)=.list (W.ofPys xs):=by simp [W.ofPy]
 rw [e] at w
 cases w with
 |list h1 h2=>
  obtain ⟨o,h3,h4,n,h5⟩:=L
  rw [h1] at h3
  obtain rfl:=Option.some.inj h3
  cases h5
  exact h1
noncomputable def je (h:Heap):W.Frag:=(List.range h.objs.size).filterMap λa=>match h.get? a with
 |some o=>if Obj.tC o then some (a,o) else none
 |none=>none
theorem Fg {h:Heap} {a:Addr} {o:Obj} (e:(a,o)∈je h):h.get? a=some o/\Obj.tC o=true:=by
 obtain ⟨b,_,hb⟩:=List.mem_filterMap.mp e
 split at hb
 ·split at hb
  ·cases hb; exact ⟨by assumption,by assumption⟩
  ·cases hb
 ·cases hb
theorem RC (h:Heap):(je h).In h:=λu' u' e=>(Fg (CD e)).1
noncomputable def CG (P:aP) (G:aV) (aN a7:List Addr) (cL:List (List Nat)) (s:Shared):(Bool × Bool × Bool × Bool × Bool) × Option Value × List (Option Fn):=
 (((tq (je s.heap)).isSome,G.glob.all (vv aN a7 (kc (je s.heap))),DE P (λk c=>rD (je s.heap) (d4 aN) (jM a7 k) (xK cL k) c),
  (aN.headD 0::aN).all (λa=>W.keepIn (je s.heap) (.ref a)&&W.fnIn (je s.heap) a),uX (je s.heap) (jM a7 1)),
  nsFind (kc (je s.heap)) "law",(List.range P.fns.length).map λk=>rZ (je s.heap) G aN a7 (d4 aN k))
noncomputable def CI (P:aP) (aN:List Addr) (k:Nat) (_:World):(Bool × Bool × Bool × Bool × Bool) × Option Value × List (Option Fn):=
 ((true,true,true,true,true),some (.ref (d4 aN k)),P.fns.map some)
noncomputable def td (P:aP) (G:aV) (aN a7:List Addr) (cL:List (List Nat)) (k:Nat) (_:World) (h:Heap):Prop:=
 ∃ K:W.Frag,K.In h/\uk K P G aN a7 cL/\nsFind (kc K) "law"=some (.ref (d4 aN k))
theorem Mq {P:aP} {G:aV} {aN a7:List Addr} {cL:List (List Nat)} {k:Nat} (w:World) (s:Shared) (e:CG P G aN a7 cL s=CI P aN k w):td P G aN a7 cL k w s.heap:=by
 refine cps λQQ kQ=>?_
 obtain ⟨e1,e2,e3⟩:=(Prod.mk.inj e).imp id Prod.mk.inj
 obtain ⟨a1,e1⟩:=Prod.mk.inj e1
 obtain ⟨a2,e1⟩:=Prod.mk.inj e1
 obtain ⟨a3,e1⟩:=Prod.mk.inj e1
 obtain ⟨a4,a5⟩:=Prod.mk.inj e1
 exact kQ ⟨je s.heap,RC _,⟨a1,all_eq_true.mpr λp hp=>(Fg (a:=p.1) (o:=p.2) hp).2,a2,a3,a4,a5,e3⟩,e2⟩
theorem Mp {P:aP} {G:aV} {aN a7:List Addr} {cL:List (List Nat)} {k:Nat} (w:World) (h h':Heap) (e:td P G aN a7 cL k w h) (q : ∀ b o,h.get? b=some o->h'.get? b=some o) :
  td P G aN a7 cL k w h':=let ⟨K,a,b⟩:=e; ⟨K,a.keeps q,b⟩
end Mine.Lake
end
section
open PySem
namespace Mine.Lake
noncomputable def gY:List UInt8:=[65,66,67,68,69,70,71,72,73,74,75,76,77,78,79,80,81,82,83,84,85,86,87,88,89,90,97,98,99,100,101,102,103,104,105,106,107,108,109,110,111,112,113,114,
 115,116,117,118,119,120,121,122,48,49,50,51,52,53,54,55,56,57,43,47]
noncomputable def cbuffer_0:Ss:=(.cons (.expr .bad) .nil)
noncomputable def cbuffer_1:Ss:=(.cons (.ifs (.cmp .is (.var 1) (.cst (.bn .bytearray))) (.cons (.ret (.call (.cst (.bn .bytes)) (.cons (.var 0) .nil) .nil)) .nil) .nil) cbuffer_0)
noncomputable def cbuffer_2:Ss:=(.cons (.ifs (.cmp .is (.var 1) (.cst (.bn .bytes))) (.cons (.ret (.var 0)) .nil) .nil) cbuffer_1)
noncomputable def cbuffer_3:Ss:=(.cons (.aL 1 false (.call (.cst (.bn .type)) (.cons (.var 0) .nil) .nil)) cbuffer_2)
noncomputable def zz:Fn:={bW:=[0],bL:=[],cb:=[],cj:=none,size:=2,body:=cbuffer_3}
noncomputable def ctruth_0:Ss:=(.cons (.expr .bad) .nil)
noncomputable def ctruth_1:Ss:=(.cons (.ifs (.or (.cmp .is (.var 0) (.cst .none)) (.or (.cmp .is (.var 1) (.cst (.bn .bool))) (.or (.cmp .is (.var 1) (.cst (.bn .int))) (.or (.cmp .is (.var 1) (.cst (.bn .float))) (.or (.cmp .is (.var 1) (.cst (.bn .complex))) (.or (.cmp .is (.var 1) (.cst (.bn .str))) (.or (.cmp .is (.var 1) (.cst (.bn .bytes))) (.or (.cmp .is (.var 1) (.cst (.bn .bytearray))) (.or (.cmp .is (.var 1) (.cst (.bn .list))) (.or (.cmp .is (.var 1) (.cst (.bn .tuple))) (.or (.cmp .is (.var 1) (.cst (.bn .dict))) (.or (.cmp .is (.var 1) (.cst (.bn .set))) (.or (.cmp .is (.var 1) (.cst (.bn .frozenset))) (.cmp .is (.var 1) (.cst (.bn .range)))))))))))))))) (.cons (.ret (.ite (.var 0) (.cst (.bool true)) (.cst (.bool false)))) .nil) .nil) ctruth_0)
noncomputable def ctruth_2:Ss:=(.cons (.aL 1 false (.call (.cst (.bn .type)) (.cons (.var 0) .nil) .nil)) ctruth_1)
noncomputable def z8:Fn:={bW:=[0],bL:=[],cb:=[],cj:=none,size:=2,body:=ctruth_2}
noncomputable def cb2abase64_0:Ss:=(.cons (.expr (.a9 (.var 3) .append (.cons (.idx (.cst (.bytes gY)) (.bin .and (.bin .shr (.var 5) (.bin .sub (.var 4) (.cst (.int 6)))) (.cst (.int 63)))) .nil))) (.cons (.aL 4 false (.bin .sub (.var 4) (.cst (.int 6)))) .nil))
noncomputable def cb2abase64_1:Ss:=(.cons (.aL 5 false (.bin .and (.bin .or (.bin .shl (.var 5) (.cst (.int 8))) (.var 6)) (.cst (.int 65535)))) (.cons (.aL 4 false (.bin .add (.var 4) (.cst (.int 8)))) (.cons (.kx (.cmp .ge (.var 4) (.cst (.int 6))) cb2abase64_0 .nil) .nil)))
noncomputable def cb2abase64_2:S:=(.dO (.one 6) (.var 2) cb2abase64_1)
noncomputable def cb2abase64_3:Ss:=(.cons (.ret (.call (.cst (.bn .bytes)) (.cons (.var 3) .nil) .nil)) .nil)
noncomputable def cb2abase64_4:Ss:=(.cons (.ifs (.var 1) (.cons (.expr (.a9 (.var 3) .append (.cons (.cst (.int 10)) .nil))) .nil) .nil) cb2abase64_3)
noncomputable def cb2abase64_5:Ss:=(.cons (.ifs (.cmp .eq (.var 4) (.cst (.int 2))) (.cons (.expr (.a9 (.var 3) .append (.cons (.idx (.cst (.bytes gY)) (.bin .shl (.bin .and (.var 5) (.cst (.int 3))) (.cst (.int 4)))) .nil))) (.cons (.expr (.a9 (.var 3) .append (.cons (.cst (.int 61)) .nil))) (.cons (.expr (.a9 (.var 3) .append (.cons (.cst (.int 61)) .nil))) .nil))) (.cons (.ifs (.cmp .eq (.var 4) (.cst (.int 4))) (.cons (.expr (.a9 (.var 3) .append (.cons (.idx (.cst (.bytes gY)) (.bin .shl (.bin .and (.var 5) (.cst (.int 15))) (.cst (.int 2)))) .nil))) (.cons (.expr (.a9 (.var 3) .append (.cons (.cst (.int 61)) .nil))) .nil)) .nil) .nil)) cb2abase64_4)
noncomputable def cb2abase64_6:Ss:=(.cons cb2abase64_2 cb2abase64_5)
noncomputable def cb2abase64_7:Ss:=(.cons (.aL 5 false (.cst (.int 0))) cb2abase64_6)
noncomputable def cb2abase64_8:Ss:=(.cons (.aL 4 false (.cst (.int 0))) cb2abase64_7)
noncomputable def cb2abase64_9:Ss:=(.cons (.aL 3 true (.list .nil)) cb2abase64_8)
noncomputable def cb2abase64_10:Ss:=(.cons (.aL 1 false (.call (.cst (.fn 1)) (.cons (.var 1) .nil) .nil)) cb2abase64_9)
noncomputable def cb2abase64_11:Ss:=(.cons (.aL 2 false (.call (.cst (.fn 0)) (.cons (.var 0) .nil) .nil)) cb2abase64_10)
noncomputable def zx:Fn:={bW:=[0],bL:=[],cb:=[(.newline,1)],cj:=none,size:=7,body:=cb2abase64_11}
noncomputable def cb64encode_0:Ss:=(.cons (.ret (.var 2)) .nil)
noncomputable def cb64encode_1:Ss:=(.cons (.ifs (.cmp .mK (.var 1) (.cst .none)) (.cons .bad (.cons (.ret .bad) .nil)) .nil) cb64encode_0)
noncomputable def cb64encode_2:Ss:=(.cons (.aL 2 false (.call (.cst (.fn 2)) (.cons (.var 0) .nil) (.cons .newline (.cst (.bool false)) .nil))) cb64encode_1)
noncomputable def zy:Fn:={bW:=[0,1],bL:=[.none],cb:=[],cj:=none,size:=3,body:=cb64encode_2}
noncomputable def cfinit_0:Ss:=(.cons (.cH (.var 0) .func false (.var 1)) .nil)
noncomputable def cfinit_1:Ss:=(.cons (.cH (.var 0) .it false (.call (.cst (.bn .iter)) (.cons (.var 2) .nil) .nil)) cfinit_0)
noncomputable def zE:Fn:={bW:=[0,1,2],bL:=[],cb:=[],cj:=none,size:=3,body:=cfinit_1}
noncomputable def cfiter_0:Ss:=(.cons (.ret (.var 0)) .nil)
noncomputable def zF:Fn:={bW:=[0],bL:=[],cb:=[],cj:=none,size:=1,body:=cfiter_0}
noncomputable def cfnext_0:Ss:=(.cons (.aL 2 false (.call (.cst (.bn .next)) (.cons (.attr (.var 0) .it) .nil) .nil)) (.cons (.ifs (.or (.cmp .is (.var 1) (.cst .none)) (.cmp .is (.var 1) (.cst (.bn .bool)))) (.cons (.ifs (.not (.var 2)) (.cons (.ret (.var 2)) .nil) .nil) .nil) (.cons (.ifs (.not (.call (.var 1) (.cons (.var 2) .nil) .nil)) (.cons (.ret (.var 2)) .nil) .nil) .nil)) .nil))
noncomputable def cfnext_1:S:=(.kx (.cst (.bool true)) cfnext_0 .nil)
noncomputable def cfnext_2:Ss:=(.cons cfnext_1 .nil)
noncomputable def cfnext_3:Ss:=(.cons (.aL 1 false (.attr (.var 0) .func)) cfnext_2)
noncomputable def zG:Fn:={bW:=[0],bL:=[],cb:=[],cj:=none,size:=3,body:=cfnext_3}
noncomputable def cfilter_0:Ss:=(.cons (.ret (.call (.cst (.bn .list)) (.cons (.call (.cst (.cls 3)) (.cons (.attr (.var 1) .a8) (.cons (.var 0) .nil)) .nil) .nil) .nil)) .nil)
noncomputable def zD:Fn:={bW:=[0,1],bL:=[],cb:=[],cj:=none,size:=2,body:=cfilter_0}
noncomputable def cninit_0:Ss:=(.cons (.cH (.var 0) .succ true (.list .nil)) .nil)
noncomputable def cninit_1:Ss:=(.cons (.cH (.var 0) .eb false (.cst (.int 0))) cninit_0)
noncomputable def cninit_2:Ss:=(.cons (.cH (.var 0) .node false (.var 1)) cninit_1)
noncomputable def zK:Fn:={bW:=[0,1],bL:=[],cb:=[],cj:=none,size:=2,body:=cninit_2}
noncomputable def csinit_0:Ss:=(.cons (.ifs (.cmp .mK (.var 1) (.cst .none)) (.cons .bad .nil) .nil) .nil)
noncomputable def csinit_1:Ss:=(.cons (.cH (.var 0) .d9 false (.cst (.int 0))) csinit_0)
noncomputable def csinit_2:Ss:=(.cons (.cH (.var 0) .dD false (.cst (.int 0))) csinit_1)
noncomputable def csinit_3:Ss:=(.cons (.cH (.var 0) .bY true (.cst .none)) csinit_2)
noncomputable def csinit_4:Ss:=(.cons (.cH (.var 0) .cF false .l6) csinit_3)
noncomputable def zY:Fn:={bW:=[0,1],bL:=[.none],cb:=[],cj:=none,size:=4,body:=csinit_4}
noncomputable def csgetnodeinfo_0:Ss:=(.cons (.ret (.var 2)) .nil)
noncomputable def csgetnodeinfo_1:Ss:=(.cons (.ifs (.cmp .is (.ku 2 (.a9 (.attr (.var 0) .cF) .get (.cons (.var 1) .nil))) (.cst .none)) (.cons (.oZ (.attr (.var 0) .cF) (.var 1) 2 (.call (.cst (.cls 0)) (.cons (.var 1) .nil) .nil)) .nil) .nil) csgetnodeinfo_0)
noncomputable def zW:Fn:={bW:=[0,1],bL:=[],cb:=[],cj:=none,size:=3,body:=csgetnodeinfo_1}
noncomputable def csadd_0:Ss:=(.cons (.aL 5 false (.a9 (.var 0) .me (.cons (.var 4) .nil))) (.cons (.expr (.a9 (.attr (.var 5) .succ) .append (.cons (.var 1) .nil))) .nil))
noncomputable def csadd_1:S:=(.dO (.one 4) (.var 2) csadd_0)
noncomputable def csadd_2:Ss:=(.cons csadd_1 .nil)
noncomputable def csadd_3:Ss:=(.cons (.kI (.var 3) .eb .add (.call (.cst (.bn .len)) (.cons (.var 2) .nil) .nil)) csadd_2)
noncomputable def csadd_4:Ss:=(.cons (.aL 3 false (.a9 (.var 0) .me (.cons (.var 1) .nil))) csadd_3)
noncomputable def csadd_5:Ss:=(.cons (.ifs (.cmp .mK (.attr (.var 0) .bY) (.cst .none)) (.cons .bad .nil) .nil) csadd_4)
noncomputable def pa:Fn:={bW:=[0,1],bL:=[],cb:=[],cj:=(some 2),size:=6,body:=csadd_5}
noncomputable def csprepare_0:Ss:=(.cons (.ifs (.var 1) (.cons (.qw (.sd (.cons (.cst (.str (Str.ofString "nodes are in a cycle"))) .nil)) (.var 1)) .nil) .nil) .nil)
noncomputable def csprepare_1:Ss:=(.cons (.aL 1 false (.a9 (.var 0) .nL .nil)) csprepare_0)
noncomputable def csprepare_2:Ss:=(.cons (.cH (.var 0) .bY true (.comp (.attr (.var 2) .node) (.cons (.one 2) (.a9 (.attr (.var 0) .cF) .values .nil) (.cons (.cmp .eq (.attr (.var 2) .eb) (.cst (.int 0))) .nil) .nil))) csprepare_1)
noncomputable def csprepare_3:Ss:=(.cons (.ifs (.cmp .mK (.attr (.var 0) .bY) (.cst .none)) (.cons .bad .nil) .nil) csprepare_2)
noncomputable def z0:Fn:={bW:=[0],bL:=[],cb:=[],cj:=none,size:=2,body:=csprepare_3}
noncomputable def csgetready_0:Ss:=(.cons (.cH (.idx (.var 2) (.var 3)) .eb false (.cst (.int (-1)))) .nil)
noncomputable def csgetready_1:S:=(.dO (.one 3) (.var 1) csgetready_0)
noncomputable def csgetready_2:Ss:=(.cons (.ret (.var 1)) .nil)
noncomputable def csgetready_3:Ss:=(.cons (.kI (.var 0) .dD .add (.call (.cst (.bn .len)) (.cons (.var 1) .nil) .nil)) csgetready_2)
noncomputable def csgetready_4:Ss:=(.cons (.expr (.a9 (.attr (.var 0) .bY) .clear .nil)) csgetready_3)
noncomputable def csgetready_5:Ss:=(.cons csgetready_1 csgetready_4)
noncomputable def csgetready_6:Ss:=(.cons (.aL 2 false (.attr (.var 0) .cF)) csgetready_5)
noncomputable def csgetready_7:Ss:=(.cons (.aL 1 false (.call (.cst (.bn .tuple)) (.cons (.attr (.var 0) .bY) .nil) .nil)) csgetready_6)
noncomputable def csgetready_8:Ss:=(.cons (.ifs (.cmp .is (.attr (.var 0) .bY) (.cst .none)) (.cons .bad .nil) .nil) csgetready_7)
noncomputable def zX:Fn:={bW:=[0],bL:=[],cb:=[],cj:=none,size:=4,body:=csgetready_8}
noncomputable def csisactive_0:Ss:=(.cons (.ret (.or (.cmp .lt (.attr (.var 0) .d9) (.attr (.var 0) .dD)) (.call (.cst (.bn .bool)) (.cons (.attr (.var 0) .bY) .nil) .nil))) .nil)
noncomputable def csisactive_1:Ss:=(.cons (.ifs (.cmp .is (.attr (.var 0) .bY) (.cst .none)) (.cons .bad .nil) .nil) csisactive_0)
noncomputable def zZ:Fn:={bW:=[0],bL:=[],cb:=[],cj:=none,size:=1,body:=csisactive_1}
noncomputable def csdone_0:Ss:=(.cons (.aL 7 false (.idx (.var 2) (.var 6))) (.cons (.kI (.var 7) .eb .sub (.cst (.int 1))) (.cons (.ifs (.cmp .eq (.attr (.var 7) .eb) (.cst (.int 0))) (.cons (.expr (.a9 (.attr (.var 0) .bY) .append (.cons (.var 6) .nil))) .nil) .nil) .nil)))
noncomputable def csdone_1:Ss:=(.cons (.ifs (.cmp .is (.ku 4 (.a9 (.var 2) .get (.cons (.var 3) .nil))) (.cst .none)) (.cons .bad .nil) .nil) (.cons (.aL 5 false (.attr (.var 4) .eb)) (.cons (.ifs (.cmp .ne (.var 5) (.cst (.int (-1)))) (.cons (.ifs (.cmp .ge (.var 5) (.cst (.int 0))) (.cons .bad .nil) (.cons (.ifs (.cmp .eq (.var 5) (.cst (.int (-2)))) (.cons .bad .nil) (.cons .bad .nil)) .nil)) .nil) .nil) (.cons (.cH (.var 4) .eb false (.cst (.int (-2)))) (.cons (.dO (.one 6) (.attr (.var 4) .succ) csdone_0) (.cons (.kI (.var 0) .d9 .add (.cst (.int 1))) .nil))))))
noncomputable def csdone_2:S:=(.dO (.one 3) (.var 1) csdone_1)
noncomputable def csdone_3:Ss:=(.cons csdone_2 .nil)
noncomputable def csdone_4:Ss:=(.cons (.aL 2 false (.attr (.var 0) .cF)) csdone_3)
noncomputable def csdone_5:Ss:=(.cons (.ifs (.cmp .is (.attr (.var 0) .bY) (.cst .none)) (.cons .bad .nil) .nil) csdone_4)
noncomputable def pb:Fn:={bW:=[0],bL:=[],cb:=[],cj:=(some 1),size:=8,body:=csdone_5}
noncomputable def csfindcycle_0:Ss:=(.cons (.lP (.cons (.aL 6 false (.call (.idx (.var 3) (.cst (.int (-1)))) .nil .nil)) (.cons .brk .nil)) 0 none (.cons (.pd (.var 5) (.a9 (.var 2) .pop .nil)) (.cons (.expr (.a9 (.var 3) .pop .nil)) .nil))) .nil)
noncomputable def csfindcycle_1:Ss:=(.cons (.ifs (.cmp .fG (.var 6) (.var 4)) (.cons (.ifs (.cmp .fG (.var 6) (.var 5)) (.cons (.ret (.bin .add (.slice (.var 2) (.idx (.var 5) (.var 6)) (.cst .none)) (.list (.cons (.var 6) .nil)))) .nil) .nil) .nil) (.cons (.expr (.a9 (.var 4) .add (.cons (.var 6) .nil))) (.cons (.expr (.a9 (.var 3) .append (.cons (.attr (.call (.cst (.bn .iter)) (.cons (.attr (.idx (.var 1) (.var 6)) .succ) .nil) .nil) .bO) .nil))) (.cons (.kF (.var 5) (.var 6) (.call (.cst (.bn .len)) (.cons (.var 2) .nil) .nil)) (.cons (.expr (.a9 (.var 2) .append (.cons (.var 6) .nil))) .nil))))) (.cons (.kx (.var 2) csfindcycle_0 (.cons .brk .nil)) .nil))
noncomputable def csfindcycle_2:Ss:=(.cons (.ifs (.cmp .fG (.var 6) (.var 4)) (.cons .cont .nil) .nil) (.cons (.kx (.cst (.bool true)) csfindcycle_1 .nil) .nil))
noncomputable def csfindcycle_3:S:=(.dO (.one 6) (.var 1) csfindcycle_2)
noncomputable def csfindcycle_4:Ss:=(.cons (.ret (.cst .none)) .nil)
noncomputable def csfindcycle_5:Ss:=(.cons csfindcycle_3 csfindcycle_4)
noncomputable def csfindcycle_6:Ss:=(.cons (.aL 5 false .l6) csfindcycle_5)
noncomputable def csfindcycle_7:Ss:=(.cons (.aL 4 false (.call (.cst (.bn .set)) .nil .nil)) csfindcycle_6)
noncomputable def csfindcycle_8:Ss:=(.cons (.aL 3 true (.list .nil)) csfindcycle_7)
noncomputable def csfindcycle_9:Ss:=(.cons (.aL 2 true (.list .nil)) csfindcycle_8)
noncomputable def csfindcycle_10:Ss:=(.cons (.aL 1 false (.attr (.var 0) .cF)) csfindcycle_9)
noncomputable def zV:Fn:={bW:=[0],bL:=[],cb:=[],cj:=none,size:=7,body:=csfindcycle_10}
noncomputable def zA:List gV:=[{init:=8,meths:=[(.init,8)],slots:=some [.node,.eb,.succ]},{init:=999,meths:=[],slots:=none},
 {init:=9,meths:=[(.init,9),(.me,10),(.add,11),(.prepare,12),(.iO,13),(.lr,14),(.done,15),(.nL,16)],slots:=none},
 {init:=4,meths:=[(.init,4),(.iH,5),(.bO,6)],slots:=some [.it,.func]}]
noncomputable def c2lawsign_0:Ss:=(.cons (.ret (.cst (.int 47))) .nil)
noncomputable def c2lawsign_1:Ss:=(.cons (.ifs (.cmp .eq (.var 0) (.cst (.int 62))) (.cons (.ret (.cst (.int 43))) .nil) .nil) c2lawsign_0)
noncomputable def c2lawsign_2:Ss:=(.cons (.ifs (.cmp .lt (.var 0) (.cst (.int 62))) (.cons (.ret (.bin .sub (.var 0) (.cst (.int 4)))) .nil) .nil) c2lawsign_1)
noncomputable def c2lawsign_3:Ss:=(.cons (.ifs (.cmp .lt (.var 0) (.cst (.int 52))) (.cons (.ret (.bin .add (.cst (.int 71)) (.var 0))) .nil) .nil) c2lawsign_2)
noncomputable def c2lawsign_4:Ss:=(.cons (.ifs (.cmp .lt (.var 0) (.cst (.int 26))) (.cons (.ret (.bin .add (.cst (.int 65)) (.var 0))) .nil) .nil) c2lawsign_3)
noncomputable def GJ:Fn:={bW:=[0],bL:=[],cb:=[],cj:=none,size:=1,body:=c2lawsign_4}
noncomputable def c2lawones_0:Ss:=(.cons (.ret (.comp (.var 1) (.cons (.one 1) (.call (.cst (.bn .range)) (.cons (.cst (.int 6)) .nil) .nil) (.cons (.cmp .eq (.bin .mod (.bin .fdiv (.var 0) (.bin .pow (.cst (.int 2)) (.var 1))) (.cst (.int 2))) (.cst (.int 1))) .nil) .nil))) .nil)
noncomputable def GI:Fn:={bW:=[0],bL:=[],cb:=[],cj:=none,size:=1,body:=c2lawones_0}
noncomputable def c2lawsweep_0:Ss:=(.cons (.expr (.eU (.var 2) .add (.cons (.var 3) .nil) (.comp (.var 7) (.cons (.one 7) (.idx (.var 1) (.var 3)) (.cons (.cmp .fG (.var 7) (.var 0)) .nil) .nil)))) .nil)
noncomputable def c2lawsweep_1:S:=(.dO (.one 3) (.var 0) c2lawsweep_0)
noncomputable def c2lawsweep_2:Ss:=(.cons (.aL 6 false (.a9 (.var 2) .iO .nil)) (.cons (.expr (.eU (.var 2) .done .nil (.var 6))) (.cons (.aL 5 false (.bin .add (.var 5) (.call (.cst (.bn .list)) (.cons (.var 6) .nil) .nil))) .nil)))
noncomputable def c2lawsweep_3:S:=(.kx (.a9 (.var 2) .lr .nil) c2lawsweep_2 .nil)
noncomputable def c2lawsweep_4:Ss:=(.cons (.ret (.tup (.cons (.var 4) (.cons (.var 5) .nil)))) .nil)
noncomputable def c2lawsweep_5:Ss:=(.cons c2lawsweep_3 c2lawsweep_4)
noncomputable def c2lawsweep_6:Ss:=(.cons (.aL 5 false (.list .nil)) c2lawsweep_5)
noncomputable def c2lawsweep_7:Ss:=(.cons (.lP (.cons (.expr (.a9 (.var 2) .prepare .nil)) .nil) 1 none (.cons (.aL 4 false (.cst (.bool true))) .nil)) c2lawsweep_6)
noncomputable def c2lawsweep_8:Ss:=(.cons (.aL 4 false (.cst (.bool false))) c2lawsweep_7)
noncomputable def c2lawsweep_9:Ss:=(.cons c2lawsweep_1 c2lawsweep_8)
noncomputable def c2lawsweep_10:Ss:=(.cons (.aL 2 false (.call (.cst (.cls 2)) .nil .nil)) c2lawsweep_9)
noncomputable def zt:Fn:={bW:=[0,1],bL:=[],cb:=[],cj:=none,size:=7,body:=c2lawsweep_10}
noncomputable def c2lawkernel_0:Ss:=(.cons (.ifs (.cmp .ne (.cmp .fG (.var 2) (.var 1)) (.cmp .eq (.call (.cst (.fn 7)) (.cons (.idx (.var 0) (.var 2)) (.cons (.var 1) .nil)) .nil) (.idx (.var 0) (.var 2)))) (.cons (.ret (.cst (.bool false))) .nil) .nil) .nil)
noncomputable def c2lawkernel_1:S:=(.dO (.one 2) (.call (.cst (.bn .range)) (.cons (.cst (.int 6)) .nil) .nil) c2lawkernel_0)
noncomputable def c2lawkernel_2:Ss:=(.cons (.ret (.cst (.bool true))) .nil)
noncomputable def c2lawkernel_3:Ss:=(.cons c2lawkernel_1 c2lawkernel_2)
noncomputable def zr:Fn:={bW:=[0,1],bL:=[],cb:=[],cj:=none,size:=3,body:=c2lawkernel_3}
noncomputable def c2law_0:Ss:=(.cons (.kF (.var 1) (.bin .mod (.var 2) (.cst (.int 6))) (.bin .mod (.bin .add (.idx (.var 1) (.bin .mod (.var 2) (.cst (.int 6)))) (.var 3)) (.cst (.int 256)))) (.cons (.aL 2 false (.bin .add (.var 2) (.cst (.int 1)))) .nil))
noncomputable def c2law_1:S:=(.dO (.one 3) (.slice (.var 0) (.cst .none) (.cst (.int 63))) c2law_0)
noncomputable def c2law_2:Ss:=(.cons (.aL 4 false (.bin .add (.bin .mul (.var 4) (.cst (.int 256))) (.var 5))) .nil)
noncomputable def c2law_3:S:=(.dO (.one 5) (.var 1) c2law_2)
noncomputable def c2law_4:Ss:=(.cons (.ifs (.cmp .eq (.call (.cst (.fn 7)) (.cons (.idx (.var 9) (.var 8)) (.cons (.var 10) .nil)) .nil) (.idx (.var 9) (.var 8))) (.cons (.expr (.a9 (.var 10) .append (.cons (.var 8) .nil))) .nil) (.cons (.expr (.a9 (.var 11) .append (.cons (.var 8) .nil))) .nil)) .nil)
noncomputable def c2law_5:Ss:=(.cons (.aL 13 false (.call (.cst (.fn 7)) (.cons (.list (.cons (.cst (.int 0)) (.cons (.cst (.int 1)) (.cons (.cst (.int 2)) (.cons (.cst (.int 3)) (.cons (.cst (.int 4)) (.cons (.cst (.int 5)) .nil))))))) (.cons (.bin .add (.var 10) (.var 11)) .nil)) .nil)) (.cons (.o3 [14,15] (.call (.cst (.fn 19)) (.cons (.var 13) (.cons (.var 9) .nil)) .nil)) (.cons (.ifs (.cmp .ne (.var 14) (.cmp .lt (.call (.cst (.bn .len)) (.cons (.var 15) .nil) .nil) (.call (.cst (.bn .len)) (.cons (.var 13) .nil) .nil))) (.cons (.ret (.cst (.bool false))) .nil) .nil) (.cons (.dO (.one 8) (.var 15) c2law_4) (.cons (.aL 16 false (.comp (.var 25) (.cons (.one 25) (.call (.cst (.fn 7)) (.cons (.var 13) (.cons (.var 15) .nil)) .nil) (.cons (.cmp .ne (.call (.cst (.fn 7)) (.cons (.idx (.var 9) (.var 25)) (.cons (.var 10) .nil)) .nil) (.idx (.var 9) (.var 25))) .nil) .nil))) (.cons (.aL 11 true (.bin .add (.var 11) (.var 16))) .nil))))))
noncomputable def c2law_6:S:=(.dO (.one 12) (.call (.cst (.bn .range)) (.cons (.cst (.int 4)) .nil) .nil) c2law_5)
noncomputable def c2law_7:Ss:=(.cons (.aL 18 false (.call (.cst (.bn .sum)) (.cons (.comp (.bin .pow (.cst (.int 2)) (.var 25)) (.cons (.one 25) (.call (.cst (.bn .range)) (.cons (.cst (.int 6)) .nil) .nil) (.cons (.cmp .eq (.bin .and (.idx (.var 17) (.var 25)) (.var 19)) (.idx (.var 17) (.var 25))) .nil) .nil)) .nil) .nil)) (.cons (.aL 19 false (.call (.cst (.bn .sum)) (.cons (.comp (.bin .pow (.cst (.int 2)) (.var 25)) (.cons (.one 25) (.call (.cst (.bn .range)) (.cons (.cst (.int 6)) .nil) .nil) (.cons (.cmp .ne (.bin .and (.idx (.var 17) (.var 25)) (.var 18)) (.cst (.int 0))) .nil) .nil)) .nil) .nil)) .nil))
noncomputable def c2law_8:S:=(.dO (.one 20) (.call (.cst (.bn .range)) (.cons (.cst (.int 6)) .nil) .nil) c2law_7)
noncomputable def c2law_9:Ss:=(.cons (.ifs (.cmp .ne (.cmp .eq (.bin .mod (.bin .fdiv (.var 23) (.bin .pow (.cst (.int 2)) (.var 8))) (.cst (.int 2))) (.cst (.int 1))) (.cmp .eq (.bin .and (.bin .and (.idx (.var 17) (.var 8)) (.var 23)) (.var 21)) (.cst (.int 0)))) (.cons (.aL 24 false (.cst (.bool false))) .nil) .nil) .nil)
noncomputable def c2law_10:Ss:=(.cons (.aL 24 false (.cmp .eq (.bin .and (.var 23) (.bin .add (.var 18) (.var 19))) (.var 18))) (.cons (.dO (.one 8) (.var 22) c2law_9) (.cons (.ifs (.cmp .ne (.call (.cst (.fn 20)) (.cons (.var 9) (.cons (.call (.cst (.fn 18)) (.cons (.var 23) .nil) .nil) .nil)) .nil) (.var 24)) (.cons (.ret (.cst (.bool false))) .nil) .nil) .nil)))
noncomputable def c2law_11:S:=(.dO (.one 23) (.call (.cst (.bn .range)) (.cons (.cst (.int 64)) .nil) .nil) c2law_10)
noncomputable def c2law_12:Ss:=(.cons (.ret (.cst (.bool true))) .nil)
noncomputable def c2law_13:Ss:=(.cons c2law_11 c2law_12)
noncomputable def c2law_14:Ss:=(.cons (.aL 22 false (.call (.cst (.fn 18)) (.cons (.var 21) .nil) .nil)) c2law_13)
noncomputable def c2law_15:Ss:=(.cons (.aL 21 false (.bin .sub (.bin .sub (.cst (.int 63)) (.var 18)) (.var 19))) c2law_14)
noncomputable def c2law_16:Ss:=(.cons (.ifs (.or (.cmp .ne (.call (.cst (.bn .sorted)) (.cons (.var 10) .nil) .nil) (.call (.cst (.fn 18)) (.cons (.var 18) .nil) .nil)) (.cmp .ne (.call (.cst (.bn .sorted)) (.cons (.var 11) .nil) .nil) (.call (.cst (.fn 18)) (.cons (.var 19) .nil) .nil))) (.cons (.ret (.cst (.bool false))) .nil) .nil) c2law_15)
noncomputable def c2law_17:Ss:=(.cons c2law_8 c2law_16)
noncomputable def c2law_18:Ss:=(.cons (.aL 19 false (.cst (.int 0))) c2law_17)
noncomputable def c2law_19:Ss:=(.cons (.aL 18 false (.cst (.int 0))) c2law_18)
noncomputable def c2law_20:Ss:=(.cons (.aL 17 false (.comp (.bin .sub (.idx (.var 6) (.var 25)) (.bin .and (.idx (.var 6) (.var 25)) (.idx (.var 6) (.bin .add (.cst (.int 6)) (.bin .mod (.var 25) (.cst (.int 2))))))) (.cons (.one 25) (.call (.cst (.bn .range)) (.cons (.cst (.int 6)) .nil) .nil) .nil .nil))) c2law_19)
noncomputable def c2law_21:Ss:=(.cons c2law_6 c2law_20)
noncomputable def c2law_22:Ss:=(.cons (.aL 11 true (.list .nil)) c2law_21)
noncomputable def c2law_23:Ss:=(.cons (.aL 10 true (.list .nil)) c2law_22)
noncomputable def c2law_24:Ss:=(.cons (.aL 9 false (.comp (.call (.cst (.fn 7)) (.cons (.call (.cst (.fn 18)) (.cons (.idx (.var 6) (.var 25)) .nil) .nil) (.cons (.call (.cst (.fn 18)) (.cons (.idx (.var 6) (.bin .add (.cst (.int 6)) (.bin .mod (.var 25) (.cst (.int 2))))) .nil) .nil) .nil)) .nil) (.cons (.one 25) (.call (.cst (.bn .range)) (.cons (.cst (.int 6)) .nil) .nil) .nil .nil))) c2law_23)
noncomputable def c2law_25:Ss:=(.cons (.ifs (.or (.not (.call (.cst (.bn .isinstance)) (.cons (.var 7) (.cons (.cst (.bn .bytes)) .nil)) .nil)) (.cmp .ne (.call (.cst (.bn .list)) (.cons (.var 7) .nil) .nil) (.comp (.call (.cst (.fn 17)) (.cons (.var 25) .nil) .nil) (.cons (.one 25) (.var 6) .nil .nil)))) (.cons (.ret (.cst (.bool false))) .nil) .nil) c2law_24)
noncomputable def c2law_26:Ss:=(.cons (.aL 7 false (.call (.cst (.fn 3)) (.cons (.call (.cst (.bn .bytes)) (.cons (.var 1) .nil) .nil) .nil) .nil)) c2law_25)
noncomputable def c2law_27:Ss:=(.cons (.aL 6 false (.comp (.bin .mod (.bin .fdiv (.var 4) (.bin .pow (.cst (.int 64)) (.bin .sub (.cst (.int 7)) (.var 25)))) (.cst (.int 64))) (.cons (.one 25) (.call (.cst (.bn .range)) (.cons (.cst (.int 8)) .nil) .nil) .nil .nil))) c2law_26)
noncomputable def c2law_28:Ss:=(.cons c2law_3 c2law_27)
noncomputable def c2law_29:Ss:=(.cons (.aL 4 false (.cst (.int 0))) c2law_28)
noncomputable def c2law_30:Ss:=(.cons c2law_1 c2law_29)
noncomputable def c2law_31:Ss:=(.cons (.aL 2 false (.cst (.int 0))) c2law_30)
noncomputable def c2law_32:Ss:=(.cons (.aL 1 true (.list (.cons (.cst (.int 129)) (.cons (.cst (.int 28)) (.cons (.cst (.int 164)) (.cons (.cst (.int 22)) (.cons (.cst (.int 136)) (.cons (.cst (.int 16)) .nil)))))))) c2law_31)
noncomputable def uM:Fn:={bW:=[0],bL:=[],cb:=[],cj:=none,size:=25,body:=c2law_32}
noncomputable def P2:aP:={fns:=[zz,z8,zx,zy,zE,zF,zG,zD,zK,zY,zW,pa,z0,zX,zZ,pb,zV,GJ,GI,zt,zr,uM],nF:=zA}
noncomputable def PP (r:List Fn):aP:={fns:=[zz,z8,zx,zy,zE,zF,zG,zD,zK,zY,zW,pa,z0,zX,zZ,pb,zV]++r,nF:=zA}
section
variable {P:aP} {cl:Calls} {st aa ae:St} {C:ai} {m:List (Option D)}
theorem bl {s:S} {r:Ss} (h:ex P cl s st=.ok .next aa):aq P cl (.cons s r) st=aq P cl r aa:=by
 show (match ex P cl s st with|.ok .next aa=>aq P cl r aa|o=>o)=_; rw [h]
theorem iM {s:S} {r:Ss} {d:D} (h:ex P cl s st=.ok (.ret d) aa):aq P cl (.cons s r) st=.ok (.ret d) aa:=by
 show (match ex P cl s st with|.ok .next aa=>aq P cl r aa|o=>o)=_; rw [h]
theorem pA {s:S} {r:Ss} {x:X} (h:ex P cl s st=.exc x aa):aq P cl (.cons s r) st=.exc x aa:=by
 show (match ex P cl s st with|.ok .next aa=>aq P cl r aa|o=>o)=_; rw [h]
theorem aQ {α β:Type} {o:ak α} {a:α} {f:α->St->ak β} (h:o=.ok a aa):o.bind f=f a aa:=by rw [h]; rfl
theorem mR {o:Option D} {d:D} (h:o=some d):cW o st=.ok d st:=by rw [h]; rfl
theorem hY {e:E} {d:D} (h:ev P cl e st=.ok d aa):ex P cl (.expr e) st=.ok .next aa:=aQ h
theorem au {n:Nat} {d:D} (h:m[n]?=some (some d)):ev P cl (.var n) ⟨m,C⟩=.ok d ⟨m,C⟩:=by
 show (match m[n]? with|some (some d)=>(ak.ok d ⟨m,C⟩:ak D)|_=>.fail)=_; rw [h]
theorem bw {op:Op} {a b:E} {x y z:D} (ha:ev P cl a st=.ok x aa) (hb:ev P cl b aa=.ok y ae) (h:dz ae.C op x y=some z):ev P cl (.bin op a b) st=.ok z ae:=
 (aQ ha).trans ((aQ hb).trans (mR h))
theorem bI {op:Cm} {a b:E} {x y:D} {z:Bool} (ha:ev P cl a st=.ok x aa) (hb:ev P cl b aa=.ok y ae) (h:g9 ae.C op x y=some z):ev P cl (.cmp op a b) st=.ok (.bool z) ae:=
 (aQ ha).trans ((aQ hb).trans (mR (by rw [h]; rfl)))
theorem dA {a b:E} {x y z:D} (ha:ev P cl a st=.ok x aa) (hb:ev P cl b aa=.ok y ae) (h:i6 ae.C x y=some z):ev P cl (.idx a b) st=.ok z ae:=
 (aQ ha).trans ((aQ hb).trans (mR h))
theorem u9 {a:E} {x:D} {b:Bool} (ha:ev P cl a st=.ok x aa) (h:bA aa.C x=some b):ev P cl (.not a) st=.ok (.bool (!b)) aa:=
 (aQ ha).trans (mR (by rw [h]; rfl))
theorem H6 {a b:E} {x:D} (ha:ev P cl a st=.ok x aa) (h:bA aa.C x=some true):ev P cl (.or a b) st=.ok x aa:=by
 refine (aQ ha).trans ?_; rw [h]
theorem rK {a b:E} {x:D} (ha:ev P cl a st=.ok x aa) (h:bA aa.C x=some false):ev P cl (.or a b) st=ev P cl b aa:=by
 refine (aQ ha).trans ?_; rw [h]
theorem cu {a:E} {n:Nm} {x d:D} (ha:ev P cl a st=.ok x aa) (h:eI P aa.C x n=some d):ev P cl (.attr a n) st=.ok d aa:=(aQ ha).trans (mR h)
theorem jD {n:Nat} {d:D} (hn:n<m.length):dE n d ⟨m,C⟩=.ok () ⟨m.set n (some d),C⟩:=if_pos hn
theorem bM {n:Nat} {e:E} {d:D} (h:ev P cl e st=.ok d ⟨m,C⟩) (hn:n<m.length):ex P cl (.aL n false e) st=.ok .next ⟨m.set n (some d),C⟩:=
 (aQ (a:=d) (aQ h)).trans (aQ (jD hn))
theorem rQ {c:E} {a b:Ss} {x:D} (h:ev P cl c st=.ok x aa) (ht:bA aa.C x=some true):ex P cl (.ifs c a b) st=aq P cl a aa:=by
 refine (aQ h).trans ?_; rw [ht]
theorem kS {c:E} {a b:Ss} {x:D} (h:ev P cl c st=.ok x aa) (ht:bA aa.C x=some false):ex P cl (.ifs c a b) st=aq P cl b aa:=by
 refine (aQ h).trans ?_; rw [ht]
theorem rR {e:E} {d:D} (h:ev P cl e st=.ok d aa):ex P cl (.ret e) st=.ok (.ret d) aa:=aQ h
theorem AN {e:E} {es:Es} {d:D} {ds:List D} (h:ev P cl e st=.ok d aa) (h2:bE P cl es aa=.ok (.lst ds) ae):bE P cl (.cons e es) st=.ok (.lst (d::ds)) ae:=by
 refine (aQ h).trans ?_; rw [h2]
theorem bT {e:E} {d:D} (h:ev P cl e st=.ok d aa):bE P cl (.cons e .nil) st=.ok (.lst [d]) aa:=AN h rfl
theorem kR {e f:E} {d d2:D} (h:ev P cl e st=.ok d aa) (h2:ev P cl f aa=.ok d2 ae):bE P cl (.cons e (.cons f .nil)) st=.ok (.lst [d,d2]) ae:=AN h (bT h2)
theorem jj {f:E} {es:Es} {g:D} {ds:List D} (hf:ev P cl f st=.ok g aa) (hs:bE P cl es aa=.ok (.lst ds) ae):ev P cl (.call f es .nil) st=kL P cl g ds [] ae:=by
 refine (aQ hf).trans ?_; rw [hs]; rfl
theorem pn {o:E} {n:Nm} {es:Es} {x:D} {mk:MK} {ds:List D} (ho:ev P cl o st=.ok x aa) (hm:du P aa.C x n=some mk) (hs:bE P cl es aa=.ok (.lst ds) ae):ev P cl (.a9 o n es) st=oq cl mk x ds ae:=by
 refine (aQ ho).trans ?_; rw [hm]; exact aQ hs
theorem rO {v i:Nat} {e:E} {d:D} {ds l7:List D} {m1:List (Option D)} {C1:ai} (hv:m[v]?=some (some (.loc i))) (h0:C[i]?=some (.list ds)) (he:ev P cl e ⟨m,C⟩=.ok d ⟨m1,C1⟩) (h1:C1[i]?=some (.list l7)) (hl:l7.length<aF) :
  ex P cl (.expr (.a9 (.var v) .append (.cons e .nil))) ⟨m,C⟩=.ok .next ⟨m1,C1.set i (.list (l7++[d]))⟩:=by
 refine hY (d:=.none) ((pn (au hv) (mk:=.ly) (show (C[i]?).bind (ki .append)=_ by rw [h0]; rfl) (bT he)).trans ?_)
 show aK (eB C1 i) (λds=>bp (decide (ds.length<aF)) (.ok .none ⟨m1,C1.set i (.list (ds++[d]))⟩))=_
 rw [show eB C1 i=some l7 by unfold eB; rw [h1]]
 show bp (decide (l7.length<aF)) _=_
 rw [decide_eq_true hl]; rfl
theorem jN {o e:E} {a:Nm} {d y:D} {C':ai} (he:ev P cl e st=.ok d aa) (ho:ev P cl o aa=.ok y ae) (hs:eX P y a d ae.C=some C'):ex P cl (.cH o a false e) st=.ok .next ⟨ae.m,C'⟩:=
 (aQ (a:=d) (aQ he)).trans ((aQ ho).trans (aQ (a:=()) (by rw [hs]; rfl)))
theorem fQ {C E:ai} {i:Nat} {c:Ch} (h:C[i]?=some c):(C++E)[i]?=some c:=by rw [List.getElem?_append_left (List.getElem?_eq_some_iff.mp h).1,h]
set_option tactic.hygienic true in
theorem uA {C:ai} {i:Nat} {ds:List D} (h:bK C (.loc i)=some ds):C[i]?=some (.list ds):=by
 unfold bK at h
 dsimp only at h
 induction e:C[i]? with
 |none=>rw [e] at h; exact ao h
 |some c=>rw [e] at h; induction c using Ch.casesOn<;>first|exact ao h|rw [Option.some.inj h]
theorem yL {C E:ai} {a:D} {ds:List D} (h:bK C a=some ds):bK (C++E) a=some ds:=by
 induction a using D.casesOn<;>first|exact ao h|exact h|skip
 unfold bK; dsimp only; rw [fQ (uA h)]
theorem F1 {C E:ai} {a:D} {ds:List D} (h:aT C a=some ds):aT (C++E) a=some ds:=by
 induction a using D.casesOn<;>first|exact ao h|exact h|skip
 unfold aT; dsimp only; rw [fQ (uA h)]
theorem mG : ∀ (xs:List Int),d8 (xs.map .int)=some xs
 |[]=>rfl
 |x::r=>by show (d8 (r.map .int)).map (x :: ·)=_; rw [mG r]; rfl
theorem Ct (x:Int) (xs:List Int):ik (.int x) (xs.map .int)=some (xs.contains x):=by
 unfold ik; rw [mG]; rfl
theorem Bm {tests:St->ak D} {inner:List D->St->ak D} {aS:ai->ai->Bool} {p:D->Bool} {f:D->D} (hc:aS C C=true) :
  ∀ {ds:List D} {acc:List D},(∀ d∈ds,tests ⟨m++[some d],C⟩=.ok (.bool (p d)) ⟨m++[some d],C⟩)->
  (∀ d∈ds,p d=true->∀ aR,aR.length<acc.length+ds.length->inner aR ⟨m++[some d],C⟩=.ok (.lst (aR++[f d])) ⟨m++[some d],C⟩)->
  cI (.one m.length) (bD tests inner) aS ds acc ⟨m,C⟩=.ok (.lst (acc++(ds.filter p).map f)) ⟨m,C⟩
 |[],acc,_,_=>by rw [show cI (.one m.length) (bD tests inner) aS [] acc ⟨m,C⟩=.ok (.lst acc) ⟨m,C⟩ from rfl,filter_nil,map_nil,append_nil]
 |d::ds,acc,h1,h2=>by
  have e1:fq (.one m.length) d ⟨m++replicate (T.one m.length).width none,C⟩=.ok () ⟨m++[some d],C⟩:=by
   refine (jD (by simp [T.width])).trans ?_
   simp [T.width]
  have ht:=h1 d (.head _)
  have step : ∀ aR,bD tests inner acc ⟨m++[some d],C⟩=.ok (.lst aR) ⟨m++[some d],C⟩->cI (.one m.length) (bD tests inner) aS (d::ds) acc ⟨m,C⟩=cI (.one m.length) (bD tests inner) aS ds aR ⟨m,C⟩:=λaR h=>by
   show (match fq (.one m.length) d ⟨m++replicate (T.one m.length).width none,C⟩ with
    |.ok _ aa=>match bD tests inner acc aa with
     |.ok (.lst aR) ae=>if aS C ae.C then cI (.one m.length) (bD tests inner) aS ds aR ⟨ae.m.take m.length,ae.C⟩ else .fail
     |_=>.fail
    |_=>.fail)=_
   rw [e1]; dsimp only; rw [h]; dsimp only; rw [if_pos hc,take_left' rfl]
  have turn : ∀ o,(match p d with|true=>inner acc ⟨m++[some d],C⟩|false=>.ok (.lst acc) ⟨m++[some d],C⟩)=o->bD tests inner acc ⟨m++[some d],C⟩=o:=λo h=>by
   unfold bD; rw [ht,<-h]; induction p d<;>rfl
  induction hp:p d with
  |true=>
   rw [step (acc++[f d]) (turn _ (by rw [hp]; exact h2 d (.head _) hp acc (by simp))),
    Bm hc (λd' hd=>h1 d' (.tail _ hd)) (λd' hd wt aR hl=>h2 d' (.tail _ hd) wt aR (by rw [length_append] at hl; simp only [length_cons,length_nil] at hl ⊢; omega)),
    filter_cons,hp,if_pos rfl,map_cons,append_assoc]; rfl
  |false=>
   rw [step acc (turn _ (by rw [hp])),Bm hc (λd' hd=>h1 d' (.tail _ hd)) (λd' hd wt aR hl=>h2 d' (.tail _ hd) wt aR (by rw [length_cons]; omega)),filter_cons,hp,if_neg Bool.false_ne_true]
theorem fV {aS:ai->ai->Bool} {t:T} {f:St->ak Fl} {d:D} {ds:List D} {m m1:List (Option D)} {C:ai} {aa:St} (h1:gv t d m=some m1) (h2:f ⟨m1,C⟩=.ok .next aa) (h3:aS C aa.C=true) :
  forLoop aS t f (d::ds) ⟨m,C⟩=forLoop aS t f ds aa:=by
 show (match gv t d m with
  |some m1=>match f ⟨m1,C⟩ with
   |.ok .next aa=>if aS C aa.C then forLoop aS t f ds aa else .fail
   |.ok .cont aa=>if aS C aa.C then forLoop aS t f ds aa else .fail
   |.ok .brk aa=>.ok .next aa
   |o=>o
  |none=>.fail)=_
 rw [h1]; dsimp only; rw [h2]; dsimp only; rw [if_pos h3]
theorem c5 {b:Bn} {args:List D} (hz:cl.fuel≠0):gA P cl b args st=rm P cl b args st:=by
 unfold gA
 rw [beq_false_of_ne hz]; rfl
theorem lp {ds:List D} {k:Int}:i6 C (.lst ds) (.int k)=gI ds k:=rfl
theorem Cn {ds:List D} {k:Int} {j:Nat} (h:C[j]?=some (.list ds)):i6 C (.loc j) (.int k)=gI ds k:=by
 show (C[j]?).bind (wF k)=_; rw [h]; rfl
theorem RU {b:Bn} {args:List D} (hz:cl.fuel≠0):kL P cl (.bn b) args [] st=rm P cl b args st:=c5 hz
theorem l0 {fuel:Nat} {call:Nat->List D->List (Nm × D)->ai->ak D} {b:Bn} {args:List D} (hz:fuel≠0):gA P ⟨call,fuel⟩ b args st=rm P ⟨call,fuel⟩ b args st:=c5 hz
section
variable {c:St->D->Prop} {cc:St->ak D} {f ek:St->ak Fl} {n:Nat} {d:D}
theorem qN:whileLoop cc f ek (n+1) st=(match cc st with
  |.ok d aa=>match bA aa.C d with
   |some true=>match f aa with
    |.ok .next ae=>whileLoop cc f ek n ae
    |.ok .cont ae=>whileLoop cc f ek n ae
    |.ok .brk ae=>.ok .next ae
    |o=>o
   |some false=>ek aa
   |none=>.fail
  |.exc x aa=>.exc x aa
  |.fail=>.fail):=rfl
theorem oL (h1:cc st=.ok d aa) (h2:bA aa.C d=some true) (h3:f aa=.ok .next ae):whileLoop cc f ek (n+1) st=whileLoop cc f ek n ae:=by
 rw [qN,h1]; dsimp only; rw [h2]; dsimp only; rw [h3]
theorem Ff {r:D} (h1:cc st=.ok d aa) (h2:bA aa.C d=some true) (h3:f aa=.ok (.ret r) ae):whileLoop cc f ek (n+1) st=.ok (.ret r) ae:=by
 rw [qN,h1]; dsimp only; rw [h2]; dsimp only; rw [h3]
theorem RB {x:X} (h1:cc st=.ok d aa) (h2:bA aa.C d=some true) (h3:f aa=.exc x ae):whileLoop cc f ek (n+1) st=.exc x ae:=by
 rw [qN,h1]; dsimp only; rw [h2]; dsimp only; rw [h3]
theorem t7 (h1:cc st=.ok d aa) (h2:bA aa.C d=some false):whileLoop cc f ek (n+1) st=ek aa:=by
 rw [qN,h1]; dsimp only; rw [h2]
end
end
section
variable {r:List Fn} {fuel n:Nat} {C:ai} {a sk:D} {xs ys:List Int}
noncomputable def jz (ys:List Int):List Int->Nat->Option (Int × List Int × Nat)
 |[],_=>none
 |z::zs,p=>if ys.contains z then jz ys zs (p+1) else some (z,zs,p+1)
noncomputable def MF (C:ai) (sk src:D) (p:Nat):ai:=C++[.slots 3 [some (.loc (C.length+1)),some (.bm .a8 sk)],.bf src p]
theorem qS {src:D} {p:Nat}:(MF C sk src p)[C.length]?=some (.slots 3 [some (.loc (C.length+1)),some (.bm .a8 sk)]):=by unfold MF; simp
theorem Fz {src:D} {p:Nat}:(MF C sk src p)[C.length+1]?=some (.bf src p):=by unfold MF; simp
theorem yt {src EO:D} {p p':Nat}:(MF C sk src p).set (C.length+1) (.bf EO p')=MF C sk EO p':=by
 unfold MF; simp [set_append]
theorem Hy (hs:aT C sk=some (ys.map .int)):eI (PP r) C sk .a8=some (.bm .a8 sk):=by
 induction sk using D.casesOn<;>first|exact ao hs|rfl|skip
 show (C[_]?).bind _=_
 rw [uA hs]; rfl
theorem Gb {p:Nat} {src:D}:eI (PP r) (MF C sk src p) (.loc C.length) .it=some (.loc (C.length+1)):=by
 show ((MF C sk src p)[C.length]?).bind _=_; rw [qS]; rfl
theorem Ga {p:Nat} {src:D}:eI (PP r) (MF C sk src p) (.loc C.length) .func=some (.bm .a8 sk):=by
 show ((MF C sk src p)[C.length]?).bind _=_; rw [qS]; rfl
theorem Dp (hf:fuel≠0) (ha:bK C a=some (xs.map .int)) {x2:Option D} {p:Nat} {cl:Calls} (ic:cl.fuel=fuel) :
  ev (PP r) cl (.call (.cst (.bn .next)) (.cons (.attr (.var 0) .it) .nil) .nil) ⟨[some (.loc C.length),some (.bm .a8 sk),x2],MF C sk a p⟩ =
   (match xs[p]? with
    |some x=>.ok (.int x) ⟨[some (.loc C.length),some (.bm .a8 sk),x2],MF C sk a (p+1)⟩
    |none=>.exc .stop ⟨[some (.loc C.length),some (.bm .a8 sk),x2],MF C sk .none 0⟩):=by
 have hit:ev (PP r) cl (.attr (.var 0) .it) ⟨[some (.loc C.length),some (.bm .a8 sk),x2],MF C sk a p⟩=.ok (.loc (C.length+1)) ⟨[some (.loc C.length),some (.bm .a8 sk),x2],MF C sk a p⟩:=
  cu (au (d:=.loc C.length) rfl) Gb
 rw [jj (g:=.bn .next) rfl (bT hit)]
 refine (c5 (by rw [ic]; exact hf)).trans ?_
 show eV (MF C sk a p) _ (C.length+1)=_
 unfold eV
 rw [Fz]
 dsimp only
 rw [show bK (MF C sk a p) a=some (xs.map .int) from yL ha]
 dsimp only
 rw [getElem?_map]
 induction xs[p]? with
 |none=>dsimp only [Option.map]; rw [yt]
 |some x=>dsimp only [Option.map]; rw [yt]
theorem Dn (hf:fuel≠0) (ha:bK C a=some (xs.map .int)) (hs:aT C sk=some (ys.map .int)) {cl:Calls} (ic:cl.fuel=fuel) :
  ∀ (zs:List Int) (p k:Nat) (x2:Option D),xs.drop p=zs->zs.length<k->
  ∃ oM,whileLoop (λaa=>ev (PP r) cl (.cst (.bool true)) aa) (λaa=>aq (PP r) cl cfnext_0 aa) (λaa=>aq (PP r) cl .nil aa) k ⟨[some (.loc C.length),some (.bm .a8 sk),x2],MF C sk a p⟩ =
   (match jz ys zs p with
    |some (x,_,q)=>.ok (.ret (.int x)) ⟨[some (.loc C.length),some (.bm .a8 sk),oM],MF C sk a q⟩
    |none=>.exc .stop ⟨[some (.loc C.length),some (.bm .a8 sk),oM],MF C sk .none 0⟩)
 |[],p,0,_,_,hk=>by simp at hk
 |[],p,k+1,x2,hz,hk=>by
  refine ⟨x2,?_⟩
  have hn:xs[p]?=none:=by
   rw [List.drop_eq_nil_iff] at hz
   exact getElem?_eq_none hz
  have ht:=Dp (r:=r) (sk:=sk) hf ha (x2:=x2) (p:=p) ic
  rw [hn] at ht
  have e1:aq (PP r) cl cfnext_0 ⟨[some (.loc C.length),some (.bm .a8 sk),x2],MF C sk a p⟩=.exc .stop ⟨[some (.loc C.length),some (.bm .a8 sk),x2],MF C sk .none 0⟩:=by
   unfold cfnext_0
   refine pA ?_
   show ((ev (PP r) cl _ _).bind λx aa=>fT _ x aa).bind _=_
   rw [ht]; rfl
  exact RB (d:=.bool true) rfl rfl e1
 |z::zs,p,0,_,_,hk=>by simp at hk
 |z::zs,p,k+1,x2,hz,hk=>by
  have hx:xs[p]?=some z:=by
   have:=congrArg (·[0]?) hz
   simpa using this
  have hd:xs.drop (p+1)=zs:=by
   have:=congrArg (List.drop 1) hz
   simpa [add_comm] using this
  have ht:=Dp (r:=r) (sk:=sk) hf ha (x2:=x2) (p:=p) ic
  rw [hx] at ht
  have e1:aq (PP r) cl cfnext_0 ⟨[some (.loc C.length),some (.bm .a8 sk),x2],MF C sk a p⟩ =
    (if ys.contains z then .ok .next ⟨[some (.loc C.length),some (.bm .a8 sk),some (.int z)],MF C sk a (p+1)⟩ else .ok (.ret (.int z)) ⟨[some (.loc C.length),some (.bm .a8 sk),some (.int z)],MF C sk a (p+1)⟩):=by
   unfold cfnext_0
   rw [bl (bM ht (by simp))]
   have c1 : ∀ (C':ai),ev (PP r) cl (.or (.cmp .is (.var 1) (.cst .none)) (.cmp .is (.var 1) (.cst (.bn .bool)))) ⟨[some (.loc C.length),some (.bm .a8 sk),some (.int z)],C'⟩=.ok (.bool false) ⟨[some (.loc C.length),some (.bm .a8 sk),some (.int z)],C'⟩:=λC'=>by
    rw [rK (bI (au (d:=.bm .a8 sk) rfl) rfl (z:=false) rfl) rfl]
    exact bI (au (d:=.bm .a8 sk) rfl) rfl rfl
   show aq (PP r) cl _ ⟨[some (.loc C.length),some (.bm .a8 sk),some (.int z)],MF C sk a (p+1)⟩=_
   have c2:ev (PP r) cl (.call (.var 1) (.cons (.var 2) .nil) .nil) ⟨[some (.loc C.length),some (.bm .a8 sk),some (.int z)],MF C sk a (p+1)⟩=.ok (.bool (ys.contains z)) ⟨[some (.loc C.length),some (.bm .a8 sk),some (.int z)],MF C sk a (p+1)⟩:=by
    rw [jj (au (d:=.bm .a8 sk) rfl) (bT (au (d:=.int z) rfl))]
    show aK ((aT (MF C sk a (p+1)) sk).bind (ik (.int z))) _=_
    rw [show aT (MF C sk a (p+1)) sk=some (ys.map .int) from F1 hs]
    show aK (ik (.int z) (ys.map .int)) _=_
    rw [Ct]; rfl
   induction hb:ys.contains z with
   |true=>
    rw [hb] at c2
    have:ex (PP r) cl (.ifs (.or (.cmp .is (.var 1) (.cst .none)) (.cmp .is (.var 1) (.cst (.bn .bool)))) (.cons (.ifs (.not (.var 2)) (.cons (.ret (.var 2)) .nil) .nil) .nil) (.cons (.ifs (.not (.call (.var 1) (.cons (.var 2) .nil) .nil)) (.cons (.ret (.var 2)) .nil) .nil) .nil)) ⟨[some (.loc C.length),some (.bm .a8 sk),some (.int z)],MF C sk a (p+1)⟩=.ok .next ⟨[some (.loc C.length),some (.bm .a8 sk),some (.int z)],MF C sk a (p+1)⟩:=by
     rw [kS (c1 _) rfl,bl (aa:=⟨[some (.loc C.length),some (.bm .a8 sk),some (.int z)],MF C sk a (p+1)⟩) (by rw [kS (u9 c2 (b:=true) rfl) rfl]; rfl)]
     rfl
    rw [bl this]; rfl
   |false=>
    rw [hb] at c2
    refine iM ?_
    rw [kS (c1 _) rfl]
    refine iM ?_
    rw [rQ (u9 c2 (b:=false) rfl) rfl]
    exact iM (rR (au rfl))
  induction hb:ys.contains z with
  |false=>
   refine ⟨some (.int z),?_⟩
   rw [jz,hb]
   exact Ff (d:=.bool true) rfl rfl (by rw [e1,hb]; rfl)
  |true=>
   obtain ⟨oM,ih⟩:=Dn hf ha hs ic zs (p+1) k (some (.int z)) hd (by simp at hk; omega)
   refine ⟨oM,?_⟩
   rw [jz,hb]
   exact (oL (d:=.bool true) rfl rfl (by rw [e1,hb]; rfl)).trans ih
theorem Dw : ∀ (zs:List Int) (p:Nat),(match jz ys zs p with
  |some (x,nh,q)=>zs.filter (λx=>!ys.contains x)=x::nh.filter (λx=>!ys.contains x)/\nh.length<zs.length/\∀ xs:List Int,xs.drop p=zs->xs.drop q=nh
  |none=>zs.filter (λx=>!ys.contains x)=[])
 |[],p=>rfl
 |z::zs,p=>by
  rw [jz]
  induction hb:ys.contains z with
  |false=>
   rw [if_neg (by decide)]
   refine ⟨by rw [filter_cons,hb]; rfl,by simp,λxs hx=>?_⟩
   have:=congrArg (List.drop 1) hx
   simpa [add_comm] using this
  |true=>
   rw [if_pos rfl]
   have ih:=Dw zs (p+1)
   have hf:(z::zs).filter (λx=>!ys.contains x)=zs.filter (λx=>!ys.contains x):=by rw [filter_cons,hb]; rfl
   rw [hf]
   induction h:jz ys zs (p+1) with
   |none=>rw [h] at ih; exact ih
   |some t=>
    obtain ⟨x,nh,q⟩:=t
    rw [h] at ih
    refine ⟨ih.1,lt_succ_of_lt ih.2.1,λxs hx=>ih.2.2 xs ?_⟩
    have:=congrArg (List.drop 1) hx
    simpa [add_comm] using this
theorem Nc (hf:fuel≠0) (ha:bK C a=some (xs.map .int)) (hs:aT C sk=some (ys.map .int)) {zs:List Int} {p:Nat} (hz:xs.drop p=zs) (hk:zs.length<fuel) :
  ∃ m',aC (PP r) fuel (n+1) 6 [.loc C.length] [] (MF C sk a p)=(match jz ys zs p with
    |some (x,_,q)=>.ok (.int x) ⟨m',MF C sk a q⟩
    |none=>.exc .stop ⟨m',MF C sk .none 0⟩):=by
 obtain ⟨oM,h⟩:=Dn (r:=r) (cl:=⟨aC (PP r) fuel n,fuel⟩) hf ha hs rfl zs p fuel none hz hk
 refine ⟨[some (.loc C.length),some (.bm .a8 sk),oM],?_⟩
 show di (aq (PP r) ⟨aC (PP r) fuel n,fuel⟩ cfnext_3 ⟨[some (.loc C.length),none,none],MF C sk a p⟩)=_
 unfold cfnext_3
 have e0:ev (PP r) ⟨aC (PP r) fuel n,fuel⟩ (.attr (.var 0) .func) ⟨[some (.loc C.length),none,none],MF C sk a p⟩=.ok (.bm .a8 sk) ⟨[some (.loc C.length),none,none],MF C sk a p⟩:=cu (au (d:=.loc C.length) rfl) Ga
 rw [bl (bM e0 (by simp))]
 show di (aq (PP r) ⟨aC (PP r) fuel n,fuel⟩ cfnext_2 ⟨[some (.loc C.length),some (.bm .a8 sk),none],MF C sk a p⟩)=_
 unfold cfnext_2 cfnext_1
 have e:ex (PP r) ⟨aC (PP r) fuel n,fuel⟩ (.kx (.cst (.bool true)) cfnext_0 .nil) ⟨[some (.loc C.length),some (.bm .a8 sk),none],MF C sk a p⟩=_:=h
 induction hn:jz ys zs p with
 |none=>
  rw [hn] at e
  rw [pA e]; rfl
 |some t=>
  obtain ⟨x,nh,q⟩:=t
  rw [hn] at e
  rw [iM e]; rfl
theorem Ar (hf:fuel≠0) (ha:bK C a=some (xs.map .int)) (hs:aT C sk=some (ys.map .int)) :
  ∀ (k:Nat) (zs:List Int) (p:Nat) (acc:List D),xs.drop p=zs->zs.length<k->zs.length<fuel->acc.length+zs.length<=aF->
  ∃ m',iJ ⟨aC (PP r) fuel (n+1),fuel⟩ 3 6 C.length k (MF C sk a p) acc=.ok (.lst (acc++(zs.filter (λx=>!ys.contains x)).map .int)) ⟨m',MF C sk .none 0⟩
 |0,_,_,_,_,hk,_,_=>by omega
 |k+1,zs,p,acc,hz,hk,ic,hl=>by
  obtain ⟨m1,h1⟩:=Nc (r:=r) (n:=n) hf ha hs hz ic
  have hm:=Dw (ys:=ys) zs p
  rw [iJ,qS]
  dsimp only
  rw [if_pos (show ((3:Nat)==3)=true from rfl)]
  rw [h1]
  induction hn:jz ys zs p with
  |none=>
   rw [hn] at hm
   refine ⟨m1,?_⟩
   dsimp only at hm ⊢
   rw [hm]; simp
  |some t=>
   obtain ⟨x,nh,q⟩:=t
   rw [hn] at hm
   dsimp only at hm ⊢
   obtain ⟨e1,e2,e3⟩:=hm
   obtain ⟨m2,ih⟩:=Ar hf ha hs k nh q (acc++[.int x]) (e3 xs hz) (by omega) (by omega) (by simp; omega)
   refine ⟨m2,?_⟩
   rw [if_pos (by omega),ih,e1]
   simp
theorem zI:(PP r).dg 3=some {init:=4,meths:=[(.init,4),(.iH,5),(.bO,6)],slots:=some [.it,.func]}:=rfl
theorem G5 {call:Nat->List D->List (Nm × D)->ai->ak D} {m:List (Option D)} {args:List D}:kL (PP r) ⟨call,fuel⟩ (.cls 3) args [] ⟨m,C⟩=mF (.loc C.length) m (call 4 (.loc C.length::args) [] (C++[.slots 3 [none,none]])):=by
 show nD (PP r) ⟨call,fuel⟩ 3 args ⟨m,C⟩=_
 unfold nD
 rw [zI]; rfl
theorem A1 (hf:fuel≠0) (ha:bK C a=some (xs.map .int)) (hs:aT C sk=some (ys.map .int)) (hx:xs.length<fuel) (j4:xs.length<=aF) :
  ∃ m',aC (PP r) fuel (n+2) 7 [a,sk] [] C=.ok (.lst ((xs.filter (λx=>!ys.contains x)).map .int)) ⟨m',MF C sk .none 0⟩:=by
 obtain ⟨m2,hd⟩:=Ar (r:=r) (n:=n) hf ha hs fuel xs 0 [] (by simp) hx hx (by simpa using j4)
 refine ⟨[some a,some sk],?_⟩
 show di (aq (PP r) ⟨aC (PP r) fuel (n+1),fuel⟩ cfilter_0 ⟨[some a,some sk],C⟩)=_
 unfold cfilter_0
 have hN:(C++[Ch.slots 3 [none,none]])[C.length]?=some (.slots 3 [none,none]):=by simp
 have J8:aC (PP r) fuel (n+1) 4 [.loc C.length,.bm .a8 sk,a] [] (C++[.slots 3 [none,none]])=.ok .none ⟨[some (.loc C.length),some (.bm .a8 sk),some a],MF C sk a 0⟩:=by
  show di (aq (PP r) ⟨aC (PP r) fuel n,fuel⟩ cfinit_1 ⟨[some (.loc C.length),some (.bm .a8 sk),some a],C++[.slots 3 [none,none]]⟩)=_
  unfold cfinit_1
  have e1:ev (PP r) ⟨aC (PP r) fuel n,fuel⟩ (.call (.cst (.bn .iter)) (.cons (.var 2) .nil) .nil) ⟨[some (.loc C.length),some (.bm .a8 sk),some a],C++[.slots 3 [none,none]]⟩ =
    .ok (.loc (C.length+1)) ⟨[some (.loc C.length),some (.bm .a8 sk),some a],C++[.slots 3 [none,none],.bf a 0]⟩:=by
   rw [jj (g:=.bn .iter) rfl (bT (au (d:=a) rfl))]
   refine (l0 hf).trans ?_
   show aK (bK (C++[Ch.slots 3 [none,none]]) a) _=_
   rw [yL ha]
   show ak.ok _ _=_
   simp
  rw [bl (jN e1 (au (d:=.loc C.length) rfl) (C':=C++[.slots 3 [some (.loc (C.length+1)),none],.bf a 0]) (by
   show ((C++[Ch.slots 3 [none,none],.bf a 0])[C.length]?).bind _=_
   rw [show (C++[Ch.slots 3 [none,none],.bf a 0])[C.length]?=some (.slots 3 [none,none]) by simp]
   show some _=some _
   simp [set_append]
   done))]
  unfold cfinit_0
  rw [bl (jN (au (d:=.bm .a8 sk) rfl) (au (d:=.loc C.length) rfl) (C':=MF C sk a 0) (by
   show ((C++[Ch.slots 3 [some (.loc (C.length+1)),none],.bf a 0])[C.length]?).bind _=_
   rw [show (C++[Ch.slots 3 [some (.loc (C.length+1)),none],.bf a 0])[C.length]?=some (.slots 3 [some (.loc (C.length+1)),none]) by simp]
   show some _=some _
   unfold MF
   simp [set_append]
   rfl))]
  rfl
 have JJ:ev (PP r) ⟨aC (PP r) fuel (n+1),fuel⟩ (.call (.cst (.cls 3)) (.cons (.attr (.var 1) .a8) (.cons (.var 0) .nil)) .nil) ⟨[some a,some sk],C⟩=.ok (.loc C.length) ⟨[some a,some sk],MF C sk a 0⟩:=by
  rw [jj (g:=.cls 3) rfl (kR (cu (au (d:=sk) rfl) (Hy hs)) (au (d:=a) rfl))]
  rw [G5,J8]; rfl
 have Kd:aC (PP r) fuel (n+1) 5 [.loc C.length] [] (MF C sk a 0)=.ok (.loc C.length) ⟨[some (.loc C.length)],MF C sk a 0⟩:=rfl
 have Ko:ev (PP r) ⟨aC (PP r) fuel (n+1),fuel⟩ (.call (.cst (.bn .list)) (.cons (.call (.cst (.cls 3)) (.cons (.attr (.var 1) .a8) (.cons (.var 0) .nil)) .nil) .nil) .nil) ⟨[some a,some sk],C⟩ =
   .ok (.lst ((xs.filter (λx=>!ys.contains x)).map .int)) ⟨[some a,some sk],MF C sk .none 0⟩:=by
  rw [jj (g:=.bn .list) rfl (bT JJ)]
  refine (l0 hf).trans ?_
  show aK ((MF C sk a 0)[C.length]?) _=_
  rw [qS]
  dsimp only [aK,za]
  unfold rn
  rw [zI]
  dsimp only
  rw [show List.lookup Nm.iH [(Nm.init,4),(.iH,5),(.bO,6)]=some 5 from rfl,show List.lookup Nm.bO [(Nm.init,4),(.iH,5),(.bO,6)]=some 6 from rfl]
  dsimp only [aK]
  rw [Kd]
  dsimp only
  rw [decide_eq_true rfl]
  dsimp only [bp]
  rw [hd,List.nil_append]
 rw [iM (rR Ko)]
 rfl
end
end Mine.Lake
end
section
open PySem PyProof.Rows
namespace Mine.Lake
noncomputable def ba (k:Nat):Int:=((gY[k]?).getD 0).toNat
theorem LC {C:ai} {b:List UInt8} {k:Int}:i6 C (.bytes b) (.int k)=qa b k:=rfl
theorem Cr {C:ai} {k:Nat} (h:k<64):i6 C (.bytes gY) (.int k)=some (.int (ba k)):=by
 rw [LC]
 unfold qa
 rw [if_pos (by omega)]
 have hl:k<gY.length:=h
 rw [toNat_natCast]
 unfold ba
 rw [getElem?_eq_getElem hl]; rfl
theorem NQ (a b:Nat) (h:b<256):Builtin.bitOr ((a:Int)*2 ^ 8) (b:Int)=((a*256+b:Nat):Int):=by
 have e:((a:Int)*2 ^ 8)=((a*256:Nat):Int):=by rw [Int.natCast_mul]; rfl
 rw [bitOr_and,e,bitAnd_pp (natCast_nonneg _) (natCast_nonneg _),toNat_natCast,toNat_natCast]
 have:(a*256) &&& b=0:=by
  have h2:a*256=2 ^ 8*a:=mul_comm a 256
  have h1:=Nat.two_pow_add_eq_or_of_lt (i:=8) (b:=b) h a
  apply Nat.eq_of_testBit_eq
  intro j
  rw [testBit_and,h2,Nat.testBit_two_pow_mul,Nat.zero_testBit]
  by_cases hj:j<8
  ·have : ¬ (8<=j):=not_le.mpr hj
   simp [this]
  ·have:b.testBit j=false:=Nat.testBit_lt_two_pow (lt_of_lt_of_le h (Nat.pow_le_pow_right (n:=2) (by decide) (not_lt.mp hj)))
   simp [this]
 rw [this]; exact Int.sub_zero _
theorem xI {a y p q N:Nat} (hp:0<p) (hd:64 ∣ N):(a*(q*p)+y) % (p*N) / p % 64=(a*q+y / p) % 64:=by
 rw [Nat.mod_mul_right_div_self,Nat.mod_mod_of_dvd _ hd,<-mul_assoc,add_comm,add_mul_div_right _ _ hp,add_comm]
theorem u4 {a y p q N:Nat} (hd:p ∣ N):(a*(q*p)+y) % N % p=y % p:=by
 rw [Nat.mod_mod_of_dvd _ hd,<-mul_assoc,mul_add_mod']
theorem lo {a v p q:Nat} (h:v<p):(a*p+v) % (p*q)=a % q*p+v:=by
 rw [Nat.mod_mul,mul_add_mod',mod_eq_of_lt h,add_comm (a*p) v,add_mul_div_right _ _ (lt_of_le_of_lt (zero_le _) h),Nat.div_eq_of_lt h,zero_add,add_comm,mul_comm]
theorem De (a y:Nat):(a*256+y) % 65536 % 16=y % 16:=u4 (p:=16) (q:=16) (N:=65536) ⟨4096,rfl⟩
theorem w6 (a y:Nat):(a*256+y) % 65536 % 4=y % 4:=u4 (p:=4) (q:=64) (N:=65536) ⟨16384,rfl⟩
theorem k0 {a x:Nat} (h:x<256):(a*256+x) % 65536 / 2 ^ 2 % 64=x / 4:=(xI (p:=4) (q:=64) (N:=16384) (by decide) ⟨256,rfl⟩).trans ((mul_add_mod' a 64 (x / 4)).trans (mod_eq_of_lt (div_lt_of_lt_mul h)))
theorem k1 {a x:Nat} (h:x<256):(a*256+x) % 65536 / 2 ^ 4 % 64=a % 4*16+x / 16:=(xI (p:=16) (q:=16) (N:=4096) (by decide) ⟨64,rfl⟩).trans (lo (p:=16) (q:=4) (div_lt_of_lt_mul h))
theorem k2 {a x:Nat} (h:x<256):(a*256+x) % 65536 / 2 ^ 6 % 64=a % 16*4+x / 64:=(xI (p:=64) (q:=4) (N:=1024) (by decide) ⟨16,rfl⟩).trans (lo (p:=4) (q:=16) (div_lt_of_lt_mul h))
theorem k3 {a x:Nat}:(a*256+x) % 65536 / 2 ^ 0 % 64=x % 64:=(congrArg (· % 64) (Nat.div_one _)).trans (u4 (p:=64) (q:=4) (N:=65536) ⟨1024,rfl⟩)
theorem tm (a:Nat):a % 65536<65536:=mod_lt _ (by decide)
theorem xo {os l:List D} {b n:Nat} (h:os.length+b<=aF) (hb:l.length+n<b):(os++l).length+n<aF:=by
 rw [length_append,add_assoc]; exact lt_of_lt_of_le (add_lt_add_left hb _) h
theorem Oh {os l:List D} {n:Nat} (h:os.length+2*(n+3)<=aF) (hl:l.length=4):(os++l).length+2*n<=aF:=by
 rw [length_append,hl,add_assoc,add_comm 4]; exact le_trans (add_le_add_left (by rw [Nat.mul_add]; exact add_le_add_left (by decide) _) _) h
theorem xn {a b:Nat} (h:a+(b+1)<=aF):a<aF:=lt_of_lt_of_le (Nat.lt_add_of_pos_right (Nat.succ_pos _)) h
section
variable {r:List Fn} {cl:Calls} {C:ai} {os:List D} {x0 x1 x2 x6:Option D}
noncomputable def MB (x0 x1 x2:Option D) (N:Nat) (lb lc:Int) (x6:Option D):List (Option D):=[x0,x1,x2,some (.loc N),some (.int lb),some (.int lc),x6]
theorem put {lb:Int} {lc:Nat} {k s:Nat} (h1:lb=((s+6:Nat):Int)) (h2:s<=1000) (hk:lc / 2 ^ s % 64=k) (hl:os.length<aF) :
  aq (PP r) cl cb2abase64_0 ⟨MB x0 x1 x2 C.length lb lc x6,C++[.list os]⟩=.ok .next ⟨MB x0 x1 x2 C.length (lb - 6) lc x6,C++[.list (os++[.int (ba k)])]⟩:=by
 have e1:ev (PP r) cl (.idx (.cst (.bytes gY)) (.bin .and (.bin .shr (.var 5) (.bin .sub (.var 4) (.cst (.int 6)))) (.cst (.int 63)))) ⟨MB x0 x1 x2 C.length lb lc x6,C++[.list os]⟩=.ok (.int (ba k)) ⟨MB x0 x1 x2 C.length lb lc x6,C++[.list os]⟩:=by
  refine dA (x:=.bytes gY) (y:=.int k) rfl (bw (x:=.int ((lc / 2 ^ s:Nat):Int)) (y:=.int 63) (bw (x:=.int lc) (y:=.int s) (au rfl) (bw (x:=.int lb) (y:=.int 6) (au rfl) rfl ?_) ?_) rfl ?_) ?_
  ·show some (D.int (lb - 6))=_
   rw [h1]; congr 2; omega
  ·show (gK .shr _ _).map _=_
   unfold gK
   dsimp only
   rw [if_pos (by simp; omega)]
   show some (D.int _)=_
   congr 2
   have hp:(0:Int)<=2 ^ s:=Int.pow_nonneg (show (0:Int)<=2 by decide)
   rw [toNat_natCast,Int.fdiv_eq_ediv_of_nonneg _ hp]
   simp
  ·show some (D.int (Builtin.bitAnd _ 63))=_
   rw [bitAnd_m6]
   congr 2
   omega
  ·exact Cr (by omega)
 unfold cb2abase64_0
 rw [bl (rO (i:=C.length) rfl (ds:=os) (by simp) e1 (l7:=os) (by simp) hl)]
 rw [bl (bM (d:=.int (lb - 6)) (bw (x:=.int lb) (y:=.int 6) (au rfl) rfl rfl) (by simp [MB]))]
 show ak.ok Fl.next ⟨_,List.set (C++[Ch.list os]) C.length (Ch.list (os++[.int (ba k)]))⟩=_
 simp [set_append]
 rfl
noncomputable def t8 (r:List Fn) (cl:Calls):Nat->St->ak Fl:=whileLoop (λaa=>ev (PP r) cl (.cmp .ge (.var 4) (.cst (.int 6))) aa) (λaa=>aq (PP r) cl cb2abase64_0 aa) (λaa=>aq (PP r) cl .nil aa)
theorem rS {P:aP} {s:S} {st:St}:aq P cl (.cons s .nil) st=ex P cl s st:=by
 show (match ex P cl s st with|.ok .next aa=>aq P cl .nil aa|o=>o)=_
 induction ex P cl s st with
 |ok f aa=>induction f<;>rfl
 |exc x aa=>rfl
 |fail=>rfl
theorem t9 {n:Nat} {lb il:Int} {lc:Nat} {k s:Nat} (h1:lb=((s+6:Nat):Int)) (h3:lb - 6=il) (h2:s<=1000) (hk:lc / 2 ^ s % 64=k) (hl:os.length<aF) :
  t8 r cl (n+1) ⟨MB x0 x1 x2 C.length lb lc x6,C++[.list os]⟩=t8 r cl n ⟨MB x0 x1 x2 C.length il lc x6,C++[.list (os++[.int (ba k)])]⟩:=by
 have e:ev (PP r) cl (.cmp .ge (.var 4) (.cst (.int 6))) ⟨MB x0 x1 x2 C.length lb lc x6,C++[.list os]⟩=.ok (.bool true) ⟨MB x0 x1 x2 C.length lb lc x6,C++[.list os]⟩:=
  bI (x:=.int lb) (y:=.int 6) (au rfl) rfl (by show some (decide _)=_; rw [h1]; congr 1; simp; omega)
 exact oL e rfl (by rw [put h1 h2 hk hl,h3])
theorem ya {n:Nat} {lb:Int} {lc:Nat} (h:lb<6):t8 r cl (n+1) ⟨MB x0 x1 x2 C.length lb lc x6,C++[.list os]⟩=.ok .next ⟨MB x0 x1 x2 C.length lb lc x6,C++[.list os]⟩:=by
 have e:ev (PP r) cl (.cmp .ge (.var 4) (.cst (.int 6))) ⟨MB x0 x1 x2 C.length lb lc x6,C++[.list os]⟩=.ok (.bool false) ⟨MB x0 x1 x2 C.length lb lc x6,C++[.list os]⟩:=
  bI (x:=.int lb) (y:=.int 6) (au rfl) rfl (by show some (decide _)=_; congr 1; simp; omega)
 exact t7 e rfl
theorem uL {lb il:Int} {lc x:Nat} (ig:lc<65536) (hx:x<256) (h3:lb+8=il) :
  aq (PP r) cl cb2abase64_1 ⟨MB x0 x1 x2 C.length lb lc (some (.int x)),C++[.list os]⟩=t8 r cl cl.fuel ⟨MB x0 x1 x2 C.length il ((lc*256+x) % 65536:Nat) (some (.int x)),C++[.list os]⟩:=by
 unfold cb2abase64_1
 have e:ev (PP r) cl (.bin .and (.bin .or (.bin .shl (.var 5) (.cst (.int 8))) (.var 6)) (.cst (.int 65535))) ⟨MB x0 x1 x2 C.length lb lc (some (.int x)),C++[.list os]⟩ =
   .ok (.int ((lc*256+x) % 65536:Nat)) ⟨MB x0 x1 x2 C.length lb lc (some (.int x)),C++[.list os]⟩:=by
  refine bw (x:=.int ((lc*256+x:Nat):Int)) (y:=.int 65535) (bw (x:=.int ((lc:Int)*2 ^ 8)) (y:=.int x) (bw (x:=.int lc) (y:=.int 8) (au rfl) rfl ?_) (au rfl) ?_) rfl ?_
  ·show (gK .shl _ _).map _=_
   unfold gK
   dsimp only
   rw [if_pos (by simp [small]; omega)]
   rfl
  ·show some (D.int (Builtin.bitOr _ _))=_
   rw [NQ _ _ hx]
  ·show some (D.int (Builtin.bitAnd _ 65535))=_
   rw [bitAnd_m16]; congr 2
 rw [bl (bM e (by simp [MB])),bl (bM (d:=.int (lb+8)) (bw (x:=.int lb) (y:=.int 8) (au rfl) rfl rfl) (by simp [MB])),rS,h3]
 rfl
theorem uK {lc x n:Nat} (ig:lc<65536) (hx:x<256) (hf:cl.fuel=n+3) (hl:os.length<aF) :
  aq (PP r) cl cb2abase64_1 ⟨MB x0 x1 x2 C.length 0 lc (some (.int x)),C++[.list os]⟩=.ok .next ⟨MB x0 x1 x2 C.length 2 ((lc*256+x) % 65536:Nat) (some (.int x)),C++[.list (os++[.int (ba (x / 4))])]⟩:=by
 rw [uL (il:=8) ig hx rfl,hf,t9 (lb:=8) (s:=2) (il:=2) (k:=x / 4) rfl rfl (by decide) (k0 hx) hl,ya (by decide)]
theorem zp {lc x n:Nat} (ig:lc<65536) (hx:x<256) (hf:cl.fuel=n+3) (hl:os.length<aF) :
  aq (PP r) cl cb2abase64_1 ⟨MB x0 x1 x2 C.length 2 lc (some (.int x)),C++[.list os]⟩=.ok .next ⟨MB x0 x1 x2 C.length 4 ((lc*256+x) % 65536:Nat) (some (.int x)),C++[.list (os++[.int (ba (lc % 4*16+x / 16))])]⟩:=by
 rw [uL (il:=10) ig hx rfl,hf,t9 (lb:=10) (s:=4) (il:=4) (k:=lc % 4*16+x / 16) rfl rfl (by decide) (k1 hx) hl,ya (by decide)]
theorem GG {lc x n:Nat} (ig:lc<65536) (hx:x<256) (hf:cl.fuel=n+3) (hl:os.length+1<aF) :
  aq (PP r) cl cb2abase64_1 ⟨MB x0 x1 x2 C.length 4 lc (some (.int x)),C++[.list os]⟩=.ok .next ⟨MB x0 x1 x2 C.length 0 ((lc*256+x) % 65536:Nat) (some (.int x)),C++[.list (os++[.int (ba (lc % 16*4+x / 64)),.int (ba (x % 64))])]⟩:=by
 rw [uL (il:=12) ig hx rfl,hf,t9 (lb:=12) (s:=6) (il:=6) (k:=lc % 16*4+x / 64) rfl rfl (by decide) (k2 hx) (Nat.lt_of_succ_lt hl),t9 (lb:=6) (s:=0) (il:=0) (k:=x % 64) rfl rfl (by decide) k3 (by rw [length_append]; exact hl),ya (by decide),append_assoc]
 rfl
noncomputable def gm:List Nat->List Nat
 |x::y::z::r=>x / 4::(x % 4*16+y / 16)::(y % 16*4+z / 64)::z % 64::gm r
 |[x,y]=>[x / 4,x % 4*16+y / 16]
 |[x]=>[x / 4]
 |[]=>[]
noncomputable def gQ:List Nat->Nat
 |_::_::_::r=>gQ r
 |[_,y]=>y % 16*4
 |[x]=>x % 4*16
 |[]=>0
noncomputable def qh (r:List Fn) (cl:Calls) (bs:List UInt8):List D->St->ak Fl:=forLoop (λC C'=>aY C C' (.bytes bs)) (.one 6) (λae=>aq (PP r) cl cb2abase64_1 ae)
theorem oj {iE:List UInt8} {d:D} {ds:List D} {lb lc:Int} {ae:St} (h:aq (PP r) cl cb2abase64_1 ⟨MB x0 x1 x2 C.length lb lc (some d),C++[.list os]⟩=.ok .next ae) :
  qh r cl iE (d::ds) ⟨MB x0 x1 x2 C.length lb lc x6,C++[.list os]⟩=qh r cl iE ds ae:=by
 show (match aq (PP r) cl cb2abase64_1 ⟨MB x0 x1 x2 C.length lb lc (some d),C++[.list os]⟩ with|.ok .next aa=>_|.ok .cont aa=>_|.ok .brk aa=>_|o=>_)=_
 rw [h]
 rfl
inductive yr (r:List Fn) (cl:Calls) (iE:List UInt8) (C:ai) (x0 x1 x2 x6:Option D) (bs:List Nat) (lc:Nat) (os:List D):Prop
 |mk (dq:Nat) (lR:Option D) (h1:qh r cl iE (bs.map λb:Nat=>D.int (b:Int)) ⟨MB x0 x1 x2 C.length 0 lc x6,C++[.list os]⟩ =
   .ok .next ⟨MB x0 x1 x2 C.length (2*(bs.length % 3):Nat) dq lR,C++[.list (os++(gm bs).map λk=>D.int (ba k))]⟩)
   (h2:bs.length % 3=1->dq % 4*16=gQ bs) (h3:bs.length % 3=2->dq % 16*4=gQ bs):yr r cl iE C x0 x1 x2 x6 bs lc os
theorem tG {m:List (Option D)} {l l':List D} (h:l=l'):(ak.ok Fl.next (⟨m,C++[.list l]⟩:St))=.ok .next ⟨m,C++[.list l']⟩:=by rw [h]
theorem yV {k:Nat} (n:Nat) (h:k<6):k<2*(n+3):=by omega
theorem CJ (n:Nat):(n+3) % 3=n % 3:=Nat.add_mod_right n 3
theorem CT {n:Nat} (hf:cl.fuel=n+3) {iE:List UInt8} : ∀ (bs:List Nat) (lc:Nat) (os:List D) (x6:Option D),(∀ b∈bs,b<256)->lc<65536->os.length+2*bs.length<=aF->yr r cl iE C x0 x1 x2 x6 bs lc os
 |[],lc,os,x6,_,_,_=>⟨lc,x6,tG (append_nil os).symm,λh=>absurd h (by decide : ¬ ((0:Nat) % 3=1)),λh=>absurd h (by decide : ¬ ((0:Nat) % 3=2))⟩
 |[x],lc,os,x6,hb,ig,hl=>⟨(lc*256+x) % 65536,some (.int x),oj (ds:=[]) (uK ig (hb x (.head _)) hf (xn hl)),λu'=>congrArg (· * 16) (w6 lc x),λh=>absurd h (by decide : ¬ ((1:Nat) % 3=2))⟩
 |[x,y],lc,os,x6,hb,ig,hl=>⟨(((lc*256+x) % 65536)*256+y) % 65536,some (.int y),
   (oj (uK ig (hb x (.head _)) hf (xn hl))).trans ((oj (ds:=[]) (zp (tm _) (hb y (.tail _ (.head _))) hf (xo (l:=[_]) (n:=0) hl (by decide:1<4)))).trans (tG (by rw [w6,append_assoc]; rfl))),
   λh=>absurd h (by decide : ¬ ((2:Nat) % 3=1)),λu'=>congrArg (· * 4) (De _ y)⟩
 |x::y::z::bs,lc,os,x6,hb,ig,hl=>by
  obtain ⟨dq,lR,h1,h2,h3⟩:=CT hf (iE:=iE) bs (((((lc*256+x) % 65536)*256+y) % 65536*256+z) % 65536) (os++[.int (ba (x / 4)),.int (ba (x % 4*16+y / 16)),.int (ba (y % 16*4+z / 64)),.int (ba (z % 64))])
   (some (.int z)) (λb h=>hb b (.tail _ (.tail _ (.tail _ h)))) (tm _) (Oh hl rfl)
  have e3:(x::y::z::bs).length % 3=bs.length % 3:=CJ _
  refine ⟨dq,lR,(oj (uK ig (hb x (.head _)) hf (xn hl))).trans ((oj (zp (tm _) (hb y (.tail _ (.head _))) hf (xo (l:=[_]) (n:=0) hl (yV _ (by decide:1<6))))).trans
   ((oj (GG (tm _) (hb z (.tail _ (.tail _ (.head _)))) hf ?_)).trans ((congrArg (λl=>qh r cl iE _ ⟨MB x0 x1 x2 C.length 0 _ _,C++[.list l]⟩) ?_).trans (h1.trans ?_)))),λe=>h2 (e3 ▸ e),λe=>h3 (e3 ▸ e)⟩
  ·rw [append_assoc]; exact xo hl (yV _ (by decide:3<6))
  ·rw [w6,De,append_assoc,append_assoc]; rfl
  ·rw [e3,append_assoc]; rfl
end
noncomputable def bP (bs:List Nat):List Int:=(gm bs).map ba++(match bs.length % 3 with
 |1=>[ba (gQ bs),61,61]
 |2=>[ba (gQ bs),61]
 |_=>[])
theorem xF {k:Nat}:0<=ba k/\ba k<256:=by
 unfold ba
 have:=UInt8.toNat_lt ((gY[k]?).getD 0)
 omega
theorem rt : ∀ {xs:List Int},(∀ x∈xs,0<=x/\x<256)->∃ tb,gy xs=some tb/\tb.map (λc=>(c.toNat:Int))=xs
 |[],_=>⟨[],rfl,rfl⟩
 |x::xs,h=>by
  obtain ⟨tb,h1,h2⟩:=rt (xs:=xs) λy hy=>h y (.tail _ hy)
  have hx:=h x (.head _)
  obtain ⟨n,rfl⟩:=Int.eq_ofNat_of_zero_le hx.1
  refine ⟨n.toUInt8::tb,by rw [gy,if_pos hx,h1]; rfl,?_⟩
  rw [map_cons,h2]
  exact congrArg (λk:Nat=>(k:Int)::xs) (mod_eq_of_lt (ofNat_lt.mp hx.2))
theorem Se (f:Nat->Int) (ks:List Nat):d8 (ks.map λk=>D.int (f k))=some (ks.map f):=by
 have:=mG (ks.map f)
 rwa [map_map] at this
theorem Av {bs:List Nat} : ∀ x∈bP bs,0<=x/\x<256:=by
 intro x hx
 unfold bP at hx
 rw [mem_append] at hx
 rcases hx with hx|hx
 ·obtain ⟨k,_,rfl⟩:=mem_map.mp hx; exact xF
 ·split at hx
  ·simp at hx; rcases hx with rfl|rfl
   ·exact xF
   ·decide
  ·simp at hx; rcases hx with rfl|rfl
   ·exact xF
   ·decide
  ·cases hx
theorem xH : ∀ bs:List Nat,(gm bs).length<=2*bs.length
 |[]=>by simp [gm]
 |[x]=>by simp [gm]
 |[x,y]=>by simp [gm]
 |x::y::z::r=>by show (gm r).length+1+1+1+1<=2*(r.length+1+1+1); exact le_trans (add_le_add_right (xH r) 4) (le_trans (add_le_add_left (by decide:4<=2*3) (2*r.length)) (le_of_eq (Nat.mul_add 2 r.length 3).symm))
section
variable {r:List Fn} {cl:Calls} {C:ai} {os:List D} {x0 x1 x2 x6:Option D} {lb:Int} {lc:Nat}
theorem pz {e:E} {d:D} (he:ev (PP r) cl e ⟨MB x0 x1 x2 C.length lb lc x6,C++[.list os]⟩=.ok d ⟨MB x0 x1 x2 C.length lb lc x6,C++[.list os]⟩) (hl:os.length<aF) :
  ex (PP r) cl (.expr (.a9 (.var 3) .append (.cons e .nil))) ⟨MB x0 x1 x2 C.length lb lc x6,C++[.list os]⟩=.ok .next ⟨MB x0 x1 x2 C.length lb lc x6,C++[.list (os++[d])]⟩:=by
 rw [rO (i:=C.length) rfl (ds:=os) (by simp) he (l7:=os) (by simp) hl]
 simp [set_append]
theorem AE {a:Int} {s t:Nat} (ha:Builtin.bitAnd lc a=((lc % t:Nat):Int)) (hs:s<=10) (ht:lc % t*2 ^ s<64) {b:Int} (hb:b=(s:Nat)) :
  ev (PP r) cl (.idx (.cst (.bytes gY)) (.bin .shl (.bin .and (.var 5) (.cst (.int a))) (.cst (.int b)))) ⟨MB x0 x1 x2 C.length lb lc x6,C++[.list os]⟩ =
   .ok (.int (ba (lc % t*2 ^ s))) ⟨MB x0 x1 x2 C.length lb lc x6,C++[.list os]⟩:=by
 refine dA (x:=.bytes gY) (y:=.int ((lc % t*2 ^ s:Nat):Int)) rfl (bw (x:=.int ((lc % t:Nat):Int)) (y:=.int b) (bw (x:=.int lc) (y:=.int a) (au rfl) rfl ?_) rfl ?_) (Cr ht)
 ·show some (D.int (Builtin.bitAnd _ _))=_
  rw [ha]
 ·show (gK .shl _ _).map _=_
  unfold gK
  dsimp only
  have hp:0<2 ^ s:=pow_pos (by decide)
  have hm:lc % t<=lc % t*2 ^ s:=Nat.le_mul_of_pos_right _ hp
  rw [if_pos (by
   rw [hb]
   have h1:small ((lc % t:Nat):Int)=true:=by
    unfold small
    rw [decide_eq_true_eq,natAbs_natCast]
    exact lt_of_le_of_lt hm (lt_trans ht (by decide))
   rw [h1]; simp; omega)]
  show some (D.int _)=_
  rw [hb,toNat_natCast]
  simp
theorem Rf (bs:List Nat):(match bs.length % 3 with
 |1=>[ba (gQ bs),61,61]
 |2=>[ba (gQ bs),61]
 |_=>[]).length<=8:=by
 split
 ·exact le_add_right 3 5
 ·exact le_add_right 2 6
 ·exact zero_le _
theorem Ra (ic:cl.fuel≠0) {bs:List Nat} {ob:List UInt8} (ho:gy (bP bs)=some ob) (h1:bs.length % 3=1->lc % 4*16=gQ bs) (h2:bs.length % 3=2->lc % 16*4=gQ bs) (hl:2*bs.length+8<=aF) :
  ∃ m',aq (PP r) cl cb2abase64_5 ⟨MB x0 (some (.bool false)) x2 C.length (2*(bs.length % 3):Nat) lc x6,C++[.list ((gm bs).map λk=>D.int (ba k))]⟩=.ok (.ret (.bytes ob)) ⟨m',C++[.list ((bP bs).map .int)]⟩:=by
 have j3 : ∀ {n},n<8->((gm bs).map λk=>D.int (ba k)).length+n<aF:=λh=>by
  rw [length_map]
  exact lt_of_lt_of_le (Nat.add_lt_add_of_le_of_lt (xH bs) h) hl
 have hlen:(bP bs).length<=aF:=by
  unfold bP
  rw [length_append,length_map]
  exact le_trans (add_le_add (xH bs) (Rf bs)) hl
 have fin : ∀ (lb:Int),aq (PP r) cl cb2abase64_4 ⟨MB x0 (some (.bool false)) x2 C.length lb lc x6,C++[.list ((bP bs).map .int)]⟩=.ok (.ret (.bytes ob)) ⟨MB x0 (some (.bool false)) x2 C.length lb lc x6,C++[.list ((bP bs).map .int)]⟩:=λlb=>by
  unfold cb2abase64_4
  rw [bl (aa:=⟨MB x0 (some (.bool false)) x2 C.length lb lc x6,C++[.list ((bP bs).map .int)]⟩) (by rw [kS (x:=.bool false) (au rfl) rfl]; rfl)]
  unfold cb2abase64_3
  refine iM (rR ?_)
  rw [jj (g:=.bn .bytes) rfl (bT (au (d:=.loc C.length) rfl))]
  refine (c5 ic).trans ?_
  show aK ((j5 (C++[Ch.list ((bP bs).map .int)]) (.loc C.length)).bind gy) _=_
  have:j5 (C++[Ch.list ((bP bs).map .int)]) (.loc C.length)=some (bP bs):=by
   unfold j5
   rw [show aT (C++[Ch.list ((bP bs).map .int)]) (.loc C.length)=some ((bP bs).map .int) from iC List.getElem?_concat_length]
   exact mG _
  rw [this]
  show aK (gy (bP bs)) _=_
  rw [ho]
  have KA:ob.length=(bP bs).length:=by
   obtain ⟨Sp,e1,e2⟩:=rt (Av (bs:=bs))
   rw [ho] at e1; obtain rfl:=Option.some.inj e1
   rw [<-e2,length_map]
  show bp (decide (ob.length<=aF)) _=_
  rw [decide_eq_true (KA ▸ hlen)]; rfl
 unfold cb2abase64_5
 have h3:bs.length % 3<3:=mod_lt _ (by decide)
 have iU : ∀ (lb:Int) (C':ai) (k:Int),ev (PP r) cl (.cmp .eq (.var 4) (.cst (.int k))) ⟨MB x0 (some (.bool false)) x2 C.length lb lc x6,C'⟩=.ok (.bool (lb==k)) ⟨MB x0 (some (.bool false)) x2 C.length lb lc x6,C'⟩:=λlb C' k=>
  bI (x:=.int lb) (y:=.int k) (au rfl) rfl rfl
 match hq:bs.length % 3,h3 with
 |0,_=>
  refine ⟨MB x0 (some (.bool false)) x2 C.length 0 lc x6,?_⟩
  have he:(gm bs).map (λk=>D.int (ba k))=(bP bs).map .int:=by unfold bP; rw [hq]; simp
  rw [he]
  rw [bl (aa:=⟨MB x0 (some (.bool false)) x2 C.length 0 lc x6,C++[.list ((bP bs).map .int)]⟩) (by
   rw [kS (iU _ _ _) rfl,rS,kS (iU _ _ _) rfl]; rfl)]
  exact fin 0
 |1,_=>
  refine ⟨MB x0 (some (.bool false)) x2 C.length 2 lc x6,?_⟩
  have e1:lc % 4*2 ^ 4=gQ bs:=h1 hq
  have pT:=λos=>AE (r:=r) (cl:=cl) (C:=C) (os:=os) (x0:=x0) (x1:=some (.bool false)) (x2:=x2) (x6:=x6) (lb:=2) (lc:=lc) (a:=3) (s:=4) (t:=4) (b:=4) (by rw [bitAnd_m2]; rfl) (by decide) (Nat.mul_lt_mul_of_pos_right (mod_lt _ (by decide)) (by decide:0<16)) rfl
  rw [e1] at pT
  have he:(gm bs).map (λk=>D.int (ba k))++[.int (ba (gQ bs))]++[.int 61]++[.int 61]=(bP bs).map .int:=by unfold bP; rw [hq]; simp
  rw [bl (aa:=⟨MB x0 (some (.bool false)) x2 C.length 2 lc x6,C++[.list ((bP bs).map .int)]⟩) (by
   rw [rQ (iU _ _ _) rfl]
   show aq (PP r) cl _ ⟨MB x0 (some (.bool false)) x2 C.length 2 lc x6,_⟩=_
   exact (bl (pz (pT _) (j3 (n:=0) (by decide)))).trans ((bl (pz (d:=.int 61) rfl (by rw [length_append]; exact j3 (n:=1) (by decide)))).trans ((bl (pz (d:=.int 61) rfl (by rw [length_append,length_append]; exact j3 (n:=2) (by decide)))).trans (tG he))))]
  exact fin 2
 |2,_=>
  refine ⟨MB x0 (some (.bool false)) x2 C.length 4 lc x6,?_⟩
  have e1:lc % 16*2 ^ 2=gQ bs:=h2 hq
  have pT:=λos=>AE (r:=r) (cl:=cl) (C:=C) (os:=os) (x0:=x0) (x1:=some (.bool false)) (x2:=x2) (x6:=x6) (lb:=4) (lc:=lc) (a:=15) (s:=2) (t:=16) (b:=2) (by rw [bitAnd_m4]; rfl) (by decide) (Nat.mul_lt_mul_of_pos_right (mod_lt _ (by decide)) (by decide:0<4)) rfl
  rw [e1] at pT
  have he:(gm bs).map (λk=>D.int (ba k))++[.int (ba (gQ bs))]++[.int 61]=(bP bs).map .int:=by unfold bP; rw [hq]; simp
  rw [bl (aa:=⟨MB x0 (some (.bool false)) x2 C.length 4 lc x6,C++[.list ((bP bs).map .int)]⟩) (by
   rw [kS (iU _ _ _) rfl,rS,rQ (iU _ _ _) rfl]
   show aq (PP r) cl _ ⟨MB x0 (some (.bool false)) x2 C.length 4 lc x6,_⟩=_
   exact (bl (pz (pT _) (j3 (n:=0) (by decide)))).trans ((bl (pz (d:=.int 61) rfl (by rw [length_append]; exact j3 (n:=1) (by decide)))).trans (tG he)))]
  exact fin 4
end
section
variable {r:List Fn} {fuel n:Nat} {C:ai}
theorem Gf {tb:List UInt8} (hf:3<=fuel) (hl:2*tb.length+8<=aF) :
  ∃ ob m' g,ob.map (λc:UInt8=>(c.toNat:Int))=bP (tb.map (·.toNat))/\aC (PP r) fuel (n+3) 3 [.bytes tb] [] C=.ok (.bytes ob) ⟨m',C++[g]⟩:=by
 refine cps λQQ kQ=>?_
 obtain ⟨bs,sj⟩ : ∃ bs,bs=tb.map (λc:UInt8=>c.toNat):=⟨_,rfl⟩
 have hb : ∀ b∈bs,b<256:=λb h=>by
  rw [sj] at h; obtain ⟨c,_,rfl⟩:=mem_map.mp h; exact UInt8.toNat_lt c
 have hlen:bs.length=tb.length:=by rw [sj]; simp
 obtain ⟨ob,gF,Ky⟩:=rt (Av (bs:=bs))
 obtain ⟨k,hk⟩ : ∃ k,fuel=k+3:=⟨fuel - 3,(Nat.sub_add_cancel hf).symm⟩
 obtain ⟨dq,lR,Kq,K1,K2⟩:=CT (r:=r) (C:=C) (cl:=⟨aC (PP r) fuel (n+1),fuel⟩) (x0:=some (.bytes tb)) (x1:=some (.bool false)) (x2:=some (.bytes tb)) (n:=k) hk (iE:=tb) bs 0 [] none hb (by decide) (by rw [hlen]; simp; omega)
 have hz:(fuel==0)=false:=by rw [hk]; rfl
 have JF:aC (PP r) fuel (n+1) 0 [.bytes tb] [] C=.ok (.bytes tb) ⟨[some (.bytes tb),some (.bn .bytes)],C⟩:=by
  rw [hk]; rfl
 have K5:aC (PP r) fuel (n+1) 1 [.bool false] [] C=.ok (.bool false) ⟨[some (.bool false),some (.bn .bool)],C⟩:=by
  rw [hk]; rfl
 have main : ∃ m',aC (PP r) fuel (n+2) 2 [.bytes tb] [(.newline,.bool false)] C=.ok (.bytes ob) ⟨m',C++[.list ((bP bs).map .int)]⟩:=by
  show ∃ m',di (aq (PP r) ⟨aC (PP r) fuel (n+1),fuel⟩ cb2abase64_11 ⟨[some (.bytes tb),some (.bool false),none,none,none,none,none],C⟩)=_
  unfold cb2abase64_11
  obtain ⟨m9,K3⟩:=Ra (r:=r) (C:=C) (cl:=⟨aC (PP r) fuel (n+1),fuel⟩) (x0:=some (.bytes tb)) (x2:=some (.bytes tb)) (x6:=lR) (lc:=dq) (by show fuel≠0; omega) gF K1 K2 (by rw [hlen]; exact hl)
  refine ⟨m9,?_⟩
  have e2:ev (PP r) ⟨aC (PP r) fuel (n+1),fuel⟩ (.call (.cst (.fn 0)) (.cons (.var 0) .nil) .nil) ⟨[some (.bytes tb),some (.bool false),none,none,none,none,none],C⟩=.ok (.bytes tb) ⟨[some (.bytes tb),some (.bool false),none,none,none,none,none],C⟩:=by
   rw [jj (g:=.fn 0) rfl (bT (au (d:=.bytes tb) rfl))]
   show back _ (aC (PP r) fuel (n+1) 0 [.bytes tb] [] C)=_
   rw [JF]; rfl
  rw [bl (bM e2 (by simp))]
  show di (aq (PP r) _ cb2abase64_10 ⟨[some (.bytes tb),some (.bool false),some (.bytes tb),none,none,none,none],C⟩)=_
  unfold cb2abase64_10
  have e1:ev (PP r) ⟨aC (PP r) fuel (n+1),fuel⟩ (.call (.cst (.fn 1)) (.cons (.var 1) .nil) .nil) ⟨[some (.bytes tb),some (.bool false),some (.bytes tb),none,none,none,none],C⟩=.ok (.bool false) ⟨[some (.bytes tb),some (.bool false),some (.bytes tb),none,none,none,none],C⟩:=by
   rw [jj (g:=.fn 1) rfl (bT (au (d:=.bool false) rfl))]
   show back _ (aC (PP r) fuel (n+1) 1 [.bool false] [] C)=_
   rw [K5]; rfl
  rw [bl (bM e1 (by simp))]
  show di (aq (PP r) _ cb2abase64_9 ⟨[some (.bytes tb),some (.bool false),some (.bytes tb),none,none,none,none],C⟩)=_
  have e3:aq (PP r) ⟨aC (PP r) fuel (n+1),fuel⟩ cb2abase64_9 ⟨[some (.bytes tb),some (.bool false),some (.bytes tb),none,none,none,none],C⟩ =
    aq (PP r) ⟨aC (PP r) fuel (n+1),fuel⟩ cb2abase64_6 ⟨MB (some (.bytes tb)) (some (.bool false)) (some (.bytes tb)) C.length 0 (0:Nat) none,C++[.list []]⟩:=rfl
  rw [e3]
  unfold cb2abase64_6
  have e4:ex (PP r) ⟨aC (PP r) fuel (n+1),fuel⟩ cb2abase64_2 ⟨MB (some (.bytes tb)) (some (.bool false)) (some (.bytes tb)) C.length 0 (0:Nat) none,C++[.list []]⟩ =
    .ok .next ⟨MB (some (.bytes tb)) (some (.bool false)) (some (.bytes tb)) C.length (2*(bs.length % 3):Nat) dq lR,C++[.list ((gm bs).map λk=>D.int (ba k))]⟩:=by
   unfold cb2abase64_2
   show (if (fuel==0)=true then _ else _)=_
   rw [hz,if_neg Bool.false_ne_true,au (d:=.bytes tb) rfl]
   show qh r ⟨aC (PP r) fuel (n+1),fuel⟩ tb (tb.map λc=>D.int (c.toNat:Int)) _=_
   have:(tb.map λc:UInt8=>D.int (c.toNat:Int))=bs.map λb:Nat=>D.int (b:Int):=by rw [sj,map_map]; rfl
   rw [this,Kq]
   simp
  rw [bl e4,K3]
  rfl
 obtain ⟨m',hm⟩:=main
 refine kQ ⟨ob,[some (.bytes tb),some .none,some (.bytes ob)],.list ((bP bs).map .int),by rw [Ky,sj],?_⟩
 show di (aq (PP r) ⟨aC (PP r) fuel (n+2),fuel⟩ cb64encode_2 ⟨[some (.bytes tb),some .none,none],C⟩)=_
 unfold cb64encode_2
 have e5:ev (PP r) ⟨aC (PP r) fuel (n+2),fuel⟩ (.call (.cst (.fn 2)) (.cons (.var 0) .nil) (.cons .newline (.cst (.bool false)) .nil)) ⟨[some (.bytes tb),some .none,none],C⟩=.ok (.bytes ob) ⟨[some (.bytes tb),some .none,none],C++[.list ((bP bs).map .int)]⟩:=by
  show back _ (aC (PP r) fuel (n+2) 2 [.bytes tb] [(.newline,.bool false)] C)=_
  rw [hm]; rfl
 rw [bl (bM e5 (by simp))]
 rfl
end
end Mine.Lake
end
section
open PySem
namespace Mine.Lake
noncomputable def Ch.kd:Ch->Nat
 |.list _=>0
 |.dict .. => 1
 |.cC _=>2
 |.set _=>3
 |.slots .. => 4
 |.bf .. => 5
section
variable {C:ai} {i j:Nat} {c x y:Ch}
theorem iD (h:C[i]?=some c) (ne:i≠j):(C.set j x)[i]?=some c:=by rw [List.getElem?_set_ne (Ne.symm ne)]; exact h
theorem L6 (h:C[i]?=some c) (hj:C[j]?=some y) (hk:(c.kd==y.kd)=false):i≠j:=λe=>by
 subst e; rw [h] at hj; obtain rfl:=Option.some.inj hj; rw [beq_self_eq_true] at hk; exact fN hk
theorem eH (h:C[i]?=some c) (hj:C[j]?=some y) (hk:(c.kd==y.kd)=false):(C.set j x)[i]?=some c:=iD h (L6 h hj hk)
theorem kH (hj:C[j]?=some y):(C.set j x)[j]?=some x:=by
 obtain ⟨h,_⟩:=List.getElem?_eq_some_iff.mp hj
 exact List.getElem?_set_self h
theorem dI {R:ai}:(C++x::R)[C.length]?=some x:=by rw [getElem?_append_right (le_refl _),sub_self]; rfl
theorem nt {R:ai}:(C++x::y::R)[C.length+1]?=some y:=by rw [getElem?_append_right (le_add_right _ _),add_sub_cancel_left]; rfl
theorem oF {R:ai}:(C++x::R).set C.length y=C++y::R:=by rw [set_append_right _ _ (le_refl _),sub_self]; rfl
theorem EE {R:ai}:(C++c::x::R).set (C.length+1) y=C++c::y::R:=by rw [set_append_right _ _ (le_add_right _ _),add_sub_cancel_left]; rfl
theorem qC {C0:ai} (hp:C0 <+: C) (hl:C0.length<=j):C0 <+: C.set j x:=by
 obtain ⟨R,rfl⟩:=hp
 rw [set_append_right _ _ hl]; exact prefix_append _ _
theorem FP {C0 E:ai} (hp:C0 <+: C):C0 <+: C++E:=hp.trans (prefix_append _ _)
end
noncomputable def e8 {α:Type} (f:Int->α) (k:Int) (v:α):Int->α:=λx=>if x=k then v else f x
theorem gS {α:Type} {f:Int->α} {k:Int} {v:α}:e8 f k v k=v:=if_pos rfl
theorem eF {α:Type} {f:Int->α} {k x:Int} {v:α} (h:x≠k):e8 f k v x=f x:=if_neg h
noncomputable def SA (d:Nat) (rd:D) (p f:Int):Ch:=.cC [(.cF,.loc d),(.bY,rd),(.dD,.int p),(.d9,.int f)]
noncomputable def NI (k v:Int) (i:Nat):Ch:=.slots 0 [some (.int k),some (.int v),some (.loc i)]
structure aU (C0 C:ai) (rd:D) (p f:Int) (ks:List Int) (lc:Int->Nat) (np:Int->Int) (sc:Int->List Int):Prop where
 pre:C0 <+: C
 top:C[C0.length]?=some (SA (C0.length+1) rd p f)
 dict:C[C0.length+1]?=some (.dict true (ks.map λk=>(k,.loc (lc k))))
 lo : ∀ k∈ks,C0.length<lc k
 info : ∀ k∈ks,C[lc k]?=some (NI k (np k) (lc k+1))
 succ : ∀ k∈ks,C[lc k+1]?=some (.list ((sc k).map .int))
 nd:ks.Nodup
 out : ∀ k,k ∉ ks->np k=0/\sc k=[]
section
variable {C0 C:ai} {rd:D} {p f:Int} {ks:List Int} {lc:Int->Nat} {np:Int->Int} {sc:Int->List Int}
theorem FA {k k' v v':Int} {i i':Nat} (h:NI k v i=NI k' v' i'):k=k':=by unfold NI at h; injection h with _ h; injection h with h _; injection h with h; injection h
theorem aU.inj (S:aU C0 C rd p f ks lc np sc) {k k':Int} (h:k∈ks) (h':k'∈ks) (e:lc k=lc k'):k=k':=by
 have a:=S.info k h
 rw [e,S.info k' h'] at a
 exact (FA (Option.some.inj a)).symm
theorem aU.app (S:aU C0 C rd p f ks lc np sc) (E:ai):aU C0 (C++E) rd p f ks lc np sc:=
 ⟨FP S.pre,fQ S.top,fQ S.dict,S.lo,λk h=>fQ (S.info k h),λk h=>fQ (S.succ k h),S.nd,S.out⟩
theorem aU.setTop (S:aU C0 C rd p f ks lc np sc) {xl:D} {p' f':Int}:aU C0 (C.set C0.length (SA (C0.length+1) xl p' f')) xl p' f' ks lc np sc:=
 ⟨qC S.pre (le_refl _),kH S.top,eH S.dict S.top rfl,S.lo,λk h=>eH (S.info k h) S.top rfl,λk h=>eH (S.succ k h) S.top rfl,S.nd,S.out⟩
theorem aU.setInfo (S:aU C0 C rd p f ks lc np sc) {k v:Int} (hk:k∈ks):aU C0 (C.set (lc k) (NI k v (lc k+1))) rd p f ks lc (e8 np k v) sc:=by
 have hi:=S.info k hk
 refine ⟨qC S.pre (le_of_lt (S.lo k hk)),eH S.top hi rfl,eH S.dict hi rfl,S.lo,λk' h=>?_,λk' h=>eH (S.succ k' h) hi rfl,S.nd,λk' h=>⟨?_,(S.out k' h).2⟩⟩
 ·by_cases e:k'=k
  ·subst e; rw [gS]; exact kH hi
  ·rw [eF e]; exact iD (S.info k' h) λz=>e (S.inj h hk z)
 ·rw [eF λe:k'=k=>h (e ▸ hk)]; exact (S.out k' h).1
theorem aU.Pu (S:aU C0 C rd p f ks lc np sc) {k:Int} {l:List Int} (hk:k∈ks):aU C0 (C.set (lc k+1) (.list (l.map .int))) rd p f ks lc np (e8 sc k l):=by
 have hi:=S.succ k hk
 refine ⟨qC S.pre (Nat.le_succ_of_le (le_of_lt (S.lo k hk))),eH S.top hi rfl,eH S.dict hi rfl,S.lo,λk' h=>eH (S.info k' h) hi rfl,λk' h=>?_,S.nd,λk' h=>⟨(S.out k' h).1,?_⟩⟩
 ·by_cases e:k'=k
  ·subst e; rw [gS]; exact kH hi
  ·rw [eF e]; exact iD (S.succ k' h) λz=>e (S.inj h hk (Nat.succ.inj z))
 ·rw [eF λe:k'=k=>h (e ▸ hk)]; exact (S.out k' h).2
theorem aU.Pt (S:aU C0 C rd p f ks lc np sc) {j:Nat} {x:Ch} (h0:C0.length<=j) (h1 : ∀ c,C[j]?=some c->c.kd≠1/\c.kd≠2/\c.kd≠4) (h2 : ∀ k∈ks,lc k+1≠j):aU C0 (C.set j x) rd p f ks lc np sc:=by
 have ne : ∀ {i c},C[i]?=some c->(c.kd=1\/c.kd=2\/c.kd=4)->i≠j:=λh hk e=>by
  subst e
  obtain ⟨a,b,d⟩:=h1 _ h
  rcases hk with z|z|z
  ·exact a z
  ·exact b z
  ·exact d z
 exact ⟨qC S.pre h0,iD S.top (ne S.top (.inr (.inl rfl))),iD S.dict (ne S.dict (.inl rfl)),S.lo,λk h=>iD (S.info k h) (ne (S.info k h) (.inr (.inr rfl))),λk h=>iD (S.succ k h) (h2 k h),S.nd,S.out⟩
theorem tl {α:Type} {g:Int->α} : ∀ {l:List Int} {k:Int},k∈l->(l.map λk=>(k,g k)).lookup k=some (g k)
 |a::r,k,h=>by
  rw [map_cons,lookup_cons]
  by_cases e:k=a
  ·subst e; rw [beq_self_eq_true]
  ·rw [beq_false_of_ne e]; exact tl ((mem_cons.mp h).resolve_left e)
theorem CQ {α:Type} {g:Int->α} : ∀ {l:List Int} {k:Int},k ∉ l->(l.map λk=>(k,g k)).lookup k=none
 |[],_,_=>rfl
 |a::r,k,h=>by
  rw [map_cons,lookup_cons,beq_false_of_ne λe:k=a=>h (e ▸ .head _)]
  exact CQ λz=>h (.tail _ z)
theorem DZ {α:Type} {g:Int->α} {v:α} : ∀ {l:List Int} {k:Int},k ∉ l->putL k v (l.map λk=>(k,g k))=(l.map λk=>(k,g k))++[(k,v)]
 |[],_,_=>rfl
 |a::r,k,h=>by
  rw [map_cons,putL,if_neg (by rw [beq_false_of_ne λe:a=k=>h (e ▸ .head _)]; exact Bool.false_ne_true),DZ λz=>h (.tail _ z)]; rfl
noncomputable def eQ (ks:List Int) (k:Int):List Int:=if k∈ks then ks else ks++[k]
theorem MS {g:Int->Nat} {k:Int} {v:Nat} {l:List Int} (h:k ∉ l):(l.map λx=>(x,D.loc (e8 g k v x)))=l.map λx=>(x,D.loc (g x)):=
 List.map_congr_left λx hx=>by rw [eF λe:x=k=>h (e ▸ hx)]
theorem aU.new (S:aU C0 C rd p f ks lc np sc) {k:Int} (hk:k ∉ ks):aU C0 ((C++[NI k 0 (C.length+1),.list []]).set (C0.length+1) (.dict true ((ks.map λk=>(k,D.loc (lc k)))++[(k,.loc C.length)]))) rd p f (ks++[k]) (e8 lc k C.length) np sc:=by
 have S':=S.app [NI k 0 (C.length+1),.list []]
 have hd:=S'.dict
 have bQ:=(List.getElem?_eq_some_iff.mp S.top).1
 have e : ∀ k',k'∈ks++[k]->k'≠k->k'∈ks:=λk' h z=>(mem_append.mp h).resolve_right λy=>z (mem_singleton.mp y)
 refine ⟨qC S'.pre (le_succ _),eH S'.top hd rfl,?_,λk' h=>?_,λk' h=>?_,λk' h=>?_,?_,λk' h=>S.out k' λz=>h (mem_append_left _ z)⟩
 ·rw [kH hd,map_append,MS hk,List.map_singleton,gS]
 ·by_cases z:k'=k
  ·subst z; rw [gS]; exact bQ
  ·rw [eF z]; exact S.lo k' (e k' h z)
 ·by_cases z:k'=k
  ·subst z; rw [gS,(S.out _ hk).1]; exact eH dI hd rfl
  ·rw [eF z]; exact eH (S'.info k' (e k' h z)) hd rfl
 ·by_cases z:k'=k
  ·subst z; rw [gS,(S.out _ hk).2]; exact eH nt hd rfl
  ·rw [eF z]; exact eH (S'.succ k' (e k' h z)) hd rfl
 ·rw [nodup_append]
  exact ⟨S.nd,nodup_cons.mpr ⟨not_mem_nil,nodup_nil⟩,λa ha b hb z=>hk (by rw [<-mem_singleton.mp hb,<-z]; exact ha)⟩
end
theorem EK {k:Nat} (hk:k<1000):(k:Int)<2 ^ 62:=Int.lt_trans (ofNat_lt.mpr hk) (by decide)
theorem uI {n k d0:Nat} (hk:k<1000):bound (.int (k:Int)) d0 n=some (min k n):=by
 unfold bound
 dsimp only
 rw [if_pos ⟨natCast_nonneg _,EK hk⟩,toNat_natCast]
theorem RT {n k:Nat} {d0:Nat} (hk:k<1000) (hn:k<=n):bound (.int (k:Int)) d0 n=some k:=by rw [uI hk,Nat.min_eq_left hn]
theorem zj {n d0:Nat}:bound .none d0 n=some d0:=rfl
theorem SJ {C:ai} {ob:List UInt8} {lo hi:D} {l h:Nat} (h1:bound lo 0 ob.length=some l) (h2:bound hi ob.length ob.length=some h):m6 C (.bytes ob) lo hi=some (.bytes (fw ob l h)):=by
 show ((bound lo 0 ob.length).bind λl=>(bound hi ob.length ob.length).map λh=>D.bytes (fw ob l h))=_
 rw [h1,h2]; rfl
theorem EG {C:ai} {a:D} {ds:List D} {lo hi:D} {l h:Nat} (ha:aT C a=some ds) (hb : ∀ b,a≠.bytes b) (h1:bound lo 0 ds.length=some l) (h2:bound hi ds.length ds.length=some h):m6 C a lo hi=some (.lst (fw ds l h)):=by
 have e:m6 C a lo hi=tV C a lo hi:=by induction a using D.casesOn<;>first|rfl|exact absurd rfl (hb _)
 rw [e,tV,ha]
 show ((bound lo 0 ds.length).bind λl=>(bound hi ds.length ds.length).map λh=>D.lst (fw ds l h))=_
 rw [h1,h2]; rfl
theorem Cp {ds:List D} {k:Nat} {d:D} (hk:k<1000) (h:ds[k]?=some d):gI ds (k:Int)=some d:=by
 unfold gI
 rw [if_pos (natCast_nonneg k),if_pos (EK hk),toNat_natCast,h]
theorem lb {a b:Nat} (h:ble (a+1) b=true):a<b:=le_of_ble_eq_true h
theorem fU {P:aP} {cl:Calls} {t:T} {it:E} {a:Ss} {y:D} {items:List D} {st aa:St} (hf:cl.fuel≠0) (hit:ev P cl it st=.ok y aa) (hi:bF aa.C y=some items) :
  ex P cl (.dO t it a) st=forLoop (λC C'=>aY C C' y) t (λae=>aq P cl a ae) items aa:=by
 show (if (cl.fuel==0)=true then _ else _)=_
 rw [if_neg (by rw [beq_false_of_ne hf]; exact Bool.false_ne_true),hit]
 show (match bF aa.C y with|some items=>_|none=>_)=_
 rw [hi]
theorem rJ {P:aP} {cl:Calls} {elt it:E} {t:T} {ifs:Es} {g:Gs} {y:D} {items ds:List D} {m:List (Option D)} {C:ai} {ae:St} (hf:cl.fuel≠0) (hit:ev P cl it ⟨m,C⟩=.ok y ⟨m,C⟩) (hi:bF C y=some items)
  (hl:cI t (bD (λae=>ck P cl ifs ae) (λacc ae=>dM P cl (λaH=>ev P cl elt aH) g acc ae)) (λC C'=>aY C C' y) items [] ⟨m,C⟩=.ok (.lst ds) ae) :
  ev P cl (.comp elt (.cons t it ifs g)) ⟨m,C⟩=.ok (.lst ds) ⟨m,ae.C⟩:=by
 show (if (cl.fuel==0)=true then _ else _)=_
 rw [if_neg (by rw [beq_false_of_ne hf]; exact Bool.false_ne_true),hit]
 show (match bF C y with|some items=>_|none=>_)=_
 rw [hi]
 dsimp only
 rw [hl]
theorem AK {P:aP} {cl:Calls} {a lo hi:E} {x y z d:D} {st aa ae aH:St} (ha:ev P cl a st=.ok x aa) (hl:ev P cl lo aa=.ok y ae) (hh:ev P cl hi ae=.ok z aH) (h:m6 aH.C x y z=some d):ev P cl (.slice a lo hi) st=.ok d aH:=by
 exact (aQ ha).trans ((aQ hl).trans ((aQ hh).trans (mR h)))
theorem Sh {P:aP} {cl:Calls} (hz:cl.fuel≠0) {ds:List D} {st:St}:gA P cl .len [.lst ds] st=.ok (.int (ds.length:Nat)) st:=c5 hz
theorem Si {P:aP} {cl:Calls} (hz:cl.fuel≠0) {x:List UInt8} {st:St}:gA P cl .list [.bytes x] st=.ok (.lst (x.map λc:UInt8=>D.int (c.toNat:Int))) st:=c5 hz
theorem GH {P:aP} {cl:Calls} (hz:cl.fuel≠0) {a:D} {ds:List D} {is:List Int} {tb:List UInt8} {st:St} (ha:aT st.C a=some ds) (hi:d8 ds=some is) (hb:gy is=some tb) (hl:tb.length<=aF):gA P cl .bytes [a] st=.ok (.bytes tb) st:=by
 refine (c5 hz).trans ?_
 show aK ((j5 st.C a).bind gy) _=_
 rw [show j5 st.C a=some is from (congrArg (·.bind d8) ha).trans hi]
 show aK (gy is) _=_
 rw [hb]
 show bp (decide _) _=_
 rw [decide_eq_true hl]; rfl
theorem SD {P:aP} {cl:Calls} (hz:cl.fuel≠0) {n:Int} (hn:small n=true) {st:St}:gA P cl .range [.int n] st=.ok (.bZ 0 n) st:=by
 refine (c5 hz).trans ?_
 show bp (small n) _=_
 rw [hn]; rfl
section
variable {P:aP} {cl:Calls} {st aa ae:St} {m:List (Option D)} {C:ai}
theorem AL {n:Nat} {e:E} {x:D} (h:ev P cl e st=.ok x ⟨m,C⟩) (hn:n<m.length):ev P cl (.ku n e) st=.ok x ⟨m.set n (some x),C⟩:=by
 refine (aQ h).trans ?_; exact if_pos hn
theorem aZ {s:S} {r:Ss} {o:ak Fl} (h:ex P cl s st=.ok .next aa) (k:aq P cl r aa=o):aq P cl (.cons s r) st=o:=(bl h).trans k
theorem bJ {s:S} {o:ak Fl} (h:ex P cl s st=o):aq P cl (.cons s .nil) st=o:=rS.trans h
theorem jC {e:E} {r:Ss} {d:D} (h:ev P cl e st=.ok d aa):aq P cl (.cons (.ret e) r) st=.ok (.ret d) aa:=iM (rR h)
theorem lE {s:Ss} {d:D} (h:aq P cl s st=.ok (.ret d) aa):di (aq P cl s st)=.ok d aa:=by rw [h]; rfl
theorem tL {s:Ss} (h:aq P cl s st=.ok .next aa):di (aq P cl s st)=.ok .none aa:=by rw [h]; rfl
theorem NV {s:Ss} {x:X} (h:aq P cl s st=.exc x aa):di (aq P cl s st)=.exc x aa:=by rw [h]; rfl
theorem jt {c:E} {a b:Ss} {x:D} {o:ak Fl} (h:ev P cl c st=.ok x aa) (ht:bA aa.C x=some true) (k:aq P cl a aa=o):ex P cl (.ifs c a b) st=o:=(rQ h ht).trans k
theorem df {c:E} {a b:Ss} {x:D} {o:ak Fl} (h:ev P cl c st=.ok x aa) (ht:bA aa.C x=some false) (k:aq P cl b aa=o):ex P cl (.ifs c a b) st=o:=(kS h ht).trans k
theorem c6 {f:E} {es:Es} {g:D} {ds:List D} {o:ak D} (hf:ev P cl f st=.ok g aa) (hs:bE P cl es aa=.ok (.lst ds) ae) (k:kL P cl g ds [] ae=o):ev P cl (.call f es .nil) st=o:=(jj hf hs).trans k
theorem eU {o:E} {n:Nm} {es:Es} {x:D} {mk:MK} {ds:List D} {q:ak D} (ho:ev P cl o st=.ok x aa) (hm:du P aa.C x n=some mk) (hs:bE P cl es aa=.ok (.lst ds) ae) (k:oq cl mk x ds ae=q):ev P cl (.a9 o n es) st=q:=(pn ho hm hs).trans k
theorem rI {o e:E} {i:Nat} {d:D} {ds:List D} (ho:ev P cl o st=.ok (.loc i) st) (he:ev P cl e st=.ok d st) (h:st.C[i]?=some (.list ds)) (hl:ds.length<aF):ev P cl (.a9 o .append (.cons e .nil)) st=.ok .none ⟨st.m,st.C.set i (.list (ds++[d]))⟩:=by
 refine eU ho (mk:=.ly) (show (st.C[i]?).bind (ki .append)=_ by rw [h]; rfl) (bT he) ?_
 show aK (eB st.C i) _=_
 rw [show eB st.C i=some ds by unfold eB; rw [h]]
 show bp (decide (ds.length<aF)) _=_
 rw [decide_eq_true hl]; rfl
theorem AD {o e:E} {i:Nat} {b:Bool} {es:List (Int × D)} {k:Int} (ho:ev P cl o st=.ok (.loc i) st) (he:ev P cl e st=.ok (.int k) st) (h:st.C[i]?=some (.dict b es)):ev P cl (.a9 o .get (.cons e .nil)) st=.ok ((es.lookup k).getD .none) st:=by
 refine (pn ho (mk:=.l4) (show (st.C[i]?).bind (ki .get)=_ by rw [h]; rfl) (bT he)).trans ?_
 show aK (dictAt st.C i) _=_
 rw [show dictAt st.C i=some es by unfold dictAt; rw [h]]; rfl
theorem ma {f:E} {k:Nat} {es:Es} {ds:List D} {d:D} (hf:ev P cl f st=.ok (.fn k) st) (hs:bE P cl es st=.ok (.lst ds) ⟨m,C⟩) (h:cl.call k ds [] C=.ok d aa):ev P cl (.call f es .nil) st=.ok d ⟨m,aa.C⟩:=by
 rw [jj hf hs]
 show back m (cl.call k ds [] C)=_
 rw [h]; rfl
theorem kO {o:E} {n:Nm} {es:Es} {x:D} {k f:Nat} {ds:List D} {d:D} (ho:ev P cl o st=.ok x st) (hm:du P st.C x n=some (.own k f)) (hs:bE P cl es st=.ok (.lst ds) ⟨m,C⟩) (h:cl.call f (x::ds) [] C=.ok d aa):ev P cl (.a9 o n es) st=.ok d ⟨m,aa.C⟩:=by
 rw [pn ho hm hs]
 show back m (cl.call f (x::ds) [] C)=_
 rw [h]; rfl
theorem H5 {o:E} {n:Nm} {es:Es} {x:D} {k f:Nat} {ds:List D} {z:X} (ho:ev P cl o st=.ok x st) (hm:du P st.C x n=some (.own k f)) (hs:bE P cl es st=.ok (.lst ds) ⟨m,C⟩) (h:cl.call f (x::ds) [] C=.exc z aa):ev P cl (.a9 o n es) st=.exc z ⟨m,aa.C⟩:=by
 rw [pn ho hm hs]
 show back m (cl.call f (x::ds) [] C)=_
 rw [h]; rfl
theorem u7 {o e:E} {n:Nm} {es:Es} {x y:D} {k f:Nat} {ds ys:List D} {d:D} (ho:ev P cl o st=.ok x st) (hm:du P st.C x n=some (.own k f)) (hs:bE P cl es st=.ok (.lst ds) aa) (he:ev P cl e aa=.ok y ⟨m,C⟩) (hy:bK C y=some ys) (h:cl.call f (x::(ds++ys)) [] C=.ok d ae):ev P cl (.eU o n es e) st=.ok d ⟨m,ae.C⟩:=by
 refine (aQ ho).trans ?_
 rw [hm]
 refine (aQ (a:=.lst (ds++ys)) (aa:=⟨m,C⟩) ((aQ hs).trans ((aQ he).trans ?_))).trans ?_
 ·show (match bK C y with|some ys=>(ak.ok (D.lst (ds++ys)) ⟨m,C⟩:ak D)|none=>.fail)=_
  rw [hy]
 ·show back m (cl.call f (x::(ds++ys)) [] C)=_
  rw [h]; rfl
theorem Ih {o i e:E} {n:Nat} {x y z:D} {aH:St} {C':ai} (he:ev P cl e st=.ok x aa) (ho:ev P cl o aa=.ok y ae) (hi:ev P cl i ae=.ok z aH) (hs:ko y z x aH.C=some C') (hn:n<aH.m.length):ex P cl (.oZ o i n e) st=.ok .next ⟨aH.m.set n (some x),C'⟩:=
 (aQ he).trans ((aQ (a:=()) (aa:=⟨aH.m,C'⟩) ((aQ ho).trans ((aQ hi).trans (by rw [hs]; rfl)))).trans (aQ (jD hn)))
theorem pw {o e:E} {a:Nm} {op:Op} {x y old d:D} {C':ai} (ho:ev P cl o st=.ok y aa) (hold:eI P aa.C y a=some old) (he:ev P cl e aa=.ok x ae) (hd:kJ op old x=some d) (hs:eX P y a d ae.C=some C'):ex P cl (.kI o a op e) st=.ok .next ⟨ae.m,C'⟩:=by
 refine (aQ ho).trans ((aQ (mR hold)).trans ((aQ he).trans ?_))
 rw [hd]
 exact aQ (a:=()) (by rw [hs]; rfl)
theorem AP {o i e:E} {x y z:D} {aH:St} {C':ai} (he:ev P cl e st=.ok x aa) (ho:ev P cl o aa=.ok y ae) (hi:ev P cl i ae=.ok z aH) (hs:ko y z x aH.C=some C'):ex P cl (.kF o i e) st=.ok .next ⟨aH.m,C'⟩:=
 (aQ he).trans ((aQ ho).trans ((aQ hi).trans (aQ (a:=()) (by rw [hs]; rfl))))
theorem rP {n:Nat} {e:E} {ds:List D} (h:ev P cl e st=.ok (.lst ds) ⟨m,C⟩) (hn:n<m.length) (hf:cD e=true):ex P cl (.aL n true e) st=.ok .next ⟨m.set n (some (.loc C.length)),C++[.list ds]⟩:=
 (aQ (a:=.loc C.length) (aa:=⟨m,C++[.list ds]⟩) ((aQ h).trans (by rw [hf]; rfl))).trans (aQ (jD hn))
theorem AO {o e:E} {a:Nm} {ds:List D} {y:D} {C':ai} (he:ev P cl e st=.ok (.lst ds) ⟨m,C⟩) (hf:cD e=true) (ho:ev P cl o ⟨m,C++[.list ds]⟩=.ok y ae) (hs:eX P y a (.loc C.length) ae.C=some C'):ex P cl (.cH o a true e) st=.ok .next ⟨ae.m,C'⟩:=
 (aQ (a:=.loc C.length) (aa:=⟨m,C++[.list ds]⟩) ((aQ he).trans (by rw [hf]; rfl))).trans ((aQ ho).trans (aQ (a:=()) (by rw [hs]; rfl)))
end
section
variable {r:List Fn} {fuel n:Nat} {C0 C:ai} {rd:D} {p f:Int} {ks:List Int} {lc:Int->Nat} {np:Int->Int} {sc:Int->List Int}
theorem dX {C:ai} {a:Nat} {d:Nat} {rd:D} {p f:Int} (h:C[a]?=some (SA d rd p f)) :
  eI (PP r) C (.inst 2 a) .cF=some (.loc d)/\eI (PP r) C (.inst 2 a) .bY=some rd/\eI (PP r) C (.inst 2 a) .dD=some (.int p)/\eI (PP r) C (.inst 2 a) .d9=some (.int f):=by
 have h:ei C a=some [(.cF,.loc d),(.bY,rd),(.dD,.int p),(.d9,.int f)]:=by unfold ei; rw [h]; rfl
 refine ⟨?_,?_,?_,?_⟩<;>(show (ei C a).bind _=_; rw [h]; rfl)
theorem xv {C:ai} {a:Nat} {d:Nat} {rd:D} {p f:Int} (h:C[a]?=some (SA d rd p f)) {x:D} {q:Int} :
  eX (PP r) (.inst 2 a) .bY x C=some (C.set a (SA d x p f))/\eX (PP r) (.inst 2 a) .dD (.int q) C=some (C.set a (SA d rd q f))/\eX (PP r) (.inst 2 a) .d9 (.int q) C=some (C.set a (SA d rd p q)):=by
 have h:ei C a=some [(.cF,.loc d),(.bY,rd),(.dD,.int p),(.d9,.int f)]:=by unfold ei; rw [h]; rfl
 refine ⟨?_,?_,?_⟩<;>(show (ei C a).bind _=_; rw [h]; rfl)
theorem ir {C:ai} {a:Nat} {d:Nat} {rd:D} {p f:Int} (h:C[a]?=some (SA d rd p f)):du (PP r) C (.inst 2 a) .me=some (.own 2 10)/\du (PP r) C (.inst 2 a) .add=some (.own 2 11)/\du (PP r) C (.inst 2 a) .prepare=some (.own 2 12)/\
  du (PP r) C (.inst 2 a) .iO=some (.own 2 13)/\du (PP r) C (.inst 2 a) .lr=some (.own 2 14)/\du (PP r) C (.inst 2 a) .done=some (.own 2 15)/\du (PP r) C (.inst 2 a) .nL=some (.own 2 16):=by
 have h:ei C a=some [(.cF,.loc d),(.bY,rd),(.dD,.int p),(.d9,.int f)]:=by unfold ei; rw [h]; rfl
 refine ⟨?_,?_,?_,?_,?_,?_,?_⟩<;>(show (ei C a).bind _=_; rw [h]; rfl)
theorem jy {C:ai} {i:Nat} {k v:Int} {j:Nat} (h:C[i]?=some (NI k v j)):eI (PP r) C (.loc i) .node=some (.int k)/\eI (PP r) C (.loc i) .eb=some (.int v)/\eI (PP r) C (.loc i) .succ=some (.loc j):=by
 refine ⟨?_,?_,?_⟩<;>(show (C[i]?).bind _=_; rw [h]; rfl)
theorem qm {C:ai} {i:Nat} {k v w:Int} {j:Nat} (h:C[i]?=some (NI k v j)):eX (PP r) (.loc i) .eb (.int w) C=some (C.set i (NI k w j)):=by
 show (C[i]?).bind _=_; rw [h]; rfl
theorem Ng {k:Int}:kL (PP r) ⟨aC (PP r) fuel (n+1),fuel⟩ (.cls 0) [.int k] [] ⟨m,C⟩=.ok (.loc C.length) ⟨m,C++[NI k 0 (C.length+1),.list []]⟩:=by
 show mF (.loc C.length) m (di (aq (PP r) ⟨aC (PP r) fuel n,fuel⟩ cninit_2 ⟨[some (.loc C.length),some (.int k)],C++[.slots 0 [none,none,none]]⟩))=_
 have e1:ex (PP r) ⟨aC (PP r) fuel n,fuel⟩ (.cH (.var 0) .node false (.var 1)) ⟨[some (.loc C.length),some (.int k)],C++[.slots 0 [none,none,none]]⟩=.ok .next ⟨[some (.loc C.length),some (.int k)],C++[.slots 0 [some (.int k),none,none]]⟩:=
  jN (au (d:=.int k) rfl) (au (d:=.loc C.length) rfl) (by show ((C++[Ch.slots 0 [none,none,none]])[C.length]?).bind _=_; rw [dI]; show some (List.set _ _ _)=_; rw [oF]; rfl)
 have e2:ex (PP r) ⟨aC (PP r) fuel n,fuel⟩ (.cH (.var 0) .eb false (.cst (.int 0))) ⟨[some (.loc C.length),some (.int k)],C++[.slots 0 [some (.int k),none,none]]⟩=.ok .next ⟨[some (.loc C.length),some (.int k)],C++[.slots 0 [some (.int k),some (.int 0),none]]⟩:=
  jN rfl (au (d:=.loc C.length) rfl) (by show ((C++[Ch.slots 0 [some (.int k),none,none]])[C.length]?).bind _=_; rw [dI]; show some (List.set _ _ _)=_; rw [oF]; rfl)
 have e3:ex (PP r) ⟨aC (PP r) fuel n,fuel⟩ (.cH (.var 0) .succ true (.list .nil)) ⟨[some (.loc C.length),some (.int k)],C++[.slots 0 [some (.int k),some (.int 0),none]]⟩=.ok .next ⟨[some (.loc C.length),some (.int k)],C++[NI k 0 (C.length+1),.list []]⟩:=
  AO (ds:=[]) rfl rfl (au (d:=.loc C.length) rfl) (by
   rw [append_assoc]; show ((C++[Ch.slots 0 [some (.int k),some (.int 0),none],.list []])[C.length]?).bind _=_; rw [dI]; show some (List.set (C++Ch.slots 0 [some (.int k),some (.int 0),none]::[.list []]) C.length (Ch.slots 0 [some (.int k),some (.int 0),some (.loc (C++[Ch.slots 0 [some (.int k),some (.int 0),none]]).length)]))=_; rw [oF,length_append]; rfl)
 unfold cninit_2 cninit_1 cninit_0
 rw [bl e1,bl e2,bl e3]; rfl
end
section
variable {r:List Fn} {fuel n:Nat} {C0 C:ai} {rd:D} {p f:Int} {ks:List Int} {lc:Int->Nat} {np:Int->Int} {sc:Int->List Int}
theorem EC {C:ai} {j:Nat} {b:Bool} {es:List (Int × D)} {k:Int} {d:D} (h:C[j]?=some (.dict b es)) (hl:es.length<64) (hk:small k=true):ko (.loc j) (.int k) d C=some (C.set j (.dict b (putL k d es))):=by
 show (C[j]?).bind _=_
 rw [h]; exact if_pos ⟨hl,hk⟩
inductive ym (r:List Fn) (fuel n:Nat) (C0 C:ai) (rd:D) (p f:Int) (ks:List Int) (np:Int->Int) (sc:Int->List Int) (k:Int):Prop
 |mk (m':List (Option D)) (C':ai) (dq:Int->Nat) (e:aC (PP r) fuel (n+2) 10 [.inst 2 C0.length,.int k] [] C=.ok (.loc (dq k)) ⟨m',C'⟩) (S:aU C0 C' rd p f (eQ ks k) dq np sc):ym r fuel n C0 C rd p f ks np sc k
theorem Br (S:aU C0 C rd p f ks lc np sc) {k:Int} (hl:ks.length<64) (hk:small k=true):ym r fuel n C0 C rd p f ks np sc k:=by
 have e1:ev (PP r) ⟨aC (PP r) fuel (n+1),fuel⟩ (.ku 2 (.a9 (.attr (.var 0) .cF) .get (.cons (.var 1) .nil))) ⟨[some (.inst 2 C0.length),some (.int k),none],C⟩ =
   .ok (((ks.map λk=>(k,D.loc (lc k))).lookup k).getD .none) ⟨[some (.inst 2 C0.length),some (.int k),some (((ks.map λk=>(k,D.loc (lc k))).lookup k).getD .none)],C⟩:=
  AL (AD (cu (au (d:=.inst 2 C0.length) rfl) (dX S.top).1) (au (d:=.int k) rfl) S.dict) (lb rfl)
 by_cases hm:k∈ks
 ·rw [tl hm] at e1
  exact ⟨_,C,lc,lE (aZ (df (bI e1 rfl (z:=false) rfl) rfl rfl) (jC (au rfl))),by unfold eQ; rw [if_pos hm]; exact S⟩
 ·rw [CQ hm] at e1
  have e2:=EC (d:=.loc C.length) (S.app [NI k 0 (C.length+1),.list []]).dict (by rw [length_map]; exact hl) hk
  rw [DZ hm] at e2
  have e3:aC (PP r) fuel (n+2) 10 [.inst 2 C0.length,.int k] [] C=.ok (.loc C.length) ⟨[some (.inst 2 C0.length),some (.int k),some (.loc C.length)],_⟩:=lE (aZ (jt (bI e1 rfl (z:=true) rfl) rfl (bJ (Ih (c6 (g:=.cls 0) rfl (bT (au (d:=.int k) rfl)) Ng) (cu (au (d:=.inst 2 C0.length) rfl) (dX (S.app _).top).1) (au (d:=.int k) rfl) e2 (lb rfl)))) (jC (au rfl)))
  exact ⟨_,_,e8 lc k C.length,by rw [gS]; exact e3,by unfold eQ; rw [if_neg hm]; exact S.new hm⟩
theorem tu {ks:List Int} {k x:Int}:x∈eQ ks k↔x∈ks\/x=k:=by
 unfold eQ
 split
 ·exact ⟨.inl,λh=>h.elim id λe=>e ▸ ‹_›⟩
 ·rw [mem_append,mem_singleton]
theorem Cv {ks:List Int} {k:Int}:(eQ ks k).length<=ks.length+1:=by
 unfold eQ
 split
 ·exact le_succ _
 ·rw [length_append]; exact le_refl _
noncomputable def oW (sc:Int->List Int) (node:Int) (bV:List Int):Int->List Int:=bV.foldl (λsc q=>e8 sc q (sc q++[node])) sc
theorem yE {node:Int} (hk:small node=true) (hf:fuel≠0) {all:D} (iW : ∀ A B,aY A B all=true) {x3:Option D} : ∀ (bV:List Int) {C:ai} {ks:List Int} {lc:Int->Nat} {sc:Int->List Int} {x4 x5:Option D},aU C0 C .none p f ks lc np sc->ks.length+bV.length<64->(∀ q∈bV,small q=true)->(∀ k∈ks,(sc k).length+bV.length<1000)->
  ∃ m' C' dq,forLoop (λA B=>aY A B all) (.one 4) (λae=>aq (PP r) ⟨aC (PP r) fuel (n+2),fuel⟩ csadd_0 ae) (bV.map .int) ⟨[some (.inst 2 C0.length),some (.int node),some all,x3,x4,x5],C⟩=.ok .next ⟨m',C'⟩/\aU C0 C' .none p f (bV.foldl eQ ks) dq np (oW sc node bV)
 |[],C,ks,lc,sc,x4,x5,S,_,_,_=>⟨_,C,lc,rfl,S⟩
 |q::bV,C,ks,lc,sc,x4,x5,S,hl,hs,hn=>by
  obtain ⟨m1,C1,j8,e1,S1⟩:=Br (r:=r) (fuel:=fuel) (n:=n) S (k:=q) (lt_of_le_of_lt (le_add_right _ _) hl) (hs q (.head _))
  have hq:q∈eQ ks q:=tu.mpr (.inr rfl)
  have hlen : ∀ k∈eQ ks q,(sc k).length+(bV.length+1)<1000:=λk h=>(Classical.em (k∈ks)).elim (λh'=>hn k h') λh'=>by
   rw [(S.out k h').2]; exact lt_of_le_of_lt (add_le_add_right (zero_le ks.length) _) (lt_trans hl (by decide))
  have S2:=S1.Pu (l:=sc q++[node]) hq
  obtain ⟨m',C',dq,e3,S3⟩:=yE hk hf iW (x4:=some (.int q)) (x5:=some (.loc (j8 q))) bV S2 (lt_of_le_of_lt (by rw [length_cons,add_comm bV.length 1,<-add_assoc]; exact add_le_add_right Cv _) hl) (λq' h=>hs q' (.tail _ h)) (λk h=>by
   by_cases e:k=q
   ·subst e; rw [gS,length_append,add_assoc,add_comm [node].length]; exact hlen _ h
   ·rw [eF e]; exact lt_of_le_of_lt (add_le_add_left (le_succ _) _) (hlen k h))
  rw [map_append] at e3
  refine ⟨m',C',dq,(fV (aa:=⟨[some (.inst 2 C0.length),some (.int node),some all,x3,some (.int q),some (.loc (j8 q))],_⟩) rfl ?_ (iW _ _)).trans e3,S3⟩
  exact aZ (bM (kO (au (d:=.inst 2 C0.length) rfl) (ir S.top).1 (bT (au (d:=.int q) rfl)) e1) (lb rfl)) (bJ (hY (rI (cu (au (d:=.loc (j8 q)) rfl) (jy (S1.info q hq)).2.2) (au (d:=.int node) rfl) (S1.succ q hq) (by rw [length_map]; exact lt_trans (lt_of_le_of_lt (le_add_right _ _) (hlen q hq)) (by decide)))))
theorem FE (hf:fuel≠0) (S:aU C0 C .none p f ks lc np sc) {node:Int} {bV:List Int} (hk:small node=true) (hl:ks.length+1+bV.length<64) (hs : ∀ q∈bV,small q=true) (hn : ∀ k∈ks,(sc k).length<900) :
  ∃ m' C' dq,aC (PP r) fuel (n+3) 11 (.inst 2 C0.length::.int node::bV.map .int) [] C=.ok .none ⟨m',C'⟩/\aU C0 C' .none p f (bV.foldl eQ (eQ ks node)) dq (e8 np node (np node+bV.length)) (oW sc node bV):=by
 have hb:fR pa (.inst 2 C0.length::.int node::bV.map .int) []=some [some (.inst 2 C0.length),some (.int node),some (.tup (bV.map .int)),none,none,none]:=by
  unfold fR pa
  simp [Nat.sub_eq_zero_of_le]
  exact ⟨le_trans (add_le_add_right (le_of_lt (lt_of_le_of_lt (le_add_left _ _) hl)) 2) (by decide),rfl⟩
 refine cps λQQ kQ=>?_
 obtain ⟨m1,C1,j8,e1,S1⟩:=Br (r:=r) (fuel:=fuel) (n:=n) S (k:=node) (lt_of_le_of_lt (le_trans (le_succ _) (le_add_right _ _)) hl) hk
 have hq:node∈eQ ks node:=tu.mpr (.inr rfl)
 have S2:=S1.setInfo (v:=np node+bV.length) hq
 obtain ⟨m2,C2,Ms,e2,S3⟩:=yE (r:=r) (fuel:=fuel) (n:=n) (all:=.tup (bV.map .int)) (x3:=some (.loc (j8 node))) (x4:=none) (x5:=none) hk hf (λ_ _=>rfl) bV S2 (lt_of_le_of_lt (add_le_add_right Cv _) hl) hs (λk h=>by
  by_cases h':k∈ks
  ·exact Nat.add_lt_add (hn k h') (lt_trans (lt_of_le_of_lt (le_add_left _ _) hl) (by decide:64<100))
  ·rw [(S.out k h').2]; exact lt_trans (lt_of_le_of_lt (add_le_add_right (zero_le _) _) hl) (by decide))
 refine kQ ⟨m2,C2,Ms,?_,S3⟩
 show (match fR pa (.inst 2 C0.length::.int node::bV.map .int) [] with|some m=>di (aq (PP r) ⟨aC (PP r) fuel (n+2),fuel⟩ csadd_5 ⟨m,C⟩)|none=>.fail)=_
 rw [hb]
 have e3:ev (PP r) ⟨aC (PP r) fuel (n+2),fuel⟩ (.call (.cst (.bn .len)) (.cons (.var 2) .nil) .nil) ⟨[some (.inst 2 C0.length),some (.int node),some (.tup (bV.map .int)),some (.loc (j8 node)),none,none],C1⟩=.ok (.int (bV.length:Nat)) ⟨[some (.inst 2 C0.length),some (.int node),some (.tup (bV.map .int)),some (.loc (j8 node)),none,none],C1⟩:=
  c6 (g:=.bn .len) rfl (bT (au (d:=.tup (bV.map .int)) rfl)) ((l0 hf).trans (by show ak.ok (D.int ((bV.map D.int).length:Nat)) _=_; rw [length_map]))
 exact tL (aZ (df (bI (cu (au (d:=.inst 2 C0.length) rfl) (dX S.top).2.1) rfl (z:=false) rfl) rfl rfl)
  (aZ (bM (kO (au (d:=.inst 2 C0.length) rfl) (ir S.top).1 (bT (au (d:=.int node) rfl)) e1) (lb rfl))
  (aZ (pw (au (d:=.loc (j8 node)) rfl) (jy (S1.info node hq)).2.1 e3 rfl (qm (S1.info node hq)))
  (bJ ((fU (items:=bV.map .int) hf (au (d:=.tup (bV.map .int)) rfl) rfl).trans e2)))))
end
structure cA (C0 C:ai) (ks:List Int) (lc:Int->Nat) (i:Nat) (rs:List Int):Prop where
 cell:C[i]?=some (.list (rs.map .int))
 lo:C0.length<i
 ne : ∀ k∈ks,lc k+1≠i
section
variable {r:List Fn} {fuel n:Nat} {C0 C:ai} {rd:D} {p f:Int} {ks rs:List Int} {lc:Int->Nat} {np:Int->Int} {sc:Int->List Int} {i:Nat}
theorem aU.ED (S:aU C0 C rd p f ks lc np sc) (R:cA C0 C ks lc i rs) (l:List Int):aU C0 (C.set i (.list (l.map .int))) rd p f ks lc np sc/\cA C0 (C.set i (.list (l.map .int))) ks lc i l:=
 ⟨S.Pt (le_of_lt R.lo) (λc h=>by rw [R.cell] at h; obtain rfl:=Option.some.inj h; exact ⟨Nat.zero_ne_one,Nat.zero_ne_one∘λh=>(nomatch h),λh=>(nomatch h)⟩) R.ne,kH R.cell,R.lo,R.ne⟩
theorem cA.kd {C':ai} {j:Nat} {x y:Ch} (R:cA C0 C ks lc i rs) (h:C[j]?=some y) (hk:(Ch.kd (.list [])==y.kd)=false):cA C0 (C.set j x) ks lc i rs:=⟨eH R.cell h hk,R.lo,R.ne⟩
noncomputable def oB (np:Int->Int) (rs:List Int):Int->Int:=rs.foldl (λnp k=>e8 np k (-1)) np
theorem xf : ∀ {rs:List Int} {np:Int->Int} {x:Int},oB np rs x=if x∈rs then -1 else np x
 |[],np,x=>(if_neg not_mem_nil).symm
 |k::rs,np,x=>by
  show oB (e8 np k (-1)) rs x=_
  rw [xf]
  by_cases h:x∈rs
  ·rw [if_pos h,if_pos (.tail _ h)]
  ·rw [if_neg h]
   by_cases e:x=k
   ·subst e; rw [gS,if_pos (.head _)]
   ·rw [eF e,if_neg λz=>(mem_cons.mp z).elim e h]
theorem sR (S:aU C0 C rd p f ks lc np sc) {k:Int} (hk:k∈ks):i6 C (.loc (C0.length+1)) (.int k)=some (.loc (lc k)):=by
 show (C[C0.length+1]?).bind (wF k)=_
 rw [S.dict]; exact tl hk
theorem Bq {all:D} (iW : ∀ A B,aY A B all=true) : ∀ (xs:List Int) {C:ai} {np:Int->Int} {x3:Option D},aU C0 C rd p f ks lc np sc->cA C0 C ks lc i rs->(∀ k∈xs,k∈ks)->
  ∃ m' C',forLoop (λA B=>aY A B all) (.one 3) (λae=>aq (PP r) ⟨aC (PP r) fuel n,fuel⟩ csgetready_0 ae) (xs.map .int) ⟨[some (.inst 2 C0.length),some all,some (.loc (C0.length+1)),x3],C⟩=.ok .next ⟨[some (.inst 2 C0.length),some all,some (.loc (C0.length+1)),m'],C'⟩/\aU C0 C' rd p f ks lc (oB np xs) sc/\cA C0 C' ks lc i rs
 |[],C,np,x3,S,R,_=>⟨_,C,rfl,S,R⟩
 |k::xs,C,np,x3,S,R,h=>by
  have hk:=h k (.head _)
  obtain ⟨m',C',e,S',R'⟩:=Bq iW xs (x3:=some (.int k)) (S.setInfo (v := -1) hk) (R.kd (C':=C) (S.info k hk) rfl) λq hq=>h q (.tail _ hq)
  exact ⟨m',C',(fV (m1:=[some (.inst 2 C0.length),some all,some (.loc (C0.length+1)),some (.int k)]) (aa:=⟨[some (.inst 2 C0.length),some all,some (.loc (C0.length+1)),some (.int k)],_⟩) rfl (bJ (jN (d:=.int (-1)) rfl (dA (au (d:=.loc (C0.length+1)) rfl) (au (d:=.int k) rfl) (sR S hk)) (qm (S.info k hk)))) (iW _ _)).trans e,S',R'⟩
theorem Bp (hf:fuel≠0) (S:aU C0 C (.loc i) p f ks lc np sc) (R:cA C0 C ks lc i rs) (h : ∀ k∈rs,k∈ks) :
  ∃ m' C',aC (PP r) fuel (n+1) 13 [.inst 2 C0.length] [] C=.ok (.tup (rs.map .int)) ⟨m',C'⟩/\aU C0 C' (.loc i) (p+rs.length) f ks lc (oB np rs) sc/\cA C0 C' ks lc i []:=by
 refine cps λQQ kQ=>?_
 obtain ⟨x',C1,e,S1,R1⟩:=Bq (r:=r) (fuel:=fuel) (n:=n) (all:=.tup (rs.map .int)) (x3:=none) (λ_ _=>rfl) rs S R h
 obtain ⟨S2,R2⟩:=S1.ED R1 []
 have e1:ev (PP r) ⟨aC (PP r) fuel n,fuel⟩ (.call (.cst (.bn .tuple)) (.cons (.attr (.var 0) .bY) .nil) .nil) ⟨[some (.inst 2 C0.length),none,none,none],C⟩=.ok (.tup (rs.map .int)) ⟨[some (.inst 2 C0.length),none,none,none],C⟩:=
  c6 (g:=.bn .tuple) rfl (bT (cu (au (d:=.inst 2 C0.length) rfl) (dX S.top).2.1)) ((l0 hf).trans (by show aK (aT C (.loc i)) _=_; rw [show aT C (.loc i)=some (rs.map .int) by unfold aT; dsimp only; rw [R.cell]]; rfl))
 have e2 : ∀ C',ev (PP r) ⟨aC (PP r) fuel n,fuel⟩ (.call (.cst (.bn .len)) (.cons (.var 1) .nil) .nil) ⟨[some (.inst 2 C0.length),some (.tup (rs.map .int)),some (.loc (C0.length+1)),x'],C'⟩=.ok (.int (rs.length:Nat)) ⟨[some (.inst 2 C0.length),some (.tup (rs.map .int)),some (.loc (C0.length+1)),x'],C'⟩:=λC'=>
  c6 (g:=.bn .len) rfl (bT (au (d:=.tup (rs.map .int)) rfl)) ((l0 hf).trans (by show ak.ok (D.int ((rs.map D.int).length:Nat)) _=_; rw [length_map]))
 have e3:ev (PP r) ⟨aC (PP r) fuel n,fuel⟩ (.a9 (.attr (.var 0) .bY) .clear .nil) ⟨[some (.inst 2 C0.length),some (.tup (rs.map .int)),some (.loc (C0.length+1)),x'],C1⟩=.ok .none ⟨[some (.inst 2 C0.length),some (.tup (rs.map .int)),some (.loc (C0.length+1)),x'],C1.set i (.list [])⟩:=
  eU (cu (au (d:=.inst 2 C0.length) rfl) (dX S1.top).2.1) (mk:=.og) (show (C1[i]?).bind (ki .clear)=_ by rw [R1.cell]; rfl) (ds:=[]) rfl (by
   show aK (eB C1 i) _=_
   rw [show eB C1 i=some (rs.map .int) by unfold eB; rw [R1.cell]]; rfl)
 refine kQ ⟨_,_,lE (aZ (df (bI (cu (au (d:=.inst 2 C0.length) rfl) (dX S.top).2.1) rfl (z:=false) rfl) rfl rfl)
  (aZ (bM e1 (lb rfl)) (aZ (bM (cu (au (d:=.inst 2 C0.length) rfl) (dX S.top).1) (lb rfl))
  (aZ ((fU (items:=rs.map .int) hf (au (d:=.tup (rs.map .int)) rfl) rfl).trans e) (aZ (hY e3)
  (aZ (pw (au (d:=.inst 2 C0.length) rfl) (dX S2.top).2.2.1 (e2 _) rfl (xv S2.top (x:=.none)).2.1) (jC (au rfl)))))))),S2.setTop,R2.kd (C':=C) S2.top rfl⟩
theorem FD (hf:fuel≠0) (S:aU C0 C (.loc i) p f ks lc np sc) (R:cA C0 C ks lc i rs) : ∃ m',aC (PP r) fuel (n+1) 14 [.inst 2 C0.length] [] C=.ok (.bool (decide (f<p)||!rs.isEmpty)) ⟨m',C⟩:=by
 have e1:ev (PP r) ⟨aC (PP r) fuel n,fuel⟩ (.cmp .lt (.attr (.var 0) .d9) (.attr (.var 0) .dD)) ⟨[some (.inst 2 C0.length)],C⟩=.ok (.bool (decide (f<p))) ⟨[some (.inst 2 C0.length)],C⟩:=
  bI (cu (au (d:=.inst 2 C0.length) rfl) (dX S.top).2.2.2) (cu (au (d:=.inst 2 C0.length) rfl) (dX S.top).2.2.1) rfl
 have e2:ev (PP r) ⟨aC (PP r) fuel n,fuel⟩ (.call (.cst (.bn .bool)) (.cons (.attr (.var 0) .bY) .nil) .nil) ⟨[some (.inst 2 C0.length)],C⟩=.ok (.bool (!(rs.map D.int).isEmpty)) ⟨[some (.inst 2 C0.length)],C⟩:=
  c6 (g:=.bn .bool) rfl (bT (cu (au (d:=.inst 2 C0.length) rfl) (dX S.top).2.1)) ((l0 hf).trans (by show aK (aT C (.loc i)) _=_; rw [show aT C (.loc i)=some (rs.map .int) by unfold aT; dsimp only; rw [R.cell]]; rfl))
 have e3:ev (PP r) ⟨aC (PP r) fuel n,fuel⟩ (.or (.cmp .lt (.attr (.var 0) .d9) (.attr (.var 0) .dD)) (.call (.cst (.bn .bool)) (.cons (.attr (.var 0) .bY) .nil) .nil)) ⟨[some (.inst 2 C0.length)],C⟩=.ok (.bool (decide (f<p)||!rs.isEmpty)) ⟨[some (.inst 2 C0.length)],C⟩:=by
  by_cases h:f<p
  ·rw [decide_eq_true h] at e1 ⊢; exact H6 e1 rfl
  ·rw [decide_eq_false h] at e1 ⊢
   rw [rK e1 rfl,e2,List.isEmpty_map]; rfl
 exact ⟨_,lE (aZ (df (bI (cu (au (d:=.inst 2 C0.length) rfl) (dX S.top).2.1) rfl (z:=false) rfl) rfl rfl) (jC e3))⟩
end
noncomputable def iF (s:(Int->Int) × List Int) (x:Int):(Int->Int) × List Int:=(e8 s.1 x (s.1 x - 1),if s.1 x - 1==0 then s.2++[x] else s.2)
noncomputable def pf (sc:Int->List Int) (s:(Int->Int) × List Int) (k:Int):(Int->Int) × List Int:=(sc k).foldl iF (e8 s.1 k (-2),s.2)
theorem uF : ∀ l:List Int,D.lY (l.map .int) (l.map .int)=true
 |[]=>rfl
 |x::l=>by
  show (((some x:Option Int)==some x)&&D.lY (l.map .int) (l.map .int))=true
  rw [uF l,beq_self_eq_true]; rfl
theorem QP {A B:ai} {j:Nat} {l:List Int} (h:A[j]?=some (.list (l.map .int))) (h':B[j]?=some (.list (l.map .int))):aY A B (.loc j)=true:=by
 show jF A B j=true
 unfold jF
 rw [h,h']; exact uF l
section
variable {r:List Fn} {fuel n:Nat} {C0 C:ai} {p f:Int} {ks rs:List Int} {lc:Int->Nat} {np:Int->Int} {sc:Int->List Int} {i:Nat}
theorem Hz {cl:Calls} (S:aU C0 C (.loc i) p f ks lc np sc) (R:cA C0 C ks lc i rs) {x:Int} (hx:x∈ks) (hl:rs.length<1000) {a1 a3 a4 a5 x7:Option D} :
  ∃ C',aq (PP r) cl csdone_0 ⟨[some (.inst 2 C0.length),a1,some (.loc (C0.length+1)),a3,a4,a5,some (.int x),x7],C⟩=.ok .next ⟨[some (.inst 2 C0.length),a1,some (.loc (C0.length+1)),a3,a4,a5,some (.int x),some (.loc (lc x))],C'⟩/\
   aU C0 C' (.loc i) p f ks lc (iF (np,rs) x).1 sc/\cA C0 C' ks lc i (iF (np,rs) x).2:=by
 have S1:=S.setInfo (v:=np x - 1) hx
 have R1:=R.kd (C':=C) (x:=NI x (np x - 1) (lc x+1)) (S.info x hx) rfl
 have hi:=S1.info x hx
 rw [gS] at hi
 have e1:ev (PP r) cl (.cmp .eq (.attr (.var 7) .eb) (.cst (.int 0))) ⟨[some (.inst 2 C0.length),a1,some (.loc (C0.length+1)),a3,a4,a5,some (.int x),some (.loc (lc x))],C.set (lc x) (NI x (np x - 1) (lc x+1))⟩=.ok (.bool (np x - 1==0)) _:=
  bI (cu (au (d:=.loc (lc x)) rfl) (jy hi).2.1) rfl rfl
 by_cases h:(np x - 1==0)=true
 ·obtain ⟨S2,R2⟩:=S1.ED R1 (rs++[x])
  rw [map_append] at S2 R2
  rw [h] at e1
  exact ⟨_,aZ (bM (dA (au (d:=.loc (C0.length+1)) rfl) (au (d:=.int x) rfl) (sR S hx)) (lb rfl)) (aZ (pw (au (d:=.loc (lc x)) rfl) (jy (S.info x hx)).2.1 rfl rfl (qm (S.info x hx)))
   (bJ (jt e1 rfl (bJ (hY (rI (cu (au (d:=.inst 2 C0.length) rfl) (dX S1.top).2.1) (au (d:=.int x) rfl) R1.cell (by rw [length_map]; exact lt_trans hl (by decide)))))))),S2,by unfold iF; rw [if_pos h]; exact R2⟩
 ·rw [eq_false_of_ne_true h] at e1
  exact ⟨_,aZ (bM (dA (au (d:=.loc (C0.length+1)) rfl) (au (d:=.int x) rfl) (sR S hx)) (lb rfl)) (aZ (pw (au (d:=.loc (lc x)) rfl) (jy (S.info x hx)).2.1 rfl rfl (qm (S.info x hx)))
   (bJ (df e1 rfl rfl))),S1,by unfold iF; rw [if_neg h]; exact R1⟩
theorem Ah {cl:Calls} {k:Int} (hk:k∈ks) {a1 a3 a4 a5:Option D} : ∀ (xs:List Int) {C:ai} {np:Int->Int} {rs:List Int} {x6 x7:Option D},aU C0 C (.loc i) p f ks lc np sc->cA C0 C ks lc i rs->(∀ x∈xs,x∈ks)->rs.length+xs.length<1000->
  ∃ y6 y7 C',forLoop (λA B=>aY A B (.loc (lc k+1))) (.one 6) (λae=>aq (PP r) cl csdone_0 ae) (xs.map .int) ⟨[some (.inst 2 C0.length),a1,some (.loc (C0.length+1)),a3,a4,a5,x6,x7],C⟩ =
   .ok .next ⟨[some (.inst 2 C0.length),a1,some (.loc (C0.length+1)),a3,a4,a5,y6,y7],C'⟩/\aU C0 C' (.loc i) p f ks lc (xs.foldl iF (np,rs)).1 sc/\cA C0 C' ks lc i (xs.foldl iF (np,rs)).2
 |[],C,np,rs,x6,x7,S,R,_,_=>⟨_,_,C,rfl,S,R⟩
 |x::xs,C,np,rs,x6,x7,S,R,h,hl=>by
  obtain ⟨C1,e1,S1,R1⟩:=Hz (r:=r) (cl:=cl) (a1:=a1) (a3:=a3) (a4:=a4) (a5:=a5) (x7:=x7) S R (h x (.head _)) (lt_of_le_of_lt (le_add_right _ _) hl)
  have hlen:(iF (np,rs) x).2.length<=rs.length+1:=by
   unfold iF
   split
   ·rw [length_append]; exact le_refl _
   ·exact le_succ _
  obtain ⟨y6,y7,C',e,S',R'⟩:=Ah hk xs (x6:=some (.int x)) (x7:=some (.loc (lc x))) S1 R1 (λq hq=>h q (.tail _ hq)) (lt_of_le_of_lt (by rw [length_cons,add_comm xs.length,<-add_assoc]; exact add_le_add_right hlen _) hl)
  exact ⟨y6,y7,C',(fV rfl e1 (QP (S.succ k hk) (S1.succ k hk))).trans e,S',R'⟩
theorem HF {cl:Calls} (hf:cl.fuel≠0) (S:aU C0 C (.loc i) p f ks lc np sc) (R:cA C0 C ks lc i rs) {k:Int} (hk:k∈ks) (hn:np k = -1) (hs : ∀ x∈sc k,x∈ks) (hl:rs.length+(sc k).length<1000) {a1 x4 x5 x6 x7:Option D} :
  ∃ y4 y5 y6 y7 C',aq (PP r) cl csdone_1 ⟨[some (.inst 2 C0.length),a1,some (.loc (C0.length+1)),some (.int k),x4,x5,x6,x7],C⟩=.ok .next ⟨[some (.inst 2 C0.length),a1,some (.loc (C0.length+1)),some (.int k),y4,y5,y6,y7],C'⟩/\
   aU C0 C' (.loc i) p (f+1) ks lc (pf sc (np,rs) k).1 sc/\cA C0 C' ks lc i (pf sc (np,rs) k).2:=by
 have e0:ev (PP r) cl (.ku 4 (.a9 (.var 2) .get (.cons (.var 3) .nil))) ⟨[some (.inst 2 C0.length),a1,some (.loc (C0.length+1)),some (.int k),x4,x5,x6,x7],C⟩ =
   .ok (((ks.map λk=>(k,D.loc (lc k))).lookup k).getD .none) _:=
  AL (AD (au (d:=.loc (C0.length+1)) rfl) (au (d:=.int k) rfl) S.dict) (lb rfl)
 rw [tl hk] at e0
 have S1:=S.setInfo (v := -2) hk
 obtain ⟨y6,y7,C2,e2,S2,R2⟩:=Ah (r:=r) (cl:=cl) (a1:=a1) (a3:=some (.int k)) (a4:=some (.loc (lc k))) (a5:=some (.int (-1))) (x6:=x6) (x7:=x7) hk (sc k) S1 (R.kd (C':=C) (S.info k hk) rfl) hs hl
 have hi:=S.info k hk
 rw [hn] at hi
 exact ⟨some (.loc (lc k)),some (.int (-1)),y6,y7,_,aZ (df (bI e0 rfl (z:=false) rfl) rfl rfl) (aZ (bM (cu (au (d:=.loc (lc k)) rfl) (jy hi).2.1) (lb rfl))
  (aZ (df (bI (x:=.int (-1)) (y:=.int (-1)) (au rfl) rfl (z:=false) rfl) rfl rfl)
  (aZ (jN (d:=.int (-2)) rfl (au (d:=.loc (lc k)) rfl) (qm hi))
  (aZ ((fU (items:=(sc k).map .int) hf (cu (au (d:=.loc (lc k)) rfl) (jy (S1.info k hk)).2.2) (by show (_:Option Ch).bind qe=_; rw [S1.succ k hk]; rfl)).trans e2)
  (bJ (pw (ae:=⟨_,_⟩) (au (d:=.inst 2 C0.length) rfl) (dX S2.top).2.2.2 rfl rfl (xv S2.top (x:=.none)).2.2)))))),S2.setTop,R2.kd (C':=C2) S2.top rfl⟩
end
noncomputable def dy (nd:Int->List Int):List Int->Prop
 |[]=>True
 |k::l=>(∀ q∈nd k,q∈l)/\k ∉ l/\dy nd l
theorem dy.closed {nd:Int->List Int} : ∀ {l:List Int},dy nd l->∀ {k q:Int},k∈l->q∈nd k->q∈l
 |a::l,h,k,q,hk,hq=>by
  rcases mem_cons.mp hk with rfl|hk
  ·exact .tail _ (h.1 q hq)
  ·exact .tail _ (h.2.2.closed hk hq)
noncomputable def gB (dn l:List Int):Nat:=(l.filter λq=>!dn.contains q).length
theorem zO {dn l:List Int}:gB dn l=0 ↔ ∀ q∈l,q∈dn:=by
 unfold gB
 rw [List.length_eq_zero_iff,List.filter_eq_nil_iff]
 refine forall_congr' λq=>forall_congr' λ_=>?_
 rw [not_eq_true',Bool.not_eq_false,contains_iff_mem]
theorem zN {dn:List Int} {k:Int} {l:List Int} (h:k ∉ l):gB (k::dn) l=gB dn l:=by
 unfold gB
 refine congrArg List.length (filter_congr λq hq=>?_)
 rw [List.contains_cons,beq_false_of_ne λe:q=k=>h (e ▸ hq)]; rfl
theorem zL {dn:List Int} {a:Int} {l:List Int}:gB dn (a::l)=if a∈dn then gB dn l else gB dn l+1:=by
 unfold gB
 rw [filter_cons]
 by_cases h:a∈dn
 ·rw [if_pos h,if_neg (by rw [contains_iff_mem.mpr h]; exact Bool.false_ne_true)]
 ·rw [if_neg h,if_pos (by rw [not_eq_true',<-not_eq_true,contains_iff_mem]; exact h)]; rfl
theorem zM {dn:List Int} {k:Int} (hd:k ∉ dn) : ∀ {l:List Int},l.Nodup->k∈l->gB dn l=gB (k::dn) l+1
 |a::l,hn,hk=>by
  obtain ⟨h1,h2⟩:=nodup_cons.mp hn
  rw [zL,zL]
  by_cases e:a=k
  ·subst e
   rw [if_neg hd,if_pos (.head _),zN h1]
  ·have ih:=zM hd h2 ((mem_cons.mp hk).resolve_left (Ne.symm e))
   have hm:a∈k::dn↔a∈dn:=⟨λz=>(mem_cons.mp z).resolve_left e,.tail _⟩
   by_cases h:a∈dn
   ·rw [if_pos h,if_pos (hm.mpr h),ih]
   ·rw [if_neg h,if_neg λz=>h (hm.mp z),ih]
structure Gr (nd:Int->List Int) (ks:List Int) (sc:Int->List Int):Prop where
 nodup : ∀ k∈ks,(nd k).Nodup
 gd : ∀ k∈ks,∀ q∈nd k,q∈ks
 snd : ∀ k∈ks,(sc k).Nodup
 qJ : ∀ k∈ks,∀ j,j∈sc k↔j∈ks/\k∈nd j
structure dH (nd:Int->List Int) (ks dn ou rs:List Int) (np:Int->Int):Prop where
 ed:dy nd dn
 iI : ∀ k∈dn,k∈ks
 ja : ∀ k∈ou,k∈ks/\k ∉ dn/\np k = -1/\∀ q∈nd k,q∈dn
 num : ∀ k∈ks,k ∉ dn->k ∉ ou->np k=(gB dn (nd k):Nat)
 gP : ∀ k,k∈rs↔k∈ks/\k ∉ dn/\k ∉ ou/\∀ q∈nd k,q∈dn
 mV:rs.Nodup
theorem Ag : ∀ {l:List Int} {np:Int->Int} {rs:List Int},l.Nodup->l.foldl iF (np,rs)=(λx=>if x∈l then np x - 1 else np x,rs++l.filter λx=>np x - 1==0)
 |[],np,rs,_=>by rw [List.foldl_nil,filter_nil,append_nil]; refine congrArg (·,rs) (funext λx=>(if_neg not_mem_nil).symm)
 |a::l,np,rs,hn=>by
  obtain ⟨h1,h2⟩:=nodup_cons.mp hn
  rw [List.foldl_cons,iF,Ag h2]
  refine Prod.ext (funext λx=>?_) ?_
  ·dsimp only
   by_cases e:x=a
   ·subst e; rw [if_neg h1,if_pos (.head _),gS]
   ·rw [eF e]
    by_cases h:x∈l
    ·rw [if_pos h,if_pos (.tail _ h)]
    ·rw [if_neg h,if_neg λz=>(mem_cons.mp z).elim e h]
  ·dsimp only
   rw [filter_cons,filter_congr (q:=λx=>np x - 1==0) λx hx=>by rw [eF λe:x=a=>h1 (e ▸ hx)]]
   split
   ·rw [append_assoc]; rfl
   ·rfl
section
variable {nd:Int->List Int} {ks dn ou rs:List Int} {np:Int->Int} {sc:Int->List Int} {k:Int}
theorem GX {a b:Nat} (h:a=b+1):((a:Nat):Int) - 1=(b:Nat):=by rw [h]; exact Int.add_sub_cancel (b:Int) 1
theorem dH.done (G:Gr nd ks sc) (R:dH nd ks dn (k::ou) rs np) (ho:k ∉ ou):dH nd ks (k::dn) ou (pf sc (np,rs) k).2 (pf sc (np,rs) k).1:=by
 obtain ⟨hk,pR,BZ,dR⟩:=R.ja k (.head _)
 unfold pf
 rw [Ag (G.snd k hk)]
 dsimp only
 have hs : ∀ x,x∈sc k->x∈ks/\k∈nd x/\x ∉ dn/\x ∉ k::ou:=λx hx=>by
  obtain ⟨h1,h2⟩:=(G.qJ k hk x).mp hx
  exact ⟨h1,h2,λz=>pR (R.ed.closed z h2),λz=>pR ((R.ja x z).2.2.2 k h2)⟩
 have B8 : ∀ x,x∈sc k->x≠k:=λx hx e=>(hs x hx).2.2.2 (e ▸ .head _)
 have wy : ∀ x,x∈sc k->e8 np k (-2) x - 1=(gB (k::dn) (nd x):Nat):=λx hx=>by
  obtain ⟨h1,h2,h3,h4⟩:=hs x hx
  rw [eF (B8 x hx),R.num x h1 h3 h4]
  exact GX (zM pR (G.nodup x h1) h2)
 have sG : ∀ x∈ks,x ∉ sc k->k ∉ nd x:=λx hx h z=>h ((G.qJ k hk x).mpr ⟨hx,z⟩)
 refine ⟨⟨dR,pR,R.ed⟩,λx hx=>(mem_cons.mp hx).elim (λe=>e ▸ hk) (R.iI x),λx hx=>?_,λx h1 h2 h3=>?_,λx=>?_,?_⟩
 ·obtain ⟨h1,h2,h3,h4⟩:=R.ja x (.tail _ hx)
  have jr:x≠k:=λe=>ho (e ▸ hx)
  refine ⟨h1,λz=>(mem_cons.mp z).elim jr h2,?_,λq hq=>.tail _ (h4 q hq)⟩
  rw [if_neg λz=>(hs x z).2.2.2 (.tail _ hx),eF jr]; exact h3
 ·by_cases h:x∈sc k
  ·rw [if_pos h]; exact wy x h
  ·rw [if_neg h,eF λe:x=k=>h2 (e ▸ .head _),zN (sG x h1 h)]
   exact R.num x h1 (λz=>h2 (.tail _ z)) λz=>(mem_cons.mp z).elim (λe=>h2 (e ▸ .head _)) h3
 ·rw [mem_append,mem_filter,R.gP]
  constructor
  ·rintro (⟨h1,h2,h3,h4⟩|⟨h1,h2⟩)
   ·exact ⟨h1,λz=>(mem_cons.mp z).elim (λe=>h3 (e ▸ .head _)) h2,λz=>h3 (.tail _ z),λq hq=>.tail _ (h4 q hq)⟩
   ·obtain ⟨h3,h4,h5,h6⟩:=hs x h1
    rw [wy x h1] at h2
    exact ⟨h3,λz=>(mem_cons.mp z).elim (B8 x h1) h5,λz=>h6 (.tail _ z),zO.mp (ofNat.inj (eq_of_beq h2))⟩
  ·rintro ⟨h1,h2,h3,h4⟩
   by_cases h:x∈sc k
   ·exact .inr ⟨h,by rw [wy x h,zO.mpr h4]; rfl⟩
   ·exact .inl ⟨h1,λz=>h2 (.tail _ z),λz=>(mem_cons.mp z).elim (λe=>h2 (e ▸ .head _)) h3,λq hq=>(mem_cons.mp (h4 q hq)).resolve_left λe=>sG x h1 h (e ▸ hq)⟩
 ·rw [nodup_append]
  exact ⟨R.mV,(G.snd k hk).filter _,λa ha b hb e=>pR (((R.gP a).mp ha).2.2.2 k (e ▸ (hs b (mem_filter.mp hb).1).2.1))⟩
theorem dH.out (R:dH nd ks dn ou rs np) {qu:List Int} (h : ∀ k,k∈qu↔k∈ou\/k∈rs):dH nd ks dn qu [] (oB np rs):=by
 refine ⟨R.ed,R.iI,λk hk=>?_,λk h1 h2 h3=>?_,λk=>⟨λz=>(nomatch z),λ⟨h1,h2,h3,h4⟩=>absurd ((h k).mpr ?_) h3⟩,nodup_nil⟩
 ·rw [xf]
  by_cases e:k∈rs
  ·obtain ⟨h1,h2,h3,h4⟩:=(R.gP k).mp e
   exact ⟨h1,h2,if_pos e,h4⟩
  ·rw [if_neg e]; exact R.ja k (((h k).mp hk).resolve_right e)
 ·rw [xf,if_neg λz=>h3 ((h k).mpr (.inr z))]
  exact R.num k h1 h2 λz=>h3 ((h k).mpr (.inl z))
 ·by_cases z:k∈ou
  ·exact .inl z
  ·exact .inr ((R.gP k).mpr ⟨h1,h2,z,h4⟩)
theorem dH.perm (R:dH nd ks dn ou rs np) {qu:List Int} (h : ∀ k,k∈qu↔k∈ou):dH nd ks dn qu rs np:=
 ⟨R.ed,R.iI,λk hk=>R.ja k ((h k).mp hk),λk h1 h2 h3=>R.num k h1 h2 λz=>h3 ((h k).mpr z),λk=>by rw [R.gP k,h k],R.mV⟩
end
theorem cw {α:Type} [DecidableEq α] : ∀ {l ks:List α},l.Nodup->(∀ x∈l,x∈ks)->l.length<=ks.length
 |[],_,_,_=>zero_le _
 |a::l,ks,hn,h=>by
  obtain ⟨h1,h2⟩:=nodup_cons.mp hn
  have ha:=h a (.head _)
  have ih:=cw (ks:=ks.erase a) h2 λx hx=>(List.mem_erase_of_ne λe:x=a=>h1 (e ▸ hx)).mpr (h x (.tail _ hx))
  rw [List.length_erase_of_mem ha] at ih
  exact le_trans (succ_le_succ ih) (le_of_eq (Nat.succ_pred_eq_of_pos (List.length_pos_of_mem ha)))
section
variable {r:List Fn} {fuel n:Nat} {C0 C:ai} {p f:Int} {ks dn ou rs:List Int} {lc:Int->Nat} {np:Int->Int} {sc nd:Int->List Int} {i:Nat}
theorem Mv {a b n:Nat} (h1:a<=n) (h2:b<=n) (hn:n<64):a+b<1000:=lt_of_le_of_lt (add_le_add h1 h2) (lt_trans (Nat.add_lt_add hn hn) (by decide))
inductive yk (r:List Fn) (cl:Calls) (C0:ai) (p:Int) (ks:List Int) (lc:Int->Nat) (sc nd:Int->List Int) (i:Nat) (m0:List (Option D)) (dn ou:List Int) (f:Int) (o:ak Fl):Prop
 |mk (y3 y4 y5 y6 y7:Option D) (C':ai) (eC:Int->Int) (kn:List Int) (e:o=.ok .next ⟨m0++[y3,y4,y5,y6,y7],C'⟩) (S:aU C0 C' (.loc i) p f ks lc eC sc) (R:cA C0 C' ks lc i kn) (W:dH nd ks dn ou kn eC):yk r cl C0 p ks lc sc nd i m0 dn ou f o
theorem Aq {cl:Calls} (hf:cl.fuel≠0) (G:Gr nd ks sc) (bx:ks.length<64) {all:D} (iW : ∀ A B,aY A B all=true) : ∀ (xs:List Int) {C:ai} {np:Int->Int} {dn rs:List Int} {f:Int} {x3 x4 x5 x6 x7:Option D},aU C0 C (.loc i) p f ks lc np sc->cA C0 C ks lc i rs->dH nd ks dn (xs++ou) rs np->(xs++ou).Nodup->
  yk r cl C0 p ks lc sc nd i [some (.inst 2 C0.length),some all,some (.loc (C0.length+1))] (xs.reverse++dn) ou (f+xs.length)
   (forLoop (λA B=>aY A B all) (.one 3) (λae=>aq (PP r) cl csdone_1 ae) (xs.map .int) ⟨[some (.inst 2 C0.length),some all,some (.loc (C0.length+1)),x3,x4,x5,x6,x7],C⟩)
 |[],C,np,dn,rs,f,x3,x4,x5,x6,x7,S,R,W,_=>⟨_,_,_,_,_,C,np,rs,rfl,(Int.add_zero f).symm ▸ S,R,W⟩
 |k::xs,C,np,dn,rs,f,x3,x4,x5,x6,x7,S,R,W,hn=>by
  obtain ⟨hk,_,BZ,_⟩:=W.ja k (.head _)
  obtain ⟨h1,h2⟩:=nodup_cons.mp hn
  have fZ : ∀ x∈sc k,x∈ks:=λx hx=>((G.qJ k hk x).mp hx).1
  obtain ⟨y4,y5,y6,y7,C1,e1,S1,R1⟩:=HF (r:=r) (cl:=cl) (a1:=some all) (x4:=x4) (x5:=x5) (x6:=x6) (x7:=x7) hf S R hk BZ fZ (Mv (cw W.mV λx hx=>((W.gP x).mp hx).1) (cw (G.snd k hk) fZ) bx)
  obtain ⟨z3,z4,z5,z6,z7,C',eC,kn,e,S',R',W'⟩:=Aq hf G bx iW xs (x3:=some (.int k)) (x4:=y4) (x5:=y5) (x6:=y6) (x7:=y7) S1 R1 (W.done G h1) h2
  refine ⟨z3,z4,z5,z6,z7,C',eC,kn,(fV rfl e1 (iW _ _)).trans e,?_,R',by rw [reverse_cons,append_assoc]; exact W'⟩
  rw [length_cons,show f+((xs.length+1:Nat):Int)=f+1+xs.length by rw [natCast_add,Int.add_assoc,Int.add_comm 1]; rfl]
  exact S'
theorem Ap (hf:fuel≠0) (G:Gr nd ks sc) (bx:ks.length<64) {xs:List Int} (S:aU C0 C (.loc i) p f ks lc np sc) (R:cA C0 C ks lc i rs) (W:dH nd ks dn (xs++ou) rs np) (hn:(xs++ou).Nodup) :
  ∃ m' C' eC kn,aC (PP r) fuel (n+1) 15 (.inst 2 C0.length::xs.map .int) [] C=.ok .none ⟨m',C'⟩/\aU C0 C' (.loc i) p (f+xs.length) ks lc eC sc/\cA C0 C' ks lc i kn/\dH nd ks (xs.reverse++dn) ou kn eC:=by
 obtain ⟨z3,z4,z5,z6,z7,C',eC,kn,e,S',R',W'⟩:=Aq (r:=r) (cl:=⟨aC (PP r) fuel n,fuel⟩) hf G bx (all:=.tup (xs.map .int)) (λ_ _=>rfl) xs (x3:=none) (x4:=none) (x5:=none) (x6:=none) (x7:=none) S R W hn
 have hl:xs.length<=ks.length:=cw (hn.sublist (List.sublist_append_left _ _)) λx hx=>(W.ja x (mem_append_left _ hx)).1
 have hb:fR pb (.inst 2 C0.length::xs.map .int) []=some [some (.inst 2 C0.length),some (.tup (xs.map .int)),none,none,none,none,none,none]:=by
  unfold fR pb
  simp [Nat.sub_eq_zero_of_le]
  exact ⟨le_trans (succ_le_succ hl) (le_trans bx (by decide)),rfl⟩
 refine ⟨[some (.inst 2 C0.length),some (.tup (xs.map .int)),some (.loc (C0.length+1))]++[z3,z4,z5,z6,z7],C',eC,kn,?_,S',R',W'⟩
 show (match fR pb (.inst 2 C0.length::xs.map .int) [] with|some m=>di (aq (PP r) ⟨aC (PP r) fuel n,fuel⟩ csdone_5 ⟨m,C⟩)|none=>.fail)=_
 rw [hb]
 exact tL (aZ (df (bI (cu (au (d:=.inst 2 C0.length) rfl) (dX S.top).2.1) rfl (z:=false) rfl) rfl rfl) (aZ (bM (cu (au (d:=.inst 2 C0.length) rfl) (dX S.top).1) (lb rfl))
  (bJ ((fU (items:=xs.map .int) hf (au (d:=.tup (xs.map .int)) rfl) rfl).trans e))))
end
section
variable {P:aP} {cl:Calls} {st aa ae:St} {m:List (Option D)} {C:ai}
theorem uD {α:Type} {k:Nat} (h:k≠0) {a b:α}:(if (k==0)=true then a else b)=b:=by rw [beq_false_of_ne h]; rfl
theorem AS {b h:Ss} {x:Nat} {v:Option Nat} {o:Fl} (hf:cl.fuel≠0) (hb:aq P cl b st=.ok o aa):ex P cl (.lP b x v h) st=.ok o aa:=by
 refine (uD hf).trans ?_; rw [hb]
theorem AR {b h:Ss} {x:Nat} {z:X} {o:Fl} (hf:cl.fuel≠0) (hb:aq P cl b st=.exc z aa) (hc:nE x z=true) (hh:aq P gk h aa=.ok o ae):ex P cl (.lP b x none h) st=.ok o ae:=by
 refine (uD hf).trans ?_; rw [hb]; dsimp only; rw [if_pos hc,hh]
theorem vf {s:S} {r:Ss} (h:ex P cl s st=.ok .brk aa):aq P cl (.cons s r) st=.ok .brk aa:=by
 show (match ex P cl s st with|.ok .next aa=>aq P cl r aa|o=>o)=_; rw [h]
theorem AV {s:S} {r:Ss} (h:ex P cl s st=.ok .cont aa):aq P cl (.cons s r) st=.ok .cont aa:=by
 show (match ex P cl s st with|.ok .next aa=>aq P cl r aa|o=>o)=_; rw [h]
theorem Fd {cc:St->ak D} {f ek:St->ak Fl} {n:Nat} {d:D} (h1:cc st=.ok d aa) (h2:bA aa.C d=some true) (h3:f aa=.ok .brk ae):whileLoop cc f ek (n+1) st=.ok .next ae:=by
 rw [qN,h1]; dsimp only; rw [h2]; dsimp only; rw [h3]
theorem kG {L:ai} {i:Nat}:(C++L)[C.length+i]?=L[i]?:=by rw [getElem?_append_right (le_add_right _ _),add_sub_cancel_left]
theorem qB {L:ai} {i:Nat} {x:Ch}:(C++L).set (C.length+i) x=C++L.set i x:=by rw [set_append_right _ _ (le_add_right _ _),add_sub_cancel_left]
theorem AJ {o:E} {i:Nat} {d:D} {ds:List D} (ho:ev P cl o st=.ok (.loc i) st) (h:st.C[i]?=some (.list (ds++[d]))):ev P cl (.a9 o .pop .nil) st=.ok d ⟨st.m,st.C.set i (.list ds)⟩:=by
 refine eU ho (mk:=.om) (show (st.C[i]?).bind (ki .pop)=_ by rw [h]; rfl) (ds:=[]) rfl ?_
 show aK (eB st.C i) _=_
 rw [show eB st.C i=some (ds++[d]) by unfold eB; rw [h]]
 show aK (ds++[d]).getLast? _=_
 rw [List.getLast?_concat]
 show ak.ok d ⟨st.m,st.C.set i (.list (ds++[d]).dropLast)⟩=_
 rw [List.dropLast_concat]
theorem Ii {o i:E} {y z:D} {C':ai} (ho:ev P cl o st=.ok y aa) (hi:ev P cl i aa=.ok z ⟨m,C⟩) (hs:nH y z C=some C'):ex P cl (.pd o i) st=.ok .next ⟨m,C'⟩:=
 (aQ ho).trans ((aQ hi).trans (aQ (a:=()) (by show gh (nH y z C) m=_; rw [hs]; rfl)))
theorem LG {i:Nat} {ds:List D} {d:D} (h:C[i]?=some (.list (ds++[d]))):i6 C (.loc i) (.int (-1))=some d:=by
 rw [Cn h]
 have e:(-1:Int)+((ds++[d]).length:Nat)=ds.length:=by rw [length_append,natCast_add,Int.add_comm]; exact Int.add_sub_cancel (ds.length:Int) 1
 unfold gI
 rw [if_neg (by decide),e,if_pos (natCast_nonneg _)]
 show (ds++[d])[ds.length]?=_
 rw [getElem?_append_right (le_refl _),sub_self]; rfl
end
abbrev Fr:=Int × Nat × Nat
noncomputable def fst (l:List Fr):List D:=(l.map λt=>D.int t.1).reverse
noncomputable def dZ (s:Nat) (l:List Fr):List D:=(l.map λt=>D.bm .bO (.loc (s+(t.2.1+4)))).reverse
noncomputable def n2:List Fr->List (Int × D)
 |[]=>[]
 |t::l=>n2 l++[(t.1,.int (l.length:Nat))]
theorem Ak {d:D} {u:Int} : ∀ {l:List (Int × D)},u ∉ l.map (·.1)->eK u (l++[(u,d)])=l
 |[],_=>if_pos (beq_self_eq_true u)
 |e::l,h=>by
  show (if (e.1==u)=true then _ else e::eK u (l++[(u,d)]))=_
  rw [if_neg (by rw [beq_false_of_ne λz:e.1=u=>h (z ▸ .head _)]; exact Bool.false_ne_true),Ak λz=>h (.tail _ z)]
theorem Df : ∀ {l:List Fr},(n2 l).map (·.1)=(l.map (·.1)).reverse
 |[]=>rfl
 |t::l=>by
  show (n2 l++[(t.1,D.int (l.length:Nat))]).map (·.1)=(t.1::l.map (·.1)).reverse
  rw [map_append,Df,reverse_cons]; rfl
theorem qk {l:List Fr} {u:Int}:u∈(n2 l).map (·.1)↔u∈l.map (·.1):=by rw [Df,mem_reverse]
theorem wX {d:D} {u:Int} : ∀ {l:List (Int × D)},u ∉ l.map (·.1)->(l++[(u,d)]).lookup u=some d
 |[],_=>by show (match u==u with|true=>some d|false=>none)=_; rw [beq_self_eq_true]
 |e::l,h=>by
  rw [cons_append,lookup_cons,beq_false_of_ne λz:u=e.1=>h (z ▸ .head _)]
  exact wX λz=>h (.tail _ z)
structure FM (C C':ai) (ks:List Int) (lc:Int->Nat) (rf:List Fr) (seen:List Int) (b:Bool) (J:ai):Prop where
 mem:C'=C++(.list (fst rf)::.list (dZ C.length rf)::.set seen::.dict b (n2 rf)::J)
 lx : ∀ t∈rf,t.1∈ks/\J[t.2.1]?=some (.bf (.loc (lc t.1+1)) t.2.2)
 wU:(rf.map (·.2.1)).Nodup
 jd:(rf.map (·.1)).Nodup
noncomputable def bC (a s:Nat) (x6:Option D):List (Option D):=[some (.inst 2 a),some (.loc (a+1)),some (.loc s),some (.loc (s+1)),some (.loc (s+2)),some (.loc (s+3)),x6]
noncomputable def fJ (sc:Int->List Int):List Fr->Option (Int × List Fr)
 |[]=>none
 |t::l=>match (sc t.1)[t.2.2]? with
  |some v=>some (v,(t.1,t.2.1,t.2.2+1)::l)
  |none=>fJ sc l
section
variable {r:List Fn} {fuel n:Nat} {C0 C:ai} {rd:D} {p f:Int} {ks:List Int} {lc:Int->Nat} {np:Int->Int} {sc:Int->List Int}
inductive uo (C:ai) (a:Nat) (ks:List Int) (lc:Int->Nat) (seen:List Int) (x6:Option D) (o:ak Fl):Option (Int × List Fr)->Prop
 |some (v:Int) (rf:List Fr) (C':ai) (b:Bool) (J:ai) (e:o=.ok .next ⟨bC a C.length (some (.int v)),C'⟩) (M:FM C C' ks lc rf seen b J):uo C a ks lc seen x6 o (some (v,rf))
 |none (C':ai) (b:Bool) (J:ai) (e:o=.ok .brk ⟨bC a C.length x6,C'⟩) (M:FM C C' ks lc [] seen b J):uo C a ks lc seen x6 o none
noncomputable def yb (r:List Fn) (cl:Calls):Nat->St->ak Fl:=whileLoop (λaa=>ev (PP r) cl (.var 2) aa) (λaa=>aq (PP r) cl csfindcycle_0 aa) (λaa=>aq (PP r) cl (.cons .brk .nil) aa)
theorem DS (S:aU C0 C rd p f ks lc np sc) {cl:Calls} (hf:cl.fuel≠0) {seen:List Int} {a:Nat} {x6:Option D} : ∀ (rf:List Fr) {C':ai} {b:Bool} {J:ai} {k:Nat},FM C C' ks lc rf seen b J->rf.length<k->
  uo C a ks lc seen x6 (yb r cl k ⟨bC a C.length x6,C'⟩) (fJ sc rf)
 |[],C',b,J,0,M,hk=>absurd hk (not_lt_zero _)
 |[],C',b,J,k+1,M,hk=>.none C' b J (by
   have h0:C'[C.length]?=some (.list (fst [])):=by rw [M.mem]; exact dI
   refine (t7 (d:=.loc C.length) (au rfl) (show (C'[C.length]?).bind tZ=some false by rw [h0]; rfl)).trans rfl) M
 |t::l,C',b,J,0,M,hk=>absurd hk (not_lt_zero _)
 |(u,j,q)::l,C',b,J,k+1,M,hk=>by
  obtain ⟨hu,hJ⟩:=M.lx _ (.head _)
  obtain ⟨BX,Kf⟩:=nodup_cons.mp M.wU
  obtain ⟨Cf,K8⟩:=nodup_cons.mp M.jd
  have h0:C'[C.length]?=some (.list (fst l++[.int u])):=by rw [M.mem]; refine dI.trans ?_; unfold fst; rw [map_cons,reverse_cons]
  have h1:C'[C.length+1]?=some (.list (dZ C.length l++[.bm .bO (.loc (C.length+(j+4)))])):=by rw [M.mem]; refine nt.trans ?_; unfold dZ; rw [map_cons,reverse_cons]
  have h4:C'[C.length+(j+4)]?=some (.bf (.loc (lc u+1)) q):=by rw [M.mem]; exact kG.trans hJ
  have h5:C'[lc u+1]?=some (.list ((sc u).map .int)):=by rw [M.mem]; exact fQ (S.succ u hu)
  have B9:bK C' (.loc (lc u+1))=some ((sc u).map .int):=by unfold bK; dsimp only; rw [h5]
  have ht:bA C' (.loc C.length)=some true:=by show (C'[C.length]?).bind tZ=some true; rw [h0]; induction fst l using List.casesOn<;>rfl
  have B4 : ∀ {x6:Option D},ev (PP r) cl (.call (.idx (.var 3) (.cst (.int (-1)))) .nil .nil) ⟨bC a C.length x6,C'⟩=eV C' (bC a C.length x6) (C.length+(j+4)):=λ{x6}=>
   c6 (g:=.bm .bO (.loc (C.length+(j+4)))) (ds:=[]) (dA (au (d:=.loc (C.length+1)) rfl) rfl (LG h1)) rfl (by
    show bp ([].isEmpty&&(nr C' (C.length+(j+4))).isSome) (gA (PP r) cl .next [.loc (C.length+(j+4))] _)=_
    rw [show nr C' (C.length+(j+4))=some ((sc u).map .int) by unfold nr; rw [h4]; dsimp only; unfold aT; dsimp only; rw [h5]]
    exact c5 hf)
  induction hv:(sc u)[q]? with
  |some v=>
   have hp:fJ sc ((u,j,q)::l)=some (v,(u,j,q+1)::l):=by unfold fJ; dsimp only; rw [hv]
   rw [hp]
   have hn:eV C' (bC a C.length x6) (C.length+(j+4))=.ok (.int v) ⟨bC a C.length x6,C'.set (C.length+(j+4)) (.bf (.loc (lc u+1)) (q+1))⟩:=by
    unfold eV; rw [h4]; dsimp only; rw [B9]; dsimp only; rw [getElem?_map,hv]; rfl
   refine .some v _ _ b (J.set j (.bf (.loc (lc u+1)) (q+1))) (Fd (d:=.loc C.length) (au rfl) ht (vf (AS hf (aZ (bM (B4.trans hn) (lb rfl)) (vf rfl))))) ⟨?_,λt h=>?_,M.wU,M.jd⟩
   ·rw [M.mem]; exact qB
   ·rcases mem_cons.mp h with rfl|h
    ·exact ⟨hu,kH hJ⟩
    ·exact ⟨(M.lx t (.tail _ h)).1,iD (M.lx t (.tail _ h)).2 λe=>BX (mem_map.mpr ⟨t,h,e⟩)⟩
  |none=>
   have hp:fJ sc ((u,j,q)::l)=fJ sc l:=by rw [fJ]; dsimp only; rw [hv]
   rw [hp]
   have hn:eV C' (bC a C.length x6) (C.length+(j+4))=.exc .stop ⟨bC a C.length x6,C'.set (C.length+(j+4)) (.bf .none 0)⟩:=by
    unfold eV; rw [h4]; dsimp only; rw [B9]; dsimp only; rw [getElem?_map,hv]; rfl
   have e1:C'.set (C.length+(j+4)) (.bf .none 0)=C++(.list (fst l++[.int u])::.list (dZ C.length l++[.bm .bO (.loc (C.length+(j+4)))])::.set seen::.dict b (n2 ((u,j,q)::l))::J.set j (.bf .none 0)):=by
    rw [M.mem]; refine qB.trans ?_; unfold fst dZ; rw [map_cons,map_cons,reverse_cons,reverse_cons]; rfl
   rw [e1] at hn
   have e2:nH (.loc (C.length+3)) (.int u) (C++(.list (fst l)::.list (dZ C.length l++[.bm .bO (.loc (C.length+(j+4)))])::.set seen::.dict b (n2 ((u,j,q)::l))::J.set j (.bf .none 0))) =
     some (C++(.list (fst l)::.list (dZ C.length l++[.bm .bO (.loc (C.length+(j+4)))])::.set seen::.dict false (n2 l)::J.set j (.bf .none 0))):=by
    show (_:Option Ch).bind (Ai _ u _)=_
    rw [kG]
    show (if ((n2 ((u,j,q)::l)).lookup u).isSome=true then some (List.set _ (C.length+3) (Ch.dict false (eK u (n2 ((u,j,q)::l))))) else none)=_
    rw [show n2 ((u,j,q)::l)=n2 l++[(u,.int (l.length:Nat))] from rfl,wX (λz=>Cf (qk.mp z)),if_pos isSome_some,Ak (λz=>Cf (qk.mp z)),qB]; rfl
   have ih:=DS S hf (x6:=x6) (a:=a) l (C':=C++(.list (fst l)::.list (dZ C.length l)::.set seen::.dict false (n2 l)::J.set j (.bf .none 0))) (k:=k) ⟨rfl,λt h=>⟨(M.lx t (.tail _ h)).1,iD (M.lx t (.tail _ h)).2 λe=>BX (mem_map.mpr ⟨t,h,e⟩)⟩,Kf,K8⟩ (Nat.lt_of_succ_lt_succ hk)
   have step:yb r cl (k+1) ⟨bC a C.length x6,C'⟩=yb r cl k ⟨bC a C.length x6,_⟩:=
    oL (d:=.loc C.length) (au rfl) ht (bJ (AR hf (pA (by show ((ev (PP r) cl _ _).bind λx aa=>fT _ x aa).bind _=_; rw [B4,hn]; rfl)) rfl
     (aZ (Ii (au (d:=.loc (C.length+3)) rfl) (AJ (au (d:=.loc C.length) rfl) dI) (by rw [oF]; exact e2))
     (bJ (hY (AJ (au (d:=.loc (C.length+1)) rfl) nt))))))
   rw [EE] at step
   rw [step]; exact ih
end
inductive fj (sc:Int->List Int) (u:Int):Int->Prop
 |one {v:Int} (h:v∈sc u):fj sc u v
 |more {w v:Int} (h:fj sc u w) (h2:v∈sc w):fj sc u v
section
variable {sc:Int->List Int} {ks fin hZ seen:List Int} {x:Int}
noncomputable def yv (sc:Int->List Int) (fin:List Int) (u:Int) (q:Nat):Prop := ∀ i v,i<q->(sc u)[i]?=some v->v∈fin
noncomputable def gU (sc:Int->List Int) (fin:List Int):Int->List Fr->Prop
 |_,[]=>True
 |x,t::l=>(∃ q,t.2.2=q+1/\(sc t.1)[q]?=some x/\yv sc fin t.1 q)/\gU sc fin t.1 l
noncomputable def uq (sc:Int->List Int) (fin:List Int):List Fr->Prop
 |[]=>True
 |t::l=>yv sc fin t.1 t.2.2/\gU sc fin t.1 l
theorem gU.path : ∀ {l:List Fr} {x:Int},gU sc fin x l->∀ t∈l,fj sc t.1 x
 |t::l,x,h,u,hu=>by
  obtain ⟨⟨q,h1,h2,h3⟩,h4⟩:=h
  have hx:=mem_of_getElem? h2
  rcases mem_cons.mp hu with rfl|hu
  ·exact .one hx
  ·exact .more (h4.path u hu) hx
theorem gU.mono (m : ∀ y∈fin,y∈hZ) : ∀ {l:List Fr} {x:Int},gU sc fin x l->gU sc hZ x l
 |[],_,_=>trivial
 |t::l,x,⟨⟨q,h1,h2,h3⟩,h4⟩=>⟨⟨q,h1,h2,λi v a b=>m v (h3 i v a b)⟩,h4.mono m⟩
theorem gU.Eb (hx:x∈fin) : ∀ {l:List Fr},gU sc fin x l->uq sc fin l
 |[],_=>trivial
 |t::l,⟨⟨q,h1,h2,h3⟩,h4⟩=>⟨λi v a b=>by
   rw [h1] at a
   rcases Nat.lt_or_eq_of_le (le_of_lt_succ a) with c|c
   ·exact h3 i v c b
   ·subst c; rw [h2] at b; exact Option.some.inj b ▸ hx,h4⟩
structure DI (sc:Int->List Int) (ks:List Int) (rf:List Fr) (seen fin:List Int):Prop where
 ed:dy sc fin
 sn : ∀ y,y∈seen↔y∈fin\/y∈rf.map (·.1)
 iG : ∀ y∈rf.map (·.1),y ∉ fin
 gd : ∀ y∈seen,y∈ks
 snd:seen.Nodup
noncomputable def km (sc:Int->List Int):List Fr->Nat
 |[]=>0
 |t::l=>((sc t.1).length - t.2.2)+km sc l
noncomputable def fO (sc:Int->List Int) (seen:List Int):List Int->Nat
 |[]=>0
 |k::l=>(if k∈seen then 0 else (sc k).length+1)+fO sc seen l
theorem Fq : ∀ {l:List Int},x ∉ l->fO sc (seen++[x]) l=fO sc seen l
 |[],_=>rfl
 |k::l,h=>by
  have e:k∈seen++[x]↔k∈seen:=⟨λz=>(mem_append.mp z).resolve_right λy=>h (mem_singleton.mp y ▸ .head _),mem_append_left _⟩
  rw [fO,fO,Fq λz=>h (.tail _ z)]
  by_cases hs:k∈seen
  ·rw [if_pos hs,if_pos (e.mpr hs)]
  ·rw [if_neg hs,if_neg λz=>hs (e.mp z)]
theorem Fp (hx:x ∉ seen) : ∀ {l:List Int},l.Nodup->x∈l->fO sc seen l=fO sc (seen++[x]) l+((sc x).length+1)
 |k::l,hn,hm=>by
  obtain ⟨h1,h2⟩:=nodup_cons.mp hn
  rw [fO,fO]
  by_cases e:k=x
  ·subst e
   rw [if_neg hx,if_pos (mem_append_right _ (.head _)),Fq h1,zero_add,add_comm]
  ·rw [Fp hx h2 ((mem_cons.mp hm).resolve_left (Ne.symm e)),<-add_assoc]
   have e':k∈seen++[x]↔k∈seen:=⟨λz=>(mem_append.mp z).resolve_right λy=>e (mem_singleton.mp y),mem_append_left _⟩
   by_cases hs:k∈seen
   ·rw [if_pos hs,if_pos (e'.mpr hs)]
   ·rw [if_neg hs,if_neg λz=>hs (e'.mp z)]
inductive um (sc:Int->List Int) (ks:List Int) (seen fin:List Int) (rf:List Fr):Option (Int × List Fr)->Prop
 |some (v:Int) (lG:List Fr) (hZ:List Int) (D:DI sc ks lG seen hZ) (c:gU sc hZ v lG) (u:Int) (hu:u∈ks) (hv:v∈sc u) (le:km sc lG<km sc rf):um sc ks seen fin rf (some (v,lG))
 |none (hZ:List Int) (D:DI sc ks [] seen hZ):um sc ks seen fin rf none
theorem DR : ∀ {rf:List Fr} {fin:List Int},DI sc ks rf seen fin->uq sc fin rf->(rf.map (·.1)).Nodup->um sc ks seen fin rf (fJ sc rf)
 |[],fin,D,_,_=>.none fin D
 |(u,j,q)::l,fin,D,h,hn=>by
  obtain ⟨h1,h2⟩:=h
  obtain ⟨n1,n2⟩:=nodup_cons.mp hn
  have hu:u∈ks:=D.gd u ((D.sn u).mpr (.inr (.head _)))
  induction hv:(sc u)[q]? with
  |some v=>
   have hp:fJ sc ((u,j,q)::l)=some (v,(u,j,q+1)::l):=by unfold fJ; dsimp only; rw [hv]
   rw [hp]
   refine .some v _ fin ⟨D.ed,D.sn,D.iG,D.gd,D.snd⟩ ⟨⟨q,rfl,hv,h1⟩,h2⟩ u hu (mem_of_getElem? hv) ?_
   have:=(List.getElem?_eq_some_iff.mp hv).1
   exact Nat.add_lt_add_right (Nat.sub_lt_sub_left this (lt_succ_self q)) _
  |none=>
   have hp:fJ sc ((u,j,q)::l)=fJ sc l:=by rw [fJ]; dsimp only; rw [hv]
   rw [hp]
   have hlen:=List.getElem?_eq_none_iff.mp hv
   have jn : ∀ v∈sc u,v∈fin:=λv hm=>by
    obtain ⟨i,hi⟩:=mem_iff_getElem?.mp hm
    exact h1 i v (lt_of_lt_of_le (List.getElem?_eq_some_iff.mp hi).1 hlen) hi
   have D':DI sc ks l seen (u::fin):=⟨⟨jn,D.iG u (.head _),D.ed⟩,λy=>by
     rw [D.sn y,map_cons,mem_cons,mem_cons]
     exact ⟨λz=>z.elim (λa=>.inl (.inr a)) λa=>a.elim (λb=>.inl (.inl b)) .inr,λz=>z.elim (λa=>a.elim (λb=>.inr (.inl b)) .inl) λa=>.inr (.inr a)⟩,
    λy hy z=>(mem_cons.mp z).elim (λe=>n1 (e ▸ hy)) (D.iG y (.tail _ hy)),D.gd,D.snd⟩
   have ih:=DR D' ((h2.mono λy hy=>.tail _ hy).Eb (.head _)) n2
   induction hq:fJ sc l with
   |none=>rw [hq] at ih; cases ih with|none f d=>exact .none f d
   |some w=>
    rw [hq] at ih
    cases ih with
    |some v lG f d c u' K7 Lb le=>exact .some v lG f d c u' K7 Lb (lt_of_lt_of_le le (le_add_left _ _))
end
theorem DY {v:D} : ∀ {l:List (Int × D)} {k:Int},k ∉ l.map (·.1)->putL k v l=l++[(k,v)]
 |[],_,_=>rfl
 |e::l,k,h=>by
  show (if (e.1==k)=true then _ else e::putL k v l)=_
  rw [if_neg (by rw [beq_false_of_ne λz:e.1=k=>h (z ▸ .head _)]; exact Bool.false_ne_true),DY λz=>h (.tail _ z)]; rfl
theorem Dg : ∀ l:List Fr,(n2 l).length=l.length
 |[]=>rfl
 |t::l=>by rw [n2,length_append,Dg l]; rfl
section
variable {r:List Fn} {fuel n:Nat} {C0 C C':ai} {rd:D} {p f:Int} {ks:List Int} {lc:Int->Nat} {np:Int->Int} {sc:Int->List Int} {rf:List Fr} {seen:List Int} {b:Bool} {J:ai}
theorem FM.len (M:FM C C' ks lc rf seen b J):C'.length=C.length+(J.length+4):=by rw [M.mem,length_append]; rfl
noncomputable def DU:Ss:=(.cons (.expr (.a9 (.var 4) .add (.cons (.var 6) .nil))) (.cons (.expr (.a9 (.var 3) .append (.cons (.attr (.call (.cst (.bn .iter)) (.cons (.attr (.idx (.var 1) (.var 6)) .succ) .nil) .nil) .bO) .nil))) (.cons (.kF (.var 5) (.var 6) (.call (.cst (.bn .len)) (.cons (.var 2) .nil) .nil)) (.cons (.expr (.a9 (.var 2) .append (.cons (.var 6) .nil))) .nil))))
theorem N1 {cl:Calls} (hf:cl.fuel≠0) (S:aU C0 C rd p f ks lc np sc) (M:FM C C' ks lc rf seen b J) {x:Int} (hx:x∈ks) (hs:x ∉ seen) (hr:x ∉ rf.map (·.1)) (hl:seen.length<64) (mw:rf.length<64) (d7:small x=true) (hj : ∀ t∈rf,t.2.1<J.length) :
  ∃ C2,aq (PP r) cl DU ⟨bC C0.length C.length (some (.int x)),C'⟩=.ok .next ⟨bC C0.length C.length (some (.int x)),C2⟩/\FM C C2 ks lc ((x,J.length,0)::rf) (seen++[x]) b (J++[.bf (.loc (lc x+1)) 0]):=by
 have hd : ∀ {X:ai},i6 (C++X) (.loc (C0.length+1)) (.int x)=some (.loc (lc x)):=λ{X}=>sR (S.app X) hx
 have hlen:=M.len
 have eO:=M.mem
 have e1:ev (PP r) cl (.a9 (.var 4) .add (.cons (.var 6) .nil)) ⟨bC C0.length C.length (some (.int x)),C'⟩=.ok .none ⟨bC C0.length C.length (some (.int x)),C++(.list (fst rf)::.list (dZ C.length rf)::.set (seen++[x])::.dict b (n2 rf)::J)⟩:=by
  have h2:C'[C.length+2]?=some (.set seen):=by rw [eO]; exact kG
  refine eU (au (d:=.loc (C.length+2)) rfl) (mk:=.mX) (show (C'[C.length+2]?).bind (ki .add)=_ by rw [h2]; rfl) (bT (au (d:=.int x) rfl)) ?_
  show aK (oE C' (C.length+2)) (λes=>bp (decide (es.length<64)) (.ok .none ⟨bC C0.length C.length (some (.int x)),C'.set (C.length+2) (.set (if es.contains x then es else es++[x]))⟩))=_
  rw [show oE C' (C.length+2)=some seen by unfold oE; rw [h2]]
  show bp (decide (seen.length<64)) _=_
  rw [decide_eq_true hl,if_neg (λz=>hs (contains_iff_mem.mp z)),eO]
  show ak.ok _ ⟨_,_⟩=_
  rw [qB]; rfl
 have e2:ev (PP r) cl (.attr (.call (.cst (.bn .iter)) (.cons (.attr (.idx (.var 1) (.var 6)) .succ) .nil) .nil) .bO) ⟨bC C0.length C.length (some (.int x)),C++(.list (fst rf)::.list (dZ C.length rf)::.set (seen++[x])::.dict b (n2 rf)::J)⟩ =
   .ok (.bm .bO (.loc (C.length+(J.length+4)))) ⟨bC C0.length C.length (some (.int x)),C++(.list (fst rf)::.list (dZ C.length rf)::.set (seen++[x])::.dict b (n2 rf)::(J++[.bf (.loc (lc x+1)) 0]))⟩:=by
  have ha : ∀ {X:ai},bK (C++X) (.loc (lc x+1))=some ((sc x).map .int):=λ{X}=>by unfold bK; dsimp only; rw [(S.app X).succ x hx]
  refine cu (x:=.loc (C.length+(J.length+4))) (c6 (g:=.bn .iter) rfl (bT (cu (dA (au (d:=.loc (C0.length+1)) rfl) (au (d:=.int x) rfl) hd) (jy ((S.app _).info x hx)).2.2)) ((c5 hf).trans ?_)) ?_
  ·show aK (bK (C++_) (.loc (lc x+1))) _=_
   rw [ha]
   show ak.ok (D.loc (C++_).length) ⟨_,(C++_)++[_]⟩=_
   rw [length_append,append_assoc]; rfl
  ·show (_:Option Ch).bind _=_
   rw [kG]
   show ((J++[Ch.bf (.loc (lc x+1)) 0])[J.length]?).bind _=_
   rw [dI]
   show (if (aT (C++_) (.loc (lc x+1))).isSome then _ else _)=_
   rw [show aT (C++(.list (fst rf)::.list (dZ C.length rf)::.set (seen++[x])::.dict b (n2 rf)::(J++[.bf (.loc (lc x+1)) 0]))) (.loc (lc x+1))=some ((sc x).map .int) by unfold aT; dsimp only; rw [(S.app _).succ x hx]]; rfl
 have e3:ko (.loc (C.length+3)) (.int x) (.int (rf.length:Nat)) (C++(.list (fst rf)::.list (dZ C.length rf++[.bm .bO (.loc (C.length+(J.length+4)))])::.set (seen++[x])::.dict b (n2 rf)::(J++[.bf (.loc (lc x+1)) 0]))) =
   some (C++(.list (fst rf)::.list (dZ C.length rf++[.bm .bO (.loc (C.length+(J.length+4)))])::.set (seen++[x])::.dict b (n2 rf++[(x,.int (rf.length:Nat))])::(J++[.bf (.loc (lc x+1)) 0]))):=by
  rw [EC (kG (i:=3)) (by rw [Dg]; exact mw) d7,DY λz=>hr (qk.mp z),qB]; rfl
 have e4 : ∀ {X:ai},ev (PP r) cl (.call (.cst (.bn .len)) (.cons (.var 2) .nil) .nil) ⟨bC C0.length C.length (some (.int x)),C++(.list (fst rf)::X)⟩=.ok (.int (rf.length:Nat)) ⟨bC C0.length C.length (some (.int x)),C++(.list (fst rf)::X)⟩:=λ{X}=>
  c6 (g:=.bn .len) rfl (bT (au (d:=.loc C.length) rfl)) ((c5 hf).trans (by
   show aK ((_:Option Ch).bind CK) _=_
   rw [dI]
   show ak.ok (D.int ((fst rf).length:Nat)) _=_
   unfold fst; rw [length_reverse,length_map]))
 have lf:(fst rf).length=rf.length:=by unfold fst; rw [length_reverse,length_map]
 have lt:(dZ C.length rf).length=rf.length:=by unfold dZ; rw [length_reverse,length_map]
 have nY:rf.length<aF:=lt_trans mw (by decide)
 have a1:=rO (P:=PP r) (cl:=cl) (v:=3) (i:=C.length+1) (m:=bC C0.length C.length (some (.int x))) rfl nt e2 nt (by rw [lt]; exact nY)
 rw [EE] at a1
 have a2:=rO (P:=PP r) (cl:=cl) (v:=2) (i:=C.length) (e:=.var 6) (d:=.int x) (m:=bC C0.length C.length (some (.int x))) (C:=C++(.list (fst rf)::.list (dZ C.length rf++[.bm .bO (.loc (C.length+(J.length+4)))])::.set (seen++[x])::.dict b (n2 rf++[(x,.int (rf.length:Nat))])::(J++[.bf (.loc (lc x+1)) 0]))) rfl dI (au rfl) dI (by rw [lf]; exact nY)
 rw [oF] at a2
 refine ⟨_,aZ (hY e1) (aZ a1 (aZ (AP e4 (au (d:=.loc (C.length+3)) rfl) (au (d:=.int x) rfl) e3) (bJ a2))),?_,λt h=>?_,?_,?_⟩
 ·unfold fst dZ; rw [map_cons,map_cons,reverse_cons,reverse_cons]; rfl
 ·rcases mem_cons.mp h with rfl|h
  ·exact ⟨hx,dI⟩
  ·exact ⟨(M.lx t h).1,fQ (M.lx t h).2⟩
 ·rw [map_cons,nodup_cons]
  exact ⟨λz=>by obtain ⟨t,ht,e⟩:=mem_map.mp z; exact ne_of_lt (hj t ht) e,M.wU⟩
 ·rw [map_cons,nodup_cons]; exact ⟨hr,M.jd⟩
theorem FM.lt (M:FM C C' ks lc rf seen b J) : ∀ t∈rf,t.2.1<J.length:=λt h=>(List.getElem?_eq_some_iff.mp (M.lx t h).2).1
end
section
variable {aS:ai->ai->Bool} {t:T} {f:St->ak Fl} {d:D} {ds:List D} {m m1:List (Option D)} {C:ai} {aa:St}
theorem IC (h1:gv t d m=some m1) (h2:f ⟨m1,C⟩=.ok .cont aa) (h3:aS C aa.C=true):forLoop aS t f (d::ds) ⟨m,C⟩=forLoop aS t f ds aa:=by
 rw [forLoop,h1]; dsimp only; rw [h2]; dsimp only; rw [if_pos h3]
theorem Bb {v:D} (h1:gv t d m=some m1) (h2:f ⟨m1,C⟩=.ok (.ret v) aa):forLoop aS t f (d::ds) ⟨m,C⟩=.ok (.ret v) aa:=by
 rw [forLoop,h1]; dsimp only; rw [h2]
theorem yS {g:Int->Nat} : ∀ l:List Int,ny (l.map λk=>(k,D.loc (g k))) (l.map λk=>(k,D.loc (g k)))=true
 |[]=>rfl
 |x::l=>by
  show (x==x&&((some (g x):Option Nat)==some (g x))&&ny (l.map λk=>(k,D.loc (g k))) (l.map λk=>(k,D.loc (g k))))=true
  rw [yS l,beq_self_eq_true,beq_self_eq_true]; rfl
theorem xT {A B:ai} {j:Nat} {l:List Int} {g:Int->Nat} (h:A[j]?=some (.dict true (l.map λk=>(k,.loc (g k))))) (h':B[j]?=some (.dict true (l.map λk=>(k,.loc (g k))))):aY A B (.loc j)=true:=by
 show jF A B j=true
 unfold jF
 rw [h,h']; exact yS l
end
section
variable {r:List Fn} {fuel n:Nat} {C0 C C':ai} {rd:D} {p f:Int} {ks:List Int} {lc:Int->Nat} {np:Int->Int} {sc:Int->List Int} {rf:List Fr} {seen fin:List Int} {b:Bool} {J:ai} {cl:Calls} {x:Int}
theorem M0:(n2 rf).any (λe=>e.1==x)=decide (x∈rf.map (·.1)):=by
 rw [Bool.eq_iff_iff,any_eq_true,decide_eq_true_eq,<-qk,mem_map]
 exact ⟨λ⟨e,h1,h2⟩=>⟨e,h1,eq_of_beq h2⟩,λ⟨e,h1,h2⟩=>⟨e,h1,beq_iff_eq.mpr h2⟩⟩
theorem Dh : ∀ {l:List Fr},x∈l.map (·.1)->(l.map (·.1)).Nodup->∃ q:Nat,q<l.length/\(n2 l).lookup x=some (.int q)
 |t::l,h,hn=>by
  obtain ⟨n1,MZ⟩:=nodup_cons.mp hn
  by_cases e:x=t.1
  ·exact ⟨l.length,lt_succ_self _,by rw [n2,<-e]; exact wX λz=>n1 (by rw [e] at z; exact qk.mp z)⟩
  ·obtain ⟨q,h1,h2⟩:=Dh ((mem_cons.mp h).resolve_left e) MZ
   exact ⟨q,lt_succ_of_lt h1,by rw [n2,List.lookup_append,h2]; rfl⟩
theorem vb (M:FM C C' ks lc rf seen b J):ev (PP r) cl (.cmp .fG (.var 6) (.var 4)) ⟨bC C0.length C.length (some (.int x)),C'⟩=.ok (.bool (seen.contains x)) ⟨bC C0.length C.length (some (.int x)),C'⟩:=
 bI (x:=.int x) (y:=.loc (C.length+2)) (au rfl) (au rfl) (by show (C'[C.length+2]?).bind _=_; rw [M.mem,kG]; rfl)
theorem AH (M:FM C C' ks lc rf seen b J):ev (PP r) cl (.cmp .fG (.var 6) (.var 5)) ⟨bC C0.length C.length (some (.int x)),C'⟩=.ok (.bool (decide (x∈rf.map (·.1)))) ⟨bC C0.length C.length (some (.int x)),C'⟩:=
 bI (x:=.int x) (y:=.loc (C.length+3)) (au rfl) (au rfl) (by
  show (C'[C.length+3]?).bind _=_
  rw [M.mem,kG]
  show some ((n2 rf).any λe=>e.1==x)=_
  rw [M0])
theorem Oe (M:FM C C' ks lc rf seen b J) (hx:x∈rf.map (·.1)) (hl:rf.length<64) : ∃ l,l≠[]/\ev (PP r) cl (.bin .add (.slice (.var 2) (.idx (.var 5) (.var 6)) (.cst .none)) (.list (.cons (.var 6) .nil))) ⟨bC C0.length C.length (some (.int x)),C'⟩=.ok (.lst l) ⟨bC C0.length C.length (some (.int x)),C'⟩:=by
 obtain ⟨q,h1,h2⟩:=Dh hx M.jd
 have lf:(fst rf).length=rf.length:=by unfold fst; rw [length_reverse,length_map]
 have e1:m6 C' (.loc C.length) (.int q) .none=some (.lst (fw (fst rf) (min q (fst rf).length) (fst rf).length)):=by
  exact EG (by unfold aT; dsimp only; rw [M.mem,dI]) (λb z=>(nomatch z)) (uI (lt_trans (lt_trans h1 hl) (by decide))) zj
 refine ⟨fw (fst rf) (min q (fst rf).length) (fst rf).length++[.int x],List.append_ne_nil_of_right_ne_nil _ (List.cons_ne_nil _ _),bw (AK (au (d:=.loc C.length) rfl) (dA (au (d:=.loc (C.length+3)) rfl) (au (d:=.int x) rfl) (z:=.int q) ?_) rfl e1) (y:=.lst [.int x]) rfl ?_⟩
 ·show (C'[C.length+3]?).bind _=_
  rw [M.mem,kG]; exact h2
 ·show (if (fw (fst rf) (min q (fst rf).length) (fst rf).length).length+[D.int x].length<=aF then some (D.lst (fw (fst rf) (min q (fst rf).length) (fst rf).length++[.int x])) else none)=_
  refine if_pos (le_trans (add_le_add_right (le_trans (List.length_take_le _ _) (le_trans (sub_le _ _) (le_of_eq lf))) 1) (le_trans hl (by decide)))
inductive yB (r:List Fn) (cl:Calls) (C0 C:ai) (ks:List Int) (lc:Int->Nat) (sc:Int->List Int) (x:Int) (seen fin:List Int) (M:Nat) (st:St):Prop
 |mk (lH:List Fr) (mZ:List Int) (C1:ai) (b:Bool) (J1:ai)
   (e:ex (PP r) cl (.ifs (.cmp .fG (.var 6) (.var 4)) (.cons (.ifs (.cmp .fG (.var 6) (.var 5)) (.cons (.ret (.bin .add (.slice (.var 2) (.idx (.var 5) (.var 6)) (.cst .none)) (.list (.cons (.var 6) .nil)))) .nil) .nil) .nil) DU) st=.ok .next ⟨bC C0.length C.length (some (.int x)),C1⟩)
   (F:FM C C1 ks lc lH mZ b J1) (D:DI sc ks lH mZ fin) (R:uq sc fin lH) (le:km sc lH+fO sc mZ ks<=M) (sub : ∀ y∈seen,y∈mZ) (hx:x∈mZ):yB r cl C0 C ks lc sc x seen fin M st
theorem Rz (hf:cl.fuel≠0) (S:aU C0 C rd p f ks lc np sc) (bx:ks.length<64) (d7 : ∀ k∈ks,small k=true) (M:FM C C' ks lc rf seen b J) (D:DI sc ks rf seen fin) (h:gU sc fin x rf) (hx:x∈ks) (hr : ¬ (x∈seen/\x∈rf.map (·.1))) :
  yB r cl C0 C ks lc sc x seen fin (km sc rf+fO sc seen ks) ⟨bC C0.length C.length (some (.int x)),C'⟩:=by
 have hi:=vb (r:=r) (cl:=cl) (C0:=C0) (x:=x) M
 by_cases hs:x∈seen
 ·have hr:x ∉ rf.map (·.1):=λz=>hr ⟨hs,z⟩
  rw [contains_iff_mem.mpr hs] at hi
  have ho:=AH (r:=r) (cl:=cl) (C0:=C0) (x:=x) M
  rw [decide_eq_false hr] at ho
  exact ⟨rf,seen,C',b,J,jt hi rfl (bJ (df ho rfl rfl)),M,D,h.Eb (((D.sn x).mp hs).resolve_right hr),le_refl _,λ_ z=>z,hs⟩
 ·rw [eq_false_of_ne_true λz=>hs (contains_iff_mem.mp z)] at hi
  have hr:x ∉ rf.map (·.1):=λz=>hs ((D.sn x).mpr (.inr z))
  have pZ:rf.length<=ks.length:=by rw [<-length_map (f:=λt:Fr=>t.1)]; exact cw M.jd λy hy=>D.gd y ((D.sn y).mpr (.inr hy))
  obtain ⟨C2,e,M'⟩:=N1 (r:=r) hf S M hx hs hr (lt_of_le_of_lt (cw D.snd D.gd) bx) (lt_of_le_of_lt pZ bx) (d7 x hx) M.lt
  refine ⟨_,_,C2,b,_,df hi rfl e,M',⟨D.ed,λy=>?_,λy hy=>?_,λy hy=>?_,?_⟩,⟨λi v z=>absurd z (not_lt_zero _),h⟩,?_,λy=>mem_append_left _,mem_append_right _ (.head _)⟩
  ·rw [mem_append,D.sn y,mem_singleton,map_cons,mem_cons,or_assoc]
   exact or_congr_right or_comm
  ·rw [map_cons,mem_cons] at hy
   rcases hy with rfl|hy
   ·exact λz=>hs ((D.sn _).mpr (.inl z))
   ·exact D.iG y hy
  ·exact (mem_append.mp hy).elim (D.gd y) λz=>mem_singleton.mp z ▸ hx
  ·rw [nodup_append]
   exact ⟨D.snd,nodup_cons.mpr ⟨not_mem_nil,nodup_nil⟩,λa ha c hc z=>hs (by rw [<-mem_singleton.mp hc,<-z]; exact ha)⟩
  ·rw [Fp (sc:=sc) hs S.nd hx,km,sub_zero,add_comm (sc x).length,add_assoc,add_comm (sc x).length]
   exact add_le_add_left (add_le_add_left (le_succ _) _) _
inductive fg (C0 C:ai) (ks:List Int) (lc:Int->Nat) (sc:Int->List Int) (xs seen:List Int) (o:ak Fl):Prop
 |ret (l:List D) (m':List (Option D)) (E:ai) (e:o=.ok (.ret (.lst l)) ⟨m',C++E⟩) (hl:l≠[]) (dJ : ∃ u,fj sc u u):fg C0 C ks lc sc xs seen o
 |next (x6:Option D) (mY hZ:List Int) (C2:ai) (b:Bool) (J:ai) (e:o=.ok .next ⟨bC C0.length C.length x6,C2⟩) (M:FM C C2 ks lc [] mY b J) (D:DI sc ks [] mY hZ) (sub : ∀ y∈seen,y∈mY) (hx : ∀ x∈xs,x∈mY):fg C0 C ks lc sc xs seen o
theorem fg.from {xs Fs seen mY:List Int} {o:ak Fl} (h:fg C0 C ks lc sc xs seen o) (hs : ∀ y∈mY,y∈seen) (hx : ∀ x∈Fs,x∈xs\/x∈seen):fg C0 C ks lc sc Fs mY o:=by
 induction h using fg.casesOn with
 |ret l m' E e hl dJ=>exact .ret l m' E e hl dJ
 |next x6 s1 f1 C2 b J e M D sub h=>exact .next x6 s1 f1 C2 b J e M D (λy z=>sub y (hs y z)) λx z=>(hx x z).elim (h x) (sub x)
theorem An (hf:64<cl.fuel) (S:aU C0 C rd p f ks lc np sc) (bx:ks.length<64) (d7 : ∀ k∈ks,small k=true) (d6 : ∀ k∈ks,∀ v∈sc k,v∈ks) : ∀ (k:Nat) {x:Int} {rf:List Fr} {seen fin:List Int} {C':ai} {b:Bool} {J:ai},FM C C' ks lc rf seen b J->DI sc ks rf seen fin->gU sc fin x rf->x∈ks->km sc rf+fO sc seen ks<k->
  fg C0 C ks lc sc [x] seen (whileLoop (λaa=>ev (PP r) cl (.cst (.bool true)) aa) (λaa=>aq (PP r) cl csfindcycle_1 aa) (λaa=>aq (PP r) cl .nil aa) k ⟨bC C0.length C.length (some (.int x)),C'⟩)
 |0,x,rf,seen,fin,C',b,J,M,D,h,hx,hk=>absurd hk (not_lt_zero _)
 |k+1,x,rf,seen,fin,C',b,J,M,D,h,hx,hk=>by
  have de:cl.fuel≠0:=λz=>by rw [z] at hf; exact not_lt_zero _ hf
  by_cases hr:x∈seen/\x∈rf.map (·.1)
  ·have pZ:rf.length<=ks.length:=by rw [<-length_map (f:=λt:Fr=>t.1)]; exact cw M.jd λy hy=>D.gd y ((D.sn y).mpr (.inr hy))
   obtain ⟨l,hl,e⟩:=Oe (r:=r) (cl:=cl) (C0:=C0) M hr.2 (lt_of_le_of_lt pZ bx)
   have hi:=vb (r:=r) (cl:=cl) (C0:=C0) (x:=x) M
   rw [contains_iff_mem.mpr hr.1] at hi
   have ho:=AH (r:=r) (cl:=cl) (C0:=C0) (x:=x) M
   rw [decide_eq_true hr.2] at ho
   obtain ⟨t,ht,e1⟩:=mem_map.mp hr.2
   refine .ret l (bC C0.length C.length (some (.int x))) _ (Ff (d:=.bool true) rfl rfl (iM (jt hi rfl (bJ (jt ho rfl (by rw [<-M.mem]; exact jC e)))))) hl ⟨x,?_⟩
   have:=h.path t ht
   rw [e1] at this; exact this
  ·obtain ⟨lH,mZ,C1,b1,J1,e,F,D1,R,le,sub,Cg⟩:=Rz (r:=r) de S bx d7 M D h hx hr
   have pZ:lH.length<=ks.length:=by rw [<-length_map (f:=λt:Fr=>t.1)]; exact cw F.jd λy hy=>D1.gd y ((D1.sn y).mpr (.inr hy))
   have hp:=DS (r:=r) S (a:=C0.length) (x6:=some (.int x)) de lH F (k:=cl.fuel) (lt_of_le_of_lt pZ (lt_trans bx hf))
   have hi:=DR D1 R F.jd
   induction hq:fJ sc lH with
   |none=>
    rw [hq] at hp hi
    cases hi with
    |none hZ D2=>
    cases hp with
    |none C2 b2 J2 e2 M2=>
    exact .next (some (.int x)) mZ hZ C2 b2 J2 (Fd (d:=.bool true) rfl rfl (aZ e (vf e2))) M2 D2 sub λy hy=>mem_singleton.mp hy ▸ Cg
   |some w=>
    rw [hq] at hp hi
    cases hi with
    |some v lG hZ D2 c u hu hv lt=>
    cases hp with
    |some v lG C2 b2 J2 e2 M2=>
    have ih:=An hf S bx d7 d6 k M2 D2 c (d6 u hu v hv) (lt_of_lt_of_le (Nat.add_lt_add_right lt _) (le_trans le (le_of_lt_succ hk)))
    have step:=oL (cc:=λaa=>ev (PP r) cl (.cst (.bool true)) aa) (f:=λaa=>aq (PP r) cl csfindcycle_1 aa) (ek:=λaa=>aq (PP r) cl .nil aa) (n:=k) (d:=.bool true) (st:=⟨bC C0.length C.length (some (.int x)),C'⟩) rfl rfl (aZ e (bJ e2))
    rw [step]
    exact ih.from sub λy hy=>.inr (mem_singleton.mp hy ▸ Cg)
end
theorem vt {α:Type} {g f:α->D} {p:α->Bool} {tests:St->ak D} {inner:List D->St->ak D} {aS:ai->ai->Bool} {m:List (Option D)} {C:ai} (hc:aS C C=true) :
  ∀ {xs:List α} {acc:List D},(∀ x∈xs,tests ⟨m++[some (g x)],C⟩=.ok (.bool (p x)) ⟨m++[some (g x)],C⟩)->
  (∀ x∈xs,p x=true->∀ aR,aR.length<acc.length+xs.length->inner aR ⟨m++[some (g x)],C⟩=.ok (.lst (aR++[f x])) ⟨m++[some (g x)],C⟩)->
  cI (.one m.length) (bD tests inner) aS (xs.map g) acc ⟨m,C⟩=.ok (.lst (acc++(xs.filter p).map f)) ⟨m,C⟩
 |[],acc,_,_=>by
  show ak.ok (D.lst acc) _=.ok (.lst (acc++[])) _
  rw [append_nil]
 |x::xs,acc,h1,h2=>by
  have e1:fq (.one m.length) (g x) ⟨m++replicate (T.one m.length).width none,C⟩=.ok () ⟨m++[some (g x)],C⟩:=by
   refine (jD (show m.length<(m++[none]).length by rw [length_append]; exact lt_succ_self _)).trans ?_
   show ak.ok () ⟨(m++[none]).set m.length _,C⟩=_
   rw [set_append_right _ _ (le_refl _),sub_self]; rfl
  have step : ∀ aR,bD tests inner acc ⟨m++[some (g x)],C⟩=.ok (.lst aR) ⟨m++[some (g x)],C⟩->cI (.one m.length) (bD tests inner) aS ((x::xs).map g) acc ⟨m,C⟩=cI (.one m.length) (bD tests inner) aS (xs.map g) aR ⟨m,C⟩:=λaR h=>by
   show (match fq (.one m.length) (g x) ⟨m++replicate (T.one m.length).width none,C⟩ with
    |.ok _ aa=>match bD tests inner acc aa with
     |.ok (.lst aR) ae=>if aS C ae.C then cI (.one m.length) (bD tests inner) aS (xs.map g) aR ⟨ae.m.take m.length,ae.C⟩ else .fail
     |_=>.fail
    |_=>.fail)=_
   rw [e1]; dsimp only; rw [h]; dsimp only; rw [if_pos hc,take_left' rfl]
  induction hp:p x with
  |true=>
   rw [step (acc++[f x]) (by unfold bD; rw [h1 x (.head _),hp]; exact h2 x (.head _) hp acc (Nat.lt_add_of_pos_right (Nat.succ_pos _))),
    vt hc (λy hy=>h1 y (.tail _ hy)) (λy hy hq aR hl=>h2 y (.tail _ hy) hq aR (by rw [length_append,add_assoc,add_comm [f x].length] at hl; exact hl)),
    filter_cons,hp,if_pos rfl,map_cons,append_assoc]; rfl
  |false=>
   rw [step acc (by unfold bD; rw [h1 x (.head _),hp]),vt hc (λy hy=>h1 y (.tail _ hy)) (λy hy hq aR hl=>h2 y (.tail _ hy) hq aR (lt_succ_of_lt hl)),filter_cons,hp,if_neg Bool.false_ne_true]
section
variable {r:List Fn} {fuel n:Nat} {C0 C C':ai} {rd:D} {p f:Int} {ks:List Int} {lc:Int->Nat} {np:Int->Int} {sc:Int->List Int} {cl:Calls}
theorem fg.eq {xs seen:List Int} {o o':ak Fl} (e:o=o') (h:fg C0 C ks lc sc xs seen o'):fg C0 C ks lc sc xs seen o:=e ▸ h
theorem Fo {seen:List Int} : ∀ {l:List Int},(∀ k∈l,(sc k).length<64)->fO sc seen l<=l.length*64
 |[],_=>zero_le _
 |k::l,h=>by
  rw [fO,length_cons,succ_mul,add_comm]
  refine add_le_add (Fo λy hy=>h y (.tail _ hy)) ?_
  split
  ·exact zero_le _
  ·exact h k (.head _)
theorem vg (hf:5000<cl.fuel) (S:aU C0 C rd p f ks lc np sc) (bx:ks.length<64) (d7 : ∀ k∈ks,small k=true) (d6 : ∀ k∈ks,∀ v∈sc k,v∈ks) (mA : ∀ k∈ks,(sc k).Nodup) : ∀ (xs:List Int) {seen fin:List Int} {C':ai} {b:Bool} {J:ai} {x6:Option D},(∀ x∈xs,x∈ks)->FM C C' ks lc [] seen b J->DI sc ks [] seen fin->
  fg C0 C ks lc sc xs seen (forLoop (λA B=>aY A B (.loc (C0.length+1))) (.one 6) (λae=>aq (PP r) cl csfindcycle_2 ae) (xs.map .int) ⟨bC C0.length C.length x6,C'⟩)
 |[],seen,fin,C',b,J,x6,_,M,D=>.next x6 seen fin C' b J rfl M D (λ_ z=>z) λx z=>(nomatch z)
 |x::xs,seen,fin,C',b,J,x6,h,M,D=>by
  have hi:=vb (r:=r) (cl:=cl) (C0:=C0) (x:=x) M
  have hd : ∀ {X:ai},(C++X)[C0.length+1]?=some (.dict true (ks.map λk=>(k,.loc (lc k)))):=λ{X}=>(S.app X).dict
  by_cases hs:x∈seen
  ·rw [contains_iff_mem.mpr hs] at hi
   have ih:=vg hf S bx d7 d6 mA xs (x6:=some (.int x)) (λy hy=>h y (.tail _ hy)) M D
   refine fg.eq (IC (m1:=bC C0.length C.length (some (.int x))) (aa:=⟨bC C0.length C.length (some (.int x)),C'⟩) rfl (AV (jt hi rfl (AV rfl))) (by rw [M.mem]; exact xT hd hd)) ?_
   exact ih.from (λ_ z=>z) λy hy=>(mem_cons.mp hy).elim (λe=>.inr (e ▸ hs)) .inl
  ·rw [eq_false_of_ne_true λz=>hs (contains_iff_mem.mp z)] at hi
   have hw:km sc []+fO sc seen ks<cl.fuel:=by
    refine lt_of_le_of_lt ?_ hf
    rw [km,zero_add]
    exact le_trans (Fo λk hk=>lt_of_le_of_lt (cw (mA k hk) (d6 k hk)) bx) (le_trans (Nat.mul_le_mul_right _ (le_of_lt bx)) (by decide))
   have JL:=An (r:=r) (cl:=cl) (lt_trans (by decide) hf) S bx d7 d6 cl.fuel M D (x:=x) trivial (h x (.head _)) hw
   induction JL using fg.casesOn with
   |ret l m' E e hl dJ=>exact .ret l m' E (Bb (m1:=bC C0.length C.length (some (.int x))) rfl (aZ (df hi rfl rfl) (iM e))) hl dJ
   |next lR s1 f1 C2 b2 J2 e M2 D2 sub hx=>
    have ih:=vg hf S bx d7 d6 mA xs (x6:=lR) (λy hy=>h y (.tail _ hy)) M2 D2
    refine fg.eq (fV (m1:=bC C0.length C.length (some (.int x))) rfl (aZ (df hi rfl rfl) (bJ e)) (by rw [M.mem,M2.mem]; exact xT hd hd)) ?_
    exact ih.from sub λy hy=>(mem_cons.mp hy).elim (λe=>.inr (e ▸ hx x (.head _))) .inl
inductive qQ (C:ai) (ks:List Int) (sc:Int->List Int) (o:ak D):Prop
 |ok (m':List (Option D)) (E:ai) (e:o=.ok .none ⟨m',C++E⟩) (fin:List Int) (T:dy sc fin) (all : ∀ k∈ks,k∈fin):qQ C ks sc o
 |dJ (l:List D) (m':List (Option D)) (E:ai) (e:o=.ok (.lst l) ⟨m',C++E⟩) (hl:l≠[]) (h : ∃ u,fj sc u u):qQ C ks sc o
theorem Ir (hf:5000<fuel) (S:aU C0 C rd p f ks lc np sc) (bx:ks.length<64) (d7 : ∀ k∈ks,small k=true) (d6 : ∀ k∈ks,∀ v∈sc k,v∈ks) (mA : ∀ k∈ks,(sc k).Nodup):qQ C ks sc (aC (PP r) fuel (n+1) 16 [.inst 2 C0.length] [] C):=by
 have de:fuel≠0:=λz=>by rw [z] at hf; exact not_lt_zero _ hf
 have hl:=vg (r:=r) (cl:=⟨aC (PP r) fuel n,fuel⟩) hf S bx d7 d6 mA ks (x6:=none) (λ_ h=>h) (seen:=[]) (fin:=[]) (b:=true) (J:=[]) ⟨rfl,λt h=>(nomatch h),nodup_nil,nodup_nil⟩ ⟨trivial,λy=>⟨λh=>(nomatch h),λh=>h.elim (λh=>(nomatch h)) λh=>(nomatch h)⟩,λy h=>(nomatch h),λy h=>(nomatch h),nodup_nil⟩
 have DT : ∀ {o:ak Fl},aq (PP r) ⟨aC (PP r) fuel n,fuel⟩ csfindcycle_5 ⟨bC C0.length C.length none,C++[.list [],.list [],.set [],.dict true []]⟩=o->aq (PP r) ⟨aC (PP r) fuel n,fuel⟩ csfindcycle_10 ⟨[some (.inst 2 C0.length),none,none,none,none,none,none],C⟩=o:=λ{o} h=>by
  refine aZ (bM (cu (au (d:=.inst 2 C0.length) rfl) (dX S.top).1) (lb rfl)) (aZ (rP (ds:=[]) rfl (lb rfl) rfl) (aZ (rP (ds:=[]) rfl (lb rfl) rfl) ?_))
  rw [append_assoc]
  refine aZ (bM (m:=[some (.inst 2 C0.length),some (.loc (C0.length+1)),some (.loc C.length),some (.loc (C++[Ch.list []]).length),none,none,none]) (d:=.loc (C++[Ch.list [],.list []]).length) (C:=C++[.list [],.list [],.set []]) (c6 (g:=.bn .set) (ds:=[]) rfl rfl ((l0 de).trans ?_)) (lb rfl)) ?_
  ·show ak.ok _ ⟨_,(C++[Ch.list [],.list []])++[.set []]⟩=_
   rw [append_assoc]; rfl
  refine aZ (bM (m:=[some (.inst 2 C0.length),some (.loc (C0.length+1)),some (.loc C.length),some (.loc (C++[Ch.list []]).length),some (.loc (C++[Ch.list [],.list []]).length),none,none]) (d:=.loc (C++[Ch.list [],.list [],.set []]).length) (C:=C++[.list [],.list [],.set [],.dict true []]) ?_ (lb rfl)) ?_
  ·show ak.ok _ ⟨_,(C++[Ch.list [],.list [],.set []])++[.dict true []]⟩=_
   rw [append_assoc]; rfl
  rw [length_append,length_append,length_append]
  exact h
 have hit : ∀ {x6:Option D} {X:ai},bF (C++X) (.loc (C0.length+1))=some (ks.map .int):=λ{x6 X}=>by
  show (_:Option Ch).bind qe=_
  rw [(S.app X).dict]
  show some ((ks.map λk=>(k,D.loc (lc k))).map λe=>D.int e.1)=_
  rw [map_map]; rfl
 have pg:=fU (P:=PP r) (cl:=⟨aC (PP r) fuel n,fuel⟩) (t:=.one 6) (it:=.var 1) (a:=csfindcycle_2) (st:=⟨bC C0.length C.length none,C++[.list [],.list [],.set [],.dict true []]⟩) de (au (d:=.loc (C0.length+1)) rfl) (hit (x6:=none))
 induction hl using fg.casesOn with
 |ret l m' E e hl dJ=>exact .dJ l m' E (lE (DT (iM (pg.trans e)))) hl dJ
 |next x6 s1 f1 C2 b J e M D sub hx=>
  refine .ok (bC C0.length C.length x6) _ (lE (DT (aZ (pg.trans e) (jC (d:=.none) (by rw [M.mem]; rfl))))) f1 D.ed λk hk=>((D.sn k).mp (hx k hk)).resolve_right λz=>(nomatch z)
end
section
variable {P:aP} {cl:Calls} {st aa ae:St}
theorem Il {a b:E} {x y:D} (hf:cl.fuel≠0) (h1:ev P cl a st=.ok x aa) (h2:ev P cl b aa=.ok y ae):ex P cl (.qw a b) st=.exc .hV ae:=
 (uD hf).trans ((aQ h1).trans (aQ h2))
theorem Ig {o e:E} {a:Nm} {d y:D} {C':ai} (he:ev P cl e st=.ok d aa) (hf:cD e=false) (ho:ev P cl o aa=.ok y ae) (hs:eX P y a d ae.C=some C'):ex P cl (.cH o a true e) st=.ok .next ⟨ae.m,C'⟩:=
 (aQ (a:=d) (aa:=aa) ((aQ he).trans (by rw [hf]; rfl))).trans ((aQ ho).trans (aQ (a:=()) (by rw [hs]; rfl)))
theorem rM {e:E} {b:Bool} (h:ev P cl e st=.ok (.bool b) st):ck P cl (.cons e .nil) st=.ok (.bool b) st:=by
 refine (aQ h).trans ?_
 induction b<;>rfl
theorem pv {elt:St->ak D} {acc:List D} {x:D} (h:elt st=.ok x aa) (hl:acc.length<aF):dM P cl elt .nil acc st=.ok (.lst (acc++[x])) aa:=
 (aQ h).trans (if_pos hl)
end
section
variable {r:List Fn} {fuel n:Nat} {C0 C:ai} {p f:Int} {ks:List Int} {lc:Int->Nat} {np:Int->Int} {sc:Int->List Int}
inductive qV (C0:ai) (p f:Int) (ks:List Int) (lc:Int->Nat) (np:Int->Int) (sc:Int->List Int) (o:ak D):Prop
 |ok (m':List (Option D)) (C':ai) (i:Nat) (e:o=.ok .none ⟨m',C'⟩) (S:aU C0 C' (.loc i) p f ks lc np sc) (R:cA C0 C' ks lc i (ks.filter λk=>np k==0)) (fin:List Int) (T:dy sc fin) (all : ∀ k∈ks,k∈fin):qV C0 p f ks lc np sc o
 |dJ (m':List (Option D)) (C':ai) (i:Nat) (e:o=.exc .hV ⟨m',C'⟩) (S:aU C0 C' (.loc i) p f ks lc np sc) (R:cA C0 C' ks lc i (ks.filter λk=>np k==0)) (h : ∃ u,fj sc u u):qV C0 p f ks lc np sc o
theorem N0 (hf:5000<fuel) (S:aU C0 C .none p f ks lc np sc) (bx:ks.length<64) (d7 : ∀ k∈ks,small k=true) (d6 : ∀ k∈ks,∀ v∈sc k,v∈ks) (mA : ∀ k∈ks,(sc k).Nodup):qV C0 p f ks lc np sc (aC (PP r) fuel (n+2) 12 [.inst 2 C0.length] [] C):=by
 have de:fuel≠0:=λz=>by rw [z] at hf; exact not_lt_zero _ hf
 have bQ:C0.length<C.length:=(List.getElem?_eq_some_iff.mp S.top).1
 have hv:ev (PP r) ⟨aC (PP r) fuel (n+1),fuel⟩ (.a9 (.attr (.var 0) .cF) .values .nil) ⟨[some (.inst 2 C0.length),none],C⟩=.ok (.c7 (C0.length+1)) ⟨[some (.inst 2 C0.length),none],C⟩:=
  eU (cu (au (d:=.inst 2 C0.length) rfl) (dX S.top).1) (mk:=.nI) (show (C[C0.length+1]?).bind (ki .values)=_ by rw [S.dict]; rfl) (ds:=[]) rfl (by
   show aK (dictAt C (C0.length+1)) _=_
   rw [show dictAt C (C0.length+1)=some (ks.map λk=>(k,.loc (lc k))) by unfold dictAt; rw [S.dict]]; rfl)
 have hit:bF C (.c7 (C0.length+1))=some (ks.map λk=>.loc (lc k)):=by
  show (C[C0.length+1]?).bind x9=_
  rw [S.dict]
  show some ((ks.map λk=>(k,D.loc (lc k))).map λe=>e.2)=_
  rw [map_map]; rfl
 have hc:aY C C (.c7 (C0.length+1))=true:=xT S.dict S.dict
 have hg:=vt (m:=[some (.inst 2 C0.length),none]) (C:=C) (g:=λk=>.loc (lc k)) (f:=D.int) (p:=λk=>np k==0) (tests:=λae=>ck (PP r) ⟨aC (PP r) fuel (n+1),fuel⟩ (.cons (.cmp .eq (.attr (.var 2) .eb) (.cst (.int 0))) .nil) ae)
  (inner:=λacc ae=>dM (PP r) ⟨aC (PP r) fuel (n+1),fuel⟩ (λaH=>ev (PP r) ⟨aC (PP r) fuel (n+1),fuel⟩ (.attr (.var 2) .node) aH) .nil acc ae) (aS:=λA B=>aY A B (.c7 (C0.length+1))) hc (xs:=ks) (acc:=[])
  (λk hk=>rM (bI (cu (au (d:=.loc (lc k)) rfl) (jy (S.info k hk)).2.1) rfl rfl))
  (λk hk _ aR hl=>pv (cu (au (d:=.loc (lc k)) rfl) (jy (S.info k hk)).1) (lt_trans hl (lt_trans (by rw [length_nil,zero_add]; exact bx) (by decide))))
 have sm:=rJ (P:=PP r) (cl:=⟨aC (PP r) fuel (n+1),fuel⟩) (elt:=.attr (.var 2) .node) (ifs:=.cons (.cmp .eq (.attr (.var 2) .eb) (.cst (.int 0))) .nil) (g:=.nil) de hv hit hg
 have S0:=S.app [Ch.list ((ks.filter λk=>np k==0).map .int)]
 have KZ:=(xv (r:=r) (q:=0) (x:=.loc C.length) S0.top).1
 have S1:=S0.setTop (xl:=.loc C.length) (p':=p) (f':=f)
 have R1:cA C0 ((C++[Ch.list ((ks.filter λk=>np k==0).map .int)]).set C0.length (SA (C0.length+1) (.loc C.length) p f)) ks lc C.length (ks.filter λk=>np k==0):=
  ⟨eH dI S0.top rfl,bQ,λk hk=>ne_of_lt (List.getElem?_eq_some_iff.mp (S.succ k hk)).1⟩
 have JV:=Ir (r:=r) (n:=n) hf S1 bx d7 d6 mA
 have pre : ∀ {o:ak Fl},aq (PP r) ⟨aC (PP r) fuel (n+1),fuel⟩ csprepare_1 ⟨[some (.inst 2 C0.length),none],(C++[Ch.list ((ks.filter λk=>np k==0).map .int)]).set C0.length (SA (C0.length+1) (.loc C.length) p f)⟩=o->aq (PP r) ⟨aC (PP r) fuel (n+1),fuel⟩ csprepare_3 ⟨[some (.inst 2 C0.length),none],C⟩=o:=λh=>
  aZ (df (bI (cu (au (d:=.inst 2 C0.length) rfl) (dX S.top).2.1) rfl (z:=false) rfl) rfl rfl) (aZ (AO sm rfl (au (d:=.inst 2 C0.length) rfl) KZ) h)
 induction JV using qQ.casesOn with
 |ok m' E e fin T all=>
  exact .ok [some (.inst 2 C0.length),some .none] _ C.length (tL (pre (aZ (bM (kO (au (d:=.inst 2 C0.length) rfl) (ir S1.top).2.2.2.2.2.2 (ds:=[]) rfl e) (lb rfl)) (bJ (df (au (d:=.none) rfl) rfl rfl))))) (S1.app E) ⟨fQ R1.cell,R1.lo,R1.ne⟩ fin T all
 |dJ l m' E e hl h=>
  have ht:bA (((C++[Ch.list ((ks.filter λk=>np k==0).map .int)]).set C0.length (SA (C0.length+1) (.loc C.length) p f))++E) (.lst l)=some true:=by induction l using List.casesOn with|nil=>exact absurd rfl hl|cons a l=>rfl
  exact .dJ [some (.inst 2 C0.length),some (.lst l)] _ C.length (NV (pre (aZ (bM (kO (au (d:=.inst 2 C0.length) rfl) (ir S1.top).2.2.2.2.2.2 (ds:=[]) rfl e) (lb rfl)) (bJ (jt (au (d:=.lst l) rfl) ht (pA (Il de rfl (au (d:=.lst l) rfl))))))))
   (S1.app E) ⟨fQ R1.cell,R1.lo,R1.ne⟩ h
theorem Na {m:List (Option D)}:kL (PP r) ⟨aC (PP r) fuel (n+1),fuel⟩ (.cls 2) [] [] ⟨m,C⟩=.ok (.inst 2 C.length) ⟨m,C++[SA (C.length+1) .none 0 0,.dict true []]⟩:=by
 have hb : ∀ {x:D} {C':ai},aC (PP r) fuel (n+1) 9 [x] [] C'=di (aq (PP r) ⟨aC (PP r) fuel n,fuel⟩ csinit_4 ⟨[some x,some .none,none,none],C'⟩):=by intro x C'; kernel_rfl
 show mF (.inst 2 C.length) m (aC (PP r) fuel (n+1) 9 [.inst 2 C.length] [] (C++[.cC []]))=_
 rw [hb]
 have set : ∀ {es:List (Nm × D)} {E:ai} {a:Nm} {d:D},a.mH=true->es.length<64->eX (PP r) (.inst 2 C.length) a d (C++.cC es::E)=some (C++.cC (putL a d es)::E):=λ{es E a d} ha hl=>by
  show (ei (C++.cC es::E) C.length).bind _=_
  rw [show ei (C++.cC es::E) C.length=some es by unfold ei; rw [dI]]
  show (if (true&&a.mH&&decide (es.length<64))=true then some ((C++.cC es::E).set C.length (.cC (putL a d es))) else none)=_
  rw [ha,decide_eq_true hl,oF]; rfl
 have e1:ev (PP r) ⟨aC (PP r) fuel n,fuel⟩ .l6 ⟨[some (.inst 2 C.length),some .none,none,none],C++[.cC []]⟩=.ok (.loc (C.length+1)) ⟨[some (.inst 2 C.length),some .none,none,none],C++[.cC [],.dict true []]⟩:=by
  show ak.ok (D.loc (C++[Ch.cC []]).length) ⟨_,(C++[Ch.cC []])++[.dict true []]⟩=_
  rw [length_append,append_assoc]; rfl
 let M:List (Option D):=[some (.inst 2 C.length),some .none,none,none]
 let A:List (Nm × D)->ai:=λes=>C++.cC es::[.dict true []]
 have s1:ex (PP r) ⟨aC (PP r) fuel n,fuel⟩ (.cH (.var 0) .cF false .l6) ⟨M,C++[.cC []]⟩=.ok .next ⟨M,A [(.cF,.loc (C.length+1))]⟩:=jN (ae:=⟨M,_⟩) e1 (au (d:=.inst 2 C.length) rfl) (set rfl (lb rfl))
 have s2:ex (PP r) ⟨aC (PP r) fuel n,fuel⟩ (.cH (.var 0) .bY true (.cst .none)) ⟨M,A [(.cF,.loc (C.length+1))]⟩=.ok .next ⟨M,A [(.cF,.loc (C.length+1)),(.bY,.none)]⟩:=
  Ig (ae:=⟨M,_⟩) (d:=.none) rfl rfl (au (d:=.inst 2 C.length) rfl) (set rfl (lb rfl))
 have s3:ex (PP r) ⟨aC (PP r) fuel n,fuel⟩ (.cH (.var 0) .dD false (.cst (.int 0))) ⟨M,A [(.cF,.loc (C.length+1)),(.bY,.none)]⟩=.ok .next ⟨M,A [(.cF,.loc (C.length+1)),(.bY,.none),(.dD,.int 0)]⟩:=
  jN (ae:=⟨M,_⟩) (d:=.int 0) rfl (au (d:=.inst 2 C.length) rfl) (set rfl (lb rfl))
 have s4:ex (PP r) ⟨aC (PP r) fuel n,fuel⟩ (.cH (.var 0) .d9 false (.cst (.int 0))) ⟨M,A [(.cF,.loc (C.length+1)),(.bY,.none),(.dD,.int 0)]⟩=.ok .next ⟨M,A [(.cF,.loc (C.length+1)),(.bY,.none),(.dD,.int 0),(.d9,.int 0)]⟩:=
  jN (ae:=⟨M,_⟩) (d:=.int 0) rfl (au (d:=.inst 2 C.length) rfl) (set rfl (lb rfl))
 have h9:aq (PP r) ⟨aC (PP r) fuel n,fuel⟩ csinit_4 ⟨M,C++[.cC []]⟩=.ok .next ⟨M,A [(.cF,.loc (C.length+1)),(.bY,.none),(.dD,.int 0),(.d9,.int 0)]⟩:=
  aZ s1 (aZ s2 (aZ s3 (aZ s4 (bJ (df (bI (au (d:=.none) rfl) rfl (z:=false) rfl) rfl rfl)))))
 exact congrArg (mF (.inst 2 C.length) m) (tL h9)
theorem Nb:aU C (C++[SA (C.length+1) .none 0 0,.dict true []]) .none 0 0 [] (λ_=>0) (λ_=>0) (λ_=>[]):=
 ⟨prefix_append _ _,dI,nt,λ_ h=>(nomatch h),λ_ h=>(nomatch h),λ_ h=>(nomatch h),nodup_nil,λ_ _=>⟨rfl,rfl⟩⟩
end
section
variable {P:aP} {cl:Calls} {st aa:St}
theorem H4 {e:E} {d:D} (h:ev P cl e st=.ok d aa):ev P cl (.list (.cons e .nil)) st=.ok (.lst [d]) aa:=by
 show (match bE P cl (.cons e .nil) st with
  |.ok (.lst ds) aa=>if ds.length<=aF then (ak.ok (D.lst ds) aa:ak D) else .fail
  |.exc x aa=>.exc x aa
  |_=>.fail)=_
 rw [bT h]; exact if_pos (le_of_ble_eq_true rfl)
end
structure gT (nd:Int->List Int) (pre ks:List Int) (np:Int->Int) (sc:Int->List Int):Prop where
 kk : ∀ x,x∈ks↔x∈pre\/∃ j∈pre,x∈nd j
 nn : ∀ x,np x=if x∈pre then ((nd x).length:Int) else 0
 ss : ∀ x j,j∈sc x↔j∈pre/\x∈nd j
 eW : ∀ x,(sc x).Nodup
theorem CY {x:Int} : ∀ {l ks:List Int},x∈l.foldl eQ ks↔x∈ks\/x∈l
 |[],ks=>⟨.inl,λh=>h.resolve_right λz=>(nomatch z)⟩
 |q::l,ks=>by rw [List.foldl_cons,CY,tu,mem_cons,or_assoc]
theorem uv {node x:Int} : ∀ {l:List Int} {sc:Int->List Int},l.Nodup->oW sc node l x=if x∈l then sc x++[node] else sc x
 |[],sc,_=>(if_neg not_mem_nil).symm
 |q::l,sc,h=>by
  obtain ⟨h1,h2⟩:=nodup_cons.mp h
  show oW (e8 sc q (sc q++[node])) node l x=_
  rw [uv h2]
  by_cases e:x=q
  ·subst e; rw [if_neg h1,if_pos (.head _),gS]
  ·rw [eF e]
   by_cases z:x∈l
   ·rw [if_pos z,if_pos (.tail _ z)]
   ·rw [if_neg z,if_neg λy=>(mem_cons.mp y).elim e z]
section
variable {nd:Int->List Int} {pre ks:List Int} {np:Int->Int} {sc:Int->List Int}
theorem gT.add (B:gT nd pre ks np sc) {j:Int} (hj:j ∉ pre) (hn:(nd j).Nodup):gT nd (j::pre) ((nd j).foldl eQ (eQ ks j)) (e8 np j (np j+(nd j).length)) (oW sc j (nd j)):=by
 refine ⟨λx=>?_,λx=>?_,λx k=>?_,λx=>?_⟩
 ·rw [CY,tu,B.kk]
  constructor
  ·rintro (((h|⟨k,h1,h2⟩)|h)|h)
   ·exact .inl (.tail _ h)
   ·exact .inr ⟨k,.tail _ h1,h2⟩
   ·exact .inl (h ▸ .head _)
   ·exact .inr ⟨j,.head _,h⟩
  ·rintro (h|⟨k,h1,h2⟩)
   ·exact (mem_cons.mp h).elim (λe=>.inl (.inr e)) λh=>.inl (.inl (.inl h))
   ·exact (mem_cons.mp h1).elim (λe=>.inr (e ▸ h2)) λh=>.inl (.inl (.inr ⟨k,h,h2⟩))
 ·by_cases e:x=j
  ·subst e; rw [gS,B.nn,if_neg hj,if_pos (.head _),Int.zero_add]
  ·rw [eF e,B.nn]
   by_cases h:x∈pre
   ·rw [if_pos h,if_pos (.tail _ h)]
   ·rw [if_neg h,if_neg λz=>(mem_cons.mp z).elim e h]
 ·rw [uv hn]
  by_cases h:x∈nd j
  ·rw [if_pos h,mem_append,B.ss,mem_singleton,mem_cons]
   exact ⟨λz=>z.elim (λ⟨a,b⟩=>⟨.inr a,b⟩) λe=>⟨.inl e,e ▸ h⟩,λ⟨a,b⟩=>a.elim .inr λa=>.inl ⟨a,b⟩⟩
  ·rw [if_neg h,B.ss,mem_cons]
   exact ⟨λ⟨a,b⟩=>⟨.inr a,b⟩,λ⟨a,b⟩=>⟨a.resolve_left λe=>h (e ▸ b),b⟩⟩
 ·rw [uv hn]
  split
  ·rw [nodup_append]
   exact ⟨B.eW x,nodup_cons.mpr ⟨not_mem_nil,nodup_nil⟩,λa ha b hb z=>hj (by rw [<-mem_singleton.mp hb,<-z]; exact ((B.ss x a).mp ha).1)⟩
  ·exact B.eW x
theorem gT.nil:gT nd [] [] (λ_=>0) (λ_=>[]):=
 ⟨λx=>⟨λh=>(nomatch h),λh=>h.elim (λh=>(nomatch h)) λ⟨_,h,_⟩=>(nomatch h)⟩,λx=>(if_neg not_mem_nil).symm,λx j=>⟨λh=>(nomatch h),λh=>(nomatch h.1)⟩,λ_=>nodup_nil⟩
theorem gT.gr (B:gT nd pre ks np sc) (hn : ∀ j∈pre,(nd j).Nodup) (hi : ∀ j∈pre,∀ q∈nd j,q∈pre):(∀ x,x∈ks↔x∈pre)/\Gr nd ks sc:=by
 have hk : ∀ x,x∈ks↔x∈pre:=λx=>(B.kk x).trans ⟨λh=>h.elim id λ⟨j,a,b⟩=>hi j a x b,.inl⟩
 exact ⟨hk,λk h=>hn k ((hk k).mp h),λk h q hq=>(hk q).mpr (hi k ((hk k).mp h) q hq),λk _=>B.eW k,λk _ j=>by rw [B.ss,hk]⟩
theorem gT.run (B:gT nd pre ks np sc) (hk : ∀ x,x∈ks↔x∈pre) (fC:ks.Nodup):dH nd ks [] [] (ks.filter λk=>np k==0) np:=by
 have hv : ∀ k∈ks,np k=((nd k).length:Int):=λk h=>by rw [B.nn,if_pos ((hk k).mp h)]
 refine ⟨trivial,λ_ h=>(nomatch h),λ_ h=>(nomatch h),λk h _ _=>?_,λk=>?_,fC.filter _⟩
 ·rw [hv k h]; exact congrArg (λl:List Int=>((l.length:Nat):Int)) (filter_eq_self.mpr λ_ _=>rfl).symm
 ·rw [mem_filter]
  constructor
  ·rintro ⟨h,e⟩
   refine ⟨h,not_mem_nil,not_mem_nil,λq hq=>?_⟩
   rw [hv k h,beq_iff_eq] at e
   rw [List.eq_nil_of_length_eq_zero (ofNat.inj e)] at hq
   exact hq
  ·rintro ⟨h,_,_,e⟩
   refine ⟨h,?_⟩
   rw [hv k h,List.eq_nil_iff_forall_not_mem.mpr λq hq=>(nomatch e q hq)]; rfl
end
section
variable {r:List Fn} {fuel n:Nat} {C0 C:ai} {p f:Int} {ks dn rs:List Int} {lc:Int->Nat} {np:Int->Int} {sc nd:Int->List Int} {i:Nat} {held:Int}
structure oS (C0 C:ai) (ks:List Int) (lc:Int->Nat) (sc nd:Int->List Int) (i:Nat) (held:Int) (dn bt hs:List Int):Prop where
 ex : ∃ p f np,aU C0 C (.loc i) p f ks lc np sc/\dH nd ks dn (bt++hs) [] np/\p=f+(bt++hs).length
 gP:cA C0 C ks lc i []
 eW:(bt++hs).Nodup
 hs : ∀ h∈hs,h=held
 bt:held ∉ bt
 dh:held ∉ dn
theorem Gi {cl:Calls} (aw:cl=⟨aC (PP r) fuel (n+2),fuel⟩) (hf:fuel≠0) (dj:64<fuel) (bx:ks.length<64) (S:aU C0 C (.loc i) p f ks lc np sc) (R:cA C0 C ks lc i rs) {hs:List Int} (W:dH nd ks dn hs rs np) (hh : ∀ h∈hs,h=held) (JO:held ∉ dn) (hn:hs.Nodup) (hp:p=f+hs.length)
  {m:List (Option D)} {sv hv:Nat} (h1:m[sv]?=some (some (.inst 2 C0.length))) (h2:m[hv]?=some (some (.int held))) :
  ∃ bt eP C',ev (PP r) cl (.call (.cst (.fn 7)) (.cons (.a9 (.var sv) .iO .nil) (.cons (.list (.cons (.var hv) .nil)) .nil)) .nil) ⟨m,C⟩=.ok (.lst (bt.map .int)) ⟨m,C'⟩/\oS C0 C' ks lc sc nd i held dn bt eP:=by
 have sO : ∀ k∈rs,k∈ks:=λk h=>((W.gP k).mp h).1
 refine cps λQQ kQ=>?_
 obtain ⟨m1,C1,e1,S1,R1⟩:=Bp (r:=r) (n:=n+1) hf S R sO
 have hl:=cw W.mV sO
 have hb:=lt_of_le_of_lt hl bx
 obtain ⟨m2,e2⟩:=A1 (r:=r) (fuel:=fuel) (n:=n) (C:=C1) (a:=.tup (rs.map .int)) (sk:=.lst [.int held]) (xs:=rs) (ys:=[held]) hf rfl rfl (lt_trans hb dj) (le_of_lt (lt_trans hb (by decide)))
 have JW:(rs.filter λx=>![held].contains x)=rs.filter λx=>!(x==held):=filter_congr λx _=>by
  rw [Bool.eq_iff_iff,not_eq_true',not_eq_true',<-not_eq_true,<-not_eq_true,contains_iff_mem,mem_singleton,beq_iff_eq]
 rw [JW] at e2
 have eO : ∀ x,x∈(rs.filter λx=>!(x==held))↔x∈rs/\x≠held:=λx=>by
  rw [mem_filter,not_eq_true',<-not_eq_true,beq_iff_eq]
 have my : ∀ x,x∈(rs.filter λx=>x==held)↔x∈rs/\x=held:=λx=>by rw [mem_filter,beq_iff_eq]
 refine kQ ⟨rs.filter λx=>!(x==held),hs++rs.filter λx=>x==held,MF C1 (.lst [.int held]) .none 0,?_,⟨_,_,_,S1.app _,W.out λk=>?_,?_⟩,⟨fQ R1.cell,R1.lo,R1.ne⟩,?_,λh hm=>?_,λh=>((eO _).mp h).2 rfl,JO⟩
 ·subst aw
  have a1:ev (PP r) ⟨aC (PP r) fuel (n+2),fuel⟩ (.a9 (.var sv) .iO .nil) ⟨m,C⟩=.ok (.tup (rs.map .int)) ⟨m,C1⟩:=kO (aa:=⟨m1,C1⟩) (au h1) (ir S.top).2.2.2.1 (ds:=[]) rfl e1
  exact ma (f:=.cst (.fn 7)) (st:=⟨m,C⟩) (aa:=⟨m2,MF C1 (.lst [.int held]) .none 0⟩) rfl (kR a1 (H4 (au h2))) e2
 ·rw [mem_append,mem_append,eO,my]
  constructor
  ·rintro (⟨a,_⟩|a|⟨a,_⟩)
   ·exact .inr a
   ·exact .inl a
   ·exact .inr a
  ·rintro (a|a)
   ·exact .inr (.inl a)
   ·by_cases e:k=held
    ·exact .inr (.inr ⟨a,e⟩)
    ·exact .inl ⟨a,e⟩
 ·have hc : ∀ l:List Int,(l.filter λx=>!(x==held)).length+(l.filter λx=>x==held).length=l.length:=λl=>by
   induction l with
   |nil=>rfl
   |cons a l ih=>
    rw [filter_cons,filter_cons]
    induction a==held with
    |true=>exact congrArg Nat.succ ih
    |false=>exact (Nat.succ_add _ _).trans (congrArg Nat.succ ih)
  rw [length_append,length_append,hp,<-hc rs,Nat.add_left_comm]
  simp only [natCast_add]
  rw [Int.add_assoc]
 ·rw [nodup_append]
  refine ⟨W.mV.filter _,?_,λa ha b hb e=>?_⟩
  ·rw [nodup_append]
   exact ⟨hn,W.mV.filter _,λa ha b hb e=>((W.gP a).mp (e ▸ ((my b).mp hb).1)).2.2.1 ha⟩
  ·subst e
   obtain ⟨h3,h4⟩:=(eO a).mp ha
   exact (mem_append.mp hb).elim (λz=>h4 (hh a z)) λz=>h4 ((my a).mp z).2
 ·exact (mem_append.mp hm).elim (hh h) λz=>((my h).mp z).2
end
theorem toPys_ints : ∀ (n:Nat) (xs:List Int),toPys n (xs.map .int)=some (xs.map .int)
 |_,[]=>rfl
 |n,x::xs=>by
  show (toPy n (.int x)).bind _=_
  rw [show toPy n (.int x)=some (.int x) by induction n using Nat.casesOn<;>rfl]
  show (toPys n (xs.map .int)).map _=_
  rw [toPys_ints n xs]; rfl
theorem Ax : ∀ (xs ys:List Int),PyData.eqvAll (xs.map .int) (ys.map .int)=decide (xs=ys)
 |[],[]=>rfl
 |[],y::ys=>rfl
 |x::xs,[]=>rfl
 |x::xs,y::ys=>by
  show (PyData.eqv (.int x) (.int y)&&PyData.eqvAll (xs.map .int) (ys.map .int))=_
  rw [Ax xs ys]
  show (x==y&&_)=_
  rw [Bool.eq_iff_iff,and_eq_true,decide_eq_true_eq,decide_eq_true_eq,beq_iff_eq,List.cons.injEq]
theorem Aw {xs ys:List Int}:nJ (.lst (xs.map .int)) (.lst (ys.map .int))=some (decide (xs=ys)):=by
 show (((toPys 7 (xs.map .int)).map PyData.list).bind λx=>((toPys 7 (ys.map .int)).map PyData.list).map λy=>PyData.eqv x y)=_
 rw [toPys_ints,toPys_ints]
 show some (PyData.eqvAll (xs.map .int) (ys.map .int))=_
 rw [Ax]
theorem G7 {C:ai} {xs ys:List Int}:g9 C .eq (.lst (xs.map .int)) (.lst (ys.map .int))=some (decide (xs=ys)):=Aw
theorem o9 {C:ai} {xs ys:List Int}:g9 C .ne (.lst (xs.map .int)) (.lst (ys.map .int))=some (!decide (xs=ys)):=by
 show (nJ (.lst (xs.map .int)) (.lst (ys.map .int))).map _=_
 rw [Aw]; rfl
theorem yW {C:ai} {xs ys:List Int} (h:xs.length+ys.length<=aF):dz C .add (.lst (xs.map .int)) (.lst (ys.map .int))=some (.lst ((xs++ys).map .int)):=by
 show (if (xs.map D.int).length+(ys.map D.int).length<=aF then some (D.lst (xs.map .int++ys.map .int)) else none)=_
 rw [length_map,length_map,if_pos h,map_append]
theorem dy.nodup {nd:Int->List Int} : ∀ {l:List Int},dy nd l->l.Nodup
 |[],_=>nodup_nil
 |k::l,⟨_,h,t⟩=>nodup_cons.mpr ⟨h,t.nodup⟩
section
variable {r:List Fn} {fuel n:Nat} {C0:ai} {ks:List Int} {lc:Int->Nat} {sc nd:Int->List Int} {i:Nat} {held:Int} {cl:Calls} {sv hv cv bv:Nat} {mk:List Int->List Int->List (Option D)}
noncomputable def GV (sv hv cv bv:Nat):Ss:=(.cons (.expr (.eU (.var sv) .done .nil (.var bv))) (.cons (.aL cv false (.bin .add (.var cv) (.var bv))) (.cons (.aL bv false (.call (.cst (.fn 7)) (.cons (.a9 (.var sv) .iO .nil) (.cons (.list (.cons (.var hv) .nil)) .nil)) .nil)) .nil)))
structure Fv (mk:List Int->List Int->List (Option D)) (a:Nat) (held:Int) (sv hv cv bv:Nat):Prop where
 s : ∀ c b,(mk c b)[sv]?=some (some (.inst 2 a))
 h : ∀ c b,(mk c b)[hv]?=some (some (.int held))
 c : ∀ c b,(mk c b)[cv]?=some (some (.lst (c.map .int)))
 b : ∀ c b,(mk c b)[bv]?=some (some (.lst (b.map .int)))
 sc : ∀ c b c',(mk c b).set cv (some (.lst (c'.map .int)))=mk c' b
 sb : ∀ c b b',(mk c b).set bv (some (.lst (b'.map .int)))=mk c b'
theorem wZ {α:Type} {l:List α} {i:Nat} {a:α} (h:l[i]?=some a):i<l.length:=(List.getElem?_eq_some_iff.mp h).1
theorem GW (aw:cl=⟨aC (PP r) fuel (n+2),fuel⟩) (hf:64<fuel) (bx:ks.length<64) (G:Gr nd ks sc) (Q:Fv mk C0.length held sv hv cv bv) : ∀ (k:Nat) {C:ai} {dn bt hs:List Int},ks.length<k+dn.length->oS C0 C ks lc sc nd i held dn bt hs->
  ∃ C' pe eP,whileLoop (λaa=>ev (PP r) cl (.cmp .ne (.var bv) (.list .nil)) aa) (λaa=>aq (PP r) cl (GV sv hv cv bv) aa) (λaa=>aq (PP r) cl .nil aa) k ⟨mk dn.reverse bt,C⟩=.ok .next ⟨mk pe.reverse [],C'⟩/\oS C0 C' ks lc sc nd i held pe [] eP
 |0,C,dn,bt,hs,hk,H=>by
  obtain ⟨p,f,np,S,W,_⟩:=H.ex
  rw [zero_add] at hk
  exact absurd (cw W.ed.nodup W.iI) (not_le.mpr hk)
 |k+1,C,dn,[],hs,hk,H=>
  ⟨C,dn,hs,t7 (d:=.bool false) (bI (au (Q.b _ _)) (y:=.lst []) rfl (o9 (xs:=[]) (ys:=[]))) rfl,H⟩
 |k+1,C,dn,x::bt,hs,hk,H=>by
  obtain ⟨p,f,np,S,W,hp⟩:=H.ex
  have de:fuel≠0:=λz=>by rw [z] at hf; exact not_lt_zero _ hf
  obtain ⟨m1,C1,Sm,SE,e1,S1,R1,W1⟩:=Ap (r:=r) (n:=n+1) de G bx S H.gP W H.eW
  have hn:=H.eW
  rw [nodup_append] at hn
  obtain ⟨GF,eP,C2,e2,H2⟩:=Gi (r:=r) (cl:=cl) (n:=n) aw de hf bx S1 R1 W1 H.hs (λz=>(mem_append.mp z).elim (λy=>H.bt (mem_reverse.mp y)) H.dh) hn.2.1 (by
   rw [hp,length_append,natCast_add,Int.add_assoc]) (m:=mk (dn.reverse++(x::bt)) (x::bt)) (sv:=sv) (hv:=hv) (Q.s _ _) (Q.h _ _)
  have hl:(dn.reverse++(x::bt)).length<=ks.length:=by
   have:=cw W1.ed.nodup W1.iI
   rw [length_append,length_reverse] at this ⊢
   rw [add_comm]; exact this
  obtain ⟨C3,u3,sP,e3,H3⟩:=GW aw hf bx G Q k (dn:=(x::bt).reverse++dn) (by
   rw [length_append,length_reverse,length_cons]
   exact lt_of_lt_of_le hk (by rw [add_assoc]; exact add_le_add_left (add_le_add_right (le_add_left 1 bt.length) _) k)) H2
  refine ⟨C3,u3,sP,?_,H3⟩
  rw [List.reverse_append,List.reverse_reverse] at e3
  subst aw
  refine (oL (d:=.bool true) (ae:=⟨mk (dn.reverse++(x::bt)) GF,C2⟩) (bI (au (Q.b _ _)) (y:=.lst []) rfl (o9 (xs:=x::bt) (ys:=[]))) rfl ?_).trans e3
  refine aZ (hY (u7 (ae:=⟨m1,C1⟩) (au (Q.s _ _)) (ir S.top).2.2.2.2.2.1 (ds:=[]) rfl (au (Q.b _ _)) rfl e1)) (aZ (bM (bw (au (Q.c _ _)) (au (Q.b _ _)) (yW (by rw [<-length_append]; exact le_trans hl (le_of_lt (lt_trans bx (by decide)))))) (wZ (Q.c _ _))) ?_)
  rw [Q.sc]
  refine bJ ((bM e2 (wZ (Q.b _ _))).trans ?_)
  rw [Q.sb]
theorem oS.fin {C:ai} {dn hs:List Int} (H:oS C0 C ks lc sc nd i held dn [] hs):(∀ k∈dn,k∈ks/\k ∉ hs)/\(∀ k∈dn,∀ q∈nd k,q∈dn)/\(∀ k∈ks,k ∉ dn->k ∉ hs->∃ q∈nd k,q ∉ dn)/\(∀ h∈hs,h=held/\h∈ks/\h ∉ dn/\∀ q∈nd h,q∈dn):=by
 obtain ⟨p,f,np,S,W,hp⟩:=H.ex
 refine ⟨λk hk=>⟨W.iI k hk,λz=>(W.ja k z).2.1 hk⟩,λk hk q hq=>W.ed.closed hk hq,λk hk h1 h2=>Classical.byContradiction λz=>?_,λh hh=>⟨H.hs h hh,(W.ja h hh).1,(W.ja h hh).2.1,(W.ja h hh).2.2.2⟩⟩
 exact (nomatch (W.gP k).mpr ⟨hk,h1,h2,λq hq=>Classical.byContradiction λy=>z ⟨q,hq,y⟩⟩)
end
section
variable {r:List Fn} {fuel n:Nat} {C0:ai} {nd:Int->List Int} {cl:Calls} {mk:Option D->List (Option D)} {e:E} {U:List Int}
theorem PB {a b u:Nat} (h1:a<=u) (h2:b<=u) (h:u<20):a+1+b<64:=lt_of_le_of_lt (add_le_add (succ_le_succ h1) h2) (lt_trans (Nat.add_lt_add (Nat.succ_lt_succ h) h) (by decide))
theorem yD (aw:cl=⟨aC (PP r) fuel (n+3),fuel⟩) (hf:fuel≠0) (h2 : ∀ x,(mk x)[2]?=some (some (.inst 2 C0.length))) (h3 : ∀ d,(mk (some d))[3]?=some (some d)) (hb : ∀ x d,gv (.one 3) d (mk x)=some (mk (some d)))
  (hU:U.length<20) (d7 : ∀ x∈U,small x=true) (hn : ∀ j∈U,(nd j).Nodup) (hi : ∀ j∈U,∀ q∈nd j,q∈U) {aS:ai->ai->Bool} (iW : ∀ A B,aS A B=true) : ∀ (js:List Int) {x:Option D} {C:ai} {pre ks:List Int} {lc:Int->Nat} {np:Int->Int} {sc:Int->List Int},
  (∀ j∈js,∀ C,ev (PP r) cl e ⟨mk (some (.int j)),C⟩=.ok (.lst ((nd j).map .int)) ⟨mk (some (.int j)),C⟩)->(js.reverse++pre).Nodup->(∀ j∈js,j∈U)->(∀ j∈pre,j∈U)->aU C0 C .none 0 0 ks lc np sc->gT nd pre ks np sc->
  ∃ x' C' tc dq eC tT,forLoop aS (.one 3) (λst=>aq (PP r) cl (.cons (.expr (.eU (.var 2) .add (.cons (.var 3) .nil) e)) .nil) st) (js.map .int) ⟨mk x,C⟩=.ok .next ⟨mk x',C'⟩/\aU C0 C' .none 0 0 tc dq eC tT/\gT nd (js.reverse++pre) tc eC tT
 |[],x,C,pre,ks,lc,np,sc,_,_,_,_,S,B=>⟨x,C,ks,lc,np,sc,rfl,S,B⟩
 |j::js,x,C,pre,ks,lc,np,sc,he,fC,hj,hp,S,B=>by
  rw [reverse_cons,append_assoc] at fC
  have nV:=hj j (.head _)
  have bx : ∀ x∈ks,x∈U:=λx hx=>((B.kk x).mp hx).elim (hp x) λ⟨k,a,b⟩=>hi k (hp k a) x b
  have mv:=cw S.nd bx
  have Kg:j ∉ pre:=(nodup_cons.mp ((nodup_append.mp fC).2.1:([j]++pre).Nodup)).1
  obtain ⟨m1,C1,j8,e1,S1⟩:=FE (r:=r) (n:=n) hf S (node:=j) (bV:=nd j) (d7 j nV) (PB mv (cw (hn j nV) (hi j nV)) hU) (λq hq=>d7 q (hi j nV q hq)) (λk hk=>lt_of_le_of_lt (cw (B.eW k) λy hy=>hp y ((B.ss k y).mp hy).1) (lt_trans hU (by decide)))
  obtain ⟨x',C',tc,dq,eC,tT,e2,S2,B2⟩:=yD aw hf h2 h3 hb hU d7 hn hi iW js (x:=some (.int j)) (λk hk=>he k (.tail _ hk)) fC (λk hk=>hj k (.tail _ hk)) (pre:=j::pre) (λk hk=>(mem_cons.mp hk).elim (λe=>e ▸ nV) (hp k)) S1 (B.add Kg (hn j nV))
  subst aw
  refine ⟨x',C',tc,dq,eC,tT,(fV (hb _ _) (bJ (hY (u7 (ae:=⟨m1,C1⟩) (au (h2 _)) (ir S.top).2.1 (bT (au (h3 _))) (he j (.head _) C) rfl e1))) (iW _ _)).trans e2,S2,by rw [reverse_cons,append_assoc]; exact B2⟩
end
section
variable {α:Type} {G:ai->ai->Prop} {t:T} {g:α->D} {bd:α->List (Option D)} {F:α->List D} {tests:St->ak D} {inner:List D->St->ak D} {aS:ai->ai->Bool} {m:List (Option D)} {C:ai} {L:Nat}
noncomputable def q0 (G:ai->ai->Prop) (tests:St->ak D) (inner:List D->St->ak D) (m bd:List (Option D)) (C:ai) (acc:List D) (ds:List D):Prop := ∃ C',bD tests inner acc ⟨m++bd,C⟩=.ok (.lst (acc++ds)) ⟨m++bd,C'⟩/\G C C'
theorem nN (hr : ∀ A,G A A) (wx : ∀ A B C,G A B->G B C->G A C) (hc : ∀ A B,G C A->G A B->aS A B=true) : ∀ {xs:List α} {acc:List D} {C1:ai},G C C1->
  (∀ x∈xs,∀ C2,fq t (g x) ⟨m++replicate t.width none,C2⟩=.ok () ⟨m++bd x,C2⟩)->(∀ x∈xs,(F x).length<=L)->
  (∀ x∈xs,∀ aR C2,G C C2->aR.length<=acc.length+xs.length*L->q0 G tests inner m (bd x) C2 aR (F x))->
  ∃ C',cI t (bD tests inner) aS (xs.map g) acc ⟨m,C1⟩=.ok (.lst (acc++xs.flatMap F)) ⟨m,C'⟩/\G C1 C'
 |[],acc,C1,h1,_,_,_=>⟨C1,by show ak.ok (D.lst acc) _=.ok (.lst (acc++[])) _; rw [append_nil],hr C1⟩
 |x::xs,acc,C1,h1,hb,hL,h=>by
  obtain ⟨C2,e1,g1⟩:=h x (.head _) acc C1 h1 (le_add_right _ _)
  have hlen:(acc++F x).length+xs.length*L<=acc.length+(x::xs).length*L:=by
   rw [length_append,length_cons,succ_mul,add_comm (xs.length*L),<-add_assoc]
   exact add_le_add_right (add_le_add_left (hL x (.head _)) _) _
  obtain ⟨C3,e2,g2⟩:=nN hr wx hc (acc:=acc++F x) (wx _ _ _ h1 g1) (λy hy=>hb y (.tail _ hy)) (λy hy=>hL y (.tail _ hy)) λy hy aR C' hG hl=>h y (.tail _ hy) aR C' hG (le_trans hl hlen)
  refine ⟨C3,?_,wx _ _ _ g1 g2⟩
  rw [flatMap_cons,<-append_assoc,<-e2]
  show (match fq t (g x) ⟨m++replicate t.width none,C1⟩ with
   |.ok _ aa=>match bD tests inner acc aa with
    |.ok (.lst aR) ae=>if aS C1 ae.C then cI t (bD tests inner) aS (xs.map g) aR ⟨ae.m.take m.length,ae.C⟩ else .fail
    |_=>.fail
   |_=>.fail)=_
  rw [hb x (.head _)]; dsimp only; rw [e1]; dsimp only; rw [if_pos (hc _ _ h1 g1),take_left' rfl]
theorem t4 {b:Bool} {bd:List (Option D)} {acc ds:List D} (h1:tests ⟨m++bd,C⟩=.ok (.bool b) ⟨m++bd,C⟩) (hr:G C C) (h2:b=true->∃ C',inner acc ⟨m++bd,C⟩=.ok (.lst (acc++ds)) ⟨m++bd,C'⟩/\G C C'):q0 G tests inner m bd C acc (if b then ds else []):=by
 unfold q0 bD
 rw [h1]
 induction b with
 |true=>exact h2 rfl
 |false=>exact ⟨C,by show ak.ok (D.lst acc) _=.ok (.lst (acc++[])) _; rw [append_nil],hr⟩
theorem yO {α:Type} {m:List α} {d:α} {R:List α}:(m++d::R)[m.length]?=some d:=by rw [getElem?_append_right (le_refl _),sub_self]; rfl
theorem uH {d:D} {C2:ai}:fq (.one m.length) d ⟨m++replicate (T.one m.length).width none,C2⟩=.ok () ⟨m++[some d],C2⟩:=by
 refine (jD (show m.length<(m++[none]).length by rw [length_append]; exact lt_succ_self _)).trans ?_
 show ak.ok () ⟨(m++[none]).set m.length _,C2⟩=_
 rw [set_append_right _ _ (le_refl _),sub_self]; rfl
theorem RQ {n1:Nat} {d1 d2:D} {C2:ai} (h1:n1=m.length+1):fq (.many [m.length,n1]) (.tup [d1,d2]) ⟨m++replicate (T.many [m.length,n1]).width none,C2⟩=.ok () ⟨m++[some d1,some d2],C2⟩:=by
 subst h1
 have hl:(m++[none,none]).length=m.length+2:=by rw [length_append]; rfl
 have e1:(m++[none,none]).set m.length (some d1)=m++[some d1,none]:=by rw [set_append_right _ _ (le_refl _),sub_self]; rfl
 have e2:(m++[some d1,none]).set (m.length+1) (some d2)=m++[some d1,some d2]:=by rw [set_append_right _ _ (le_add_right _ _),add_sub_cancel_left]; rfl
 show (dE m.length d1 ⟨m++[none,none],C2⟩).bind (λ_ aa=>(dE (m.length+1) d2 aa).bind λ_ aa=>.ok () aa)=_
 rw [jD (by rw [hl]; exact Nat.lt_add_of_pos_right (by decide)),e1]
 show (dE (m.length+1) d2 ⟨m++[some d1,none],C2⟩).bind _=_
 rw [jD (by rw [length_append]; exact lt_succ_self _),e2]; rfl
end
theorem xd {α:Type} (b:Bool) {a:α}:(if b then [a] else []).length<=1:=by induction b<;>exact le_of_ble_eq_true rfl
theorem A7 {α β:Type} {f:α->β} : ∀ xs:List α,(xs.flatMap λx=>[f x])=xs.map f
 |[]=>rfl
 |x::xs=>by rw [flatMap_cons,A7 xs]; rfl
theorem rW {α β:Type} {p:α->Bool} {f:α->β} : ∀ xs:List α,(xs.flatMap λx=>if p x then [f x] else [])=(xs.filter p).map f
 |[]=>rfl
 |x::xs=>by
  rw [flatMap_cons,filter_cons,rW xs]
  induction p x<;>rfl
section
variable {α:Type} {P:aP} {cl:Calls} {elt it:E} {ifs:Es} {y:D} {g f:α->D} {p:α->Bool} {m:List (Option D)} {C:ai} {xs:List α}
theorem tw {a b c n:Nat} (h:a<=b+c*1) (h2:b+c<n):a<n:=lt_of_le_of_lt (by rw [Nat.mul_one] at h; exact h) h2
theorem rF {k:Nat} (hf:cl.fuel≠0) (hk:k=m.length) (hit:ev P cl it ⟨m,C⟩=.ok y ⟨m,C⟩) (hi:bF C y=some (xs.map g)) (hl:xs.length<aF) (hc:aY C C y=true) (ht : ∀ x∈xs,ck P cl ifs ⟨m++[some (g x)],C⟩=.ok (.bool (p x)) ⟨m++[some (g x)],C⟩)
  (he : ∀ x∈xs,p x=true->ev P cl elt ⟨m++[some (g x)],C⟩=.ok (f x) ⟨m++[some (g x)],C⟩):ev P cl (.comp elt (.cons (.one k) it ifs .nil)) ⟨m,C⟩=.ok (.lst ((xs.filter p).map f)) ⟨m,C⟩:=by
 subst hk
 obtain ⟨C',e,rfl⟩:=nN (G:=(· = ·)) (t:=.one m.length) (g:=g) (bd:=λx=>[some (g x)]) (F:=λx=>if p x then [f x] else []) (tests:=λae=>ck P cl ifs ae) (inner:=λacc ae=>dM P cl (λaH=>ev P cl elt aH) .nil acc ae) (aS:=λA B=>aY A B y) (m:=m) (C:=C) (L:=1) (xs:=xs) (acc:=[])
  (λ_=>rfl) (λ_ _ _=>Eq.trans) (λA B h1 h2=>by rw [<-h2,<-h1]; exact hc) rfl (λ_ _ _=>uH) (λx _=>xd (p x)) (λx hx aR C2 hG d5=>by
   subst hG
   exact t4 (ht x hx) rfl λhp=>⟨_,pv (he x hx hp) (tw d5 (by rw [length_nil,zero_add]; exact hl)),rfl⟩)
 have:=rJ hf hit hi e
 rw [this,rW]; rfl
theorem Hj {k:Nat} (hf:cl.fuel≠0) (hk:k=m.length) (hit:ev P cl it ⟨m,C⟩=.ok y ⟨m,C⟩) (hi:bF C y=some (xs.map g)) (hl:xs.length<aF) (hc : ∀ A B,C <+: A->A <+: B->aY A B y=true)
  (he : ∀ x∈xs,∀ C2,C <+: C2->∃ C3,ev P cl elt ⟨m++[some (g x)],C2⟩=.ok (f x) ⟨m++[some (g x)],C3⟩/\C2 <+: C3) : ∃ C',ev P cl (.comp elt (.cons (.one k) it .nil .nil)) ⟨m,C⟩=.ok (.lst (xs.map f)) ⟨m,C'⟩/\C <+: C':=by
 subst hk
 obtain ⟨C',e,hp⟩:=nN (G:=(· <+: ·)) (t:=.one m.length) (g:=g) (bd:=λx=>[some (g x)]) (F:=λx=>[f x]) (tests:=λae=>ck P cl .nil ae) (inner:=λacc ae=>dM P cl (λaH=>ev P cl elt aH) .nil acc ae) (aS:=λA B=>aY A B y) (m:=m) (C:=C) (L:=1) (xs:=xs) (acc:=[])
  (λA=>prefix_refl A) (λ_ _ _=>List.IsPrefix.trans) hc (prefix_refl C) (λ_ _ _=>uH) (λx _=>le_refl 1) (λx hx aR C2 hG d5=>by
   obtain ⟨C3,e3,h3⟩:=he x hx C2 hG
   exact t4 (b:=true) rfl (prefix_refl C2) λ_=>⟨C3,pv e3 (tw d5 (by rw [length_nil,zero_add]; exact hl)),h3⟩)
 refine ⟨C',?_,hp⟩
 have:=rJ hf hit hi e
 rw [this,A7]; rfl
end
theorem RW {α β:Type} {P:aP} {cl:Calls} {elt it sZ:E} {ifs:Es} {y:D} {y2:α->D} {t t2:T} {g:α->D} {g2:β->D} {bd:α->List (Option D)} {nv:β->List (Option D)} {ys:α->List β} {p:α->β->Bool} {f:α->β->D} {m:List (Option D)} {C:ai} {xs:List α} {L:Nat}
  (hf:cl.fuel≠0) (hit:ev P cl it ⟨m,C⟩=.ok y ⟨m,C⟩) (hi:bF C y=some (xs.map g)) (hc:aY C C y=true) (hb : ∀ x∈xs,∀ C2,fq t (g x) ⟨m++replicate t.width none,C2⟩=.ok () ⟨m++bd x,C2⟩)
  (Kb : ∀ x∈xs,ev P cl sZ ⟨m++bd x,C⟩=.ok (y2 x) ⟨m++bd x,C⟩) (mq : ∀ x∈xs,bF C (y2 x)=some ((ys x).map g2)) (iU : ∀ x∈xs,aY C C (y2 x)=true) (kX : ∀ x∈xs,∀ z∈ys x,∀ C2,fq t2 (g2 z) ⟨(m++bd x)++replicate t2.width none,C2⟩=.ok () ⟨(m++bd x)++nv z,C2⟩)
  (hL : ∀ x∈xs,(ys x).length<=L) (hl:xs.length*L+L<aF)
  (ht : ∀ x∈xs,∀ z∈ys x,ck P cl ifs ⟨(m++bd x)++nv z,C⟩=.ok (.bool (p x z)) ⟨(m++bd x)++nv z,C⟩) (he : ∀ x∈xs,∀ z∈ys x,p x z=true->ev P cl elt ⟨(m++bd x)++nv z,C⟩=.ok (f x z) ⟨(m++bd x)++nv z,C⟩) :
  ev P cl (.comp elt (.cons t it .nil (.cons t2 sZ ifs .nil))) ⟨m,C⟩=.ok (.lst (xs.flatMap λx=>((ys x).filter (p x)).map (f x))) ⟨m,C⟩:=by
 have Jm : ∀ x∈xs,(((ys x).filter (p x)).map (f x)).length<=L:=λx hx=>by rw [length_map]; exact le_trans (length_filter_le _ _) (hL x hx)
 obtain ⟨C',e,rfl⟩:=nN (G:=(· = ·)) (t:=t) (g:=g) (bd:=bd) (F:=λx=>((ys x).filter (p x)).map (f x)) (tests:=λae=>ck P cl .nil ae) (inner:=λacc ae=>dM P cl (λaH=>ev P cl elt aH) (.cons t2 sZ ifs .nil) acc ae) (aS:=λA B=>aY A B y) (m:=m) (C:=C) (L:=L) (xs:=xs) (acc:=[])
  (λ_=>rfl) (λ_ _ _=>Eq.trans) (λA B h1 h2=>by rw [<-h2,<-h1]; exact hc) rfl hb Jm (λx hx aR C2 hG d5=>by
   subst hG
   refine t4 (b:=true) rfl rfl λ_=>?_
   obtain ⟨C3,e3,rfl⟩:=nN (G:=(· = ·)) (t:=t2) (g:=g2) (bd:=nv) (F:=λz=>if p x z then [f x z] else []) (tests:=λae=>ck P cl ifs ae) (inner:=λacc ae=>dM P cl (λaH=>ev P cl elt aH) .nil acc ae) (aS:=λA B=>aY A B (y2 x)) (m:=m++bd x) (C:=C) (L:=1) (xs:=ys x) (acc:=aR)
    (λ_=>rfl) (λ_ _ _=>Eq.trans) (λA B h1 h2=>by rw [<-h2,<-h1]; exact iU x hx) rfl (kX x hx) (λz _=>xd (p x z)) (λz hz RN C3 vH mw=>by
     subst vH
     exact t4 (ht x hx z hz) rfl λhp=>⟨_,pv (he x hx z hz hp) (tw mw (lt_of_le_of_lt (add_le_add (by rw [length_nil,zero_add] at d5; exact d5) (hL x hx)) hl)),rfl⟩)
   refine ⟨C,?_,rfl⟩
   rw [rW] at e3
   show (ev P cl sZ ⟨m++bd x,C⟩).bind (λy aa=>match bF aa.C y with
    |some items=>cI t2 (bD (λae=>ck P cl ifs ae) (λacc ae=>dM P cl (λaH=>ev P cl elt aH) .nil acc ae)) (λC C'=>aY C C' y) items aR aa
    |none=>.fail)=_
   rw [Kb x hx]
   show (match bF C (y2 x) with
    |some items=>cI t2 (bD (λae=>ck P cl ifs ae) (λacc ae=>dM P cl (λaH=>ev P cl elt aH) .nil acc ae)) (λC C'=>aY C C' (y2 x)) items aR ⟨m++bd x,C⟩
    |none=>.fail)=_
   rw [mq x hx]
   exact e3)
 exact rJ hf hit hi e
end Mine.Lake
end
section
open PySem PyProof.Rows
namespace Mine.Lake
noncomputable abbrev dN (n:Nat):D:=.int (n:Int)
noncomputable def nz (l:List Nat):List Int:=l.map λn:Nat=>(n:Int)
section
variable {C:ai}
theorem qq {a b:Nat}:dz C .add (dN a) (dN b)=some (dN (a+b)):=rfl
theorem NN {a b:Nat} (ha:a<2 ^ 64) (hb:b<2 ^ 64):dz C .mul (dN a) (dN b)=some (dN (a*b)):=by
 show ((if small (a:Int)&&small (b:Int) then some ((a:Int)*b) else none).map D.int)=_
 rw [if_pos (by unfold small; rw [natAbs_natCast,natAbs_natCast,decide_eq_true ha,decide_eq_true hb]; rfl)]; rfl
theorem tI {a b:Nat} (h:b<=a):dz C .sub (dN a) (dN b)=some (dN (a - b)):=congrArg (λx=>some (D.int x)) (Int.ofNat_sub h).symm
theorem qr {a b:Nat} (hb:0<b):dz C .mod (dN a) (dN b)=some (dN (a % b)):=by
 show ((if ((b:Int) != 0)=true then some ((a:Int).fmod b) else none).map D.int)=_
 rw [if_pos (by rw [bne_iff_ne]; exact λe=>ne_of_gt hb (ofNat.inj e)),Int.fmod_eq_emod_of_nonneg _ (natCast_nonneg b)]; rfl
theorem DJ {a b:Nat} (hb:0<b) (hs:b<2 ^ 64):dz C .fdiv (dN a) (dN b)=some (dN (a / b)):=by
 show ((if (small (b:Int)&&((b:Int) != 0))=true then some ((a:Int).fdiv b) else none).map D.int)=_
 rw [if_pos (by rw [and_eq_true,bne_iff_ne]; exact ⟨by unfold small; rw [natAbs_natCast]; exact decide_eq_true hs,λe=>ne_of_gt hb (ofNat.inj e)⟩),Int.fdiv_eq_ediv_of_nonneg _ (natCast_nonneg b)]; rfl
theorem xe {a b:Nat} (ha:a<2 ^ 64) (hb:b<=1000):dz C .pow (dN a) (dN b)=some (dN (a ^ b)):=by
 show ((if (small (a:Int)&&decide (0<=(b:Int))&&decide ((b:Int)<=1000))=true then some ((a:Int) ^ (b:Int).toNat) else none).map D.int)=_
 rw [if_pos (by rw [decide_eq_true (natCast_nonneg b),decide_eq_true (show (b:Int)<=1000 from ofNat_le.mpr hb)]; unfold small; rw [natAbs_natCast,decide_eq_true ha]; rfl),toNat_natCast,<-Int.natCast_pow]; rfl
theorem oA {a b:Nat}:dz C .and (dN a) (dN b)=some (dN (a &&& b)):=congrArg (λx=>some (D.int x)) ((bitAnd_pp (natCast_nonneg a) (natCast_nonneg b)).trans (by rw [toNat_natCast,toNat_natCast]))
theorem NP : ∀ a<64,∀ b<64,a+b - (a &&& b)=(a ||| b)/\(a &&& b)<=a:=by decide +kernel
theorem Su {a b:Nat} (ha:a<64) (hb:b<64):dz C .or (dN a) (dN b)=some (dN (a ||| b)):=by
 obtain ⟨h1,h2⟩:=NP a ha b hb
 refine congrArg (λx=>some (D.int x)) ((bitOr_and _ _).trans ?_)
 rw [bitAnd_pp (natCast_nonneg a) (natCast_nonneg b),toNat_natCast,toNat_natCast,<-h1,Int.ofNat_sub (le_trans h2 (le_add_right _ _))]; rfl
theorem o8 {a b:Nat}:g9 C .eq (dN a) (dN b)=some (decide (a=b)):=by
 show some ((a:Int)==(b:Int))=_
 refine congrArg some ?_
 rw [Bool.eq_iff_iff,beq_iff_eq,decide_eq_true_eq]; exact ⟨ofNat.inj,congrArg _⟩
theorem G9 {a b:Nat}:g9 C .ne (dN a) (dN b)=some (!decide (a=b)):=by
 show (g9 C .eq (dN a) (dN b)).map _=_
 rw [o8]; rfl
theorem G8 {a b:Nat}:g9 C .lt (dN a) (dN b)=some (decide (a<b)):=congrArg some (decide_eq_decide.mpr ofNat_lt)
theorem RV {a b:Nat}:g9 C .ge (dN a) (dN b)=some (decide (b<=a)):=congrArg some (decide_eq_decide.mpr ofNat_le)
theorem NB {l:List Nat} {k:Nat}:(nz l)[k]?=(l[k]?).map λn:Nat=>(n:Int):=getElem?_map
theorem lq {l:List Nat} {k n:Nat} (hk:k<1000) (h:l[k]?=some n):gI ((nz l).map .int) (k:Int)=some (dN n):=Cp hk (by rw [getElem?_map,NB,h]; rfl)
theorem C8 {l:List Nat} {k:Nat}:(nz l).contains (k:Int)=decide (k∈l):=by
 rw [Bool.eq_iff_iff,contains_iff_mem,decide_eq_true_eq]
 unfold nz
 rw [mem_map]
 exact ⟨λ⟨a,h,e⟩=>ofNat.inj e ▸ h,λh=>⟨k,h,rfl⟩⟩
theorem Cu {l:List Nat} {k:Nat}:ik (dN k) ((nz l).map .int)=some (decide (k∈l)):=by rw [Ct,C8]
theorem Iw {l k:List Nat}:(nz l).filter (λx=>!(nz k).contains x)=nz (l.filter λx=>!decide (x∈k)):=by
 unfold nz
 rw [List.filter_map]
 refine congrArg _ (filter_congr λx _=>?_)
 exact congrArg (!·) C8
theorem Dx {l k:List Nat} (h:nz l=nz k):l=k:=by
 induction l generalizing k with
 |nil=>induction k using List.casesOn with|nil=>rfl|cons a k=>exact (nomatch h)
 |cons a l ih=>
  induction k using List.casesOn with
  |nil=>exact (nomatch h)
  |cons b k=>
   obtain ⟨h1,h2⟩:=List.cons.inj h
   rw [ofNat.inj h1,ih h2]
theorem fI {l:List Nat}:(nz l).length=l.length:=length_map _
theorem tF {l k:List Nat}:nz (l++k)=nz l++nz k:=map_append
end
noncomputable def mP (x:D) (k:Nat) (x3 x4 x5:Option D) (R:List (Option D)):List (Option D):=some x::some (.loc 0)::some (dN k)::x3::x4::x5::R
section
variable {P:aP} {cl:Calls} {x:D} {x4 x5:Option D} {R:List (Option D)} {q:Nat}
theorem qi {k:Nat} {x3 x4 x5:Option D}:6<=(mP x k x3 x4 x5 R).length:=le_add_left 6 R.length
theorem Gx {k:Nat} {x3 x4 x5:Option D} {d:D}:gv (.one 3) d (mP x k x3 x4 x5 R)=some (mP x k (some d) x4 x5 R):=by
 show (if 3<(mP x k x3 x4 x5 R).length then some _ else none)=_
 exact if_pos (lt_of_lt_of_le (by decide:3<6) qi)
theorem Gy {k:Nat} {x3 x4 x5:Option D} {d:D}:gv (.one 5) d (mP x k x3 x4 x5 R)=some (mP x k x3 x4 (some d) R):=by
 show (if 5<(mP x k x3 x4 x5 R).length then some _ else none)=_
 exact if_pos (lt_of_lt_of_le (by decide:5<6) qi)
noncomputable def DA (q:Nat):Ss:=(.cons (.kF (.var 1) (.bin .mod (.var 2) (.cst (dN q))) (.bin .mod (.bin .add (.idx (.var 1) (.bin .mod (.var 2) (.cst (dN q)))) (.var 3)) (.cst (.int 256)))) (.cons (.aL 2 false (.bin .add (.var 2) (.cst (.int 1)))) .nil))
theorem NG (hq:0<q) (sM:q<1000) {os:List Nat} (hl:os.length=q) (ho : ∀ o∈os,o<256) {k:Nat} {n:Int} : ∃ mS,aq P cl (DA q) ⟨mP x k (some (.int n)) x4 x5 R,[.list ((nz os).map .int)]⟩=.ok .next ⟨mP x (k+1) (some (.int n)) x4 x5 R,[.list ((nz mS).map .int)]⟩/\mS.length=q/\∀ o∈mS,o<256:=by
 have hk:k % q<q:=mod_lt _ hq
 refine cps λQQ kQ=>?_
 obtain ⟨o,h1⟩ : ∃ o,os[k % q]?=some o:=⟨os[k % q]'(by rw [hl]; exact hk),getElem?_eq_getElem _⟩
 obtain ⟨o',e,h2⟩ : ∃ o':Nat,((o:Int)+n) % 256=(o':Int)/\o'<256:=⟨(((o:Int)+n) % 256).toNat,(Int.toNat_of_nonneg (Int.emod_nonneg _ (by decide))).symm,by
  have:=Int.emod_lt_of_pos ((o:Int)+n) (show (0:Int)<256 by decide)
  rw [<-Int.toNat_of_nonneg (Int.emod_nonneg ((o:Int)+n) (show (256:Int)≠0 by decide))] at this
  exact ofNat_lt.mp this⟩
 have em:ev P cl (.bin .mod (.var 2) (.cst (dN q))) ⟨mP x k (some (.int n)) x4 x5 R,[.list ((nz os).map .int)]⟩=.ok (dN (k % q)) ⟨mP x k (some (.int n)) x4 x5 R,[.list ((nz os).map .int)]⟩:=bw (x:=dN k) (y:=dN q) (au rfl) rfl (qr hq)
 have HY:ev P cl (.bin .mod (.bin .add (.idx (.var 1) (.bin .mod (.var 2) (.cst (dN q)))) (.var 3)) (.cst (.int 256))) ⟨mP x k (some (.int n)) x4 x5 R,[.list ((nz os).map .int)]⟩=.ok (dN o') ⟨mP x k (some (.int n)) x4 x5 R,[.list ((nz os).map .int)]⟩:=by
  refine bw (x:=.int ((o:Int)+n)) (y:=.int 256) (bw (x:=dN o) (y:=.int n) (dA (x:=.loc 0) (y:=dN (k % q)) (au rfl) em ((Cn rfl).trans (lq (lt_trans hk sM) h1))) (au rfl) rfl) rfl ?_
  show some (D.int (((o:Int)+n).fmod 256))=_
  rw [Int.fmod_eq_emod_of_nonneg _ (by decide),e]
 refine kQ ⟨os.set (k % q) o',aZ (AP HY (au (d:=.loc 0) rfl) em (C':=[.list ((nz (os.set (k % q) o')).map .int)]) ?_) (bJ (bM (m:=mP x k (some (.int n)) x4 x5 R) (bw (x:=dN k) (y:=dN 1) (au rfl) rfl qq) (lt_of_lt_of_le (by decide:_<6) qi))),by rw [length_set]; exact hl,λa ha=>?_⟩
 ·show (if 0<=((k % q:Nat):Int)/\((k % q:Nat):Int)<((nz os).map D.int).length then some ([Ch.list ((nz os).map .int)].set 0 (.list (((nz os).map D.int).set ((k % q:Nat):Int).toNat (dN o')))) else none)=_
  rw [if_pos ⟨natCast_nonneg _,by rw [length_map,fI,hl]; exact ofNat_lt.mpr hk⟩,toNat_natCast]
  unfold nz
  rw [map_set,map_set]; rfl
 ·rcases List.mem_or_eq_of_mem_set ha with h|h
  ·exact ho a h
  ·exact h ▸ h2
theorem DB (hq:0<q) (sM:q<1000) {y:D} (hy : ∀ A B,aY A B y=true) : ∀ (ns:List Int) {os:List Nat} {k:Nat} {x3:Option D},os.length=q->(∀ o∈os,o<256)->∃ mS k' RD,forLoop (λA B=>aY A B y) (.one 3) (λst=>aq P cl (DA q) st) (ns.map .int) ⟨mP x k x3 x4 x5 R,[.list ((nz os).map .int)]⟩ =
  .ok .next ⟨mP x k' RD x4 x5 R,[.list ((nz mS).map .int)]⟩/\mS.length=q/\∀ o∈mS,o<256
 |[],os,k,x3,hl,ho=>⟨os,k,x3,rfl,hl,ho⟩
 |n::ns,os,k,x3,hl,ho=>by
  obtain ⟨Sv,e1,h1,h2⟩:=NG (P:=P) (cl:=cl) (x:=x) (x4:=x4) (x5:=x5) (R:=R) hq sM hl ho (k:=k) (n:=n)
  obtain ⟨NS,k2,x2,e2,h3,h4⟩:=DB hq sM hy ns (k:=k+1) (x3:=some (.int n)) h1 h2
  exact ⟨NS,k2,x2,(fV (m1:=mP x k (some (.int n)) x4 x5 R) Gx e1 (hy _ _)).trans e2,h3,h4⟩
noncomputable def ky (os:List Nat) (w:Nat):Nat:=os.foldl (λw o=>w*256+o) w
theorem Fh {all:List D} (h0:all=all) : ∀ (os:List Nat) {w:Nat} {k:Nat} {x3 x5:Option D} {i:Nat} {C:ai},(∀ o∈os,o<256)->w<2 ^ (8*i)->i+os.length<=6->aY C C (.loc 0)=true->∃ yc,forLoop (λA B=>aY A B (.loc 0)) (.one 5) (λst=>aq P cl (.cons (.aL 4 false (.bin .add (.bin .mul (.var 4) (.cst (.int 256))) (.var 5))) .nil) st) ((nz os).map .int) ⟨mP x k x3 (some (dN w)) x5 R,C⟩ =
  .ok .next ⟨mP x k x3 (some (dN (ky os w))) yc R,C⟩
 |[],w,k,x3,x5,i,C,_,_,_,_=>⟨x5,rfl⟩
 |o::os,w,k,x3,x5,i,C,ho,hw,hi,hC=>by
  have gF:=ho o (.head _)
  have J5:i+1+os.length<=6:=by rw [add_assoc,add_comm 1]; exact hi
  have Ld:w*256+o<2 ^ (8*(i+1)):=by
   show w*256+o<2 ^ (8*i+8)
   rw [Nat.pow_add]
   exact lt_of_lt_of_le (add_lt_add_left gF _) (le_trans (le_of_eq (succ_mul w 256).symm) (Nat.mul_le_mul_right 256 hw))
  have Lf:w<2 ^ 64:=lt_of_lt_of_le hw (Nat.pow_le_pow_right (by decide) (le_trans (Nat.mul_le_mul_left 8 (le_trans (le_add_right _ _) hi)) (by decide)))
  obtain ⟨yc,e⟩:=Fh h0 os (k:=k) (x3:=x3) (x5:=some (dN o)) (λa ha=>ho a (.tail _ ha)) Ld J5 hC
  exact ⟨yc,(fV (m1:=mP x k x3 (some (dN w)) (some (dN o)) R) Gy (bJ (bM (m:=mP x k x3 (some (dN w)) (some (dN o)) R) (bw (bw (x:=dN w) (y:=dN 256) (au rfl) rfl (NN Lf (by decide))) (y:=dN o) (au rfl) qq) (lt_of_lt_of_le (by decide:_<6) qi))) hC).trans e⟩
end
theorem HP {a n b:Nat} (h:b<n):(a*n+b) / n=a:=by
 rw [add_comm,add_mul_div_right _ _ (lt_of_le_of_lt (zero_le _) h),Nat.div_eq_of_lt h,zero_add]
theorem Sk {a n b:Nat} (h:b<n):(a*n+b) % n=b:=(mul_add_mod' a n b).trans (mod_eq_of_lt h)
theorem CN {u c n m:Nat} (hu:u<m) (hc:c<n):u*n+c<m*n:=
 lt_of_lt_of_le (add_lt_add_left hc _) (le_trans (le_of_eq (succ_mul u n).symm) (Nat.mul_le_mul_right n hu))
theorem Au {a b c:Nat} {r:List Nat}:bP (a::b::c::r)=ba (a / 4)::ba (a % 4*16+b / 16)::ba (b % 16*4+c / 64)::ba (c % 64)::bP r:=by
 unfold bP
 rw [show (a::b::c::r).length % 3=r.length % 3 from CJ _]
 rfl
theorem l5 {n p q y:Nat} (hq:q<n):(p*n+q) / (n*y)=p / y:=by rw [<-Nat.div_div_eq_div_mul,HP hq]
theorem rH {n p q y z:Nat} (h:n=y*(64*z)) (hy:0<y):(p*n+q) / y % 64=q / y % 64:=by
 rw [h,Nat.mul_left_comm,mul_comm y,add_comm,mul_comm,Nat.add_mul_div_left _ _ hy,Nat.mul_left_comm,Nat.add_mul_mod_self_left]
section
variable {a b c:Nat} (ha:a<256) (hb:b<256) (hc:c<256)
include ha hb hc
theorem g1:((a*256+b)*256+c) / 262144 % 64=a / 4:=by
 rw [show 262144=256*(256*4) from rfl,l5 hc,l5 hb]; exact mod_eq_of_lt (div_lt_of_lt_mul ha)
theorem g2:((a*256+b)*256+c) / 4096 % 64=a % 4*16+b / 16:=by
 rw [show 4096=256*16 from rfl,l5 hc,show a*256=(a*16)*16 from (mul_assoc a 16 16).symm,add_comm,add_mul_div_right _ _ (by decide),add_comm,show 64=16*4 from rfl]
 exact lo (div_lt_of_lt_mul hb)
theorem g3:((a*256+b)*256+c) / 64 % 64=b % 16*4+c / 64:=by
 rw [show (a*256+b)*256=((a*256+b)*4)*64 from (mul_assoc _ 4 64).symm,add_comm,add_mul_div_right _ _ (by decide),add_comm,show 64=4*16 from rfl,lo (div_lt_of_lt_mul (show c<(4*16)*4 from hc)),show a*256=(a*16)*16 from (mul_assoc a 16 16).symm,mul_add_mod']
theorem g4:((a*256+b)*256+c) / 1 % 64=c % 64:=by
 rw [Nat.div_one,show (a*256+b)*256=((a*256+b)*4)*64 from (mul_assoc _ 4 64).symm,mul_add_mod']
theorem NW:(a*256+b)*256+c<16777216:=CN (m:=65536) (CN (m:=256) ha hb) hc
end
noncomputable def jO (w:Nat):List Nat:=(List.range 8).map λk=>w / 64 ^ (7 - k) % 64
theorem HR {os:List Nat} (hl:os.length=6) (ho : ∀ o∈os,o<256):bP os=(jO (ky os 0)).map ba:=by
 obtain ⟨a,os,rfl⟩:=exists_cons_of_length_eq_add_one hl
 obtain ⟨b,os,rfl⟩:=exists_cons_of_length_eq_add_one (Nat.succ.inj hl)
 obtain ⟨c,os,rfl⟩:=exists_cons_of_length_eq_add_one (Nat.succ.inj (Nat.succ.inj hl))
 obtain ⟨d,os,rfl⟩:=exists_cons_of_length_eq_add_one (Nat.succ.inj (Nat.succ.inj (Nat.succ.inj hl)))
 obtain ⟨e,os,rfl⟩:=exists_cons_of_length_eq_add_one (Nat.succ.inj (Nat.succ.inj (Nat.succ.inj (Nat.succ.inj hl))))
 obtain ⟨f,os,rfl⟩:=exists_cons_of_length_eq_add_one (Nat.succ.inj (Nat.succ.inj (Nat.succ.inj (Nat.succ.inj (Nat.succ.inj hl)))))
 obtain rfl:=List.eq_nil_of_length_eq_zero (Nat.succ.inj (Nat.succ.inj (Nat.succ.inj (Nat.succ.inj (Nat.succ.inj (Nat.succ.inj hl))))))
 have ha:=ho a (.head _)
 have hb:=ho b (.tail _ (.head _))
 have hc:=ho c (.tail _ (.tail _ (.head _)))
 have hd:=ho d (.tail _ (.tail _ (.tail _ (.head _))))
 have he:=ho e (.tail _ (.tail _ (.tail _ (.tail _ (.head _)))))
 have hf:=ho f (.tail _ (.tail _ (.tail _ (.tail _ (.tail _ (.head _))))))
 obtain ⟨p,hp⟩ : ∃ p,p=(a*256+b)*256+c:=⟨_,rfl⟩
 obtain ⟨q,hq⟩ : ∃ q,q=(d*256+e)*256+f:=⟨_,rfl⟩
 have sN:q<16777216:=by rw [hq]; exact NW hd he hf
 have hw:ky [a,b,c,d,e,f] 0=p*16777216+q:=by
  show (((((0*256+a)*256+b)*256+c)*256+d)*256+e)*256+f=_
  rw [Nat.zero_mul,zero_add,<-hp,hq,show 16777216=256*256*256 from rfl,<-mul_assoc,<-mul_assoc,Nat.add_mul (p*256) d,add_assoc,Nat.add_mul (p*256*256),add_assoc]
 rw [Au,Au,hw]
 show _=[ba ((p*16777216+q) / (16777216*262144) % 64),ba ((p*16777216+q) / (16777216*4096) % 64),ba ((p*16777216+q) / (16777216*64) % 64),ba ((p*16777216+q) / (16777216*1) % 64),ba ((p*16777216+q) / 262144 % 64),ba ((p*16777216+q) / 4096 % 64),ba ((p*16777216+q) / 64 % 64),ba ((p*16777216+q) / 1 % 64)]
 rw [l5 sN,l5 sN,l5 sN,l5 sN,rH (y:=262144) (z:=1) rfl (by decide),rH (y:=4096) (z:=64) rfl (by decide),rH (y:=64) (z:=4096) rfl (by decide),rH (y:=1) (z:=262144) rfl (by decide),hp,hq,
  g1 ha hb hc,g2 ha hb hc,g3 ha hb hc,g4 ha hb hc,g1 hd he hf,g2 hd he hf,g3 hd he hf,g4 hd he hf]; rfl
theorem A0 {w:Nat} : ∀ f∈jO w,f<64:=λf h=>by obtain ⟨k,_,rfl⟩:=mem_map.mp h; exact mod_lt _ (by decide)
theorem AZ {w:Nat}:(jO w).length=8:=rfl
noncomputable def w0 {α β:Type} (g:α->β) (l:List α):List β:=l.foldr (λs acc=>g s::acc) []
theorem w2 {α β:Type} (g:α->β) : ∀ l:List α,w0 g l=l.map g
 |[]=>rfl
 |a::l=>congrArg (g a :: ·) (w2 g l)
noncomputable def dt:Fn:={bW:=[0],bL:=[],cb:=[],cj:=none,size:=1,body:=(.cons (.ifs (.cmp .lt (.var 0) (.cst (.int 26))) (.cons (.ret (.bin .add (.cst (.int 65)) (.var 0))) .nil) .nil) (.cons (.ifs (.cmp .lt (.var 0) (.cst (.int 52))) (.cons (.ret (.bin .add (.cst (.int 71)) (.var 0))) .nil) .nil)
 (.cons (.ifs (.cmp .lt (.var 0) (.cst (.int 62))) (.cons (.ret (.bin .sub (.var 0) (.cst (.int 4)))) .nil) .nil) (.cons (.ifs (.cmp .eq (.var 0) (.cst (.int 62))) (.cons (.ret (.cst (.int 43))) .nil) .nil) (.cons (.ret (.cst (.int 47))) .nil)))))}
noncomputable def eR:Fn:={bW:=[0],bL:=[],cb:=[],cj:=none,size:=1,body:=(.cons (.ret (.comp (.var 1) (.cons (.one 1) (.call (.cst (.bn .range)) (.cons (.cst (.int 6)) .nil) .nil) (.cons (.cmp .eq (.bin .mod (.bin .fdiv (.var 0) (.bin .pow (.cst (.int 2)) (.var 1))) (.cst (.int 2))) (.cst (.int 1))) .nil) .nil))) .nil)}
noncomputable def cX (k:Nat):List Nat:=(List.range 6).filter λq=>k.testBit q
noncomputable def DG (k:Nat):List Nat:=(List.range 6).filter λq=>k / 2 ^ q % 2==1
theorem NL (k:Nat):DG k=cX k:=filter_congr λq _=>by rw [Nat.testBit_eq_decide_div_mod_eq]; rfl
theorem Q9:((List.range 64).map λk=>λ(r:List Fn) (fuel n:Nat) (C:ai)=>aC (PP (dt::r)) fuel (n+1) 17 [dN k] [] C)=w0 (λk=>λ(r:List Fn) (fuel n:Nat) (C:ai)=>.ok (.int (ba k)) ⟨[some (dN k)],C⟩) (List.range 64):=by kernel_rfl
theorem Q8:((List.range 64).map λk=>λ(r0:Fn) (r:List Fn) (n:Nat) (C:ai)=>aC (PP (r0::eR::r)) 10000 (n+1) 18 [dN k] [] C)=w0 (λk=>λ(r0:Fn) (r:List Fn) (n:Nat) (C:ai)=>.ok (.lst ((nz (DG k)).map .int)) ⟨[some (dN k)],C⟩) (List.range 64):=by kernel_rfl
theorem Py {k:Nat} (h:k<64) (r:List Fn) (fuel n:Nat) (C:ai):aC (PP (dt::r)) fuel (n+1) 17 [dN k] [] C=.ok (.int (ba k)) ⟨[some (dN k)],C⟩:=
 congrFun (congrFun (congrFun (congrFun (List.map_inj_left.mp (Q9.trans (w2 _ _)) k (mem_range.mpr h)) r) fuel) n) C
theorem NJ {k:Nat} (h:k<64) (r0:Fn) (r:List Fn) (n:Nat) (C:ai):aC (PP (r0::eR::r)) 10000 (n+1) 18 [dN k] [] C=.ok (.lst ((nz (cX k)).map .int)) ⟨[some (dN k)],C⟩:=by
 rw [<-NL]
 exact congrFun (congrFun (congrFun (congrFun (List.map_inj_left.mp (Q8.trans (w2 _ _)) k (mem_range.mpr h)) r0) r) n) C
theorem SH : ∀ a<64,∀ b<64,ba a=ba b->a=b:=by decide +kernel
section
variable {r:List Fn} {fuel n:Nat} {m:List (Option D)} {C:ai} {cl:Calls} {v w:Nat} {fs:List Nat}
theorem Pz (aw:cl=⟨aC (PP (dt::r)) fuel (n+1),fuel⟩) (hf:fuel≠0) (hv:v=m.length) (hw:m[w]?=some (some (.lst ((nz fs).map .int)))) (b8 : ∀ f∈fs,f<64) (hl:fs.length<1000) :
  ev (PP (dt::r)) cl (.comp (.call (.cst (.fn 17)) (.cons (.var v) .nil) .nil) (.cons (.one v) (.var w) .nil .nil)) ⟨m,C⟩=.ok (.lst ((fs.map ba).map .int)) ⟨m,C⟩:=by
 subst aw hv
 have:=rF (P:=PP (dt::r)) (cl:=⟨aC (PP (dt::r)) fuel (n+1),fuel⟩) (elt:=.call (.cst (.fn 17)) (.cons (.var m.length) .nil) .nil) (ifs:=.nil) (it:=.var w) (k:=m.length) (m:=m) (C:=C) (xs:=fs) (g:=dN) (f:=λk=>.int (ba k)) (p:=λ_=>true) hf rfl (au hw) (by show some ((nz fs).map D.int)=_; unfold nz; rw [map_map]; rfl) (lt_trans hl (by decide)) rfl (λ_ _=>rfl)
  (λk hk _=>ma (k:=17) (aa:=⟨[some (dN k)],C⟩) rfl (bT (au yO)) (Py (b8 k hk) r fuel n C))
 rw [this,filter_eq_self.mpr (λ_ _=>rfl),map_map]; rfl
end
section
variable {P:aP} {cl:Calls} {st aa ae:St} {m:List (Option D)} {C:ai}
theorem R4 {a b:E} {x:D} {o:ak D} (ha:ev P cl a st=.ok x aa) (h:bA aa.C x=some true) (k:ev P cl b aa=o):ev P cl (.and a b) st=o:=by
 refine (aQ ha).trans ?_; rw [h]; exact k
theorem R3 {a b:E} {x:D} (ha:ev P cl a st=.ok x aa) (h:bA aa.C x=some false):ev P cl (.and a b) st=.ok x aa:=by
 refine (aQ ha).trans ?_; rw [h]
theorem jA {C C':ai} {i:Nat} {c:Ch} (h:C <+: C') (hc:C[i]?=some c):C'[i]?=some c:=by obtain ⟨E,rfl⟩:=h; exact fQ hc
theorem AF {e:E} {d:D} {n:Nat} (hf:cl.fuel≠0) (he:ev P cl e st=.ok d st) (hn:tg st.C d=some (n:Int)):ev P cl (.call (.cst (.bn .len)) (.cons e .nil) .nil) st=.ok (dN n) st:=
 c6 (g:=.bn .len) rfl (bT he) ((c5 hf).trans (by show aK (tg st.C d) _=_; rw [hn]; rfl))
theorem So {l:List Nat}:bK C (.lst ((nz l).map .int))=some ((nz l).map .int):=rfl
end
section
variable {r:List Fn} {n:Nat} {m:List (Option D)} {C C1:ai} {cl:Calls} {e1 e2:E} {xs ys:List Nat}
theorem pk {a sk:D} (aw:cl=⟨aC (PP r) 10000 (n+2),10000⟩) (h1:ev (PP r) cl e1 ⟨m,C⟩=.ok a ⟨m,C⟩) (h2:ev (PP r) cl e2 ⟨m,C⟩=.ok sk ⟨m,C1⟩) (ha:bK C1 a=some ((nz xs).map .int)) (hs:aT C1 sk=some ((nz ys).map .int)) (hl:xs.length<1000) :
  ev (PP r) cl (.call (.cst (.fn 7)) (.cons e1 (.cons e2 .nil)) .nil) ⟨m,C⟩=.ok (.lst ((nz (xs.filter λx=>!decide (x∈ys))).map .int)) ⟨m,MF C1 sk .none 0⟩:=by
 subst aw
 obtain ⟨m',e⟩:=A1 (r:=r) (fuel:=10000) (n:=n) (C:=C1) (a:=a) (sk:=sk) (xs:=nz xs) (ys:=nz ys) (succ_ne_zero _) ha hs (by rw [fI]; exact lt_trans hl (by decide)) (by rw [fI]; exact le_of_lt (lt_trans hl (by decide)))
 rw [Iw] at e
 exact ma (k:=7) (aa:=⟨m',MF C1 sk .none 0⟩) rfl (kR h1 h2) e
theorem iB {sk:D}:C <+: MF C sk .none 0:=prefix_append _ _
end
theorem CU : ∀ j<6,j=0\/j=1\/j=2\/j=3\/j=4\/j=5:=by decide
theorem F6 {α:Type} {m E:List α} {i:Nat} {c:α} (h:m[i]?=some c):(m++E)[i]?=some c:=by rw [List.getElem?_append_left (List.getElem?_eq_some_iff.mp h).1,h]
theorem F7 {α:Type} {m R:List α} {d:α} {v:Nat} (h:v=m.length):(m++d::R)[v]?=some d:=h ▸ yO
theorem RO {α:Type} {m:List α} {c d:α} {R:List α} {v:Nat} (h:v=m.length):(m++c::d::R)[v+1]?=some d:=by
 rw [h,getElem?_append_right (le_add_right _ _),add_sub_cancel_left]; rfl
section
variable {P:aP} {cl:Calls} {m:List (Option D)} {C:ai} {v:Nat}
noncomputable abbrev iK (n:Int):E:=.call (.cst (.bn .range)) (.cons (.cst (.int n)) .nil) .nil
theorem rL (hf:cl.fuel≠0) {st:St}:ev P cl (iK 6) st=.ok (.bZ 0 6) st:=c6 (g:=.bn .range) (ds:=[.int 6]) rfl rfl ((c5 hf).trans rfl)
theorem Hc {elt:E} {ifs:Es} {f:Nat->D} {p:Nat->Bool} (hf:cl.fuel≠0) (hv:v=m.length) (ht : ∀ j,j<6->ck P cl ifs ⟨m++[some (dN j)],C⟩=.ok (.bool (p j)) ⟨m++[some (dN j)],C⟩) (he : ∀ j,j<6->p j=true->ev P cl elt ⟨m++[some (dN j)],C⟩=.ok (f j) ⟨m++[some (dN j)],C⟩) :
  ev P cl (.comp elt (.cons (.one v) (iK 6) ifs .nil)) ⟨m,C⟩=.ok (.lst (((List.range 6).filter p).map f)) ⟨m,C⟩:=
 rF (xs:=List.range 6) (g:=dN) hf hv (rL hf) rfl (le_of_ble_eq_true rfl) rfl (λj h=>ht j (mem_range.mp h)) λj h=>he j (mem_range.mp h)
theorem Hd {elt:E} {f:Nat->D} (hf:cl.fuel≠0) (hv:v=m.length) (he : ∀ j,j<6->∀ C2,C <+: C2->∃ C3,ev P cl elt ⟨m++[some (dN j)],C2⟩=.ok (f j) ⟨m++[some (dN j)],C3⟩/\C2 <+: C3) :
  ∃ C',ev P cl (.comp elt (.cons (.one v) (iK 6) .nil .nil)) ⟨m,C⟩=.ok (.lst ((List.range 6).map f)) ⟨m,C'⟩/\C <+: C':=
 Hj (xs:=List.range 6) (g:=dN) hf hv (rL hf) rfl (le_of_ble_eq_true rfl) (λ_ _ _ _=>rfl) λj h=>he j (mem_range.mp h)
theorem H7 (hf:cl.fuel≠0) {st:St}:ev P cl (iK 8) st=.ok (.bZ 0 8) st:=c6 (g:=.bn .range) (ds:=[.int 8]) rfl rfl ((c5 hf).trans rfl)
theorem Iv (hf:cl.fuel≠0) (hv:v=m.length) {w:Nat} (h4:m[4]?=some (some (dN w))) :
  ev P cl (.comp (.bin .mod (.bin .fdiv (.var 4) (.bin .pow (.cst (.int 64)) (.bin .sub (.cst (.int 7)) (.var v)))) (.cst (.int 64))) (.cons (.one v) (iK 8) .nil .nil)) ⟨m,C⟩=.ok (.lst ((nz (jO w)).map .int)) ⟨m,C⟩:=by
 have:=rF (P:=P) (cl:=cl) (elt:=.bin .mod (.bin .fdiv (.var 4) (.bin .pow (.cst (.int 64)) (.bin .sub (.cst (.int 7)) (.var v)))) (.cst (.int 64))) (ifs:=.nil) (it:=iK 8) (k:=v) (m:=m) (C:=C) (xs:=List.range 8) (g:=dN) (f:=λk=>dN (w / 64 ^ (7 - k) % 64)) (p:=λ_=>true) hf hv (H7 hf) rfl (le_of_ble_eq_true rfl) rfl (λ_ _=>rfl) λk hk _=>by
  have hk:=mem_range.mp hk
  have hp:0<64 ^ (7 - k):=pow_pos (by decide)
  have KH:64 ^ (7 - k)<2 ^ 64:=lt_of_le_of_lt (Nat.pow_le_pow_right (by decide) (sub_le 7 k)) (by decide)
  exact bw (x:=dN (w / 64 ^ (7 - k))) (y:=dN 64) (bw (x:=dN w) (y:=dN (64 ^ (7 - k))) (au (F6 h4)) (bw (x:=dN 64) (y:=dN (7 - k)) rfl (bw (x:=dN 7) (y:=dN k) rfl (au (F7 hv)) (tI (le_of_lt_succ hk))) (xe (by decide) (le_trans (sub_le 7 k) (by decide)))) (DJ hp KH)) rfl (qr (by decide))
 rw [this,filter_eq_self.mpr (λ_ _=>rfl)]
 unfold jO nz
 rw [map_map,map_map]; rfl
theorem H0 {e p:E} {a b:Nat} (h1:ev P cl e ⟨m,C⟩=.ok (dN a) ⟨m,C⟩) (h2:ev P cl p ⟨m,C⟩=.ok (dN b) ⟨m,C⟩) (hb:b<60):ev P cl (.bin .mod (.bin .fdiv e (.bin .pow (.cst (.int 2)) p)) (.cst (.int 2))) ⟨m,C⟩=.ok (dN (a / 2 ^ b % 2)) ⟨m,C⟩:=
 bw (x:=dN (a / 2 ^ b)) (y:=dN 2) (bw (x:=dN a) (y:=dN (2 ^ b)) h1 (bw (x:=dN 2) (y:=dN b) rfl h2 (xe (by decide) (le_of_lt (lt_trans hb (by decide))))) (DJ (pow_pos (by decide)) (Nat.pow_lt_pow_right (by decide) (lt_trans hb (by decide))))) rfl (qr (by decide))
theorem y0 {a b:Nat}:decide (a / 2 ^ b % 2=1)=a.testBit b:=by rw [Nat.testBit_eq_decide_div_mod_eq]
theorem RS {a b:Nat}:decide (a / 2 ^ b % 2=0)=!a.testBit b:=by
 rw [<-y0,Bool.eq_iff_iff,decide_eq_true_eq,not_eq_true',decide_eq_false_iff_not]
 exact ⟨λh z=>(by rw [h] at z; exact absurd z (by decide)),λh=>(Nat.mod_two_eq_zero_or_one _).resolve_right h⟩
theorem R5 {e:E} {j:Nat} (hf:cl.fuel≠0) (hj:j<6) (he:ev P cl e ⟨m,C⟩=.ok (dN j) ⟨m,C⟩):ev P cl (.call (.cst (.bn .list)) (.cons (.call (.cst (.bn .range)) (.cons e (.cons (.cst (.int 6)) .nil)) .nil) .nil) .nil) ⟨m,C⟩=.ok (.lst ((nz (range' j (6 - j))).map .int)) ⟨m,C⟩:=by
 have hs : ∀ j:Nat,j<6->(small (j:Int)&&small 6)=true/\oD (j:Int) 6=true/\eD (j:Int) 6=(nz (range' j (6 - j))).map .int:=λj hj=>by
  rcases CU j hj with rfl|rfl|rfl|rfl|rfl|rfl<;>exact ⟨by decide +kernel,by decide +kernel,rfl⟩
 obtain ⟨h1,h2,h3⟩:=hs j hj
 refine c6 (g:=.bn .list) rfl (bT (d:=.bZ j 6) (aa:=⟨m,C⟩) (c6 (g:=.bn .range) rfl (kR he (d2:=.int 6) rfl) ((c5 hf).trans ?_))) ((c5 hf).trans ?_)
 ·show bp (small (j:Int)&&small 6) _=_
  rw [h1]; rfl
 ·show bp (oD (j:Int) 6) (.ok (.lst (eD (j:Int) 6)) _)=_
  rw [h2,h3]; rfl
end
section
variable {r0:Fn} {r:List Fn} {n:Nat} {m:List (Option D)} {C:ai} {cl:Calls} {e:E}
theorem pq {k:Nat} (aw:cl=⟨aC (PP (r0::eR::r)) 10000 (n+1),10000⟩) (h:ev (PP (r0::eR::r)) cl e ⟨m,C⟩=.ok (dN k) ⟨m,C⟩) (hk:k<64):ev (PP (r0::eR::r)) cl (.call (.cst (.fn 18)) (.cons e .nil) .nil) ⟨m,C⟩=.ok (.lst ((nz (cX k)).map .int)) ⟨m,C⟩:=by
 subst aw
 exact ma (k:=18) (aa:=⟨[some (dN k)],C⟩) rfl (bT h) (NJ hk r0 r n C)
theorem qj {k q:Nat}:q∈cX k↔q<6/\k.testBit q=true:=by unfold cX; rw [mem_filter,mem_range]
theorem NM {k:Nat}:(cX k).length<=6:=length_filter_le _ _
end
theorem Ia {r:List Fn} {n:Nat} {m:List (Option D)} {C:ai} {cl:Calls} {e:E} {a:D} {os:List Nat} (aw:cl=⟨aC (PP r) 10000 (n+3),10000⟩) (he:ev (PP r) cl e ⟨m,C⟩=.ok a ⟨m,C⟩) (ha:aT C a=some ((nz os).map .int)) (ho : ∀ o∈os,o<256) (hl:os.length<1000) :
  ∃ ob C',ev (PP r) cl (.call (.cst (.fn 3)) (.cons (.call (.cst (.bn .bytes)) (.cons e .nil) .nil) .nil) .nil) ⟨m,C⟩=.ok (.bytes ob) ⟨m,C'⟩/\ob.map (λc:UInt8=>(c.toNat:Int))=bP os/\C <+: C':=by
 refine cps λQQ kQ=>?_
 obtain ⟨tb,h1,h2⟩:=rt (xs:=nz os) λx hx=>by obtain ⟨o,h,rfl⟩:=mem_map.mp hx; exact ⟨natCast_nonneg _,ofNat_lt.mpr (ho o h)⟩
 have h3:tb.map (·.toNat)=os:=Dx (by unfold nz; rw [map_map]; exact h2)
 have hf:cl.fuel≠0:=by rw [aw]; exact succ_ne_zero _
 have Cd:tb.length=os.length:=by rw [<-h3,length_map]
 obtain ⟨ob,m',g,e1,e2⟩:=Gf (r:=r) (fuel:=10000) (n:=n) (C:=C) (tb:=tb) (by decide) (by rw [Cd]; exact le_trans (add_le_add_right (Nat.mul_le_mul_left 2 (le_of_lt hl)) 8) (by decide))
 rw [h3] at e1
 have e3:ev (PP r) cl (.call (.cst (.bn .bytes)) (.cons e .nil) .nil) ⟨m,C⟩=.ok (.bytes tb) ⟨m,C⟩:=c6 (g:=.bn .bytes) rfl (bT he) (GH hf ha (mG _) h1 (by rw [Cd]; exact le_of_lt (lt_trans hl (by decide))))
 refine kQ ⟨ob,C++[g],?_,e1,prefix_append _ _⟩
 subst aw
 exact ma (k:=3) (aa:=⟨m',C++[g]⟩) rfl (bT e3) e2
noncomputable def fr (n:Nat) (f:Nat->Option D):List (Option D):=(List.range n).map f
noncomputable def uf (f:Nat->Option D) (i:Nat) (d:D):Nat->Option D:=λj=>if j=i then some d else f j
section
variable {n i:Nat} {f:Nat->Option D} {d:D}
theorem iN:n=(fr n f).length:=by unfold fr; rw [length_map,List.length_range]
theorem md (hi:i<n):(fr n f)[i]?=some (f i):=by unfold fr; rw [getElem?_map,getElem?_range hi]; rfl
theorem vo (hi:n<=i):(fr n f)[i]?=none:=getElem?_eq_none (by rw [<-iN]; exact hi)
theorem pC (hi:i<n):(fr n f).set i (some d)=fr n (uf f i d):=List.ext_getElem? λj=>by
 by_cases e:j=i
 ·subst e; rw [List.getElem?_set_self (by rw [<-iN]; exact hi),md hi]; exact congrArg some (if_pos rfl).symm
 ·rw [List.getElem?_set_ne (Ne.symm e)]
  by_cases h:j<n
  ·rw [md h,md h]; exact congrArg some (if_neg e).symm
  ·rw [vo (le_of_not_lt h),vo (le_of_not_lt h)]
theorem r8:fr n f++[some d]=fr (n+1) (uf f n d):=by
 unfold fr
 rw [List.range_succ,map_append]
 refine congr (congrArg _ (List.map_congr_left λx h=>(if_neg (ne_of_lt (mem_range.mp h))).symm)) ?_
 show [some d]=[uf f n d n]
 exact congrArg (· :: []) (if_pos rfl).symm
theorem IE {m:List (Option D)} (h:n=m.length):m=fr n λi=>(m[i]?).join:=List.ext_getElem? λj=>by
 by_cases e:j<n
 ·rw [md e,getElem?_eq_getElem (by rw [<-h]; exact e)]; rfl
 ·rw [vo (le_of_not_lt e),getElem?_eq_none (by rw [<-h]; exact le_of_not_lt e)]
theorem o4 (hi:i<n):gv (.one i) d (fr n f)=some (fr n (uf f i d)):=by
 rw [<-pC hi]; exact if_pos (by rw [<-iN]; exact hi)
variable {P:aP} {cl:Calls} {e:E} {r:Ss} {C C':ai} {o:ak Fl} {f':Nat->Option D} {ds:List D}
theorem bc (hi:ble (i+1) n=true) (h:f i=some d):ev P cl (.var i) ⟨fr n f,C⟩=.ok d ⟨fr n f,C⟩:=au ((md (lb hi)).trans (congrArg some h))
theorem vd (h:ev P cl e ⟨fr n f,C⟩=.ok d ⟨fr n f,C'⟩) (hi:ble (i+1) n=true):ex P cl (.aL i false e) ⟨fr n f,C⟩=.ok .next ⟨fr n (uf f i d),C'⟩:=by
 rw [<-pC (lb hi)]; exact bM h (by rw [<-iN]; exact lb hi)
theorem iw (h:ev P cl e ⟨fr n f,C⟩=.ok d ⟨fr n f,C'⟩) (hi:ble (i+1) n=true) (k:aq P cl r ⟨fr n (uf f i d),C'⟩=o):aq P cl (.cons (.aL i false e) r) ⟨fr n f,C⟩=o:=aZ (vd h hi) k
theorem AQ (h:ev P cl e ⟨fr n f,C⟩=.ok (.lst ds) ⟨fr n f,C'⟩) (hi:ble (i+1) n=true) (hf:cD e=true):ex P cl (.aL i true e) ⟨fr n f,C⟩=.ok .next ⟨fr n (uf f i (.loc C'.length)),C'++[.list ds]⟩:=by
 rw [<-pC (lb hi)]; exact rP h (by rw [<-iN]; exact lb hi) hf
theorem EB (h:ev P cl e ⟨fr n f,C⟩=.ok (.lst ds) ⟨fr n f,C'⟩) (hi:ble (i+1) n=true) (hf:cD e=true) (k:aq P cl r ⟨fr n (uf f i (.loc C'.length)),C'++[.list ds]⟩=o):aq P cl (.cons (.aL i true e) r) ⟨fr n f,C⟩=o:=aZ (AQ h hi hf) k
theorem Ik {j:Nat} {d2:D} (hc:cl.fuel≠0) (h:ev P cl e ⟨fr n f,C⟩=.ok (.tup [d,d2]) ⟨fr n f,C'⟩) (hi:ble (i+1) n=true) (hj:ble (j+1) n=true):ex P cl (.o3 [i,j] e) ⟨fr n f,C⟩=.ok .next ⟨fr n (uf (uf f i d) j d2),C'⟩:=by
 show (if (cl.fuel==0)=true then _ else _)=_
 rw [if_neg (by rw [beq_false_of_ne hc]; exact Bool.false_ne_true)]
 refine (aQ h).trans ?_
 show ((dE i d ⟨fr n f,C'⟩).bind λ_ aa=>(dE j d2 aa).bind λ_ aa=>.ok () aa).bind (λ_ ae=>(.ok .next ae:ak Fl))=_
 rw [jD (by rw [<-iN]; exact lb hi),pC (lb hi)]
 show ((dE j d2 ⟨fr n (uf f i d),C'⟩).bind λ_ aa=>.ok () aa).bind _=_
 rw [jD (by rw [<-iN]; exact lb hj),pC (lb hj)]; rfl
theorem vn {α:Type} {g:α->D} {aS:ai->ai->Bool} {t:T} {body:St->ak Fl} {I:List α->St->Prop} (step : ∀ x xs m C,I (x::xs) ⟨m,C⟩->∃ m1 aa,gv t (g x) m=some m1/\body ⟨m1,C⟩=.ok .next aa/\aS C aa.C=true/\I xs aa) (xs:List α) : ∀ st,I xs st->∃ aB,forLoop aS t body (xs.map g) st=.ok .next aB/\I [] aB:=by
 induction xs with
 |nil=>exact λst h=>⟨st,rfl,h⟩
 |cons x xs ih=>
  intro st h
  obtain ⟨m1,aa,h1,h2,h3,h4⟩:=step x xs st.m st.C h
  obtain ⟨aB,e,h5⟩:=ih aa h4
  exact ⟨aB,(fV h1 h2 h3).trans e,h5⟩
end
section
variable {P:aP} {cl:Calls} {n:Nat} {f:Nat->Option D} {C:ai}
theorem zR {elt:E} {ifs:Es} {g:Nat->D} {p:Nat->Bool} (hf:cl.fuel≠0) (ht : ∀ j,j<6->ck P cl ifs ⟨fr (n+1) (uf f n (dN j)),C⟩=.ok (.bool (p j)) ⟨fr (n+1) (uf f n (dN j)),C⟩) (he : ∀ j,j<6->p j=true->ev P cl elt ⟨fr (n+1) (uf f n (dN j)),C⟩=.ok (g j) ⟨fr (n+1) (uf f n (dN j)),C⟩) :
  ev P cl (.comp elt (.cons (.one n) (iK 6) ifs .nil)) ⟨fr n f,C⟩=.ok (.lst (((List.range 6).filter p).map g)) ⟨fr n f,C⟩:=
 Hc hf iN (λj hj=>by rw [r8]; exact ht j hj) λj hj hp=>by rw [r8]; exact he j hj hp
theorem Hf {elt:E} {g:Nat->D} (hf:cl.fuel≠0) (he : ∀ j,j<6->∀ C2,C <+: C2->∃ C3,ev P cl elt ⟨fr (n+1) (uf f n (dN j)),C2⟩=.ok (g j) ⟨fr (n+1) (uf f n (dN j)),C3⟩/\C2 <+: C3) :
  ∃ C',ev P cl (.comp elt (.cons (.one n) (iK 6) .nil .nil)) ⟨fr n f,C⟩=.ok (.lst ((List.range 6).map g)) ⟨fr n f,C'⟩/\C <+: C':=
 Hd hf iN λj hj C2 hp=>by rw [r8]; exact he j hj C2 hp
theorem Hg {α:Type} {elt it:E} {ifs:Es} {y:D} {gx g:α->D} {p:α->Bool} {xs:List α} {C0:ai} (hf:cl.fuel≠0) (hit:ev P cl it ⟨fr n f,C0⟩=.ok y ⟨fr n f,C⟩) (hi:bF C y=some (xs.map gx)) (hl:xs.length<aF) (hc : ∀ A B,C <+: A->A <+: B->aY A B y=true)
  (ht : ∀ x∈xs,∀ C2,C <+: C2->∃ C3,ck P cl ifs ⟨fr (n+1) (uf f n (gx x)),C2⟩=.ok (.bool (p x)) ⟨fr (n+1) (uf f n (gx x)),C3⟩/\C2 <+: C3/\(p x=true->ev P cl elt ⟨fr (n+1) (uf f n (gx x)),C3⟩=.ok (g x) ⟨fr (n+1) (uf f n (gx x)),C3⟩)) :
  ∃ C',ev P cl (.comp elt (.cons (.one n) it ifs .nil)) ⟨fr n f,C0⟩=.ok (.lst ((xs.filter p).map g)) ⟨fr n f,C'⟩/\C <+: C':=by
 obtain ⟨m,hm⟩ : ∃ m,m=fr n f:=⟨_,rfl⟩
 have hk:n=m.length:=by rw [hm]; exact iN
 have hx : ∀ x,m++[some (gx x)]=fr (n+1) (uf f n (gx x)):=λx=>by rw [hm]; exact r8
 rw [<-hm] at hit ⊢
 clear hm
 subst hk
 obtain ⟨C',e,hp⟩:=nN (G:=(· <+: ·)) (t:=.one m.length) (g:=gx) (bd:=λx=>[some (gx x)]) (F:=λx=>if p x then [g x] else []) (tests:=λae=>ck P cl ifs ae) (inner:=λacc ae=>dM P cl (λaH=>ev P cl elt aH) .nil acc ae) (aS:=λA B=>aY A B y) (m:=m) (C:=C) (L:=1) (xs:=xs) (acc:=[])
  (λA=>prefix_refl A) (λ_ _ _=>List.IsPrefix.trans) hc (prefix_refl C) (λ_ _ _=>uH) (λx _=>xd (p x)) (λx mC aR C2 hG d5=>by
   obtain ⟨C3,e3,h3,h4⟩:=ht x mC C2 hG
   unfold q0 bD
   rw [hx]
   dsimp only
   rw [e3]
   induction hp:p x with
   |false=>exact ⟨C3,by show ak.ok (D.lst aR) _=.ok (.lst (aR++[])) _; rw [append_nil],h3⟩
   |true=>exact ⟨C3,pv (h4 hp) (tw d5 (by rw [length_nil,zero_add]; exact hl)),h3⟩)
 refine ⟨C',?_,hp⟩
 show (if (cl.fuel==0)=true then _ else _)=_
 rw [if_neg (by rw [beq_false_of_ne hf]; exact Bool.false_ne_true),hit]
 show (match bF C y with|some items=>_|none=>_)=_
 rw [hi]
 dsimp only
 rw [e,rW]; rfl
end
noncomputable abbrev xr (rows:List (List Nat)):List D:=rows.map λl=>.lst ((nz l).map .int)
theorem sS {rows:List (List Nat)} {k:Nat} {l:List Nat} (h:rows[k]?=some l) (hk:k<1000) {C:ai}:i6 C (.lst (xr rows)) (dN k)=some (.lst ((nz l).map .int)):=by
 rw [lp]
 exact Cp hk (by rw [getElem?_map,h]; rfl)
theorem pD {α:Type} {f:Nat->α} {k:Nat} (hk:k<6):((List.range 6).map f)[k]?=some (f k):=by rw [getElem?_map,getElem?_range hk]; rfl
theorem kg {l:List Nat} {x:Int}:x∈nz l ↔ ∃ k∈l,(k:Int)=x:=mem_map
theorem kh {l:List Nat} {k:Nat}:(k:Int)∈nz l↔k∈l:=kg.trans ⟨λ⟨_,h,e⟩=>ofNat.inj e ▸ h,λh=>⟨k,h,rfl⟩⟩
theorem qn {l:List Nat} (h:l.Nodup):(nz l).Nodup:=by
 induction l with
 |nil=>exact nodup_nil
 |cons a l ih=>
  obtain ⟨h1,h2⟩:=nodup_cons.mp h
  exact nodup_cons.mpr ⟨λz=>h1 (kh.mp z),ih h2⟩
theorem PJ {k:Nat} (h:k<6):small (k:Int)=true:=by
 unfold small
 rw [natAbs_natCast]; exact decide_eq_true (lt_trans h (by decide))
theorem NC {l:List Int} {k:List Nat} (h : ∀ x∈l,x∈nz k) : ∃ l',l=nz l':=by
 induction l with
 |nil=>exact ⟨[],rfl⟩
 |cons a l ih=>
  obtain ⟨l',rfl⟩:=ih λx hx=>h x (.tail _ hx)
  obtain ⟨b,_,rfl⟩:=kg.mp (h a (.head _))
  exact ⟨b::l',rfl⟩
theorem Nv {l:List Nat} (h:(nz l).Nodup):l.Nodup:=by
 induction l with
 |nil=>exact nodup_nil
 |cons a l ih=>
  obtain ⟨h1,h2⟩:=nodup_cons.mp h
  exact nodup_cons.mpr ⟨λz=>h1 (kh.mpr z),ih h2⟩
section
variable {P:aP} {cl:Calls} {st aa ae:St} {a b:E} {x y:D}
theorem Ib (h1:ev P cl a st=.ok x aa) (h2:ev P cl b aa=.ok y ae):ev P cl (.tup (.cons a (.cons b .nil))) st=.ok (.tup [x,y]) ae:=by
 show (match bE P cl (.cons a (.cons b .nil)) st with
  |.ok (.lst ds) aa=>if ds.length<=aF then (ak.ok (D.tup ds) aa:ak D) else .fail
  |.exc x aa=>.exc x aa
  |_=>.fail)=_
 rw [kR h1 h2]; exact if_pos (le_of_ble_eq_true rfl)
theorem Ij {z:X} (h:ev P cl a st=.exc z aa):ex P cl (.expr a) st=.exc z aa:=by
 show (ev P cl a st).bind _=_
 rw [h]; rfl
end
theorem xP {m m':List (Option D)} {C C':ai} (h:(⟨m,C⟩:Mine.Lake.St)=⟨m',C'⟩):m=m'/\C=C':=⟨congrArg Mine.Lake.St.m h,congrArg Mine.Lake.St.C h⟩
theorem fj.back {sc nd:Int->List Int} (h : ∀ x j,j∈sc x->x∈nd j) {l:List Int} (T:dy nd l) {u v:Int} (p:fj sc u v):v∈l->u∈l:=by
 induction p with
 |one a=>exact λhv=>T.closed hv (h _ _ a)
 |more _ a ih=>exact λhv=>ih (T.closed hv (h _ _ a))
theorem fj.last {sc:Int->List Int} {u v:Int} (p:fj sc u v) : ∃ w,v∈sc w/\(w=u\/fj sc u w):=by
 induction p using fj.casesOn with
 |one q=>exact ⟨u,q,.inl rfl⟩
 |more p2 q=>exact ⟨_,q,.inr p2⟩
theorem dy.Nr {sc nd:Int->List Int} (h : ∀ x j,j∈sc x->x∈nd j) {u:Int} (p:fj sc u u) : ∀ l:List Int,dy nd l->u ∉ l:=λl=>by
 induction l with
 |nil=>exact λ_=>not_mem_nil
 |cons a l ih=>
  intro T hu
  rcases mem_cons.mp hu with rfl|hu
  ·obtain ⟨w,q,hw⟩:=p.last
   exact T.2.1 (hw.elim (λe=>e ▸ T.1 _ (h _ _ q)) λp2=>fj.back h T.2.2 p2 (T.1 _ (h _ _ q)))
  ·exact ih T.2.2 hu
theorem dy.none {sc:Int->List Int} {S:Int->Prop} (hS : ∀ k,S k->∃ q,S q/\k∈sc q) : ∀ l:List Int,dy sc l->(∀ k,S k->k∈l)->∀ k,¬S k:=λl=>by
 induction l with
 |nil=>exact λ_ h k hk=>nomatch h k hk
 |cons a l ih=>
  intro T h
  have fZ : ∀ q,S q->∀ k∈sc q,k∈l:=λq hq k hk=>(mem_cons.mp (h q hq)).elim (λe=>T.1 k (e ▸ hk)) λhl=>T.2.2.closed hl hk
  refine ih T.2.2 λk hk=>?_
  obtain ⟨q,hq,sD⟩:=hS k hk
  exact fZ q hq k sD
noncomputable abbrev r2:List Fn:=[zt,zr,uM]
noncomputable abbrev Q2:aP:=PP (dt::eR::r2)
theorem RM:P2=Q2:=rfl
theorem cl2_0 {cl:Calls} {n:Nat} (h:cl=⟨aC Q2 10000 n,10000⟩):cl.fuel≠0:=by rw [h]; exact succ_ne_zero _
section
variable {r:List Fn} {fuel n:Nat} {C0:ai} {ks:List Int} {lc:Int->Nat} {sc nd:Int->List Int} {i:Nat} {cl:Calls} {mk:Option D->List Int->List (Option D)}
structure yy (mk:Option D->List Int->List (Option D)) (a:Nat):Prop where
 s : ∀ x c,(mk x c)[2]?=some (some (.inst 2 a))
 c : ∀ x c,(mk x c)[5]?=some (some (.lst (c.map .int)))
 b : ∀ d c,(mk (some d) c)[6]?=some (some d)
 l : ∀ x c,(mk x c).length=7
 sc : ∀ x c c',(mk x c).set 5 (some (.lst (c'.map .int)))=mk x c'
 sb : ∀ x c d,(mk x c).set 6 (some d)=mk (some d) c
noncomputable def Q5:Ss:=(.cons (.aL 6 false (.a9 (.var 2) .iO .nil)) (.cons (.expr (.eU (.var 2) .done .nil (.var 6))) (.cons (.aL 5 false (.bin .add (.var 5) (.call (.cst (.bn .list)) (.cons (.var 6) .nil) .nil))) .nil)))
theorem Q6 (aw:cl=⟨aC (PP r) fuel (n+1),fuel⟩) (hf:fuel≠0) (bx:ks.length<64) (G:Gr nd ks sc) (Q:yy mk C0.length) : ∀ (k:Nat) {C:ai} {dn rs:List Int} {np:Int->Int} {p:Int} {x:Option D},ks.length<k+dn.length->aU C0 C (.loc i) p p ks lc np sc->cA C0 C ks lc i rs->dH nd ks dn [] rs np->
  ∃ C' pe x' eC p',whileLoop (λaa=>ev (PP r) cl (.a9 (.var 2) .lr .nil) aa) (λaa=>aq (PP r) cl Q5 aa) (λaa=>aq (PP r) cl .nil aa) k ⟨mk x dn.reverse,C⟩=.ok .next ⟨mk x' pe.reverse,C'⟩/\aU C0 C' (.loc i) p' p' ks lc eC sc/\dH nd ks pe [] [] eC:=λk=>by
 induction k with
 |zero=>
  intro C dn rs np p x hk S R W
  rw [zero_add] at hk
  exact absurd (cw W.ed.nodup W.iI) (not_le.mpr hk)
 |succ k ih=>
  intro C dn rs np p x hk S R W
  obtain ⟨m0,e0⟩:=FD (r:=r) (n:=n) hf S R
  rw [decide_eq_false (Int.lt_irrefl p),Bool.false_or] at e0
  have ea:ev (PP r) cl (.a9 (.var 2) .lr .nil) ⟨mk x dn.reverse,C⟩=.ok (.bool (!rs.isEmpty)) ⟨mk x dn.reverse,C⟩:=by
   subst aw
   exact kO (aa:=⟨m0,C⟩) (au (Q.s _ _)) (ir S.top).2.2.2.2.1 (ds:=[]) rfl e0
  induction rs using List.casesOn with
  |nil=>exact ⟨C,dn,x,np,p,t7 ea rfl,S,W⟩
  |cons a rs=>
   have sO : ∀ q∈a::rs,q∈ks:=λq h=>((W.gP q).mp h).1
   obtain ⟨m1,C1,e1,S1,R1⟩:=Bp (r:=r) (n:=n) hf S R sO
   have W1:dH nd ks dn ((a::rs)++[]) [] (oB np (a::rs)):=W.out λq=>by rw [append_nil]; exact ⟨.inr,λh=>h.resolve_left λz=>nomatch z⟩
   obtain ⟨m2,C2,Sn,SF,e2,S2,R2,W2⟩:=Ap (r:=r) (n:=n) hf G bx S1 R1 W1 (by rw [append_nil]; exact W.mV)
   have hl:(dn.reverse++(a::rs)).length<=ks.length:=by
    have:=cw W2.ed.nodup W2.iI
    rw [length_append,length_reverse] at this ⊢
    rw [add_comm]; exact this
   obtain ⟨C3,u3,x3,Dv,p3,e3,S3,W3⟩:=ih (x:=some (.tup ((a::rs).map .int))) (dn:=(a::rs).reverse++dn) (by
    rw [length_append,length_reverse,length_cons]
    exact lt_of_lt_of_le hk (by rw [add_assoc]; exact add_le_add_left (add_le_add_right (le_add_left 1 rs.length) _) k)) S2 R2 W2
   refine ⟨C3,u3,x3,Dv,p3,?_,S3,W3⟩
   rw [List.reverse_append,List.reverse_reverse] at e3
   have JH:cl.fuel≠0:=by rw [aw]; exact hf
   have lt : ∀ {j:Nat} {x:Option D} {c:List Int},j<7->j<(mk x c).length:=λh=>by rw [Q.l]; exact h
   have b1:ex (PP r) cl (.aL 6 false (.a9 (.var 2) .iO .nil)) ⟨mk x dn.reverse,C⟩=.ok .next ⟨mk (some (.tup ((a::rs).map .int))) dn.reverse,C1⟩:=by
    rw [<-Q.sb x]
    subst aw
    exact bM (kO (aa:=⟨m1,C1⟩) (au (Q.s _ _)) (ir S.top).2.2.2.1 (ds:=[]) rfl e1) (lt (by decide))
   have b2:ex (PP r) cl (.expr (.eU (.var 2) .done .nil (.var 6))) ⟨mk (some (.tup ((a::rs).map .int))) dn.reverse,C1⟩=.ok .next ⟨mk (some (.tup ((a::rs).map .int))) dn.reverse,C2⟩:=by
    subst aw
    exact hY (u7 (ae:=⟨m2,C2⟩) (au (Q.s _ _)) (ir S1.top).2.2.2.2.2.1 (ds:=[]) rfl (au (Q.b _ _)) (ys:=(a::rs).map .int) rfl e2)
   have el:ev (PP r) cl (.call (.cst (.bn .list)) (.cons (.var 6) .nil) .nil) ⟨mk (some (.tup ((a::rs).map .int))) dn.reverse,C2⟩=.ok (.lst ((a::rs).map .int)) ⟨mk (some (.tup ((a::rs).map .int))) dn.reverse,C2⟩:=
    c6 (g:=.bn .list) rfl (bT (au (Q.b _ _))) ((c5 JH).trans rfl)
   have b3:ex (PP r) cl (.aL 5 false (.bin .add (.var 5) (.call (.cst (.bn .list)) (.cons (.var 6) .nil) .nil))) ⟨mk (some (.tup ((a::rs).map .int))) dn.reverse,C2⟩=.ok .next ⟨mk (some (.tup ((a::rs).map .int))) (dn.reverse++(a::rs)),C2⟩:=by
    rw [<-Q.sc _ dn.reverse (dn.reverse++(a::rs))]
    exact bM (bw (au (Q.c _ _)) el (yW (by rw [<-length_append]; exact le_trans hl (le_of_lt (lt_trans bx (by decide)))))) (by rw [Q.l]; decide)
   exact (oL ea rfl (aZ b1 (aZ b2 (bJ b3)))).trans e3
end
noncomputable def dP (A:Nat->Nat->Bool) (p:Nat):List Nat:=(List.range 6).filter (A p)
noncomputable def gM (A:Nat->Nat->Bool) (left:List Nat) (j:Int):List Int:=nz ((dP A j.toNat).filter λq=>decide (q∈left))
noncomputable abbrev bX (A:Nat->Nat->Bool):D:=.lst (xr ((List.range 6).map (dP A)))
theorem CX {A:Nat->Nat->Bool} {p q:Nat}:q∈dP A p↔q<6/\A p q=true:=by unfold dP; rw [mem_filter,mem_range]
theorem C7 {A:Nat->Nat->Bool} {left:List Nat} {p q:Nat}:(q:Int)∈gM A left p↔q<6/\A p q=true/\q∈left:=by
 unfold gM
 rw [kh,mem_filter,CX,decide_eq_true_eq,toNat_natCast,and_assoc]
theorem Jb {A:Nat->Nat->Bool} {p:Nat}:(dP A p).Nodup:=nodup_range.filter _
theorem vw {A:Nat->Nat->Bool} {p:Nat}:(dP A p).length<=6:=length_filter_le _ _
structure qX (A:Nat->Nat->Bool) (left bu:List Nat):Prop where
 eW:bu.Nodup
 gd : ∀ p∈bu,p∈left
 ord : ∀ xs p ys,bu=xs++p::ys->∀ q<6,A p q=true->q∈left->q∈xs
 all : ∀ p∈left,(∀ q<6,A p q=true->q∈left->q∈bu)->p∈bu
theorem dy.at {nd:Int->List Int} {k:Int} {b:List Int} : ∀ a:List Int,dy nd (a++k::b)->∀ q∈nd k,q∈b:=λa=>by
 induction a with
 |nil=>exact λh=>h.1
 |cons x a ih=>exact λh=>ih h.2.2
section
variable {A:Nat->Nat->Bool} {left:List Nat} {n:Nat} {C:ai}
theorem Q4 (hn:left.Nodup) (h6 : ∀ p∈left,p<6) : ∃ m' C' bu,aC Q2 10000 (n+4) 19 [.lst ((nz left).map .int),bX A] [] C=.ok (.tup [.bool (decide (bu.length<left.length)),.lst ((nz bu).map .int)]) ⟨m',C'⟩/\C <+: C'/\qX A left bu:=by
 refine cps λQ0 k0=>?_
 obtain ⟨cl,aw⟩ : ∃ cl:Calls,cl=⟨aC Q2 10000 (n+3),10000⟩:=⟨_,rfl⟩
 have hf:=cl2_0 aw
 have K0 : ∀ x∈left,x∈List.range 6:=λx h=>mem_range.mpr (h6 x h)
 have hlen:=cw hn K0
 obtain ⟨mk,dB⟩ : ∃ mk:Option D->List (Option D),mk=λx=>[some (.lst ((nz left).map .int)),some (bX A),some (.inst 2 C.length),x,none,none,none]:=⟨_,rfl⟩
 have he : ∀ j∈nz left,∀ C',ev Q2 cl (.comp (.var 7) (.cons (.one 7) (.idx (.var 1) (.var 3)) (.cons (.cmp .fG (.var 7) (.var 0)) .nil) .nil)) ⟨mk (some (.int j)),C'⟩=.ok (.lst ((gM A left j).map .int)) ⟨mk (some (.int j)),C'⟩:=λj hj C'=>by
  obtain ⟨p,hp,rfl⟩:=kg.mp hj
  have:=rF (P:=Q2) (cl:=cl) (elt:=.var 7) (ifs:=.cons (.cmp .fG (.var 7) (.var 0)) .nil) (it:=.idx (.var 1) (.var 3)) (k:=7) (m:=mk (some (dN p))) (C:=C') (xs:=dP A p) (g:=dN) (f:=dN) (p:=λq=>decide (q∈left)) (y:=.lst ((nz (dP A p)).map .int)) hf (by subst dB; rfl)
   (by subst dB; exact dA (au (d:=bX A) rfl) (au (d:=dN p) rfl) (sS (pD (h6 p hp)) (lt_trans (h6 p hp) (by decide)))) (by show some ((nz (dP A p)).map D.int)=_; unfold nz; rw [map_map]; rfl) (lt_of_le_of_lt vw (by decide)) rfl
   (λq _=>by subst dB; exact rM (bI (au (d:=dN q) rfl) (au (d:=.lst ((nz left).map .int)) rfl) Cu)) (λq _ _=>by subst dB; exact au rfl)
  rw [this]
  unfold gM nz
  rw [map_map,toNat_natCast]; rfl
 have hU : ∀ x∈nz left,small x=true:=λx h=>by obtain ⟨p,hp,rfl⟩:=kg.mp h; exact PJ (h6 p hp)
 have fC : ∀ j∈nz left,(gM A left j).Nodup:=λj _=>qn (Jb.filter _)
 have fZ : ∀ j∈nz left,∀ q∈gM A left j,q∈nz left:=λj _ q hq=>by
  unfold gM at hq
  obtain ⟨k,hk,rfl⟩:=kg.mp hq
  exact kh.mpr (of_decide_eq_true (mem_filter.mp hk).2)
 obtain ⟨x',C1,ks,lc,np,sc,e1,S1,B1⟩:=yD (r:=dt::eR::r2) (fuel:=10000) (n:=n) (C0:=C) (nd:=gM A left) (cl:=cl) (mk:=mk) (U:=nz left) aw (by decide) (by subst dB; exact λ_=>rfl) (by subst dB; exact λ_=>rfl) (by subst dB; exact λ_ _=>rfl)
  (by rw [fI]; exact lt_of_le_of_lt hlen (by decide)) hU fC fZ (aS:=λA B=>aY A B (.lst ((nz left).map .int))) (λ_ _=>rfl) (nz left) (x:=none) he (pre:=[]) (by rw [append_nil]; exact (List.reverse_perm _).nodup_iff.mpr (qn hn)) (λj hj=>hj) (λj hj=>(nomatch hj)) Nb gT.nil
 rw [append_nil] at B1
 obtain ⟨hk,G⟩:=B1.gr (λj h=>fC j (mem_reverse.mp h)) (λj h q hq=>mem_reverse.mpr (fZ j (mem_reverse.mp h) q hq))
 have nW : ∀ x,x∈ks↔x∈nz left:=λx=>(hk x).trans mem_reverse
 have mv:ks.length=left.length:=by
  have a:=cw S1.nd λx h=>(nW x).mp h
  have b:=cw (qn hn) λx h=>(nW x).mpr h
  rw [fI] at a b
  exact Nat.le_antisymm a b
 have bx:ks.length<64:=by rw [mv]; exact lt_of_le_of_lt hlen (by decide)
 have fE:=B1.run hk S1.nd
 obtain ⟨cT,wk⟩ : ∃ cT:Bool->Option D->List Int->List (Option D),cT=λb x c=>[some (.lst ((nz left).map .int)),some (bX A),some (.inst 2 C.length),x',some (.bool b),some (.lst (c.map .int)),x]:=⟨_,rfl⟩
 have QM : ∀ b,yy (cT b) C.length:=λb=>by subst wk; exact ⟨λ_ _=>rfl,λ_ _=>rfl,λ_ _=>rfl,λ_ _=>rfl,λ_ _ _=>rfl,λ_ _ _=>rfl⟩
 have d6 : ∀ x j,j∈sc x->x∈gM A left j:=λx j h=>((B1.ss x j).mp h).2
 have fin : ∀ {b:Bool} {C2:ai} {i:Nat} {aa:St},aU C C2 (.loc i) 0 0 ks lc np sc->cA C C2 ks lc i (ks.filter λk=>np k==0)->(∀ dn,(∀ k∈dn,k∈ks)->dn.Nodup->dy (gM A left) dn->(∀ k∈ks,k ∉ dn->∃ q∈gM A left k,q ∉ dn)->b=decide (dn.length<ks.length))->
   aq Q2 cl c2lawsweep_8 ⟨mk x',C1⟩=aq Q2 cl c2lawsweep_6 ⟨[some (.lst ((nz left).map .int)),some (bX A),some (.inst 2 C.length),x',some (.bool b),none,none],C2⟩->Q0:=λ{b C2 i aa} S2 R2 hb e2=>by
  obtain ⟨C3,dn,x3,Dv,p3,e3,S3,W3⟩:=Q6 (r:=dt::eR::r2) (fuel:=10000) (n:=n+2) (cl:=cl) aw (by decide) bx G (QM b) 10000 (x:=none) (dn:=[]) (lt_of_lt_of_le bx (by decide)) S2 R2 fE
  have rest : ∀ k∈ks,k ∉ dn->∃ q∈gM A left k,q ∉ dn:=λk h1 h2=>Classical.byContradiction λz=>
   (nomatch (W3.gP k).mpr ⟨h1,h2,not_mem_nil,λq hq=>Classical.byContradiction λy=>z ⟨q,hq,y⟩⟩)
  have BE:=hb dn W3.iI W3.ed.nodup W3.ed rest
  obtain ⟨cm,BH⟩:=NC (l:=dn.reverse) (k:=left) λx h=>(nW x).mp (W3.iI x (mem_reverse.mp h))
  have so:dn=(nz cm).reverse:=by rw [<-BH,List.reverse_reverse]
  have eO : ∀ q:Nat,(q:Int)∈dn↔q∈cm:=λq=>by rw [so,mem_reverse,kh]
  have JI:dn.length=cm.length:=by rw [so,length_reverse,fI]
  refine k0 ⟨cT b x3 dn.reverse,C3,cm,?_,S3.pre,⟨?_,λp hp=>?_,λxs p ys e q hq ha hl=>?_,λp hp h=>?_⟩⟩
  ·rw [JI,mv] at BE
   rw [BH] at e3 ⊢
   show di (aq Q2 ⟨aC Q2 10000 (n+3),10000⟩ c2lawsweep_10 ⟨[some (.lst ((nz left).map .int)),some (bX A),none,none,none,none,none],C⟩)=_
   rw [<-aw,<-BE]
   have n1:ex Q2 cl (.aL 2 false (.call (.cst (.cls 2)) .nil .nil)) ⟨[some (.lst ((nz left).map .int)),some (bX A),none,none,none,none,none],C⟩=.ok .next ⟨mk none,C++[SA (C.length+1) .none 0 0,.dict true []]⟩:=by
    subst dB aw; exact bM (n:=2) (m:=[some (.lst ((nz left).map .int)),some (bX A),none,none,none,none,none]) (c6 (g:=.cls 2) (ds:=[]) rfl rfl Na) (lb rfl)
   have n2:ex Q2 cl c2lawsweep_1 ⟨mk none,C++[SA (C.length+1) .none 0 0,.dict true []]⟩=.ok .next ⟨mk x',C1⟩:=(fU (items:=(nz left).map .int) hf (by subst dB; exact au (d:=.lst ((nz left).map .int)) rfl) rfl).trans e1
   have n3:aq Q2 cl c2lawsweep_6 ⟨[some (.lst ((nz left).map .int)),some (bX A),some (.inst 2 C.length),x',some (.bool b),none,none],C2⟩=.ok (.ret (.tup [.bool b,.lst ((nz cm).map .int)])) ⟨cT b x3 (nz cm),C3⟩:=by
    refine (bl (bM (d:=.lst []) rfl (lb rfl))).trans ?_
    rw [show [some (.lst ((nz left).map .int)),some (bX A),some (.inst 2 C.length),x',some (.bool b),none,none].set 5 (some (D.lst []))=cT b none [] by rw [wk]; rfl]
    have v4:ev Q2 cl (.var 4) ⟨cT b x3 (nz cm),C3⟩=.ok (.bool b) ⟨cT b x3 (nz cm),C3⟩:=au (by rw [wk]; rfl)
    have ew:ex Q2 cl c2lawsweep_3 ⟨cT b none [],C2⟩=.ok .next ⟨cT b x3 (nz cm),C3⟩:=by
     subst aw; exact e3
    exact aZ ew (jC (Ib v4 (au ((QM b).c _ _))))
   exact lE (aZ n1 (aZ n2 (e2.trans n3)))
  ·have:=W3.ed.nodup
   rw [so,(List.reverse_perm _).nodup_iff] at this
   exact Nv this
  ·exact kh.mp ((nW p).mp (W3.iI p ((eO p).mpr hp)))
  ·have T:=W3.ed
   rw [so,e,tF,List.reverse_append] at T
   have T2:dy (gM A left) ((nz ys).reverse++(p:Int)::(nz xs).reverse):=by
    rw [show nz (p::ys)=(p:Int)::nz ys from rfl,reverse_cons,append_assoc] at T; exact T
   exact kh.mp (mem_reverse.mp (T2.at _ q (C7.mpr ⟨hq,ha,hl⟩)))
  ·refine (eO p).mp (Classical.byContradiction λz=>?_)
   obtain ⟨q,h1,h2⟩:=rest p ((nW p).mpr (kh.mpr hp)) z
   obtain ⟨k,i0,rfl⟩:=kg.mp ((fZ p (kh.mpr hp)) q h1)
   obtain ⟨a,b,c⟩:=C7.mp h1
   exact h2 ((eO k).mpr (h k a b c))
 have KN:=N0 (r:=dt::eR::r2) (fuel:=10000) (n:=n+1) (by decide) S1 bx (λk h=>hU k ((nW k).mp h)) (λk h v hv=>((G.qJ k h v).mp hv).1) G.snd
 have pY : ∀ {z:X} {m':List (Option D)} {C':ai},aC Q2 10000 (n+3) 12 [.inst 2 C.length] [] C1=.exc z ⟨m',C'⟩->aq Q2 cl (.cons (.expr (.a9 (.var 2) .prepare .nil)) .nil) ⟨(mk x').set 4 (some (.bool false)),C1⟩=.exc z ⟨(mk x').set 4 (some (.bool false)),C'⟩:=λh=>by
  subst dB aw
  exact pA (Ij (H5 (aa:=⟨_,_⟩) (au (d:=.inst 2 C.length) rfl) (ir S1.top).2.2.1 (ds:=[]) rfl h))
 induction KN using qV.casesOn with
 |ok m2 C2 i e2 S2 R2 fo T all=>
  refine fin (b:=false) (aa:=⟨[],[]⟩) S2 R2 (λdn h1 h2 h3 h4=>?_) ?_
  ·refine (decide_eq_false (not_lt.mpr (cw S1.nd λk hk=>Classical.byContradiction λz=>?_))).symm
   refine dy.none (S:=λk=>k∈ks/\k ∉ dn) (λk hk=>?_) fo T (λk hk=>all k hk.1) k ⟨hk,z⟩
   obtain ⟨q,a,b⟩:=h4 k hk.1 hk.2
   have hq:=G.gd k hk.1 q a
   exact ⟨q,⟨hq,b⟩,(G.qJ q hq k).mpr ⟨hk.1,a⟩⟩
  ·subst dB aw
   exact (bl (bM (d:=.bool false) rfl (lb rfl))).trans (bl (AS (succ_ne_zero _) (bJ (hY (kO (aa:=⟨m2,C2⟩) (au (d:=.inst 2 C.length) rfl) (ir S1.top).2.2.1 (ds:=[]) rfl e2)))))
 |dJ m2 C2 i e2 S2 R2 h=>
  obtain ⟨u,hu⟩:=h
  refine fin (b:=true) (aa:=⟨[],[]⟩) S2 R2 (λdn h1 h2 h3 h4=>?_) ?_
  ·have K9:u ∉ dn:=dy.Nr d6 hu dn h3
   have La:u∈ks:=by
    obtain ⟨w,a,_⟩:=hu.last
    exact (hk u).mpr ((B1.ss w u).mp a).1
   refine (decide_eq_true ?_).symm
   have:=cw (l:=u::dn) (nodup_cons.mpr ⟨K9,h2⟩) λx hx=>(mem_cons.mp hx).elim (λe=>e ▸ La) (h1 x)
   exact this
  ·have hp:=pY e2
   subst dB
   refine (bl (bM (d:=.bool false) rfl (lb rfl))).trans (bl (AR hf hp rfl (bJ (bM (n:=4) (m:=[some (.lst ((nz left).map .int)),some (bX A),some (.inst 2 C.length),x',some (.bool false),none,none]) (d:=.bool true) rfl (lb rfl)))))
end
section
variable {A:Nat->Nat->Bool} {LO HI:Nat->Prop} {L W L' W' xs ys bu left:List Nat} {p t:Nat}
noncomputable def dC (A:Nat->Nat->Bool) (L:List Nat) (p:Nat):Bool:=(dP A p).all λq=>!decide (q∈L)
theorem tB:dC A L p=true ↔ ∀ q<6,A p q=true->q ∉ L:=by
 unfold dC
 rw [all_eq_true]
 refine forall_congr' λq=>?_
 rw [CX,not_eq_true',decide_eq_false_iff_not]
 exact ⟨λh a b=>h ⟨a,b⟩,λh a=>h a.1 a.2⟩
theorem Du (h:dC A L p=false) : ∃ q<6,A p q=true/\q∈L:=Classical.byContradiction λz=>by
 have:dC A L p=true:=tB.mpr λq a b c=>z ⟨q,a,b,c⟩
 rw [h] at this; exact Bool.false_ne_true this
structure jG (A:Nat->Nat->Bool) (LO HI:Nat->Prop):Prop where
 c1 : ∀ p<6,(∀ q<6,A p q=true->HI q)->LO p
 c2 : ∀ p<6,(∃ q<6,A p q=true/\LO q)->HI p
structure fi (A:Nat->Nat->Bool) (LO HI:Nat->Prop) (L W:List Nat):Prop where
 eW:(L++W).Nodup
 lt : ∀ p,p∈L\/p∈W->p<6
 lw : ∀ p∈L,∀ q<6,A p q=true->q∈W
 wl : ∀ p∈W,∃ q<6,A p q=true/\q∈L
 lo : ∀ p∈L,LO p
 hi : ∀ p∈W,HI p
theorem fi.iG (M:fi A LO HI L W) (h1:p∈L) (h2:p∈W):False:=(nodup_append.mp M.eW).2.2 p h1 p h2 rfl
theorem Ds (h:(L++W).Nodup) (h1:p ∉ L) (h2:p ∉ W):((L++[p])++W).Nodup/\(L++(W++[p])).Nodup:=by
 have a:(L++W++[p]).Nodup:=nodup_append.mpr ⟨h,nodup_cons.mpr ⟨not_mem_nil,nodup_nil⟩,λx hx y hy e=>by
  rw [mem_singleton.mp hy] at e
  exact (mem_append.mp hx).elim (λz=>h1 (e ▸ z)) λz=>h2 (e ▸ z)⟩
 refine ⟨(List.Perm.nodup_iff ?_).mp a,by rw [<-append_assoc]; exact a⟩
 rw [append_assoc,append_assoc]
 exact List.Perm.append_left L List.perm_append_comm
theorem fi.low (R:jG A LO HI) (M:fi A LO HI L W) (hp:p<6) (h1:p ∉ L) (h2:p ∉ W) (hd : ∀ q<6,A p q=true->q∈W):fi A LO HI (L++[p]) W:=by
 have mem : ∀ x,x∈L++[p]↔x∈L\/x=p:=λx=>by rw [mem_append,mem_singleton]
 refine ⟨(Ds M.eW h1 h2).1,λx hx=>?_,λx hx=>?_,λx hx=>?_,λx hx=>?_,M.hi⟩
 ·exact hx.elim (λz=>((mem x).mp z).elim (λy=>M.lt x (.inl y)) λe=>e ▸ hp) λz=>M.lt x (.inr z)
 ·exact ((mem x).mp hx).elim (M.lw x) λe=>e ▸ hd
 ·obtain ⟨q,a,b,c⟩:=M.wl x hx
  exact ⟨q,a,b,(mem q).mpr (.inl c)⟩
 ·exact ((mem x).mp hx).elim (M.lo x) λe=>e ▸ R.c1 p hp λq a b=>M.hi q (hd q a b)
theorem fi.high (R:jG A LO HI) (M:fi A LO HI L W) (hp:p<6) (h1:p ∉ L) (h2:p ∉ W) (hd : ∃ q<6,A p q=true/\q∈L):fi A LO HI L (W++[p]):=by
 have mem : ∀ x,x∈W++[p]↔x∈W\/x=p:=λx=>by rw [mem_append,mem_singleton]
 refine ⟨(Ds M.eW h1 h2).2,λx hx=>?_,λx hx q a b=>(mem q).mpr (.inl (M.lw x hx q a b)),λx hx=>?_,M.lo,λx hx=>?_⟩
 ·exact hx.elim (λz=>M.lt x (.inl z)) λz=>((mem x).mp z).elim (λy=>M.lt x (.inr y)) λe=>e ▸ hp
 ·exact ((mem x).mp hx).elim (M.wl x) λe=>e ▸ hd
 ·refine ((mem x).mp hx).elim (M.hi x) λe=>?_
  obtain ⟨q,a,b,c⟩:=hd
  exact e ▸ R.c2 p hp ⟨q,a,b,M.lo q c⟩
theorem fi.highs (R:jG A LO HI) : ∀ {ps:List Nat} {W:List Nat},fi A LO HI L W->ps.Nodup->(∀ p∈ps,p<6/\p ∉ L/\p ∉ W/\∃ q<6,A p q=true/\q∈L)->fi A LO HI L (W++ps):=λ{ps}=>by
 induction ps with
 |nil=>exact λM _ _=>by rw [append_nil]; exact M
 |cons p ps ih=>
  intro W M hn h
  obtain ⟨n1,n2⟩:=nodup_cons.mp hn
  obtain ⟨a,b,c,d⟩:=h p (.head _)
  have:=ih (M.high R a b c d) n2 λx hx=>by
   obtain ⟨a,b,c,d⟩:=h x (.tail _ hx)
   exact ⟨a,b,λz=>(mem_append.mp z).elim c λz=>n1 (mem_singleton.mp z ▸ hx),d⟩
  rw [append_assoc] at this; exact this
structure Cl (A:Nat->Nat->Bool) (LO HI:Nat->Prop) (L W xs Lx Wx:List Nat):Prop where
 mid:fi A LO HI Lx Wx
 mem : ∀ x,(x∈Lx\/x∈Wx)↔(x∈L\/x∈W)\/x∈xs
 ls : ∀ x∈L,x∈Lx
 len:Lx.length+Wx.length=L.length+W.length+xs.length
theorem Cl.step (R:jG A LO HI) {Lx Wx:List Nat} (K:Cl A LO HI L W xs Lx Wx) (hl:left=(List.range 6).filter λx=>!decide (x∈L++W)) (S:qX A left bu) (e:bu=xs++p::ys) :
  if dC A Lx p then Cl A LO HI L W (xs++[p]) (Lx++[p]) Wx else Cl A LO HI L W (xs++[p]) Lx (Wx++[p]):=by
 have jo : ∀ x,x∈left↔x<6/\x ∉ L/\x ∉ W:=λx=>by rw [hl,mem_filter,mem_range,not_eq_true',decide_eq_false_iff_not,mem_append,not_or]
 obtain ⟨hp,KI,KJ⟩:=(jo p).mp (S.gd p (by rw [e]; exact mem_append_right _ (.head _)))
 have KO:p ∉ xs:=by
  have:=S.eW
  rw [e] at this
  exact λz=>(nodup_append.mp this).2.2 p z p (.head _) rfl
 have mz : ¬(p∈Lx\/p∈Wx):=λz=>((K.mem p).mp z).elim (λz=>z.elim KI KJ) KO
 have dec : ∀ q<6,A p q=true->q∈Lx\/q∈Wx:=λq a b=>(K.mem q).mpr (by
  by_cases h:q∈L\/q∈W
  ·exact .inl h
  ·exact .inr (S.ord xs p ys e q a b ((jo q).mpr ⟨a,not_or.mp h⟩)))
 have mm : ∀ {a b:List Nat} (x:Nat),(x∈a++[p]\/x∈b↔(x∈a\/x∈b)\/x=p)/\(x∈a\/x∈b++[p]↔(x∈a\/x∈b)\/x=p):=λx=>by
  rw [mem_append,mem_append,mem_singleton]
  exact ⟨⟨λh=>h.elim (λh=>h.elim (λh=>.inl (.inl h)) .inr) λh=>.inl (.inr h),λh=>h.elim (λh=>h.elim (λh=>.inl (.inl h)) .inr) λh=>.inl (.inr h)⟩,or_assoc.symm⟩
 have ml : ∀ x,x∈xs++[p]↔x∈xs\/x=p:=λx=>by rw [mem_append,mem_singleton]
 by_cases h:dC A Lx p=true
 ·rw [if_pos h]
  refine ⟨K.mid.low R hp (λz=>mz (.inl z)) (λz=>mz (.inr z)) λq a b=>(dec q a b).resolve_left (tB.mp h q a b),λx=>?_,λx hx=>mem_append_left _ (K.ls x hx),?_⟩
  ·rw [(mm x).1,K.mem,ml,or_assoc]
  ·rw [length_append,length_append,add_right_comm,K.len]; rfl
 ·rw [if_neg h]
  refine ⟨K.mid.high R hp (λz=>mz (.inl z)) (λz=>mz (.inr z)) (Du (not_eq_true _ ▸ h)),λx=>?_,K.ls,?_⟩
  ·rw [(mm x).2,K.mem,ml,or_assoc]
  ·rw [length_append,length_append,<-add_assoc,K.len]; rfl
structure GS (A:Nat->Nat->Bool) (LO HI:Nat->Prop) (t:Nat) (L W:List Nat):Prop where
 mid:fi A LO HI L W
 f2 : ∀ p<6,(∃ q<6,A p q=true/\q∈L)->p∈W
 go:(∀ p<6,(∀ q<6,A p q=true->q∈W)->p∈L)\/2*t<=L.length+W.length
theorem GS.zero:GS A LO HI 0 [] []:=⟨⟨nodup_nil,λ_ h=>h.elim (λh=>(nomatch h)) λh=>(nomatch h),λ_ h=>(nomatch h),λ_ h=>(nomatch h),λ_ h=>(nomatch h),λ_ h=>(nomatch h)⟩,λ_ _ h=>by obtain ⟨_,_,_,h⟩:=h; exact (nomatch h),.inr (zero_le _)⟩
theorem GS.next (R:jG A LO HI) (G:GS A LO HI t L W) (hl:left=(List.range 6).filter λx=>!decide (x∈L++W)) (S:qX A left bu) (K:Cl A LO HI L W bu L' W') :
  GS A LO HI (t+1) L' (W'++((left.filter λx=>!decide (x∈bu)).filter λp=>!dC A L' p)):=by
 have jo : ∀ x,x∈left↔x<6/\x ∉ L/\x ∉ W:=λx=>by rw [hl,mem_filter,mem_range,not_eq_true',decide_eq_false_iff_not,mem_append,not_or]
 obtain ⟨B,hB⟩ : ∃ B,B=(left.filter λx=>!decide (x∈bu)).filter λp=>!dC A L' p:=⟨_,rfl⟩
 rw [<-hB]
 have mB : ∀ x,x∈B↔(x∈left/\x ∉ bu)/\∃ q<6,A x q=true/\q∈L':=λx=>by
  rw [hB,mem_filter,mem_filter,not_eq_true',decide_eq_false_iff_not,not_eq_true']
  exact and_congr_right λ_=>⟨Du,λ⟨q,a,b,c⟩=>eq_false_iff.mpr λz=>tB.mp z q a b c⟩
 have jd : ∀ x,x<6->x ∉ L'->x ∉ W'->x∈left/\x ∉ bu:=λx h6 h1 h2=>by
  have h3 : ¬((x∈L\/x∈W)\/x∈bu):=λz=>((K.mem x).mpr z).elim h1 h2
  rw [not_or,not_or] at h3
  exact ⟨(jo x).mpr ⟨h6,h3.1⟩,h3.2⟩
 have M4:left.Nodup:=by rw [hl]; exact nodup_range.filter _
 have M:=K.mid.highs R (ps:=B) (by rw [hB]; exact (M4.filter _).filter _) λx hx=>by
  obtain ⟨⟨a,b⟩,c⟩:=(mB x).mp hx
  obtain ⟨h6,hL,hW⟩:=(jo x).mp a
  have : ¬(x∈L'\/x∈W'):=λz=>((K.mem x).mp z).elim (λz=>z.elim hL hW) b
  exact ⟨h6,λz=>this (.inl z),λz=>this (.inr z),c⟩
 have mW : ∀ x,x∈W'++B↔x∈W'\/x∈B:=λx=>mem_append
 have f2 : ∀ p<6,(∃ q<6,A p q=true/\q∈L')->p∈W'++B:=λp hp h=>Classical.byContradiction λz=>by
  rw [mW,not_or] at z
  by_cases hL:p∈L'
  ·obtain ⟨q,a,b,c⟩:=h
   exact K.mid.iG c (K.mid.lw p hL q a b)
  ·exact z.2 ((mB p).mpr ⟨jd p hp hL z.1,h⟩)
 refine ⟨M,f2,?_⟩
 rcases G.go with F|F
 ·
  have hc:bu=[]:=by
   induction bu using List.casesOn with
   |nil=>rfl
   |cons p ys=>
    exfalso
    obtain ⟨h6,hL,hW⟩:=(jo p).mp (S.gd p (.head _))
    have d : ∀ q<6,A p q=true->q∈L\/q∈W:=λq a b=>Classical.byContradiction λz=>nomatch S.ord [] p ys rfl q a b ((jo q).mpr ⟨a,not_or.mp z⟩)
    refine hL (F p h6 λq a b=>(d q a b).resolve_left λz=>hW (G.f2 p h6 ⟨q,a,b,z⟩))
  subst hc
  refine .inl λp hp h=>?_
  have k1 : ∀ x,x∈L'\/x∈W'↔x∈L\/x∈W:=λx=>(K.mem x).trans ⟨λh=>h.resolve_right λz=>(nomatch z),.inl⟩
  have hW : ∀ q,q∈W'++B->q∈W:=λq hq=>by
   rcases (mW q).mp hq with z|z
   ·exact ((k1 q).mp (.inr z)).resolve_left λy=>K.mid.iG (K.ls q y) z
   ·obtain ⟨⟨a,b⟩,r,c1,c2,c3⟩:=(mB q).mp z
    obtain ⟨h6,hL,hW⟩:=(jo q).mp a
    rcases (k1 r).mp (.inl c3) with y|y
    ·exact G.f2 q h6 ⟨r,c1,c2,y⟩
    ·obtain ⟨s,d1,d2,d3⟩:=G.mid.wl r y
     exact (K.mid.iG (K.ls s d3) (K.mid.lw r c3 s d1 d2)).elim
  exact K.ls p (F p hp λq a b=>hW q (h q a b))
 ·by_cases hb:B=[]
  ·refine .inl λp hp h=>Classical.byContradiction λz=>?_
   rw [hb,append_nil] at h
   by_cases hW:p∈W'
   ·obtain ⟨q,a,b,c⟩:=K.mid.wl p hW
    exact K.mid.iG c (h q a b)
   ·obtain ⟨a,b⟩:=jd p hp z hW
    refine b (S.all p a λq c d e=>?_)
    obtain ⟨_,e1,e2⟩:=(jo q).mp e
    exact ((K.mem q).mp (.inr (h q c d))).resolve_left λy=>y.elim e1 e2
  ·refine .inr ?_
   obtain ⟨b,nS⟩:=List.exists_mem_of_ne_nil B hb
   obtain ⟨⟨a,b1⟩,q,c1,c2,c3⟩:=(mB b).mp nS
   obtain ⟨h6,hL,hW⟩:=(jo b).mp a
   have hq:q∈bu:=by
    rcases (K.mem q).mp (.inl c3) with (y|y)|y
    ·exact absurd (G.f2 b h6 ⟨q,c1,c2,y⟩) hW
    ·obtain ⟨s,d1,d2,d3⟩:=G.mid.wl q y
     exact (K.mid.iG (K.ls s d3) (K.mid.lw q c3 s d1 d2)).elim
    ·exact y
   rw [length_append,<-add_assoc,K.len]
   exact le_trans (le_of_eq (Nat.mul_succ 2 t)) (le_trans (add_le_add F (add_le_add (List.length_pos_of_mem hq) (List.length_pos_of_mem nS))) (le_of_eq (add_assoc _ _ _).symm))
theorem GS.fin (G:GS A LO HI 4 L W) : ∀ p<6,(∀ q<6,A p q=true->q∈W)->p∈L:=G.go.elim id λh=>by
 have:=cw G.mid.eW (ks:=List.range 6) λx hx=>mem_range.mpr (G.mid.lt x (mem_append.mp hx))
 rw [length_append] at this
 exact absurd (le_trans h this) (by decide)
end
noncomputable def fK (A:Nat->Nat->Bool) (X:Nat->Bool) (p:Nat):Bool:=(List.range 6).any λq=>A p q&&X q
noncomputable def bS (A:Nat->Nat->Bool):Nat->Nat->Bool
 |0=>λ_=>false
 |t+1=>λp=>(List.range 6).all λq=>!A p q||fK A (bS A t) q
section
variable {A:Nat->Nat->Bool} {p t:Nat}
theorem iq {X:Nat->Bool}:fK A X p=true ↔ ∃ q<6,A p q=true/\X q=true:=by
 unfold fK
 rw [any_eq_true]
 exact ⟨λ⟨q,a,b⟩=>⟨q,mem_range.mp a,(and_eq_true_iff.mp b).1,(and_eq_true_iff.mp b).2⟩,λ⟨q,a,b,c⟩=>⟨q,mem_range.mpr a,by rw [b,c]; rfl⟩⟩
theorem mU:bS A (t+1) p=true ↔ ∀ q<6,A p q=true->fK A (bS A t) q=true:=by
 show ((List.range 6).all λq=>!A p q||fK A (bS A t) q)=true↔_
 rw [all_eq_true]
 refine forall_congr' λq=>?_
 rw [mem_range]
 refine forall_congr' λ_=>?_
 induction A p q with
 |true=>exact ⟨λh _=>h,λh=>h rfl⟩
 |false=>exact ⟨λ_ h=>(nomatch h),λ_=>rfl⟩
theorem D5 {X Z:Nat->Bool} (h : ∀ q<6,X q=true->Z q=true) (hp:fK A X p=true):fK A Z p=true:=by
 obtain ⟨q,a,b,c⟩:=iq.mp hp
 exact iq.mpr ⟨q,a,b,h q a c⟩
theorem D3 {s:Nat} (h : ∀ q<6,bS A t q=true->bS A s q=true) : ∀ q<6,bS A (t+1) q=true->bS A (s+1) q=true:=λq _ hq=>mU.mpr λr a b=>D5 h (mU.mp hq r a b)
theorem D4 : ∀ t,∀ q<6,bS A t q=true->bS A (t+1) q=true:=λt=>by
 induction t with
 |zero=>exact λq _ h=>(nomatch h)
 |succ t ih=>exact D3 ih
theorem N8 : ∀ q<6,bS A 7 q=true->bS A 6 q=true:=Classical.byContradiction λz=>by
 have big : ∀ k,k<=7->k<=((List.range 6).filter (bS A k)).length:=λk=>by
  induction k with
  |zero=>exact λ_=>zero_le _
  |succ k ih=>
   intro hk
   refine le_trans (succ_le_succ (ih (le_of_succ_le hk))) ?_
   obtain ⟨q,a,b,c⟩ : ∃ q<6,bS A (k+1) q=true/\bS A k q≠true:=Classical.byContradiction λy=>z (by
    have h2 : ∀ q<6,bS A (k+1) q=true->bS A k q=true:=λq a b=>Classical.byContradiction λw=>y ⟨q,a,b,w⟩
    have Rv : ∀ j,∀ q<6,bS A (k+j+1) q=true->bS A (k+j) q=true:=λj=>by
     induction j with
     |zero=>exact h2
     |succ j qb=>exact D3 qb
    obtain ⟨j,hj⟩:=Nat.exists_eq_add_of_le (Nat.le_of_succ_le_succ hk)
    have:=Rv j
    rw [<-hj] at this; exact this)
   exact cw (l:=q::(List.range 6).filter (bS A k)) (nodup_cons.mpr ⟨λw=>c (mem_filter.mp w).2,nodup_range.filter _⟩) λx hx=>by
    rcases mem_cons.mp hx with rfl|hx
    ·exact mem_filter.mpr ⟨mem_range.mpr a,b⟩
    ·obtain ⟨h1,h2⟩:=mem_filter.mp hx
     exact mem_filter.mpr ⟨h1,D4 k x (mem_range.mp h1) h2⟩
 exact absurd (le_trans (big 7 (le_refl _)) (length_filter_le _ _)) (by decide)
noncomputable def bR (A:Nat->Nat->Bool):Nat->Bool:=bS A 6
noncomputable def cQ (A:Nat->Nat->Bool):Nat->Bool:=fK A (bR A)
theorem Ec:jG A (λp=>bR A p=true) (λp=>cQ A p=true):=
 ⟨λp hp h=>N8 p hp (mU.mpr h),λp hp h=>iq.mpr h⟩
variable {L W:List Nat}
theorem GS.low (G:GS A (λp=>bR A p=true) (λp=>cQ A p=true) 4 L W) : ∀ p<6,(p∈L↔bR A p=true)/\(p∈W↔cQ A p=true):=λp hp=>by
 have up : ∀ t,∀ q<6,bS A t q=true->q∈L:=λt=>by
  induction t with
  |zero=>exact λq _ h=>(nomatch h)
  |succ t ih=>
   intro q hq h
   refine G.fin q hq λr a b=>?_
   obtain ⟨s,c1,c2,c3⟩:=iq.mp (mU.mp h r a b)
   exact G.f2 r a ⟨s,c1,c2,ih s c1 c3⟩
 refine ⟨⟨G.mid.lo p,up 6 p hp⟩,G.mid.hi p,λh=>?_⟩
 obtain ⟨q,a,b,c⟩:=iq.mp h
 exact G.f2 p hp ⟨q,a,b,up 6 q a c⟩
end
section
variable {A:Nat->Nat->Bool} {n p:Nat} {cl:Calls} {m:List (Option D)} {C:ai} {X:List Nat} {e1 e2:E} {sk:D}
theorem A3:decide (nz ((dP A p).filter λx=>!decide (x∈X))=nz (dP A p))=dC A X p:=by
 unfold dC
 rw [Bool.eq_iff_iff,decide_eq_true_eq,all_eq_true,<-filter_eq_self]
 exact ⟨Dx,congrArg nz⟩
theorem AG (aw:cl=⟨aC Q2 10000 (n+2),10000⟩) (h1 : ∀ C,ev Q2 cl e1 ⟨m,C⟩=.ok (.lst ((nz (dP A p)).map .int)) ⟨m,C⟩) (h2:ev Q2 cl e2 ⟨m,C⟩=.ok sk ⟨m,C⟩) (hs:aT C sk=some ((nz X).map .int)) :
  ev Q2 cl (.cmp .eq (.call (.cst (.fn 7)) (.cons e1 (.cons e2 .nil)) .nil) e1) ⟨m,C⟩=.ok (.bool (dC A X p)) ⟨m,MF C sk .none 0⟩:=
 bI (pk (r:=dt::eR::r2) aw (h1 C) h2 rfl hs (lt_of_le_of_lt vw (by decide))) (h1 _) (by rw [G7,A3])
theorem H8 (aw:cl=⟨aC Q2 10000 (n+2),10000⟩) (h1 : ∀ C,ev Q2 cl e1 ⟨m,C⟩=.ok (.lst ((nz (dP A p)).map .int)) ⟨m,C⟩) (h2:ev Q2 cl e2 ⟨m,C⟩=.ok sk ⟨m,C⟩) (hs:aT C sk=some ((nz X).map .int)) :
  ev Q2 cl (.cmp .ne (.call (.cst (.fn 7)) (.cons e1 (.cons e2 .nil)) .nil) e1) ⟨m,C⟩=.ok (.bool (!dC A X p)) ⟨m,MF C sk .none 0⟩:=
 bI (pk (r:=dt::eR::r2) aw (h1 C) h2 rfl hs (lt_of_le_of_lt vw (by decide))) (h1 _) (by rw [o9,A3])
theorem rp {a b:Bool}:g9 C .ne (.bool a) (.bool b)=some (a != b):=by induction a<;>induction b<;>rfl
noncomputable def oa (A:Nat->Nat->Bool) (X:List Nat):Bool:=(List.range 6).all λp=>!(decide (p∈X) != dC A X p)
theorem Mb (aw:cl=⟨aC Q2 10000 (n+2),10000⟩) : ∀ (xs:List Nat) {C:ai} {x2:Option D},(∀ p∈xs,p<6)->∃ x C',C <+: C'/\
  forLoop (λA B=>aY A B (.bZ 0 6)) (.one 2) (λst=>aq Q2 cl c2lawkernel_0 st) (xs.map dN) ⟨[some (bX A),some (.lst ((nz X).map .int)),x2],C⟩=.ok (if xs.all (λp=>!(decide (p∈X) != dC A X p)) then .next else .ret (.bool false)) ⟨[some (bX A),some (.lst ((nz X).map .int)),x],C'⟩:=λxs=>by
 induction xs with
 |nil=>exact λ{C x2} _=>⟨x2,C,prefix_refl C,rfl⟩
 |cons p xs ih=>
  intro C x2 h
  have hp:=h p (.head _)
  have h1 : ∀ C,ev Q2 cl (.idx (.var 0) (.var 2)) ⟨[some (bX A),some (.lst ((nz X).map .int)),some (dN p)],C⟩=.ok (.lst ((nz (dP A p)).map .int)) ⟨[some (bX A),some (.lst ((nz X).map .int)),some (dN p)],C⟩:=λC=>
   dA (au (d:=bX A) rfl) (au (d:=dN p) rfl) (sS (pD hp) (lt_trans hp (by decide)))
  have ec:=bI (op:=.ne) (bI (op:=.fG) (au (P:=Q2) (cl:=cl) (n:=2) (m:=[some (bX A),some (.lst ((nz X).map .int)),some (dN p)]) (C:=C) (d:=dN p) rfl) (au (n:=1) (d:=.lst ((nz X).map .int)) rfl) Cu) (AG aw h1 (au (n:=1) (d:=.lst ((nz X).map .int)) rfl) rfl) rp
  obtain ⟨x,C',pY,e⟩:=ih (x2:=some (dN p)) (C:=MF C (.lst ((nz X).map .int)) .none 0) λq hq=>h q (.tail _ hq)
  rw [List.all_cons]
  induction hb:decide (p∈X) != dC A X p with
  |true=>
   rw [hb] at ec
   exact ⟨some (dN p),_,iB,Bb rfl (bJ (jt ec rfl (jC rfl)))⟩
  |false=>
   rw [hb] at ec
   exact ⟨x,C',iB.trans pY,(fV (m1:=[some (bX A),some (.lst ((nz X).map .int)),some (dN p)]) rfl (bJ (df ec rfl rfl)) rfl).trans e⟩
theorem Md : ∃ m' C',aC Q2 10000 (n+3) 20 [bX A,.lst ((nz X).map .int)] [] C=.ok (.bool (oa A X)) ⟨m',C'⟩/\C <+: C':=by
 obtain ⟨cl,aw⟩ : ∃ cl:Calls,cl=⟨aC Q2 10000 (n+2),10000⟩:=⟨_,rfl⟩
 obtain ⟨x,C',hp,e⟩:=Mb (A:=A) (X:=X) (n:=n) (cl:=cl) aw (List.range 6) (C:=C) (x2:=none) λp h=>mem_range.mp h
 have pg:=fU (P:=Q2) (cl:=cl) (t:=.one 2) (it:=iK 6) (a:=c2lawkernel_0) (items:=(List.range 6).map dN) (st:=⟨[some (bX A),some (.lst ((nz X).map .int)),none],C⟩) (cl2_0 aw) (rL (cl2_0 aw)) rfl
 have go : ∀ {o:ak Fl},aq Q2 cl c2lawkernel_3 ⟨[some (bX A),some (.lst ((nz X).map .int)),none],C⟩=o->aC Q2 10000 (n+3) 20 [bX A,.lst ((nz X).map .int)] [] C=di o:=λh=>by
  subst aw; rw [<-h]; rfl
 refine ⟨[some (bX A),some (.lst ((nz X).map .int)),x],C',?_,hp⟩
 unfold oa
 induction hb:(List.range 6).all λp=>!(decide (p∈X) != dC A X p) with
 |true=>
  rw [hb] at e
  exact (go (aZ (pg.trans e) (jC (d:=.bool true) rfl)))
 |false=>
  rw [hb] at e
  exact (go (iM (pg.trans e)))
end
theorem QO {C:ai} {i:Nat} {l:List Nat} (h:C[i]?=some (.list ((nz l).map .int))) {C':ai} (h':C'[i]?=some (.list ((nz l).map .int))):aY C C' (.loc i)=true:=by
 show jF C C' i=true
 unfold jF
 rw [h,h']
 exact uF _
theorem JQ {n:Nat} {cl:Calls} (aw:cl=⟨aC Q2 10000 (n+4),10000⟩) {ns:List Int} (hz:ns.length<=63) :
  ∃ f fs C,aq Q2 cl c2law_32 ⟨some (.lst (ns.map .int))::replicate 24 none,[]⟩=aq Q2 cl c2law_24 ⟨fr 25 f,C⟩/\(∀ x∈fs,x<64)/\fs.length=8/\f 6=some (.lst ((nz fs).map .int)):=by
 have hf:=cl2_0 aw
 refine cps λQQ kQ=>?_
 obtain ⟨x,hx⟩ : ∃ x:D,x=.lst (ns.map .int):=⟨_,rfl⟩
 obtain ⟨os,k,x3,e1,lo,ho⟩:=DB (P:=Q2) (cl:=cl) (x:=x) (x4:=none) (x5:=none) (R:=replicate 19 none) (q:=6) (by decide) (by decide) (y:=.lst (ns.map .int)) (λ_ _=>rfl) ns (os:=[129,28,164,22,136,16]) (k:=0) (x3:=none) rfl (by decide)
 have j3:ev Q2 cl (.slice (.var 0) (.cst .none) (.cst (.int 63))) ⟨mP x 0 none none none (replicate 19 none),[.list ((nz [129,28,164,22,136,16]).map .int)]⟩=.ok (.lst (ns.map .int)) ⟨mP x 0 none none none (replicate 19 none),[.list ((nz [129,28,164,22,136,16]).map .int)]⟩:=by
  refine AK (au (d:=.lst (ns.map .int)) (by rw [hx]; rfl)) rfl rfl ?_
  refine (EG (a:=.lst (ns.map .int)) (ds:=ns.map .int) rfl (λb z=>(nomatch z)) zj (uI (k:=63) (by decide))).trans ?_
  unfold fw
  rw [List.drop_zero,sub_zero,length_map,Nat.min_eq_right hz,List.take_of_length_le (by rw [length_map]; exact le_refl _)]
 obtain ⟨C1,fW⟩ : ∃ C1,C1=[Ch.list ((nz os).map .int)]:=⟨_,rfl⟩
 rw [<-fW] at e1
 have c0:C1[0]?=some (.list ((nz os).map .int)):=by rw [fW]; rfl
 obtain ⟨x5,e2⟩:=Fh (P:=Q2) (cl:=cl) (x:=x) (R:=replicate 19 none) (all:=[]) rfl os (w:=0) (k:=k) (x3:=x3) (x5:=none) (i:=0) (C:=C1) ho (by decide) (by rw [lo]; decide) (QO c0 c0)
 obtain ⟨m,hm⟩ : ∃ m,m=mP x k x3 (some (dN (ky os 0))) x5 (replicate 19 none):=⟨_,rfl⟩
 rw [<-hm] at e2
 have lm:25=m.length:=by rw [hm]; rfl
 have e3:=Iv (P:=Q2) (cl:=cl) (m:=m) (C:=C1) (v:=25) hf lm (w:=ky os 0) (by rw [hm]; rfl)
 obtain ⟨f0,de⟩ : ∃ f0:Nat->Option D,f0=λi=>(m[i]?).join:=⟨_,rfl⟩
 have h1:f0 1=some (.loc 0):=by rw [de,hm]; rfl
 rw [IE lm,<-de] at e2 e3
 obtain ⟨f1,bg⟩ : ∃ f1,f1=uf f0 6 (.lst ((nz (jO (ky os 0))).map .int)):=⟨_,rfl⟩
 obtain ⟨ob,C2,e4,jq,p2⟩:=Ia (r:=dt::eR::r2) (n:=n+1) (m:=fr 25 f1) (C:=C1) (cl:=cl) (e:=.var 1) (os:=os) aw (bc rfl (by rw [bg]; exact h1)) (by unfold aT; dsimp only; rw [c0]) ho (by rw [lo]; decide)
 rw [HR lo ho] at jq
 obtain ⟨f2,dj⟩ : ∃ f2,f2=uf f1 7 (.bytes ob):=⟨_,rfl⟩
 have g6:f2 6=some (.lst ((nz (jO (ky os 0))).map .int)):=by rw [dj,bg]; rfl
 have g7:f2 7=some (.bytes ob):=by rw [dj]; rfl
 have i1:ev Q2 cl (.call (.cst (.bn .isinstance)) (.cons (.var 7) (.cons (.cst (.bn .bytes)) .nil)) .nil) ⟨fr 25 f2,C2⟩=.ok (.bool true) ⟨fr 25 f2,C2⟩:=c6 (g:=.bn .isinstance) rfl (kR (bc rfl g7) (d2:=.bn .bytes) rfl) (c5 hf)
 have i2:ev Q2 cl (.call (.cst (.bn .list)) (.cons (.var 7) .nil) .nil) ⟨fr 25 f2,C2⟩=.ok (.lst (((jO (ky os 0)).map ba).map .int)) ⟨fr 25 f2,C2⟩:=c6 (g:=.bn .list) rfl (bT (bc rfl g7)) ((c5 hf).trans (by rw [<-jq,map_map]; rfl))
 have i3:=Pz (r:=eR::r2) (m:=fr 25 f2) (C:=C2) (cl:=cl) (v:=25) (w:=6) (n:=n+3) aw (by decide) iN ((md (by decide)).trans (congrArg some g6)) A0 (by rw [AZ]; decide)
 refine kQ ⟨f2,jO (ky os 0),C2,?_,A0,AZ,g6⟩
 rw [<-hx]
 refine (bl (rP (ds:=(nz [129,28,164,22,136,16]).map .int) rfl (lb rfl) rfl)).trans ((bl (bM (d:=.int 0) rfl (lb rfl))).trans ?_)
 show aq Q2 cl c2law_30 ⟨mP x 0 none none none (replicate 19 none),[.list ((nz [129,28,164,22,136,16]).map .int)]⟩=_
 refine (bl ((fU (items:=ns.map .int) hf j3 rfl).trans e1)).trans ((bl (bM (d:=.int 0) rfl (lt_of_lt_of_le (by decide:4<6) qi))).trans ?_)
 show aq Q2 cl c2law_28 ⟨mP x k x3 (some (dN 0)) none (replicate 19 none),C1⟩=_
 refine (bl ((fU (items:=(nz os).map .int) hf (au (d:=.loc 0) rfl) (by show (C1[0]?).bind qe=_; rw [c0]; rfl)).trans e2)).trans ?_
 refine iw e3 rfl ?_
 rw [<-bg]
 refine iw e4 rfl ?_
 rw [<-dj]
 exact bl (df ((rK (u9 i1 rfl) rfl).trans (bI i2 i3 (z:=false) (by rw [o9,decide_eq_true rfl]; rfl))) rfl rfl)
noncomputable def fx (fs:List Nat) (j:Nat):Nat:=fs.getD j 0
theorem nK {fs:List Nat} (b8 : ∀ f∈fs,f<64) {j:Nat}:fx fs j<64:=by
 unfold fx
 rw [getD_eq_getElem?_getD]
 induction h:fs[j]? with
 |none=>exact Nat.zero_lt_succ _
 |some a=>exact b8 a (mem_of_getElem? h)
theorem rV {fs:List Nat} {k:Nat} (hl:fs.length=k) {j:Nat} (hj:j<k):fs[j]?=some (fx fs j):=by
 unfold fx
 rw [getD_eq_getElem?_getD,getElem?_eq_getElem (by rw [hl]; exact hj)]; rfl
noncomputable def A2 (fs:List Nat) (p q:Nat):Bool:=(fx fs p).testBit q&&!(fx fs (6+p % 2)).testBit q
theorem Ja {fs:List Nat} {p:Nat}:(cX (fx fs p)).filter (λx=>!decide (x∈cX (fx fs (6+p % 2))))=dP (A2 fs) p:=by
 unfold dP A2
 rw [show cX (fx fs p)=(List.range 6).filter λq=>(fx fs p).testBit q from rfl,List.filter_filter]
 refine filter_congr λq hq=>?_
 have e1:decide (q∈cX (fx fs (6+p % 2)))=(fx fs (6+p % 2)).testBit q:=by
  rw [Bool.eq_iff_iff,decide_eq_true_eq,qj]
  exact ⟨λh=>h.2,λh=>⟨mem_range.mp hq,h⟩⟩
 rw [e1,Bool.and_comm]
section
variable {n:Nat} {f:Nat->Option D} {C:ai} {cl:Calls} {fs:List Nat}
theorem I9 (aw:cl=⟨aC Q2 10000 (n+2),10000⟩) (h6:f 6=some (.lst ((nz fs).map .int))) (b8 : ∀ f∈fs,f<64) (hl:fs.length=8) :
  ∃ C',aq Q2 cl c2law_24 ⟨fr 25 f,C⟩=aq Q2 cl c2law_23 ⟨fr 25 (uf f 9 (bX (A2 fs))),C'⟩:=by
 have hf:=cl2_0 aw
 obtain ⟨C',e,_⟩:=Hf (P:=Q2) (cl:=cl) (n:=25) (f:=f) (C:=C) (elt:=.call (.cst (.fn 7)) (.cons (.call (.cst (.fn 18)) (.cons (.idx (.var 6) (.var 25)) .nil) .nil) (.cons (.call (.cst (.fn 18)) (.cons (.idx (.var 6) (.bin .add (.cst (.int 6)) (.bin .mod (.var 25) (.cst (.int 2))))) .nil) .nil) .nil)) .nil) (g:=λp=>.lst ((nz (dP (A2 fs) p)).map .int)) hf λp hp C2 _=>by
  have pX:p<8:=lt_trans hp (by decide)
  have jY:6+p % 2<8:=add_lt_add_left (mod_lt _ (by decide)) 6
  have qM:ev Q2 cl (.var 25) ⟨fr 26 (uf f 25 (dN p)),C2⟩=.ok (dN p) ⟨fr 26 (uf f 25 (dN p)),C2⟩:=bc rfl rfl
  have v6:ev Q2 cl (.var 6) ⟨fr 26 (uf f 25 (dN p)),C2⟩=.ok (.lst ((nz fs).map .int)) ⟨fr 26 (uf f 25 (dN p)),C2⟩:=bc rfl h6
  have o1:=pq (r0:=dt) (r:=r2) (n:=n+1) aw (dA v6 qM ((lp).trans (lq (lt_trans pX (by decide)) (rV hl pX)))) (nK b8)
  have o2:=pq (r0:=dt) (r:=r2) (n:=n+1) (e:=.idx (.var 6) (.bin .add (.cst (.int 6)) (.bin .mod (.var 25) (.cst (.int 2))))) aw (dA v6 (bw (x:=dN 6) (y:=dN (p % 2)) rfl (bw (x:=dN p) (y:=dN 2) qM rfl (qr (by decide))) qq) ((lp).trans (lq (lt_trans jY (by decide)) (rV hl jY)))) (nK b8)
  have BO:=pk (r:=dt::eR::r2) (n:=n) aw o1 o2 rfl rfl (lt_of_le_of_lt NM (by decide))
  rw [Ja] at BO
  exact ⟨_,BO,iB⟩
 refine ⟨C',iw ?_ rfl rfl⟩
 refine e.trans ?_
 unfold bX xr
 rw [map_map]; rfl
end
theorem Ie {P:aP} {cl:Calls} {e:E} {b:Bool} {st aa:St} (h:ev P cl e st=.ok (.bool b) aa):ck P cl (.cons e .nil) st=.ok (.bool b) aa:=by
 refine (aQ h).trans ?_
 induction b<;>rfl
theorem FG {C:ai} {a b:Nat} {L W:List Nat} (ha:C[a]?=some (.list ((nz L).map .int))) (hb:C[b]?=some (.list ((nz W).map .int))) (hl:L.length+W.length<=aF):dz C .add (.loc a) (.loc b)=some (.lst ((nz (L++W)).map .int)):=by
 show (aT C (.loc a)).bind _=_
 rw [iC ha]
 show (aT C (.loc b)).bind _=_
 rw [iC hb]
 show (if ((nz L).map D.int).length+((nz W).map D.int).length<=aF then some (D.lst ((nz L).map .int++(nz W).map .int)) else none)=_
 rw [length_map,length_map,fI,fI,if_pos hl,tF,map_append]
theorem FF {C:ai} {b:Nat} {L W:List Nat} (hb:C[b]?=some (.list ((nz W).map .int))) (hl:W.length+L.length<=aF):dz C .add (.loc b) (.lst ((nz L).map .int))=some (.lst ((nz (W++L)).map .int)):=by
 show (aT C (.loc b)).bind _=_
 rw [iC hb]
 show (if ((nz W).map D.int).length+((nz L).map D.int).length<=aF then some (D.lst ((nz W).map .int++(nz L).map .int)) else none)=_
 rw [length_map,length_map,fI,fI,if_pos hl,tF,map_append]
theorem Dy {l:List Nat} {p:Nat}:(nz (l++[p])).map D.int=(nz l).map .int++[dN p]:=by rw [tF,map_append]; rfl
theorem PC {a b:Nat} (h:a+b<=6):a+b<=aF:=le_trans h (le_of_ble_eq_true rfl)
section
variable {n t:Nat} {cl:Calls} {A:Nat->Nat->Bool} {LO HI:Nat->Prop} {L W:List Nat} {f:Nat->Option D} {C:ai} {a b:Nat}
theorem fi.len {Lx Wx:List Nat} (M:fi A LO HI Lx Wx):Lx.length+Wx.length<=6:=by
 have:=cw M.eW (ks:=List.range 6) λx hx=>mem_range.mpr (M.lt x (mem_append.mp hx))
 rw [length_append] at this; exact this
theorem Rb (R:jG A LO HI) (aw:cl=⟨aC Q2 10000 (n+2),10000⟩) {left bu:List Nat} (hl:left=(List.range 6).filter λx=>!decide (x∈L++W)) (S:qX A left bu) (h9:f 9=some (bX A)) (er:f 10=some (.loc a)) (fy:f 11=some (.loc b)) (eM:a≠b) {y:D} (hy : ∀ A B,aY A B y=true) :
  ∀ (xs:List Nat) {pre:List Nat} {Lx Wx:List Nat} {f':Nat->Option D} {C:ai},bu=pre++xs->(∀ i,i≠8->f' i=f i)->Cl A LO HI L W pre Lx Wx->C[a]?=some (.list ((nz Lx).map .int))->C[b]?=some (.list ((nz Wx).map .int))->
  ∃ f2 C2 L2 W2,forLoop (λA B=>aY A B y) (.one 8) (λst=>aq Q2 cl c2law_4 st) (xs.map dN) ⟨fr 25 f',C⟩=.ok .next ⟨fr 25 f2,C2⟩/\(∀ i,i≠8->f2 i=f i)/\Cl A LO HI L W bu L2 W2/\C2[a]?=some (.list ((nz L2).map .int))/\C2[b]?=some (.list ((nz W2).map .int)):=λxs=>by
 induction xs with
 |nil=>exact λ{pre Lx Wx f' C} e hf K ha hb=>⟨f',C,Lx,Wx,rfl,hf,by rw [e,append_nil]; exact K,ha,hb⟩
 |cons p xs ih=>
  intro pre Lx Wx f' C e hf K ha hb
  have hp:p<6:=by
   have:=S.gd p (by rw [e]; exact mem_append_right _ (.head _))
   rw [hl] at this; exact mem_range.mp (mem_filter.mp this).1
  have K':=K.step R hl S e
  have len:=K.mid.len
  have CF : ∀ {k:Nat},k<=6->k<aF:=λh=>lt_of_le_of_lt h (le_of_ble_eq_true rfl)
  obtain ⟨f1,bg⟩ : ∃ f1,f1=uf f' 8 (dN p):=⟨_,rfl⟩
  have g : ∀ i,i≠8->f1 i=f i:=λi hi=>by rw [bg]; exact (if_neg hi).trans (hf i hi)
  have g8:f1 8=some (dN p):=by rw [bg]; rfl
  have v9 : ∀ C,ev Q2 cl (.idx (.var 9) (.var 8)) ⟨fr 25 f1,C⟩=.ok (.lst ((nz (dP A p)).map .int)) ⟨fr 25 f1,C⟩:=λC=>dA (bc rfl ((g 9 (by decide)).trans h9)) (bc rfl g8) (sS (pD hp) (lt_trans hp (by decide)))
  have v10 : ∀ C,ev Q2 cl (.var 10) ⟨fr 25 f1,C⟩=.ok (.loc a) ⟨fr 25 f1,C⟩:=λC=>bc rfl ((g 10 (by decide)).trans er)
  have v11 : ∀ C,ev Q2 cl (.var 11) ⟨fr 25 f1,C⟩=.ok (.loc b) ⟨fr 25 f1,C⟩:=λC=>bc rfl ((g 11 (by decide)).trans fy)
  have ec:=AG aw v9 (v10 C) (X:=Lx) (iC ha)
  obtain ⟨C1,fW⟩ : ∃ C1,C1=MF C (.loc a) .none 0:=⟨_,rfl⟩
  rw [<-fW] at ec
  have jm:C1[a]?=some (.list ((nz Lx).map .int)):=by rw [fW]; exact jA iB ha
  have ia:C1[b]?=some (.list ((nz Wx).map .int)):=by rw [fW]; exact jA iB hb
  have e':bu=(pre++[p])++xs:=by rw [append_assoc]; exact e
  have bt:gv (.one 8) (dN p) (fr 25 f')=some (fr 25 f1):=by rw [bg]; exact o4 (by decide)
  induction hn:dC A Lx p with
  |true=>
   rw [hn] at ec K'
   obtain ⟨f2,C2,L2,W2,e2,r⟩:=ih (C:=C1.set a (.list ((nz (Lx++[p])).map .int))) e' g K' (kH jm) (iD ia (Ne.symm eM))
   refine ⟨f2,C2,L2,W2,(fV bt (bJ (jt ec rfl (bJ (hY (rI (v10 C1) (bc rfl g8) jm ?_))))) (hy _ _)).trans ?_,r⟩
   ·rw [length_map,fI]; exact CF (le_trans (le_add_right _ _) len)
   ·rw [<-Dy]; exact e2
  |false=>
   rw [hn] at ec K'
   obtain ⟨f2,C2,L2,W2,e2,r⟩:=ih (C:=C1.set b (.list ((nz (Wx++[p])).map .int))) e' g K' (iD jm eM) (kH ia)
   refine ⟨f2,C2,L2,W2,(fV bt (bJ (df ec rfl (bJ (hY (rI (v11 C1) (bc rfl g8) ia ?_))))) (hy _ _)).trans ?_,r⟩
   ·rw [length_map,fI]; exact CF (le_trans (le_add_left _ _) len)
   ·rw [<-Dy]; exact e2
noncomputable def Fy (f g:Nat->Option D):Prop := ∀ i,i≠8->i≠11->i≠12->i≠13->i≠14->i≠15->i≠16->g i=f i
theorem Rn (R:jG A LO HI) (aw:cl=⟨aC Q2 10000 (n+4),10000⟩) (h9:f 9=some (bX A)) (er:f 10=some (.loc a)) (fy:f 11=some (.loc b)) (eM:a≠b) (ha:C[a]?=some (.list ((nz L).map .int))) (hb:C[b]?=some (.list ((nz W).map .int))) (G:GS A LO HI t L W) :
  ∃ f' C' b' L' W',aq Q2 cl c2law_5 ⟨fr 25 f,C⟩=.ok .next ⟨fr 25 f',C'⟩/\Fy f f'/\f' 11=some (.loc b')/\a≠b'/\C'[a]?=some (.list ((nz L').map .int))/\C'[b']?=some (.list ((nz W').map .int))/\GS A LO HI (t+1) L' W':=by
 have hf:=cl2_0 aw
 refine cps λQQ kQ=>?_
 have e0:ev Q2 cl (.list (.cons (.cst (.int 0)) (.cons (.cst (.int 1)) (.cons (.cst (.int 2)) (.cons (.cst (.int 3)) (.cons (.cst (.int 4)) (.cons (.cst (.int 5)) .nil))))))) ⟨fr 25 f,C⟩=.ok (.lst ((nz (List.range 6)).map .int)) ⟨fr 25 f,C⟩:=rfl
 have e1:=pk (r:=dt::eR::r2) (n:=n+2) aw e0 (bw (bc rfl er) (bc rfl fy) (FG ha hb (PC G.mid.len))) rfl rfl (by decide)
 obtain ⟨left,hl⟩ : ∃ left,left=(List.range 6).filter λx=>!decide (x∈L++W):=⟨_,rfl⟩
 rw [<-hl] at e1
 obtain ⟨C1,fW⟩ : ∃ C1,C1=MF C (.lst ((nz (L++W)).map .int)) .none 0:=⟨_,rfl⟩
 rw [<-fW] at e1
 obtain ⟨f1,bg⟩ : ∃ f1,f1=uf f 13 (.lst ((nz left).map .int)):=⟨_,rfl⟩
 have sF : ∀ p∈left,p<6:=λp h=>by rw [hl] at h; exact mem_range.mp (mem_filter.mp h).1
 have wg:left.Nodup:=by rw [hl]; exact nodup_range.filter _
 obtain ⟨m',C2,bu,e2,p2,S⟩:=Q4 (A:=A) (n:=n) (C:=C1) wg sF
 have c2:ev Q2 cl (.call (.cst (.fn 19)) (.cons (.var 13) (.cons (.var 9) .nil)) .nil) ⟨fr 25 f1,C1⟩=.ok (.tup [.bool (decide (bu.length<left.length)),.lst ((nz bu).map .int)]) ⟨fr 25 f1,C2⟩:=by
  subst aw
  exact ma (k:=19) (aa:=⟨m',C2⟩) rfl (kR (bc rfl (by rw [bg]; rfl)) (bc rfl (by rw [bg]; exact h9))) e2
 obtain ⟨f2,dj⟩ : ∃ f2,f2=uf (uf f1 14 (.bool (decide (bu.length<left.length)))) 15 (.lst ((nz bu).map .int)):=⟨_,rfl⟩
 have g2 : ∀ i,i≠13->i≠14->i≠15->f2 i=f i:=λi a b c=>by rw [dj,bg]; exact (if_neg c).trans ((if_neg b).trans (if_neg a))
 have Bj:f2 13=some (.lst ((nz left).map .int)):=by rw [dj,bg]; rfl
 have vr:f2 15=some (.lst ((nz bu).map .int)):=by rw [dj]; rfl
 have ll : ∀ (l:List Nat),tg C2 (.lst ((nz l).map .int))=some (l.length:Int):=λl=>by
  show some ((((nz l).map D.int).length:Nat):Int)=_
  rw [length_map,fI]
 have c3:=bI (op:=.ne) (P:=Q2) (cl:=cl) (bc (n:=25) (i:=14) (f:=f2) (C:=C2) (d:=.bool (decide (bu.length<left.length))) rfl (by rw [dj]; rfl)) (bI (op:=.lt) (AF hf (bc (i:=15) rfl vr) (ll bu)) (AF hf (bc (i:=13) rfl Bj) (ll left)) G8) rp
 rw [bne_self_eq_false] at c3
 have vN:C2[a]?=some (.list ((nz L).map .int)):=jA (iB.trans (fW ▸ p2)) ha
 have kX:C2[b]?=some (.list ((nz W).map .int)):=jA (iB.trans (fW ▸ p2)) hb
 have k9:=(g2 9 (by decide) (by decide) (by decide)).trans h9
 have mL:=(g2 10 (by decide) (by decide) (by decide)).trans er
 have n9:=(g2 11 (by decide) (by decide) (by decide)).trans fy
 obtain ⟨f3,C3,L',W',e4,g3,K,BB,JC⟩:=Rb (n:=n+2) R aw hl S k9 mL n9 eM (y:=.lst ((nz bu).map .int)) (λ_ _=>rfl) bu (pre:=[]) (Lx:=L) (Wx:=W) (f':=f2) (C:=C2) rfl (λ_ _=>rfl) ⟨G.mid,λx=>⟨.inl,λh=>h.resolve_right λz=>(nomatch z)⟩,λ_ h=>h,rfl⟩ vN kX
 have Mj:=(g3 13 (by decide)).trans Bj
 have Mk:=(g3 15 (by decide)).trans vr
 have l9:=(g3 9 (by decide)).trans k9
 have Mh:=(g3 10 (by decide)).trans mL
 have Mi:=(g3 11 (by decide)).trans n9
 have e5:=pk (r:=dt::eR::r2) (n:=n+2) (C:=C3) aw (bc (n:=25) (i:=13) rfl Mj) (bc (i:=15) rfl Mk) rfl rfl (lt_of_le_of_lt (cw wg λx h=>mem_range.mpr (sF x h)) (by decide))
 obtain ⟨cg,BG⟩ : ∃ cg,cg=(left.filter λx=>!decide (x∈bu)).filter λp=>!dC A L' p:=⟨_,rfl⟩
 have B3 : ∀ x∈left.filter (λx=>!decide (x∈bu)),x<6:=λx h=>sF x (mem_filter.mp h).1
 obtain ⟨C4,e6,p4⟩:=Hg (P:=Q2) (cl:=cl) (n:=25) (f:=f3) (C0:=C3) (elt:=.var 25) (ifs:=.cons (.cmp .ne (.call (.cst (.fn 7)) (.cons (.idx (.var 9) (.var 25)) (.cons (.var 10) .nil)) .nil) (.idx (.var 9) (.var 25))) .nil) (gx:=dN) (g:=dN) (p:=λp=>!dC A L' p) (xs:=left.filter λx=>!decide (x∈bu)) hf e5
  (by show some ((nz _).map D.int)=_; unfold nz; rw [map_map]; rfl) (lt_of_le_of_lt (le_trans (length_filter_le _ _) (cw wg λx h=>mem_range.mpr (sF x h))) (by decide)) (λ_ _ _ _=>rfl) λp hp C5 h5=>
   ⟨_,Ie (H8 (n:=n+2) (A:=A) (p:=p) (X:=L') aw (λC=>dA (bc rfl l9) (bc rfl rfl) (sS (pD (B3 p hp)) (lt_trans (B3 p hp) (by decide)))) (bc rfl Mh) (iC (jA h5 (jA iB BB)))),iB,λ_=>bc rfl rfl⟩
 rw [show ((left.filter λx=>!decide (x∈bu)).filter λp=>!dC A L' p).map dN=(nz cg).map .int by rw [BG]; unfold nz; rw [map_map]; rfl] at e6
 have G':=G.next R hl S K
 rw [<-BG] at G'
 have si:=jA p4 (jA iB BB)
 have JD:=jA p4 (jA iB JC)
 obtain ⟨f4,jR⟩ : ∃ f4,f4=uf f3 16 (.lst ((nz cg).map .int)):=⟨_,rfl⟩
 have Mu:W'.length+cg.length<=aF:=by
  have:=G'.mid.len
  rw [length_append] at this
  exact le_trans (le_trans (le_add_left _ _) this) (le_of_ble_eq_true rfl)
 have e7:ev Q2 cl (.bin .add (.var 11) (.var 16)) ⟨fr 25 f4,C4⟩=.ok (.lst ((nz (W'++cg)).map .int)) ⟨fr 25 f4,C4⟩:=bw (bc rfl (by rw [jR]; exact Mi)) (bc rfl (by rw [jR]; rfl)) (FF JD Mu)
 refine kQ ⟨uf f4 11 (.loc C4.length),C4++[.list ((nz (W'++cg)).map .int)],C4.length,L',W'++cg,?_,λi i8 Lk i12 Ll Lm Ln Lo=>?_,rfl,ne_of_lt (wZ si),fQ si,dI,G'⟩
 ·refine iw e1 rfl ?_
  rw [<-bg]
  refine (bl (Ik hf c2 rfl rfl)).trans ?_
  rw [<-dj]
  refine (bl (df c3 rfl rfl)).trans ((bl ((fU (items:=bu.map dN) hf (bc (i:=15) rfl vr) (by show some ((nz bu).map D.int)=_; unfold nz; rw [map_map]; rfl)).trans e4)).trans ?_)
  refine iw e6 rfl ?_
  rw [<-jR]
  exact bJ (AQ e7 rfl rfl)
 ·show (if i=11 then _ else f4 i)=_
  rw [if_neg Lk,jR]
  exact (if_neg Lo).trans ((g3 i i8).trans (g2 i Ll Lm Ln))
end
noncomputable def xq (l:List Nat):Nat:=(l.map λk=>2 ^ k).sum
noncomputable def rY (b0 b1 b2 b3 b4 b5:Bool):List Nat:=(List.range 6).filter λk=>[b0,b1,b2,b3,b4,b5].getD k false
theorem A9 : ∀ b0 b1 b2 b3 b4 b5:Bool,cX (xq (rY b0 b1 b2 b3 b4 b5))=rY b0 b1 b2 b3 b4 b5/\xq (rY b0 b1 b2 b3 b4 b5)<64:=by decide +kernel
theorem A8 (p:Nat->Bool):(List.range 6).filter p=rY (p 0) (p 1) (p 2) (p 3) (p 4) (p 5):=filter_congr λk hk=>by
 rcases CU k (mem_range.mp hk) with rfl|rfl|rfl|rfl|rfl|rfl<;>rfl
noncomputable def bs (p:Nat->Bool):Nat:=xq ((List.range 6).filter p)
section
variable {p:Nat->Bool} {a b q:Nat}
theorem uJ:cX (bs p)=(List.range 6).filter p:=by unfold bs; rw [A8]; exact (A9 _ _ _ _ _ _).1
theorem fS:bs p<64:=by unfold bs; rw [A8]; exact (A9 _ _ _ _ _ _).2
theorem gw (h:q<6):(bs p).testBit q=p q:=by
 have:q∈cX (bs p)↔q∈(List.range 6).filter p:=by rw [uJ]
 rw [qj,mem_filter,mem_range] at this
 rw [Bool.eq_iff_iff]
 exact ⟨λz=>(this.mp ⟨h,z⟩).2,λz=>(this.mpr ⟨h,z⟩).2⟩
theorem yZ (ha:a<64) (h : ¬q<6):a.testBit q=false:=Nat.testBit_lt_two_pow (lt_of_lt_of_le ha (show 2 ^ 6<=2 ^ q from Nat.pow_le_pow_right (by decide) (le_of_not_lt h)))
theorem rT (ha:a<64) (hb:b<64) (h : ∀ q<6,a.testBit q=b.testBit q):a=b:=Nat.eq_of_testBit_eq λq=>by
 by_cases hq:q<6
 ·exact h q hq
 ·rw [yZ ha hq,yZ hb hq]
theorem rh (ha:a<64):a &&& b<64:=lt_of_le_of_lt Nat.and_le_left ha
theorem NR (ha:a<64) (hb:b<64):a ||| b<64:=Nat.or_lt_two_pow (n:=6) ha hb
theorem FN (ha:a<64):a &&& b=a ↔ ∀ q<6,a.testBit q=true->b.testBit q=true:=by
 constructor
 ·intro h q _ hq
  rw [<-h,testBit_and,and_eq_true] at hq; exact hq.2
 ·refine λh=>rT (rh ha) ha λq hq=>?_
  rw [testBit_and]
  induction z:a.testBit q with
  |true=>rw [h q hq z]; rfl
  |false=>rfl
theorem uy (ha:a<64):a &&& b=0 ↔ ∀ q<6,a.testBit q=true->b.testBit q=false:=by
 constructor
 ·intro h q _ hq
  have:(a &&& b).testBit q=false:=by rw [h]; exact Nat.zero_testBit q
  rw [testBit_and,hq,Bool.true_and] at this; exact this
 ·refine λh=>rT (rh ha) (by decide) λq hq=>?_
  rw [testBit_and,Nat.zero_testBit]
  induction z:a.testBit q with
  |true=>rw [h q hq z]; rfl
  |false=>rfl
end
theorem NF : ∀ l:List Nat,(nz l).sum=(l.sum:Int):=λl=>by
 induction l with
 |nil=>rfl
 |cons a l ih=>
  show (a:Int)+(nz l).sum=((a+l.sum:Nat):Int)
  rw [ih]; rfl
section
variable {P:aP} {cl:Calls} {n:Nat} {f:Nat->Option D} {C:ai}
theorem AA {ifs:Es} {p:Nat->Bool} (hf:cl.fuel≠0) (ht : ∀ j,j<6->ck P cl ifs ⟨fr (n+1) (uf f n (dN j)),C⟩=.ok (.bool (p j)) ⟨fr (n+1) (uf f n (dN j)),C⟩) :
  ev P cl (.call (.cst (.bn .sum)) (.cons (.comp (.bin .pow (.cst (.int 2)) (.var n)) (.cons (.one n) (iK 6) ifs .nil)) .nil) .nil) ⟨fr n f,C⟩=.ok (dN (bs p)) ⟨fr n f,C⟩:=by
 have e:=zR (P:=P) (cl:=cl) (n:=n) (f:=f) (C:=C) (elt:=.bin .pow (.cst (.int 2)) (.var n)) (g:=λj=>dN (2 ^ j)) hf ht λj hj _=>bw (x:=dN 2) (y:=dN j) rfl (au ((md (lt_succ_self n)).trans (congrArg some (if_pos rfl)))) (xe (by decide) (le_of_lt (lt_trans hj (by decide))))
 have e2:((List.range 6).filter p).map (λj=>dN (2 ^ j))=(nz (((List.range 6).filter p).map λk=>2 ^ k)).map .int:=by unfold nz; rw [map_map,map_map]; rfl
 rw [e2] at e
 refine c6 (g:=.bn .sum) rfl (bT e) ((c5 hf).trans ?_)
 obtain ⟨l,hl⟩ : ∃ l,l=((List.range 6).filter p).map λk=>2 ^ k:=⟨_,rfl⟩
 have hs : ∀ x∈l,x<2 ^ 32:=λx hx=>by
  rw [hl] at hx
  obtain ⟨k,hk,rfl⟩:=mem_map.mp hx
  exact Nat.pow_lt_pow_right (by decide) (lt_trans (mem_range.mp (mem_filter.mp hk).1) (by decide))
 have Kp:l.length<=aF:=by rw [hl,length_map]; exact le_trans (length_filter_le _ _) (le_of_ble_eq_true rfl)
 show aK (d8 ((nz _).map .int)) (λxs=>bp (xs.all (λx=>decide (x.natAbs<2 ^ 32))&&decide (xs.length<=aF)) (.ok (.int xs.sum) ⟨fr n f,C⟩))=_
 rw [mG,<-hl]
 show bp ((nz l).all (λx=>decide (x.natAbs<2 ^ 32))&&decide ((nz l).length<=aF)) (.ok (.int (nz l).sum) ⟨fr n f,C⟩)=_
 rw [fI,decide_eq_true Kp,show (nz l).all (λx=>decide (x.natAbs<2 ^ 32))=true from all_eq_true.mpr λx hx=>by obtain ⟨k,hk,rfl⟩:=kg.mp hx; exact decide_eq_true (hs k hk),NF,hl]; rfl
end
theorem ND {l:List Nat} (h:l.Pairwise (· < ·)):(nz l).Pairwise (·<=·):=by
 unfold nz
 rw [List.pairwise_map]
 exact h.imp λa=>ofNat_le.mpr (le_of_lt a)
theorem QF {l:List Nat} {N:Nat} (hn:l.Nodup) (hl : ∀ x∈l,x<N):m8 (nz l)=nz ((List.range N).filter λx=>decide (x∈l)):=by
 obtain ⟨p1,p2⟩:=xN (nz l)
 refine List.Perm.eq_of_pairwise (λa b _ _ h1 h2=>Int.le_antisymm h1 h2) p2 (ND (List.pairwise_lt_range.filter _)) (p1.trans ((List.perm_ext_iff_of_nodup (qn hn) (qn (nodup_range.filter _))).mpr λx=>?_))
 rw [kg,kg]
 refine exists_congr λk=>and_congr_left λ_=>?_
 rw [mem_filter,mem_range,decide_eq_true_eq]
 exact ⟨λh=>⟨hl k h,h⟩,λh=>h.2⟩
theorem H9 {P:aP} {cl:Calls} {e:E} {d:D} {m:List (Option D)} {C C':ai} {l:List Nat} {N:Nat} (hf:cl.fuel≠0) (he:ev P cl e ⟨m,C⟩=.ok d ⟨m,C'⟩) (hd:aT C' d=some ((nz l).map .int)) (hn:l.Nodup) (hl : ∀ x∈l,x<N) (pF:N<64) :
  ev P cl (.call (.cst (.bn .sorted)) (.cons e .nil) .nil) ⟨m,C⟩=.ok (.lst ((nz ((List.range N).filter λx=>decide (x∈l))).map .int)) ⟨m,C'⟩:=by
 refine c6 (g:=.bn .sorted) rfl (bT he) ((c5 hf).trans ?_)
 show aK ((aT C' d).bind d8) _=_
 rw [hd]
 show aK (d8 ((nz l).map .int)) _=_
 rw [mG]
 show bp (decide ((nz l).length<64)) _=_
 have:l.length<=N:=by
  have:=cw hn (ks:=List.range N) λx h=>mem_range.mpr (hl x h)
  rw [List.length_range] at this; exact this
 rw [fI,decide_eq_true (lt_of_le_of_lt this pF),QF hn hl]; rfl
section
variable {n:Nat} {cl:Calls} {A:Nat->Nat->Bool} {LO HI:Nat->Prop} {f:Nat->Option D} {C:ai} {fs:List Nat}
theorem Q7 (R:jG A LO HI) (aw:cl=⟨aC Q2 10000 (n+4),10000⟩) (h9:f 9=some (bX A)) :
  ∃ f' C' a b L W,aq Q2 cl c2law_23 ⟨fr 25 f,C⟩=aq Q2 cl c2law_20 ⟨fr 25 f',C'⟩/\(∀ i,i<10->i≠8->f' i=f i)/\f' 10=some (.loc a)/\f' 11=some (.loc b)/\C'[a]?=some (.list ((nz L).map .int))/\C'[b]?=some (.list ((nz W).map .int))/\GS A LO HI 4 L W:=by
 have hf:=cl2_0 aw
 refine cps λQQ kQ=>?_
 obtain ⟨f1,bg⟩ : ∃ f1,f1=uf (uf f 10 (.loc C.length)) 11 (.loc (C++[Ch.list []]).length):=⟨_,rfl⟩
 obtain ⟨C1,fW⟩ : ∃ C1,C1=(C++[Ch.list []])++[Ch.list []]:=⟨_,rfl⟩
 obtain ⟨aB,e1,f2,C2,b,L,W,rfl,k1,k9,mL,n9,CB,ka,kb,G⟩:=vn (g:=dN) (aS:=λA B=>aY A B (.bZ 0 4)) (t:=.one 12) (body:=λst=>aq Q2 cl c2law_5 st)
  (I:=λ(rest:List Nat) st => ∃ f' C' b L W,st=⟨fr 25 f',C'⟩/\(∀ i,i<10->i≠8->f' i=f i)/\f' 9=some (bX A)/\f' 10=some (.loc C.length)/\f' 11=some (.loc b)/\C.length≠b/\C'[C.length]?=some (.list ((nz L).map .int))/\C'[b]?=some (.list ((nz W).map .int))/\GS A LO HI (4 - rest.length) L W/\rest.length<=4)
  (λx xs m C0 h=>by
   obtain ⟨f2,C2,b,L,W,e,k1,k9,mL,n9,CB,ka,kb,G,hlen⟩:=h
   obtain ⟨em,ec⟩:=xP e
   rw [em,ec]
   obtain ⟨f3,C3,b',L',W',e3,g1,IP,IT,ga,gb,G'⟩:=Rn (n:=n) (f:=uf f2 12 (dN x)) (C:=C2) R aw k9 mL n9 CB ka kb G
   have kp : ∀ i,i<12->i≠8->i≠11->f3 i=f2 i:=λi h1 h2 h3=>by
    have o : ∀ k,12<=k->i≠k:=λk hk=>ne_of_lt (lt_of_lt_of_le h1 hk)
    exact (g1 i h2 h3 (o 12 (by decide)) (o 13 (by decide)) (o 14 (by decide)) (o 15 (by decide)) (o 16 (by decide))).trans (if_neg (o 12 (by decide)))
   refine ⟨fr 25 (uf f2 12 (dN x)),⟨fr 25 f3,C3⟩,o4 (by decide),e3,rfl,f3,C3,b',L',W',rfl,λi h1 h2=>(kp i (lt_trans h1 (by decide)) h2 (ne_of_lt (lt_trans h1 (by decide)))).trans (k1 i h1 h2),(kp 9 (by decide) (by decide) (by decide)).trans k9,(kp 10 (by decide) (by decide) (by decide)).trans mL,IP,IT,ga,gb,?_,le_of_succ_le hlen⟩
   rw [show 4 - xs.length=4 - (x::xs).length+1 from (Nat.succ_pred_eq_of_pos (sub_pos_of_lt hlen)).symm]; exact G') (List.range 4) ⟨fr 25 f1,C1⟩
  ⟨f1,C1,_,[],[],rfl,λi h1 h2=>by rw [bg]; exact (if_neg (ne_of_lt (lt_trans h1 (by decide)))).trans (if_neg (ne_of_lt h1)),by rw [bg]; exact h9,by rw [bg]; rfl,by rw [bg]; rfl,by rw [length_append]; exact ne_of_lt (lt_succ_self _),by rw [fW]; exact fQ dI,by rw [fW]; exact dI,GS.zero,le_refl 4⟩
 refine kQ ⟨f2,C2,C.length,b,L,W,?_,k1,mL,n9,ka,kb,G.1⟩
 refine EB (ds:=[]) rfl rfl rfl (EB (ds:=[]) rfl rfl rfl ?_)
 rw [<-bg,<-fW]
 exact bl ((fU (items:=(List.range 4).map dN) hf (c6 (g:=.bn .range) (ds:=[.int 4]) rfl rfl ((c5 hf).trans rfl)) rfl).trans e1)
noncomputable def cT (fs:List Nat) (p:Nat):Nat:=fx fs p - (fx fs p &&& fx fs (6+p % 2))
theorem QV : ∀ a<64,∀ b<64,a - (a &&& b)=a &&& (63 - b):=by decide +kernel
theorem Dj : ∀ b<64,∀ q<6,(63 - b).testBit q=!b.testBit q:=by decide +kernel
theorem w5 (b8 : ∀ f∈fs,f<64) {p:Nat}:cT fs p<64:=lt_of_le_of_lt (sub_le _ _) (nK b8)
theorem tv (b8 : ∀ f∈fs,f<64) {p q:Nat} (hq:q<6):(cT fs p).testBit q=A2 fs p q:=by
 unfold cT A2
 rw [QV _ (nK b8) _ (nK b8),testBit_and,Dj _ (nK b8) q hq]
noncomputable abbrev ke (fs:List Nat):D:=.lst ((nz ((List.range 6).map (cT fs))).map .int)
theorem MT (aw:cl=⟨aC Q2 10000 (n+4),10000⟩) (h6:f 6=some (.lst ((nz fs).map .int))) (hl:fs.length=8) :
  ev Q2 cl (.comp (.bin .sub (.idx (.var 6) (.var 25)) (.bin .and (.idx (.var 6) (.var 25)) (.idx (.var 6) (.bin .add (.cst (.int 6)) (.bin .mod (.var 25) (.cst (.int 2))))))) (.cons (.one 25) (iK 6) .nil .nil)) ⟨fr 25 f,C⟩=.ok (ke fs) ⟨fr 25 f,C⟩:=by
 have hf:=cl2_0 aw
 have:=zR (P:=Q2) (cl:=cl) (n:=25) (f:=f) (C:=C) (elt:=.bin .sub (.idx (.var 6) (.var 25)) (.bin .and (.idx (.var 6) (.var 25)) (.idx (.var 6) (.bin .add (.cst (.int 6)) (.bin .mod (.var 25) (.cst (.int 2))))))) (ifs:=.nil) (g:=λp=>dN (cT fs p)) (p:=λ_=>true) hf (λ_ _=>rfl) λp hp _=>by
  have pX:p<8:=lt_trans hp (by decide)
  have jY:6+p % 2<8:=add_lt_add_left (mod_lt _ (by decide)) 6
  have qM:ev Q2 cl (.var 25) ⟨fr 26 (uf f 25 (dN p)),C⟩=.ok (dN p) ⟨fr 26 (uf f 25 (dN p)),C⟩:=bc rfl rfl
  have v6:ev Q2 cl (.var 6) ⟨fr 26 (uf f 25 (dN p)),C⟩=.ok (.lst ((nz fs).map .int)) ⟨fr 26 (uf f 25 (dN p)),C⟩:=bc rfl h6
  have i1:=dA v6 qM ((lp).trans (lq (lt_trans pX (by decide)) (rV hl pX)))
  exact bw i1 (bw i1 (dA v6 (bw (x:=dN 6) (y:=dN (p % 2)) rfl (bw (x:=dN p) (y:=dN 2) qM rfl (qr (by decide))) qq) ((lp).trans (lq (lt_trans jY (by decide)) (rV hl jY)))) oA) (tI Nat.and_le_left)
 rw [this,filter_eq_self.mpr (λ_ _=>rfl)]
 unfold ke nz
 rw [map_map,map_map]; rfl
theorem w3 {p:Nat} (hp:p<6):((List.range 6).map (cT fs))[p]?=some (cT fs p):=pD hp
theorem Oi (aw:cl=⟨aC Q2 10000 (n+4),10000⟩) (b8 : ∀ f∈fs,f<64) {t:Nat} (jk:f 17=some (ke fs)) (iP:f 19=some (dN (bs (fK (A2 fs) (bS (A2 fs) t))))) :
  aq Q2 cl c2law_7 ⟨fr 25 f,C⟩=.ok .next ⟨fr 25 (uf (uf f 18 (dN (bs (bS (A2 fs) (t+1))))) 19 (dN (bs (fK (A2 fs) (bS (A2 fs) (t+1)))))),C⟩:=by
 have hf:=cl2_0 aw
 have e1:ev Q2 cl _ ⟨fr 25 f,C⟩=_:=AA (P:=Q2) (cl:=cl) (n:=25) (f:=f) (C:=C) (ifs:=.cons (.cmp .eq (.bin .and (.idx (.var 17) (.var 25)) (.var 19)) (.idx (.var 17) (.var 25))) .nil) (p:=bS (A2 fs) (t+1)) hf λp hp=>by
  have i1:ev Q2 cl (.idx (.var 17) (.var 25)) ⟨fr 26 (uf f 25 (dN p)),C⟩=.ok (dN (cT fs p)) ⟨fr 26 (uf f 25 (dN p)),C⟩:=dA (bc rfl jk) (bc rfl rfl) ((lp).trans (lq (lt_trans hp (by decide)) (w3 hp)))
  refine rM (bI (bw i1 (bc rfl iP) oA) i1 (o8.trans (congrArg some ?_)))
  rw [Bool.eq_iff_iff,decide_eq_true_eq,FN (w5 b8),mU]
  refine forall_congr' λq=>forall_congr' λhq=>?_
  rw [tv b8 hq,gw hq]
 obtain ⟨f1,bg⟩ : ∃ f1,f1=uf f 18 (dN (bs (bS (A2 fs) (t+1)))):=⟨_,rfl⟩
 have e2:ev Q2 cl _ ⟨fr 25 f1,C⟩=_:=AA (P:=Q2) (cl:=cl) (n:=25) (f:=f1) (C:=C) (ifs:=.cons (.cmp .ne (.bin .and (.idx (.var 17) (.var 25)) (.var 18)) (.cst (.int 0))) .nil) (p:=fK (A2 fs) (bS (A2 fs) (t+1))) hf λp hp=>by
  have i1:ev Q2 cl (.idx (.var 17) (.var 25)) ⟨fr 26 (uf f1 25 (dN p)),C⟩=.ok (dN (cT fs p)) ⟨fr 26 (uf f1 25 (dN p)),C⟩:=dA (bc rfl (by rw [bg]; exact jk)) (bc rfl rfl) ((lp).trans (lq (lt_trans hp (by decide)) (w3 hp)))
  refine rM (bI (y:=dN 0) (bw i1 (y:=dN (bs (bS (A2 fs) (t+1)))) (bc rfl (by rw [bg]; rfl)) oA) rfl (G9.trans (congrArg some ?_)))
  rw [Bool.eq_iff_iff,not_eq_true',decide_eq_false_iff_not,uy (w5 b8),iq]
  constructor
  ·exact λh=>Classical.byContradiction λz=>h λq hq h1=>by
    rw [tv b8 hq] at h1
    rw [gw hq]
    exact eq_false_iff.mpr λh2=>z ⟨q,hq,h1,h2⟩
  ·rintro ⟨q,hq,h1,h2⟩ h
   have:=h q hq (by rw [tv b8 hq]; exact h1)
   rw [gw hq,h2] at this
   exact (nomatch this)
 refine iw e1 rfl ?_
 rw [<-bg]
 exact bJ (vd e2 rfl)
theorem Oj (aw:cl=⟨aC Q2 10000 (n+4),10000⟩) (h6:f 6=some (.lst ((nz fs).map .int))) (b8 : ∀ f∈fs,f<64) (hl:fs.length=8) :
  ∃ f',aq Q2 cl c2law_20 ⟨fr 25 f,C⟩=aq Q2 cl c2law_16 ⟨fr 25 f',C⟩/\(∀ i,i<17->f' i=f i)/\f' 17=some (ke fs)/\f' 18=some (dN (bs (bR (A2 fs))))/\f' 19=some (dN (bs (cQ (A2 fs)))):=by
 have hf:=cl2_0 aw
 refine cps λQQ kQ=>?_
 obtain ⟨f1,bg⟩ : ∃ f1,f1=uf (uf (uf f 17 (ke fs)) 18 (.int 0)) 19 (.int 0):=⟨_,rfl⟩
 have b0 : ∀ {p:Nat->Bool},(∀ q,p q=false)->bs p=0:=λh=>by unfold bs; rw [List.filter_eq_nil_iff.mpr λq _=>by rw [h]; exact Bool.false_ne_true]; rfl
 obtain ⟨aB,e1,f2,rfl,k1,s8,CA,wV,_⟩:=vn (g:=dN) (aS:=λA B=>aY A B (.bZ 0 6)) (t:=.one 20) (body:=λst=>aq Q2 cl c2law_7 st)
  (I:=λ(rest:List Nat) st => ∃ f',st=⟨fr 25 f',C⟩/\(∀ i,i<17->f' i=f i)/\f' 17=some (ke fs)/\f' 18=some (dN (bs (bS (A2 fs) (6 - rest.length))))/\f' 19=some (dN (bs (fK (A2 fs) (bS (A2 fs) (6 - rest.length)))))/\rest.length<=6)
  (λx xs m C0 h=>by
   obtain ⟨f2,e,k1,s8,CA,wV,hlen⟩:=h
   obtain ⟨em,ec⟩:=xP e
   rw [em,ec]
   have:=Oi (n:=n) (f:=uf f2 20 (dN x)) (C:=C) aw b8 (t:=6 - (x::xs).length) s8 wV
   refine ⟨_,_,o4 (by decide),this,rfl,_,rfl,λi h1=>?_,s8,?_,?_,le_of_succ_le hlen⟩
   ·have o : ∀ k,17<=k->i≠k:=λk hk=>ne_of_lt (lt_of_lt_of_le h1 hk)
    exact (if_neg (o 19 (by decide))).trans ((if_neg (o 18 (by decide))).trans ((if_neg (o 20 (by decide))).trans (k1 i h1)))
   ·rw [show 6 - xs.length=6 - (x::xs).length+1 from (Nat.succ_pred_eq_of_pos (sub_pos_of_lt hlen)).symm]; rfl
   ·rw [show 6 - xs.length=6 - (x::xs).length+1 from (Nat.succ_pred_eq_of_pos (sub_pos_of_lt hlen)).symm]; rfl) (List.range 6) ⟨fr 25 f1,C⟩
  ⟨f1,rfl,λi h1=>by
   rw [bg]
   have o : ∀ k,17<=k->i≠k:=λk hk=>ne_of_lt (lt_of_lt_of_le h1 hk)
   exact (if_neg (o 19 (by decide))).trans ((if_neg (o 18 (by decide))).trans (if_neg (o 17 (by decide)))),by rw [bg]; rfl,by rw [bg,b0 (p:=bS (A2 fs) (6 - (List.range 6).length)) λ_=>rfl]; rfl,by rw [bg,b0 (p:=fK (A2 fs) (bS (A2 fs) (6 - (List.range 6).length))) λq=>eq_false_iff.mpr λh=>by obtain ⟨_,_,_,z⟩:=iq.mp h; exact (nomatch z)]; rfl,le_refl 6⟩
 refine kQ ⟨f2,?_,k1,s8,CA,wV⟩
 refine iw (MT aw h6 hl) rfl (iw (d:=.int 0) rfl rfl (iw (d:=.int 0) rfl rfl ?_))
 rw [<-bg]
 exact bl ((fU (items:=(List.range 6).map dN) hf (rL hf) rfl).trans e1)
end
theorem u2 : ∀ a<64,∀ b<64,a &&& b=0->a+b=(a ||| b)/\63 - a - b=63 - (a ||| b)/\b<=63 - a:=by decide +kernel
section
variable {A:Nat->Nat->Bool} {X p q:Nat}
noncomputable def dK (A:Nat->Nat->Bool) (q:Nat):Bool:=!bR A q&&!cQ A q
noncomputable def oR (A:Nat->Nat->Bool):Prop := ∀ q<6,bR A q=true->cQ A q=false
theorem u1 (h:oR A):bs (bR A) &&& bs (cQ A)=0:=(uy fS).mpr λq hq h1=>by
 rw [gw hq] at h1 ⊢; exact h q hq h1
theorem HN (h:oR A):63 - bs (bR A) - bs (cQ A)=bs (dK A):=by
 rw [(u2 _ fS _ fS (u1 h)).2.1]
 refine rT (Nat.lt_succ_of_le (sub_le _ _)) fS λq hq=>?_
 rw [Dj _ (NR fS fS) q hq,Nat.testBit_or,gw hq,gw hq,gw hq]
 unfold dK
 induction bR A q<;>rfl
noncomputable def lQ (A:Nat->Nat->Bool) (mk:Nat->Nat) (X p:Nat):Bool:=!(X.testBit p != decide (mk p &&& X &&& bs (dK A)=0))
theorem MI (hp:p<6):bR A p=true ↔ ∀ q<6,A p q=true->cQ A q=true:=
 ⟨λh q a b=>D5 (D4 5) (mU.mp h q a b),Ec.c1 p hp⟩
theorem zh {a b:Bool}:(!(a != b))=true↔(a=true↔b=true):=by induction a<;>induction b<;>decide
theorem MV:decide (q∈cX X)=(decide (q<6)&&X.testBit q):=by
 rw [Bool.eq_iff_iff,decide_eq_true_eq,qj,and_eq_true,decide_eq_true_eq]
theorem Ma:oa A (cX X)=true ↔ ∀ p<6,(X.testBit p=true ↔ ∀ q<6,A p q=true->X.testBit q=false):=by
 unfold oa
 rw [all_eq_true]
 refine forall_congr' λp=>?_
 rw [mem_range]
 refine forall_congr' λhp=>?_
 rw [zh,tB,MV,decide_eq_true hp,Bool.true_and]
 refine iff_congr Iff.rfl (forall_congr' λq=>forall_congr' λhq=>forall_congr' λ_=>?_)
 rw [qj,eq_false_iff]
 exact ⟨λh z=>h ⟨hq,z⟩,λh z=>h z.2⟩
theorem L9 (h:oR A) {mk:Nat->Nat} (pF : ∀ p,mk p<64) (dB : ∀ p q,q<6->(mk p).testBit q=A p q) (hX:X<64) :
  oa A (cX X)=(decide (X &&& (bs (bR A)+bs (cQ A))=bs (bR A))&&(cX (bs (dK A))).all (lQ A mk X)):=by
 rw [Bool.eq_iff_iff,Ma,and_eq_true,decide_eq_true_eq,(u2 _ fS _ fS (u1 h)).1,uJ,all_eq_true]
 have eL:X &&& (bs (bR A) ||| bs (cQ A))=bs (bR A) ↔ ∀ q<6,(bR A q=true->X.testBit q=true)/\(cQ A q=true->X.testBit q=false):=by
  constructor
  ·intro e q hq
   have:(X &&& (bs (bR A) ||| bs (cQ A))).testBit q=bR A q:=by rw [e,gw hq]
   rw [testBit_and,Nat.testBit_or,gw hq,gw hq] at this
   refine ⟨λa=>?_,λa=>?_⟩
   ·rw [a,and_eq_true] at this; exact this.1
   ·rw [a,Bool.or_true,Bool.and_true] at this
    rw [this]
    exact eq_false_iff.mpr λz=>by rw [h q hq z] at a; exact (nomatch a)
  ·refine λe=>rT (rh hX) fS λq hq=>?_
   rw [testBit_and,Nat.testBit_or,gw hq,gw hq]
   induction z:bR A q with
   |true=>rw [(e q hq).1 z]; rfl
   |false=>
    induction z2:cQ A q with
    |true=>rw [(e q hq).2 z2]; rfl
    |false=>exact Bool.and_false _
 have eT : ∀ p,lQ A mk X p=true↔(X.testBit p=true ↔ ∀ q<6,A p q=true->X.testBit q=true->dK A q=false):=λp=>by
  unfold lQ
  rw [zh,decide_eq_true_eq,uy (rh (pF p))]
  refine iff_congr Iff.rfl (forall_congr' λq=>forall_congr' λhq=>?_)
  rw [testBit_and,dB p q hq,gw hq,and_eq_true]
  exact ⟨λf a b=>f ⟨a,b⟩,λf a=>f a.1 a.2⟩
 have dr : ∀ q,dK A q=true↔bR A q=false/\cQ A q=false:=λq=>by
  unfold dK
  rw [and_eq_true,not_eq_true',not_eq_true']
 have hd : ∀ q<6,bR A q=true\/cQ A q=true\/dK A q=true:=λq _=>by
  unfold dK
  induction bR A q
  ·induction cQ A q
   ·exact .inr (.inr rfl)
   ·exact .inr (.inl rfl)
  ·exact .inl rfl
 rw [eL]
 constructor
 ·intro K
  have st : ∀ t,∀ p<6,bS A t p=true->X.testBit p=true:=λt=>by
   induction t with
   |zero=>exact λp _ h=>(nomatch h)
   |succ t ih=>
    refine λp hp h=>(K p hp).mpr λq hq a=>eq_false_iff.mpr λz=>?_
    obtain ⟨r,c1,c2,c3⟩:=iq.mp (mU.mp h q hq a)
    have:=(K q hq).mp z r c1 c2
    rw [ih r c1 c3] at this
    exact (nomatch this)
  have hi : ∀ q<6,cQ A q=true->X.testBit q=false:=λq hq h=>eq_false_iff.mpr λz=>by
   obtain ⟨r,c1,c2,c3⟩:=iq.mp h
   have:=(K q hq).mp z r c1 c2
   rw [st 6 r c1 c3] at this
   exact (nomatch this)
  refine ⟨λq hq=>⟨st 6 q hq,hi q hq⟩,λp hp=>?_⟩
  obtain ⟨hp,KL⟩:=mem_filter.mp hp
  have hp:=mem_range.mp hp
  rw [eT,K p hp]
  refine ⟨λf q hq a b=>?_,λf q hq a=>eq_false_iff.mpr λz=>?_⟩
  ·have:=f q hq a
   rw [b] at this
   exact (nomatch this)
  ·have d:=f q hq a z
   rcases hd q hq with l|l|l
   ·have:=iq.mpr ⟨q,hq,a,l⟩
    rw [show fK A (bR A) p=false from ((dr p).mp KL).2] at this
    exact (nomatch this)
   ·rw [hi q hq l] at z; exact (nomatch z)
   ·rw [d] at l; exact (nomatch l)
 ·rintro ⟨e,f⟩ p hp
  rcases hd p hp with l|l|l
  ·refine ⟨λ_ q hq a=>(e q hq).2 ((MI hp).mp l q hq a),λ_=>(e p hp).1 l⟩
  ·refine ⟨λz=>?_,λk=>?_⟩
   ·rw [(e p hp).2 l] at z; exact (nomatch z)
   ·obtain ⟨q,c1,c2,c3⟩:=iq.mp l
    have:=k q c1 c2
    rw [(e q c1).1 c3] at this
    exact (nomatch this)
  ·rw [(eT p).mp (f p (mem_filter.mpr ⟨mem_range.mpr hp,l⟩))]
   refine ⟨λk q hq a=>eq_false_iff.mpr λz=>?_,λk q hq a b=>?_⟩
   ·have d:=k q hq a z
    rcases hd q hq with l2|l2|l2
    ·have:=iq.mpr ⟨q,hq,a,l2⟩
     rw [show fK A (bR A) p=false from ((dr p).mp l).2] at this
     exact (nomatch this)
    ·rw [(e q hq).2 l2] at z; exact (nomatch z)
    ·rw [d] at l2; exact (nomatch l2)
   ·rw [k q hq a] at b; exact (nomatch b)
end
section
variable {n:Nat} {cl:Calls} {f:Nat->Option D} {C:ai} {fs:List Nat}
theorem IA {L:List Nat} {p:Nat->Bool} (h : ∀ q<6,(q∈L↔p q=true)):((List.range 6).filter λx=>decide (x∈L))=(List.range 6).filter p:=filter_congr λq hq=>by
 rw [Bool.eq_iff_iff,decide_eq_true_eq]; exact h q (mem_range.mp hq)
theorem GY {a b:Nat} {L W:List Nat} (aw:cl=⟨aC Q2 10000 (n+4),10000⟩) (er:f 10=some (.loc a)) (fy:f 11=some (.loc b)) (ha:C[a]?=some (.list ((nz L).map .int))) (hb:C[b]?=some (.list ((nz W).map .int))) (jl:f 18=some (dN (bs (bR (A2 fs))))) (iP:f 19=some (dN (bs (cQ (A2 fs)))))
  (G:GS (A2 fs) (λp=>bR (A2 fs) p=true) (λp=>cQ (A2 fs) p=true) 4 L W):aq Q2 cl c2law_16 ⟨fr 25 f,C⟩=aq Q2 cl c2law_15 ⟨fr 25 f,C⟩:=by
 have hf:=cl2_0 aw
 have one : ∀ {i j c:Nat} {l:List Nat} {p:Nat->Bool},ble (i+1) 25=true->ble (j+1) 25=true->f i=some (.loc c)->C[c]?=some (.list ((nz l).map .int))->l.Nodup->(∀ x∈l,x<6)->f j=some (dN (bs p))->(∀ q<6,(q∈l↔p q=true))->
   ev Q2 cl (.cmp .ne (.call (.cst (.bn .sorted)) (.cons (.var i) .nil) .nil) (.call (.cst (.fn 18)) (.cons (.var j) .nil) .nil)) ⟨fr 25 f,C⟩=.ok (.bool false) ⟨fr 25 f,C⟩:=λhi hj h1 h2 hn hl h3 h4=>by
  have e1:=H9 (P:=Q2) (cl:=cl) (N:=6) hf (bc hi h1) (iC h2) hn hl (by decide)
  have e2:=pq (r0:=dt) (r:=r2) (n:=n+3) aw (bc (C:=C) hj h3) fS
  rw [uJ] at e2
  rw [IA h4] at e1
  exact bI e1 e2 (by rw [o9,decide_eq_true rfl]; rfl)
 have hn:=nodup_append.mp G.mid.eW
 exact bl (df ((rK (one rfl rfl er ha hn.1 (λx h=>G.mid.lt x (.inl h)) jl λq hq=>(G.low q hq).1) rfl).trans (one rfl rfl fy hb hn.2.1 (λx h=>G.mid.lt x (.inr h)) iP λq hq=>(G.low q hq).2)) rfl rfl)
theorem HO (aw:cl=⟨aC Q2 10000 (n+4),10000⟩) (b8 : ∀ f∈fs,f<64) {X:Nat} (hX:X<64) (jk:f 17=some (ke fs)) (vz:f 21=some (dN (bs (dK (A2 fs))))) (pE:f 23=some (dN X)) {y:D} (hy : ∀ A B,aY A B y=true) : ∀ (ps:List Nat) {f':Nat->Option D} {b:Bool},(∀ p∈ps,p<6)->(∀ i,i≠8->i≠24->f' i=f i)->f' 24=some (.bool b)->
  ∃ f2,forLoop (λA B=>aY A B y) (.one 8) (λst=>aq Q2 cl c2law_9 st) (ps.map dN) ⟨fr 25 f',C⟩=.ok .next ⟨fr 25 f2,C⟩/\(∀ i,i≠8->i≠24->f2 i=f i)/\f2 24=some (.bool (b&&ps.all (lQ (A2 fs) (cT fs) X))):=λps=>by
 induction ps with
 |nil=>exact λ{f' b} _ g h=>⟨f',rfl,g,by rw [List.all_nil,Bool.and_true]; exact h⟩
 |cons p ps ih=>
  intro f' b hp g vA
  have jY:=hp p (.head _)
  obtain ⟨f1,bg⟩ : ∃ f1,f1=uf f' 8 (dN p):=⟨_,rfl⟩
  have g1 : ∀ i,i≠8->i≠24->f1 i=f i:=λi a b=>by rw [bg]; exact (if_neg a).trans (g i a b)
  have v8:ev Q2 cl (.var 8) ⟨fr 25 f1,C⟩=.ok (dN p) ⟨fr 25 f1,C⟩:=bc rfl (by rw [bg]; rfl)
  have E7:ev Q2 cl (.var 23) ⟨fr 25 f1,C⟩=.ok (dN X) ⟨fr 25 f1,C⟩:=bc rfl ((g1 23 (by decide) (by decide)).trans pE)
  have Rw:ev Q2 cl (.var 21) ⟨fr 25 f1,C⟩=.ok (dN (bs (dK (A2 fs)))) ⟨fr 25 f1,C⟩:=bc rfl ((g1 21 (by decide) (by decide)).trans vz)
  have i1:ev Q2 cl (.idx (.var 17) (.var 8)) ⟨fr 25 f1,C⟩=.ok (dN (cT fs p)) ⟨fr 25 f1,C⟩:=dA (bc rfl ((g1 17 (by decide) (by decide)).trans jk)) v8 ((lp).trans (lq (lt_trans jY (by decide)) (w3 jY)))
  have c1:=bI (op:=.ne) (bI (b:=.cst (.int 1)) (y:=dN 1) (H0 E7 v8 (lt_trans jY (by decide))) rfl (o8.trans (congrArg some y0))) (bI (b:=.cst (.int 0)) (y:=dN 0) (bw (bw i1 E7 oA) Rw oA) rfl o8) rp
  have bt:gv (.one 8) (dN p) (fr 25 f')=some (fr 25 f1):=by rw [bg]; exact o4 (by decide)
  have L5:f1 24=some (.bool b):=by rw [bg]; exact vA
  rw [List.all_cons]
  induction hb:X.testBit p != decide (cT fs p &&& X &&& bs (dK (A2 fs))=0) with
  |true=>
   rw [hb] at c1
   obtain ⟨f2,e,g2,h2⟩:=ih (f':=uf f1 24 (.bool false)) (b:=false) (λq hq=>hp q (.tail _ hq)) (λi a b=>(if_neg b).trans (g1 i a b)) rfl
   refine ⟨f2,(fV bt (bJ (jt c1 rfl (bJ (vd (d:=.bool false) rfl rfl)))) (hy _ _)).trans e,g2,?_⟩
   rw [h2,show lQ (A2 fs) (cT fs) X p=false by unfold lQ; rw [hb]; rfl,Bool.false_and,Bool.and_false]
  |false=>
   rw [hb] at c1
   obtain ⟨f2,e,g2,h2⟩:=ih (f':=f1) (b:=b) (λq hq=>hp q (.tail _ hq)) g1 L5
   refine ⟨f2,(fV bt (bJ (df c1 rfl rfl)) (hy _ _)).trans e,g2,?_⟩
   rw [h2,show lQ (A2 fs) (cT fs) X p=true by unfold lQ; rw [hb]; rfl,Bool.true_and]
theorem G1 (aw:cl=⟨aC Q2 10000 (n+4),10000⟩) (b8 : ∀ f∈fs,f<64) (hd:oR (A2 fs)) {X:Nat} (hX:X<64) (h9:f 9=some (bX (A2 fs))) (jk:f 17=some (ke fs)) (jl:f 18=some (dN (bs (bR (A2 fs))))) (iP:f 19=some (dN (bs (cQ (A2 fs))))) (vz:f 21=some (dN (bs (dK (A2 fs))))) (Jh:f 22=some (.lst ((nz (cX (bs (dK (A2 fs))))).map .int))) (pE:f 23=some (dN X)) :
  ∃ f' C',aq Q2 cl c2law_10 ⟨fr 25 f,C⟩=.ok .next ⟨fr 25 f',C'⟩/\∀ i,i≠8->i≠24->f' i=f i:=by
 have hf:=cl2_0 aw
 have E6 : ∀ {f:Nat->Option D},f 18=some (dN (bs (bR (A2 fs))))->ev Q2 cl (.var 18) ⟨fr 25 f,C⟩=.ok (dN (bs (bR (A2 fs)))) ⟨fr 25 f,C⟩:=λh=>bc rfl h
 have e1:=bI (op:=.eq) (P:=Q2) (cl:=cl) (bw (op:=.and) (bc (n:=25) (i:=23) (f:=f) (C:=C) rfl pE) (bw (op:=.add) (E6 jl) (bc (i:=19) rfl iP) qq) oA) (E6 jl) o8
 obtain ⟨b0,nT⟩ : ∃ b0,b0=decide (X &&& (bs (bR (A2 fs))+bs (cQ (A2 fs)))=bs (bR (A2 fs))):=⟨_,rfl⟩
 rw [<-nT] at e1
 obtain ⟨f1,bg⟩ : ∃ f1,f1=uf f 24 (.bool b0):=⟨_,rfl⟩
 have g1 : ∀ i,i≠24->f1 i=f i:=λi h=>by rw [bg]; exact if_neg h
 obtain ⟨f2,e2,g2,vA⟩:=HO (n:=n) (f:=f1) (C:=C) aw b8 hX ((g1 17 (by decide)).trans jk) ((g1 21 (by decide)).trans vz) ((g1 23 (by decide)).trans pE) (y:=.lst ((nz (cX (bs (dK (A2 fs))))).map .int)) (λ_ _=>rfl) (cX (bs (dK (A2 fs)))) (f':=f1) (b:=b0) (λp h=>(qj.mp h).1) (λ_ _ _=>rfl) (by rw [bg]; rfl)
 have g : ∀ i,i≠8->i≠24->f2 i=f i:=λi a b=>(g2 i a b).trans (g1 i b)
 have e3:=pq (r0:=dt) (r:=r2) (n:=n+3) (m:=fr 25 f2) (C:=C) aw (bc (i:=23) rfl ((g 23 (by decide) (by decide)).trans pE)) hX
 obtain ⟨m',C3,e4,_⟩:=Md (A:=A2 fs) (n:=n+1) (C:=C) (X:=cX X)
 have e5:ev Q2 cl (.call (.cst (.fn 20)) (.cons (.var 9) (.cons (.call (.cst (.fn 18)) (.cons (.var 23) .nil) .nil) .nil)) .nil) ⟨fr 25 f2,C⟩=.ok (.bool (oa (A2 fs) (cX X))) ⟨fr 25 f2,C3⟩:=by
  subst aw
  exact ma (k:=20) (aa:=⟨m',C3⟩) rfl (kR (bc rfl ((g 9 (by decide) (by decide)).trans h9)) e3) e4
 rw [L9 hd (λp=>w5 b8) (λp q hq=>tv b8 hq) hX,<-nT] at e5
 have e6:=bI (op:=.ne) e5 (bc (i:=24) (C:=C3) rfl vA) rp
 rw [bne_self_eq_false] at e6
 refine ⟨f2,C3,iw e1 rfl ?_,g⟩
 rw [<-bg]
 exact (bl ((fU (items:=(cX (bs (dK (A2 fs)))).map dN) hf (bc (i:=22) rfl ((g1 22 (by decide)).trans Jh)) (by show some ((nz _).map D.int)=_; unfold nz; rw [map_map]; rfl)).trans e2)).trans (bJ (df e6 rfl rfl))
theorem HS {a b:Nat} {L W:List Nat} (aw:cl=⟨aC Q2 10000 (n+4),10000⟩) (b8 : ∀ f∈fs,f<64) (h9:f 9=some (bX (A2 fs))) (er:f 10=some (.loc a)) (fy:f 11=some (.loc b)) (ha:C[a]?=some (.list ((nz L).map .int))) (hb:C[b]?=some (.list ((nz W).map .int))) (jk:f 17=some (ke fs)) (jl:f 18=some (dN (bs (bR (A2 fs))))) (iP:f 19=some (dN (bs (cQ (A2 fs)))))
  (G:GS (A2 fs) (λp=>bR (A2 fs) p=true) (λp=>cQ (A2 fs) p=true) 4 L W) : ∃ st,aq Q2 cl c2law_16 ⟨fr 25 f,C⟩=.ok (.ret (.bool true)) st:=by
 have hf:=cl2_0 aw
 have hd:oR (A2 fs):=λq hq h=>eq_false_iff.mpr λz=>G.mid.iG ((G.low q hq).1.mpr h) ((G.low q hq).2.mpr z)
 have hs:=u2 _ (fS (p:=bR (A2 fs))) _ (fS (p:=cQ (A2 fs))) (u1 hd)
 have e1:=bw (op:=.sub) (P:=Q2) (cl:=cl) (a:=.bin .sub (.cst (.int 63)) (.var 18)) (bw (op:=.sub) (x:=dN 63) (a:=.cst (.int 63)) rfl (bc (n:=25) (i:=18) (f:=f) (C:=C) rfl jl) (tI (le_of_lt_succ fS))) (bc (i:=19) rfl iP) (tI hs.2.2)
 rw [HN hd] at e1
 obtain ⟨f1,bg⟩ : ∃ f1,f1=uf f 21 (dN (bs (dK (A2 fs)))):=⟨_,rfl⟩
 have e2:=pq (r0:=dt) (r:=r2) (n:=n+3) (m:=fr 25 f1) (C:=C) aw (bc (i:=21) rfl (by rw [bg]; rfl)) fS
 obtain ⟨f2,dj⟩ : ∃ f2,f2=uf f1 22 (.lst ((nz (cX (bs (dK (A2 fs))))).map .int)):=⟨_,rfl⟩
 have g : ∀ i,i<21->f2 i=f i:=λi h=>by
  rw [dj,bg]
  exact (if_neg (ne_of_lt (lt_trans h (by decide)))).trans (if_neg (ne_of_lt h))
 obtain ⟨aB,e3,f3,C3,rfl,_⟩:=vn (g:=dN) (aS:=λA B=>aY A B (.bZ 0 64)) (t:=.one 23) (body:=λst=>aq Q2 cl c2law_10 st)
  (I:=λ(rest:List Nat) st => ∃ f' C',st=⟨fr 25 f',C'⟩/\(∀ i,i≠8->i≠23->i≠24->f' i=f2 i)/\∀ x∈rest,x<64)
  (λx xs m C0 h=>by
   obtain ⟨f',C',e,k,hx⟩:=h
   obtain ⟨em,ec⟩:=xP e
   rw [em,ec]
   have kk : ∀ i,i≠8->i≠23->i≠24->uf f' 23 (dN x) i=f2 i:=λi a b c=>(if_neg b).trans (k i a b c)
   obtain ⟨f3,C3,e3,g3⟩:=G1 (n:=n) (f:=uf f' 23 (dN x)) (C:=C') aw b8 hd (hx x (.head _)) ((kk 9 (by decide) (by decide) (by decide)).trans ((g 9 (by decide)).trans h9)) ((kk 17 (by decide) (by decide) (by decide)).trans ((g 17 (by decide)).trans jk)) ((kk 18 (by decide) (by decide) (by decide)).trans ((g 18 (by decide)).trans jl)) ((kk 19 (by decide) (by decide) (by decide)).trans ((g 19 (by decide)).trans iP))
    ((kk 21 (by decide) (by decide) (by decide)).trans (by rw [dj,bg]; rfl)) ((kk 22 (by decide) (by decide) (by decide)).trans (by rw [dj]; rfl)) rfl
   exact ⟨_,_,o4 (by decide),e3,rfl,f3,C3,rfl,λi a b c=>(g3 i a c).trans (kk i a b c),λy hy=>hx y (.tail _ hy)⟩) (List.range 64) ⟨fr 25 f2,C⟩ ⟨f2,C,rfl,λ_ _ _ _=>rfl,λx h=>mem_range.mp h⟩
 refine ⟨⟨fr 25 f3,C3⟩,(GY aw er fy ha hb jl iP G).trans (iw e1 rfl ?_)⟩
 rw [<-bg]
 refine iw e2 rfl ?_
 rw [<-dj]
 exact (bl ((fU (items:=(List.range 64).map dN) hf (c6 (g:=.bn .range) (ds:=[.int 64]) rfl rfl ((c5 hf).trans rfl)) rfl).trans e3)).trans (jC rfl)
end
theorem Om (ns:List Int) (hz:ns.length<=63) : ∃ st,aC P2 10000 12 21 [.lst (ns.map .int)] [] []=.ok (.bool true) st:=by
 refine cps λQ0 k0=>?_
 obtain ⟨cl,aw⟩ : ∃ cl:Calls,cl=⟨aC Q2 10000 (7+4),10000⟩:=⟨_,rfl⟩
 obtain ⟨f,fs,C,e1,b8,CM,h6⟩:=JQ (n:=7) aw hz
 obtain ⟨C1,e2⟩:=I9 (n:=9) (C:=C) aw h6 b8 CM
 obtain ⟨f2,C2,a,b,L,W,e3,g2,er,fy,ha,hb,G⟩:=Q7 (n:=7) (C:=C1) (f:=uf f 9 (bX (A2 fs))) (A:=A2 fs) Ec aw rfl
 obtain ⟨f3,e4,g3,jk,jl,iP⟩:=Oj (n:=7) (f:=f2) (C:=C2) aw ((g2 6 (by decide) (by decide)).trans h6) b8 CM
 obtain ⟨st,e5⟩:=HS (n:=7) (f:=f3) (C:=C2) aw b8 ((g3 9 (by decide)).trans (g2 9 (by decide) (by decide))) ((g3 10 (by decide)).trans er) ((g3 11 (by decide)).trans fy) ha hb jk jl iP G
 have go:aC P2 10000 12 21 [.lst (ns.map .int)] [] []=di (aq Q2 cl c2law_32 ⟨some (.lst (ns.map .int))::replicate 24 none,[]⟩):=by subst aw; kernel_rfl
 exact k0 ⟨st,go.trans (lE (e1.trans (e2.trans (e3.trans (e4.trans e5)))))⟩
end Mine.Lake
end
open PySem PySem.W PyProof.Rows
set_option Elab.async false
namespace Mine.Lake
noncomputable def Mn (fs:List (Str × D)):List (Str × D):=[(Str.ofString "_buffer",.fn 0),(Str.ofString "_truth",.fn 1),(Str.ofString "b2a_base64",.fn 2),(Str.ofString "b64encode",.fn 3),(Str.ofString "_filter",.fn 7)]++fs ++
 [(Str.ofString "_NodeInfo",.cls 0),(Str.ofString "CycleError",.cls 1),(Str.ofString "TopologicalSorter",.cls 2),(Str.ofString "filterfalse",.cls 3),(Str.ofString "_NODE_OUT",.int (-1)),(Str.ofString "_NODE_DONE",.int (-2)),(Str.ofString "_B64",.bytes gY),
 (Str.ofString "len",.bn .len),(Str.ofString "list",.bn .list),(Str.ofString "range",.bn .range),(Str.ofString "tuple",.bn .tuple),(Str.ofString "sum",.bn .sum),(Str.ofString "min",.bn .min),(Str.ofString "sorted",.bn .sorted),
 (Str.ofString "isinstance",.bn .isinstance),(Str.ofString "bool",.bn .bool),(Str.ofString "bytes",.bn .bytes),(Str.ofString "str",.bn .str),(Str.ofString "type",.bn .type),(Str.ofString "set",.bn .set),(Str.ofString "iter",.bn .iter),(Str.ofString "next",.bn .next),
 (Str.ofString "int",.bn .int),(Str.ofString "float",.bn .float),(Str.ofString "complex",.bn .complex),(Str.ofString "bytearray",.bn .bytearray),(Str.ofString "dict",.bn .dict),(Str.ofString "frozenset",.bn .frozenset),(Str.ofString "repr",.bn .repr),
 (Str.ofString "ValueError",.bn .t6),(Str.ofString "StopIteration",.bn .stopIteration)]
noncomputable def Mo:List Str:=[Str.ofString "out",Str.ofString "successors",Str.ofString "_ready_nodes",Str.ofString "stack",Str.ofString "itstack",Str.ofString "gone",Str.ofString "sizes",Str.ofString "waiting",Str.ofString "active",Str.ofString "told",Str.ofString "octets",
 Str.ofString "known",Str.ofString "sets",Str.ofString "lost",Str.ofString "won",Str.ofString "later",Str.ofString "earlier",Str.ofString "ahead"]
noncomputable def Mm (fs:List (Str × D)):aV:={glob:=Mn fs,mu:=Mo,zC:=[(Str.ofString "_law_spread",0)]}
noncomputable def slots:List (List Nat):=[[0,1,2],[],[],[1,0]]
noncomputable def uS:aV:=Mm [(Str.ofString "_law_sign",.fn 17),(Str.ofString "_law_ones",.fn 18),(Str.ofString "_law_sweep",.fn 19),(Str.ofString "_law_kernel",.fn 20),(Str.ofString "law",.fn 21)]
noncomputable def vk:List Addr:=[72,79,87,95,36,43,50,65,110,147,154,161,166,173,180,194,201,222,227,232,239,244]
noncomputable def zH:List Addr:=[114,129,211,54]
noncomputable def loose:List Str:=["_wall","_buffer","_truth","_B64","b2a_base64","b64encode","filterfalse","_filter","_NODE_OUT","_NODE_DONE","_NodeInfo","CycleError","TopologicalSorter","_law_sign","_law_ones","_law_sweep","_law_kernel"].map Str.ofString
noncomputable def q2:Program:=view PySem.Challenge.rw_kt0039_02.row.toRowW.prog [23]
theorem Mt:LeftO PySem.Challenge.rw_kt0039_02.row.toRowW.prog q2 loose (λs=>xlAt q2 [] s&&recOk (RowW.records PySem.Challenge.rw_kt0039_02.row.toRowW) s) (CG P2 uS vk zH slots) (CI P2 vk 21) 2000:=by
 intro w
 kernel_rfl
end Mine.Lake
set_option tactic.hygienic true in
set_option maxRecDepth 100000 in
set_option maxHeartbeats 8000000 in
theorem PySem.Challenge.cw_kt0039_02_holds : PySem.Challenge.rw_kt0039_02.Holds := by
 w_on
 refine holds_law (by kernel_rfl) λSG=>?_
 refine holds_open (q:=Mine.Lake.q2) (loose:=Mine.Lake.loose) (Xt:=λs=>xlAt Mine.Lake.q2 [] s&&recOk (RowW.records PySem.Challenge.rw_kt0039_02.row.toRowW) s) (XP:=XL Mine.Lake.q2 []) (YP:=Mine.Lake.td Mine.Lake.P2 Mine.Lake.uS Mine.Lake.vk Mine.Lake.zH Mine.Lake.slots 21) Mine.Lake.Mt Mine.Lake.Mq Mine.Lake.Mp
  (λs e=>xl_of s (and_eq_true_iff.mp e).1) XL.keeps (by rfl) (by rfl) (by rfl) (λs e=>recFacts_of (and_eq_true_iff.mp e).2) (by rfl) (by first|assumption|decide +kernel) (by decide +kernel) ⟨rfl,rfl,rfl,rfl,rfl,by decide +kernel⟩ ?hw ?hc
 (case hw=>w_witness2)
 w_strict (
  intro w s₀ s₁ mg mb G Y fa o pm cd doc dV kV ho hd kZ hD Kt hg args vals as pY Kn KQ Lg nZ
  obtain ⟨K,KX,L,wd⟩:=Y
  refine Ground.open G ?_
  intro T B D TE TW
  wrow_args pY Kn KQ Lg nZ
  all_goals (first|refine callC_kw (enter_call ?_)|refine enter_call ?_|refine callC_kw (enter_callW ?_)|refine enter_callW ?_|w_how)
  all_goals (
     rename_i ns _ _ _ _ _ _ _ sa vs _ hL ra w1 r0 hI _ hz _
     refine Mine.Lake.LZ (P:=Mine.Lake.P2) (G:=Mine.Lake.uS) (k:=21) (f:=Mine.Lake.uM) KX Kt T.g T.b T.nolimit T.builtins (T.seer ?_) hg (Mine.Lake.Mw w1 hL) hI ?_ L ⟨?_,?_,?_⟩ wd ?_ ?_ ?_ ?_ ?_ (Mine.Lake.Om ns (by omega)) ?_
     ·kernel_rfl
     ·omega
     ·kernel_rfl
     ·kernel_rfl
     ·kernel_rfl
     ·rfl
     ·rfl
     ·rfl
     ·rfl
     ·rfl
     ·intro s' hk mj ho
      exact GoodW.toG ⟨.inl ⟨_,.bool true,[],rfl,λu'=>by first|rfl|kernel_rfl,.bool true,by first|rfl|kernel_rfl,unshared_nil⟩,hk,ho,mj⟩))
