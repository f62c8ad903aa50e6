import PyProof.Rows.All
import Wide.All
import OpenK.AllK
import Wide.FinOn
import PySem.Challenge.RW_kt0039_03
open Bool (and_eq_true and_eq_true_iff eq_false_iff false_eq_true not_eq_true not_eq_true' or_eq_false_iff or_eq_true)
open Nat (add_assoc add_comm add_le_add add_le_add_left add_le_add_right add_lt_add_left add_mul_div_right add_sub_cancel_left div_lt_of_lt_mul div_one le_add_left le_add_right le_antisymm le_of_ble_eq_true le_of_eq le_of_lt le_of_lt_succ le_of_not_lt le_refl le_succ le_trans lt_irrefl lt_min lt_of_le_of_lt lt_of_lt_of_le lt_succ_of_le lt_succ_of_lt lt_succ_self lt_trans min_eq_left mod_eq_of_lt mod_lt mul_add_mod' mul_assoc mul_comm mul_le_mul_right ne_of_gt ne_of_lt not_le not_lt not_lt_zero pow_pos strongRecOn sub_le sub_lt_sub_left sub_self sub_zero succ_le_succ succ_mul succ_ne_zero succ_pos zero_add zero_le)
open List (all_eq_true any_cons any_eq_true append_assoc append_nil cons_append contains_iff_mem drop_zero ext_getElem? filter_congr filter_cons filter_eq_nil_iff filter_eq_self find?_some flatMap_cons foldl_cons forIn_cons getD_eq_getElem?_getD getElem?_append_left getElem?_append_right getElem?_eq_getElem getElem?_eq_none getElem?_map getElem?_range getElem?_set getElem?_set_ne getElem?_take isEmpty_iff length_append length_cons length_drop length_eq_zero_iff length_filter_le length_map length_nil length_pos_of_mem length_reverse length_set length_take lookup_cons mapM_cons map_append map_congr_left map_cons map_flatMap map_id map_map map_nil map_set map_take mem_append mem_append_left mem_append_right mem_cons mem_filter mem_iff_getElem? mem_map mem_map_of_mem mem_of_find?_eq_some mem_of_getElem? mem_of_mem_take mem_range mem_reverse mem_singleton nodup_append nodup_cons nodup_nil nodup_range not_mem_nil pairwise_cons prefix_append prefix_refl range' replicate reverse_cons set_append set_append_right set_comm set_set size_toArray take_left' take_zero zipIdx_cons)
open Int (le_natAbs natAbs_natCast natCast_add natCast_nonneg ofNat ofNat_le ofNat_lt toNat_natCast)
open Option (isNone_iff_eq_none isSome_iff_exists isSome_some)
set_option Elab.async false
set_option linter.all false
set_option genSizeOf false
set_option genInjectivity false
set_option tactic.hygienic false
set_option genCtorIdx false
set_option backward.linearNoConfusionType false
set_option bootstrap.genMatcherCode false
set_option backward.eqns.nonrecursive false
set_option backward.eqns.deepRecursiveSplit false
section
set_option backward.match.sparseCases false
open PySem
namespace Mine.Lake
mutual
inductive Bn where
 |len|list|range|tuple|sum|min|sorted|isinstance|bool|bytes|str|type|set|iter|next
 |int|float|complex|bytearray|dict|frozenset|uJ|stopIteration|repr
inductive SJ where
 |x
end
noncomputable def Bn.ctorIdx (x:Bn):Nat:=Bn.casesOn x 0 1 2 3 4 5 6 7 8 9 10 11 12 13 14 15 16 17 18 19 20 21 22 23
noncomputable def G1:List Bn:=[.len,.list,.range,.tuple,.sum,.min,.sorted,.isinstance,.bool,.bytes,.str,.type,.set,.iter,.next,.int,.float,.complex,.bytearray,.dict,.frozenset,.uJ,.stopIteration,.repr]
theorem Bn.hZ (x:Bn):G1[x.ctorIdx]?=some x:=by induction x using Bn.casesOn<;>rfl
noncomputable instance:DecidableEq Bn:=λa b=>decidable_of_iff (a.ctorIdx=b.ctorIdx) ⟨λh=>Option.some.inj (by rw [<-Bn.hZ a,h,Bn.hZ]),λh=>h ▸ rfl⟩
mutual
inductive Nm where
 |append|pop|clear|get|values|add|mw|prepare|n5|jx|qC|done
 |cL|cC|el|fp|node|er|succ|it|func|bg|b9|newline|init|iN
inductive SN where
 |x
end
noncomputable def Nm.ctorIdx (x:Nm):Nat:=Nm.casesOn x 0 1 2 3 4 5 6 7 8 9 10 11 12 13 14 15 16 17 18 19 20 21 22 23 24 25
noncomputable def u7:List Nm:=[.append,.pop,.clear,.get,.values,.add,.mw,.prepare,.n5,.jx,.qC,.done,.cL,.cC,.el,.fp,.node,.er,.succ,.it,.func,.bg,.b9,.newline,.init,.iN]
theorem Nm.hZ (x:Nm):u7[x.ctorIdx]?=some x:=by induction x using Nm.casesOn<;>rfl
noncomputable instance:DecidableEq Nm:=λa b=>decidable_of_iff (a.ctorIdx=b.ctorIdx) ⟨λh=>Option.some.inj (by rw [<-Nm.hZ a,h,Nm.hZ]),λh=>h ▸ rfl⟩
inductive D where
 |none
 |bool (b:Bool)
 |int (i:Int)
 |str (s:Str)
 |bytes (b:List UInt8)
 |bn (b:Bn)
 |fn (k:Nat)
 |cls (k:Nat)
 |tup (ds:List D)
 |lst (ds:List D)
 |ck (a b:Int)
 |loc (i:Nat)
 |inst (k i:Nat)
 |bm (n:Nm) (self:D)
 |dC (i:Nat)
 |jO (msg:Str)
noncomputable def D.ctorIdx (x:D):Nat:=D.casesOn x 0 (λ_=>1) (λ_=>2) (λ_=>3) (λ_=>4) (λ_=>5) (λ_=>6) (λ_=>7) (λ_=>8) (λ_=>9) (λ_ _=>10) (λ_=>11) (λ_ _=>12) (λ_ _=>13) (λ_=>14) (λ_=>15)
inductive Ch where
 |list (ds:List D)
 |dict (b:Bool) (es:List (Int × D))
 |cJ (es:List (Nm × D))
 |set (es:List Int)
 |slots (k:Nat) (fs:List (Option D))
 |bj (src:D) (pos:Nat)
noncomputable def Ch.ctorIdx (x:Ch):Nat:=Ch.casesOn x (λ_=>0) (λ_ _=>1) (λ_=>2) (λ_=>3) (λ_ _=>4) (λ_ _=>5)
abbrev af:=List Ch
structure St where
 m:List (Option D)
 C:af
inductive X where
 |stop|r9|value (msg:Str)
noncomputable def X.ctorIdx (x:X):Nat:=X.casesOn x 0 1 (λ_=>2)
inductive aj (α:Type) where
 |ok (a:α) (st:St)
 |exc (x:X) (st:St)
 |fail
noncomputable def aj.ctorIdx {α:Type} (x:aj α):Nat:=aj.casesOn x (λ_ _=>0) (λ_ _=>1) 2
inductive Fl where
 |next|brk|cont|ret (d:D)
noncomputable def Fl.ctorIdx (x:Fl):Nat:=Fl.casesOn x 0 1 2 (λ_=>3)
mutual
inductive Op where
 |add|sub|mul|fdiv|mod|pow|shl|shr|and|or
inductive SO where
 |x
end
noncomputable def Op.ctorIdx (x:Op):Nat:=Op.casesOn x 0 1 2 3 4 5 6 7 8 9
noncomputable def G5:List Op:=[.add,.sub,.mul,.fdiv,.mod,.pow,.shl,.shr,.and,.or]
theorem Op.hZ (x:Op):G5[x.ctorIdx]?=some x:=by induction x using Op.casesOn<;>rfl
noncomputable instance:DecidableEq Op:=λa b=>decidable_of_iff (a.ctorIdx=b.ctorIdx) ⟨λh=>Option.some.inj (by rw [<-Op.hZ a,h,Op.hZ]),λh=>h ▸ rfl⟩
mutual
inductive Cm where
 |eq|ne|lt|le|gt|ge|is|mO|eK|xT
inductive SK where
 |x
end
noncomputable def Cm.ctorIdx (x:Cm):Nat:=Cm.casesOn x 0 1 2 3 4 5 6 7 8 9
noncomputable def G3:List Cm:=[.eq,.ne,.lt,.le,.gt,.ge,.is,.mO,.eK,.xT]
theorem Cm.hZ (x:Cm):G3[x.ctorIdx]?=some x:=by induction x using Cm.casesOn<;>rfl
noncomputable instance:DecidableEq Cm:=λa b=>decidable_of_iff (a.ctorIdx=b.ctorIdx) ⟨λh=>Option.some.inj (by rw [<-Cm.hZ a,h,Cm.hZ]),λh=>h ▸ rfl⟩
inductive T where
 |one (n:Nat)
 |many (ns:List Nat)
noncomputable def T.ctorIdx (x:T):Nat:=T.casesOn x (λ_=>0) (λ_=>1)
mutual
inductive E where
 |bad
 |cst (d:D)
 |var (n:Nat)
 |bin (op:Op) (a b:E)
 |cmp (op:Cm) (a b:E)
 |not (a:E)
 |and (a b:E)
 |or (a b:E)
 |ite (c a b:E)
 |list (es:Es)
 |tup (es:Es)
 |mi
 |idx (a i:E)
 |slice (a lo hi:E)
 |comp (elt:E) (g:Gs)
 |attr (a:E) (n:Nm)
 |call (f:E) (es:Es) (ks:Ks)
 |bq (o:E) (n:Nm) (es:Es)
 |gn (o:E) (n:Nm) (es:Es) (star:E)
 |kF (n:Nat) (a:E)
 |JX (es:Es)
 |Pc (a:E)
 |AF (a:E)
inductive Es where
 |nil
 |cons (e:E) (es:Es)
inductive Ks where
 |nil
 |cons (n:Nm) (e:E) (ks:Ks)
inductive Gs where
 |nil
 |cons (t:T) (it:E) (ifs:Es) (g:Gs)
end
mutual
inductive S where
 |bad
 |pass
 |brk
 |cont
 |expr (e:E)
 |aN (n:Nat) (mu:Bool) (e:E)
 |vc (ns:List Nat) (e:E)
 |cU (o:E) (a:Nm) (mu:Bool) (e:E)
 |kP (o i e:E)
 |pB (o i:E) (n:Nat) (e:E)
 |kS (o:E) (a:Nm) (op:Op) (e:E)
 |ifs (c:E) (a b:Ss)
 |kG (c:E) (a b:Ss)
 |dR (t:T) (it:E) (a:Ss)
 |ret (e:E)
 |O4 (e:E)
 |Fh (a b:E)
 |pa (b:Ss) (x:Nat) (n:Option Nat) (h:Ss)
 |pK (o i:E)
inductive Ss where
 |nil
 |cons (s:S) (ss:Ss)
end
structure Fn where
 cg:List Nat
 bM:List D
 cp:List (Nm × Nat)
 cq:Option Nat
 size:Nat
 body:Ss
structure gZ where
 init:Nat
 meths:List (Nm × Nat)
 slots:Option (List Nm)
structure aR where
 fns:List Fn
 nV:List gZ
noncomputable def Nm.mL:Nm->Bool
 |.cL|.cC|.el|.fp=>true
 |_=>false
noncomputable def aR.dy (P:aR) (k:Nat):Option gZ:=match P.nV[k]? with
 |some c=>if c.init<P.fns.length then some c else none
 |none=>none
noncomputable def D.isInt:D->Option Int
 |.int i=>some i
 |_=>Option.none
noncomputable def tC:D->Option Bool
 |.bool b=>some b
 |_=>none
noncomputable def oI:D->Option Nat
 |.loc j=>some j
 |_=>none
noncomputable def mN:D->Option Str
 |.str s=>some s
 |_=>none
noncomputable def bW (C:af):D->Option (List D)
 |.lst ds=>some ds
 |.tup ds=>some ds
 |.loc i=>match C[i]? with
  |some (.list ds)=>some ds
  |_=>none
 |_=>none
noncomputable def aU (C:af):D->Option (List D)
 |.lst ds=>some ds
 |.loc i=>match C[i]? with
  |some (.list ds)=>some ds
  |_=>none
 |_=>none
noncomputable def nH (C:af) (i:Nat):Option (List D):=match C[i]? with
 |some (.bj src _)=>aU C src
 |_=>none
mutual
noncomputable def toPy:Nat->D->Option PyData
 |_,.int i=>some (.int i)
 |n+1,.lst ds=>(toPys n ds).map .list
 |n+1,.tup ds=>(toPys n ds).map .tuple
 |_,_=>none
noncomputable def toPys:Nat->List D->Option (List PyData)
 |_,[]=>some []
 |n,d::ds=>(toPy n d).bind λx=>(toPys n ds).map λxs=>x::xs
end
noncomputable def pO (a b:D):Option Bool:=(toPy 8 a).bind λx=>(toPy 8 b).map λy=>PyData.eqv x y
noncomputable def kZ (a b:D):Option Bool:=match a with
 |.int x=>match b.isInt with
  |some y=>some (x==y)
  |none=>pO (.int x) b
 |.bool x=>(tC b).map λy=>x==y
 |.str x=>(mN b).map λy=>decide (x=y)
 |a=>pO a b
noncomputable def gF (C:af) (d:D):D:=match d with
 |.loc i=>match C[i]? with
  |some (.list ds)=>.lst ds
  |_=>.loc i
 |d=>d
noncomputable def eh:List D->Option (List Int)
 |[]=>some []
 |.int i::r=>(eh r).map (i :: ·)
 |_=>none
noncomputable def gP (x:D) (ds:List D):Option Bool:=x.isInt.bind λi=>(eh ds).map λxs=>xs.contains i
noncomputable def aD:Nat:=100000
noncomputable def small (a:Int):Bool:=decide (a.natAbs<2 ^ 64)
noncomputable def gR (op:Op) (a b:Int):Option Int:=match op with
 |.add=>some (a+b)
 |.sub=>some (a - b)
 |.mul=>if small a&&small b then some (a*b) else none
 |.fdiv=>if small b&&b != 0 then some (a.fdiv b) else none
 |.mod=>if b != 0 then some (a.fmod b) else none
 |.pow=>if small a&&decide (0<=b)&&decide (b<=1000) then some (a ^ b.toNat) else none
 |.shl=>if small a&&decide (0<=b)&&decide (b<=1000) then some (a*2 ^ b.toNat) else none
 |.shr=>if decide (0<=b)&&decide (b<=1000) then some (a.fdiv (2 ^ b.toNat)) else none
 |.and=>some (Builtin.bitAnd a b)
 |.or=>some (Builtin.bitOr a b)
noncomputable def pw (x y:Str):Option D:=if x.length+y.length<=aD then some (.str (x++y)) else none
noncomputable def rN (C:af) (a b:D):Option D:=(aU C a).bind λxs=>(aU C b).bind λys=>if xs.length+ys.length<=aD then some (.lst (xs++ys)) else none
noncomputable def vh (C:af) (a b:D):Option D:=match mN a with
 |some x=>(mN b).bind λy=>pw x y
 |none=>rN C a b
noncomputable def d6 (C:af) (op:Op) (a b:D):Option D:=match a.isInt with
 |some x=>b.isInt.bind λy=>(gR op x y).map .int
 |none=>match op with
  |.add=>vh C a b
  |_=>none
noncomputable def Bn.kj:Bn->Bool
 |.list|.range|.tuple|.bool|.bytes|.str|.type|.set|.int|.float|.complex|.bytearray|.dict|.frozenset=>true
 |_=>false
noncomputable def DP:D->Option Bool
 |.none=>some true
 |.int _|.bool _|.lst _|.tup _|.loc _|.bm .. => some false
 |_=>none
noncomputable def xu (x:D) (b:Bn):Option Bool:=match x with
 |.bn a=>if a.kj then some (a==b) else none
 |.bm .. => some false
 |_=>none
noncomputable def tD (x y:D):Option Bool:=match y with
 |.none=>DP x
 |.bn b=>if b.kj then xu x b else none
 |_=>none
noncomputable def MW (x:D):Ch->Option Bool
 |.list ds=>gP x ds
 |.set es=>x.isInt.map es.contains
 |.dict _ es=>x.isInt.map λk=>es.any (·.1==k)
 |_=>none
noncomputable def xo (C:af) (x c:D):Option Bool:=match c with
 |.loc i=>C[i]?.bind (MW x)
 |.lst ds=>gP x ds
 |.tup ds=>gP x ds
 |_=>none
noncomputable def qP (f:Int->Int->Bool) (a b:D):Option Bool:=a.isInt.bind λx=>b.isInt.map λy=>f x y
noncomputable def eX (C:af) (op:Cm) (a b:D):Option Bool:=match op with
 |.eq=>kZ (gF C a) (gF C b)
 |.ne=>(kZ (gF C a) (gF C b)).map (!·)
 |.lt=>qP (λx y=>decide (x<y)) a b
 |.le=>qP (λx y=>decide (x<=y)) a b
 |.gt=>qP (λx y=>decide (x > y)) a b
 |.ge=>qP (λx y=>decide (x ≥ y)) a b
 |.is=>tD a b
 |.mO=>(tD a b).map (!·)
 |.eK=>xo C a b
 |.xT=>(xo C a b).map (!·)
noncomputable def uF:Ch->Option Bool
 |.list ds=>some (!ds.isEmpty)
 |_=>none
noncomputable def bI (C:af):D->Option Bool
 |.none=>some false
 |.bool b=>some b
 |.int i=>some (i != 0)
 |.lst ds=>some (!ds.isEmpty)
 |.tup ds=>some (!ds.isEmpty)
 |.loc i=>C[i]?.bind uF
 |_=>none
noncomputable def gM (ds:List D) (i:Int):Option D:=
 if 0<=i then (if i<2 ^ 62 then ds[i.toNat]? else none)
 else if 0<=i+ds.length then ds[(i+ds.length).toNat]? else none
noncomputable def qA (b:List UInt8) (k:Int):Option D:=if 0<=k/\k<2 ^ 62 then (b[k.toNat]?).map λc=>.int c.toNat else none
noncomputable def xj (k:Int):Ch->Option D
 |.list ds=>gM ds k
 |.dict _ es=>es.lookup k
 |_=>none
noncomputable def MM (C:af) (a:D) (k:Int):Option D:=match a with
 |.bytes b=>qA b k
 |.loc j=>C[j]?.bind (xj k)
 |.lst ds=>gM ds k
 |.tup ds=>gM ds k
 |_=>none
noncomputable def gg (C:af) (a i:D):Option D:=i.isInt.bind λk=>MM C a k
noncomputable def bound (d:D) (dflt n:Nat):Option Nat:=match d with
 |.none=>some dflt
 |.int k=>if 0<=k/\k<2 ^ 62 then some (min k.toNat n) else none
 |_=>none
noncomputable def dg {α:Type} (xs:List α) (lo hi:Nat):List α:=(xs.drop lo).take (hi - lo)
noncomputable def uy (C:af) (a lo hi:D):Option D:=(aU C a).bind λds=>(bound lo 0 ds.length).bind λl=>(bound hi ds.length ds.length).map λh=>.lst (dg ds l h)
noncomputable def nu (C:af) (a lo hi:D):Option D:=match a with
 |.bytes b=>(bound lo 0 b.length).bind λl=>(bound hi b.length b.length).map λh=>.bytes (dg b l h)
 |a=>uy C a lo hi
noncomputable def eB (C:af) (i:Nat):Option (List (Nm × D)):=match C[i]? with
 |some (.cJ es)=>some es
 |_=>none
noncomputable def Hn (P:aR) (C:af) (i:Nat) (n:Nm):Ch->Option D
 |.slots k fs=>(P.dy k).bind λc=>c.slots.bind λns=>if ns.contains n then (fs[ns.idxOf n]?).join else none
 |.list _=>match n with
  |.bg=>some (.bm .bg (.loc i))
  |_=>none
 |.bj src _=>match n with
  |.b9=>if (aU C src).isSome then some (.bm .b9 (.loc i)) else none
  |_=>none
 |_=>none
noncomputable def eU (P:aR) (C:af) (o:D) (n:Nm):Option D:=match o with
 |.inst k i=>(P.dy k).bind λc=>(eB C i).bind λes=>if c.slots.isNone&&n.mL then es.lookup n else none
 |.loc i=>C[i]?.bind (Hn P C i n)
 |.lst ds=>match n with
  |.bg=>some (.bm .bg (.lst ds))
  |_=>none
 |_=>none
noncomputable def gQ (x:Int):List Int->List Int
 |[]=>[x]
 |y::r=>if x<y then x::y::r else y::gQ x r
noncomputable def o6 (xs:List Int):List Int:=xs.foldl (λacc x=>gQ x acc) []
noncomputable def Th:List Int->Option Int
 |[]=>none
 |x::r=>some (r.foldl (λa b=>if b<a then b else a) x)
noncomputable def gB:List Int->Option (List UInt8)
 |[]=>some []
 |i::r=>if 0<=i/\i<256 then (gB r).map (i.toNat.toUInt8 :: ·) else none
noncomputable def oW (a b:Int):Bool:=decide (a.natAbs<2 ^ 60)&&decide (b.natAbs<2 ^ 60)&&decide (b - a<=aD)
noncomputable def eN (a b:Int):List D:=(List.range (b - a).toNat).map λ(i:Nat)=>.int (a+(i:Int))
noncomputable def mR:Ch->Option (List D)
 |.list ds=>some ds
 |.dict true es=>some (es.map λe=>.int e.1)
 |_=>none
noncomputable def yR:Ch->Option (List D)
 |.dict true es=>some (es.map (·.2))
 |_=>none
noncomputable def bU (C:af):D->Option (List D)
 |.lst ds=>some ds
 |.tup ds=>some ds
 |.ck a b=>if oW a b then some (eN a b) else none
 |.bytes b=>some (b.map λc=>.int c.toNat)
 |.loc i=>C[i]?.bind mR
 |.dC i=>C[i]?.bind yR
 |_=>none
noncomputable def DN:D->Option (Nat × Nat)
 |.inst k i=>some (k,i)
 |_=>none
mutual
noncomputable def D.beq:D->D->Bool
 |.int x,b=>b.isInt==some x
 |.bool x,b=>tC b==some x
 |.str x,b=>mN b==some x
 |.loc x,b=>oI b==some x
 |.inst k i,b=>DN b==some (k,i)
 |.lst as,b=>match b with
  |.lst bs=>D.gA as bs
  |_=>false
 |_,_=>false
noncomputable def D.gA:List D->List D->Bool
 |[],bs=>bs.isEmpty
 |a::as,bs=>match bs with
  |[]=>false
  |b::bs=>D.beq a b&&D.gA as bs
end
noncomputable def nK:List (Int × D)->List (Int × D)->Bool
 |[],bs=>bs.isEmpty
 |a::as,bs=>match bs with
  |[]=>false
  |b::bs=>a.1==b.1&&D.beq a.2 b.2&&nK as bs
noncomputable def Fv (c c':Ch):Bool:=match c with
 |.list a=>match c' with
  |.list b=>D.gA a b
  |_=>false
 |.dict true a=>match c' with
  |.dict true b=>nK a b
  |_=>false
 |_=>false
noncomputable def iF (C C':af) (i:Nat):Bool:=match C[i]? with
 |some c=>match C'[i]? with
  |some c'=>Fv c c'
  |none=>false
 |none=>false
noncomputable def aW (C C':af):D->Bool
 |.loc i=>iF C C' i
 |.dC i=>iF C C' i
 |_=>true
noncomputable def fY (t:T) (d:D) (m:List (Option D)):Option (List (Option D)):=match t with
 |.one n=>if n<m.length then some (m.set n (some d)) else none
 |.many ns=>match d with
  |.tup ds=>if ns.length==ds.length&&ns.all (· < m.length) then some ((ns.zip ds).foldl (λm x=>m.set x.1 (some x.2)) m) else none
  |_=>none
structure Calls where
 call:Nat->List D->List (Nm × D)->af->aj D
 fuel:Nat
noncomputable def iO (cl:Calls) (k nx i:Nat):Nat->af->List D->aj D
 |0,_,_=>.fail
 |n+1,C,acc=>match C[i]? with
  |some (.slots k' _)=>if k'==k then match cl.call nx [.loc i] [] C with
   |.ok d st=>if acc.length<aD then iO cl k nx i n st.C (acc++[d]) else .fail
   |.exc .stop st=>.ok (.lst acc) st
   |_=>.fail else .fail
  |_=>.fail
noncomputable def ct (xs:List Int):List Int:=xs.foldl (λs x=>if s.contains x then s else s++[x]) []
noncomputable def To (d:D) (m:List (Option D)) (C:af):aj D:=.ok d ⟨m,C⟩
noncomputable def dq (o:Option D) (st:St):aj D:=match o with
 |some d=>.ok d st
 |none=>.fail
noncomputable def fo (C:af) (m:List (Option D)) (i:Nat):aj D:=match C[i]? with
  |some (.bj src p)=>match bW C src with
   |some ds=>match ds[p]? with
    |some d=>.ok d ⟨m,C.set i (.bj src (p+1))⟩
    |none=>.exc .stop ⟨m,C.set i (.bj .none 0)⟩
   |none=>.fail
  |_=>.fail
noncomputable def one (args:List D) (f:D->aj D):aj D:=match args with
 |[a]=>f a
 |_=>.fail
noncomputable def two (args:List D) (f:D->D->aj D):aj D:=match args with
 |[a,b]=>f a b
 |_=>.fail
noncomputable def aI {α:Type} (o:Option α) (f:α->aj D):aj D:=match o with
 |some x=>f x
 |none=>.fail
noncomputable def bo (b:Bool) (o:aj D):aj D:=match b with
 |true=>o
 |false=>.fail
noncomputable def jb (C:af) (a:D):Option (List Int):=(aU C a).bind eh
noncomputable def tM:Ch->Option Int
 |.list ds=>some ds.length
 |.set es=>some es.length
 |_=>none
noncomputable def tN (C:af):D->Option Int
 |.bytes x=>some x.length
 |.loc i=>C[i]?.bind tM
 |.lst ds=>some ds.length
 |.tup ds=>some ds.length
 |_=>none
noncomputable def Ab (a:D) (st:St):aj D:=aI (tN st.C a) λn=>.ok (.int n) st
noncomputable def rS (P:aR) (cl:Calls) (i k:Nat) (st:St):aj D:=match P.dy k with
 |some c=>aI (c.meths.lookup .iN) λni=>aI (c.meths.lookup .b9) λnx=>match cl.call ni [.loc i] [] st.C with
  |.ok (.loc j) aa=>bo (decide (j=i)) (match iO cl k nx i cl.fuel aa.C [] with
   |.ok d ae=>.ok d ⟨st.m,ae.C⟩
   |_=>.fail)
  |_=>.fail
 |none=>.fail
noncomputable def Ad (P:aR) (cl:Calls) (i:Nat) (st:St):Ch->aj D
 |.slots k _=>rS P cl i k st
 |.list ds=>.ok (.lst ds) st
 |_=>.fail
noncomputable def Ac (P:aR) (cl:Calls) (a:D) (st:St):aj D:=match a with
 |.ck x y=>bo (oW x y) (.ok (.lst (eN x y)) st)
 |.bytes x=>.ok (.lst (x.map λc=>.int c.toNat)) st
 |.loc i=>aI st.C[i]? (Ad P cl i st)
 |.lst ds=>.ok (.lst ds) st
 |.tup ds=>.ok (.lst ds) st
 |_=>.fail
noncomputable def Af (args:List D) (st:St):aj D:=match args with
 |[a]=>aI a.isInt λn=>bo (small n) (.ok (.ck 0 n) st)
 |[a,b]=>aI a.isInt λx=>aI b.isInt λy=>bo (small x&&small y) (.ok (.ck x y) st)
 |_=>.fail
noncomputable def Aa (a t:D) (st:St):aj D:=match a with
 |.bytes _=>match t with
  |.bn .bytes=>.ok (.bool true) st
  |_=>.fail
 |.bool _=>match t with
  |.bn .bool=>.ok (.bool true) st
  |_=>.fail
 |_=>.fail
noncomputable def Ah (a:D) (st:St):aj D:=match a with
 |.jO msg=>.ok (.str msg) st
 |.int i=>bo (small i) (.ok (.str (Str.ofString (toString i))) st)
 |_=>.fail
noncomputable def Ai (a:D) (st:St):aj D:=match a with
 |.bytes _=>.ok (.bn .bytes) st
 |.bool _=>.ok (.bn .bool) st
 |_=>.fail
noncomputable def Eu (xs:List Int) (st:St):aj D:=bo (decide (xs.length<=64)) (.ok (.loc st.C.length) ⟨st.m,st.C++[Ch.set (ct xs)]⟩)
noncomputable def HN (a:D) (st:St):aj D:=match a with
 |.bytes b=>bo (decide (b.length<=64)) (.ok (.loc st.C.length) ⟨st.m,st.C++[Ch.set (ct (b.map λc=>(c.toNat:Int)))]⟩)
 |a=>aI (jb st.C a) λxs=>Eu xs st
noncomputable def Ag (args:List D) (st:St):aj D:=one args λa=>HN a st
noncomputable def Ae (a:D) (st:St):aj D:=match a with
 |.loc i=>fo st.C st.m i
 |_=>.fail
noncomputable def vj (P:aR) (cl:Calls) (b:Bn) (args:List D) (st:St):aj D:=match b with
 |.len=>one args λa=>Ab a st
 |.list=>one args λa=>Ac P cl a st
 |.tuple=>one args λa=>aI (aU st.C a) λds=>.ok (.tup ds) st
 |.range=>Af args st
 |.sum=>one args λa=>aI (jb st.C a) λxs=>bo (xs.all (λx=>decide (x.natAbs<2 ^ 32))&&decide (xs.length<=aD)) (.ok (.int xs.sum) st)
 |.sorted=>one args λa=>aI (jb st.C a) λxs=>bo (decide (xs.length<64)) (.ok (.lst ((o6 xs).map .int)) st)
 |.isinstance=>two args λa t=>Aa a t st
 |.bool=>one args λa=>aI (aU st.C a) λds=>.ok (.bool (!ds.isEmpty)) st
 |.bytes=>one args λa=>aI ((jb st.C a).bind gB) λb=>bo (decide (b.length<=aD)) (.ok (.bytes b) st)
 |.str=>one args λa=>Ah a st
 |.type=>one args λa=>Ai a st
 |.set=>match args with
  |[]=>.ok (.loc st.C.length) ⟨st.m,st.C++[.set []]⟩
  |args=>Ag args st
 |.iter=>one args λa=>aI (bW st.C a) λu'=>.ok (.loc st.C.length) ⟨st.m,st.C++[.bj a 0]⟩
 |.next=>one args λa=>Ae a st
 |_=>.fail
noncomputable def jt (P:aR) (cl:Calls) (b:Bn) (args:List D) (st:St):aj D:=if cl.fuel==0&&b != .str then .fail else vj P cl b args st
noncomputable def mK (o:D) (m:List (Option D)) (r:aj D):aj D:=match r with
 |.ok .none aC=>.ok o ⟨m,aC.C⟩
 |_=>.fail
noncomputable def nU (P:aR) (cl:Calls) (k:Nat) (args:List D) (st:St):aj D:=match P.dy k with
 |some c=>match c.slots with
  |some ns=>mK (.loc st.C.length) st.m (cl.call c.init (.loc st.C.length::args) [] (st.C++[.slots k (replicate ns.length none)]))
  |none=>mK (.inst k st.C.length) st.m (cl.call c.init (.inst k st.C.length::args) [] (st.C++[.cJ []]))
 |none=>.fail
noncomputable def back (m:List (Option D)):aj D->aj D
 |.ok d st=>.ok d ⟨m,st.C⟩
 |.exc x st=>.exc x ⟨m,st.C⟩
 |.fail=>.fail
noncomputable def HV (P:aR) (cl:Calls) (n:Nm) (s:D) (args:List D) (st:St):aj D:=match n with
 |.bg=>one args λx=>aI ((aU st.C s).bind (gP x)) λb=>.ok (.bool b) st
 |.b9=>aI (oI s) λi=>bo (args.isEmpty&&(nH st.C i).isSome) (jt P cl .next [.loc i] st)
 |_=>.fail
noncomputable def ma (P:aR) (cl:Calls) (f:D) (args:List D) (kl:List (Nm × D)) (st:St):aj D:=match f with
 |.fn k=>back st.m (cl.call k args kl st.C)
 |.cls k=>if kl.isEmpty then nU P cl k args st else .fail
 |.bn b=>if kl.isEmpty then jt P cl b args st else .fail
 |.bm n s=>if kl.isEmpty then HV P cl n s args st else .fail
 |_=>.fail
noncomputable def putL {α β:Type} [BEq α] (k:α) (v:β):List (α × β)->List (α × β)
 |[]=>[(k,v)]
 |e::r=>if e.1==k then (e.1,v)::r else e::putL k v r
noncomputable def eY {α β:Type} [BEq α] (k:α):List (α × β)->List (α × β)
 |[]=>[]
 |e::r=>if e.1==k then r else e::eY k r
inductive MK where
 |own (k f:Nat)|lG|oN|oJ|mf|nZ|nh
noncomputable def MK.ctorIdx (x:MK):Nat:=MK.casesOn x (λ_ _=>0) 1 2 3 4 5 6
noncomputable def kp (n:Nm):Ch->Option MK
 |.list _=>match n with
  |.append=>some .lG
  |.pop=>some .oN
  |.clear=>some .oJ
  |_=>none
 |.dict _ _=>match n with
  |.get=>some .mf
  |.values=>some .nZ
  |_=>none
 |.set _=>match n with
  |.add=>some .nh
  |_=>none
 |_=>none
noncomputable def dO (P:aR) (C:af) (o:D) (n:Nm):Option MK:=match o with
 |.inst k i=>(P.dy k).bind λc=>(eB C i).bind λes=>(c.meths.lookup n).bind λf=>if (es.lookup n).isNone&&c.slots.isNone then some (.own k f) else none
 |.loc i=>C[i]?.bind (kp n)
 |_=>none
noncomputable def eL (C:af) (i:Nat):Option (List D):=match C[i]? with
 |some (.list ds)=>some ds
 |_=>none
noncomputable def dictAt (C:af) (i:Nat):Option (List (Int × D)):=match C[i]? with
 |some (.dict _ es)=>some es
 |_=>none
noncomputable def oX (C:af) (i:Nat):Option (List Int):=match C[i]? with
 |some (.set es)=>some es
 |_=>none
noncomputable def NV (mk:MK) (i:Nat) (args:List D) (st:St):aj D:=match mk with
 |.own _ _=>.fail
 |.lG=>one args λd=>aI (eL st.C i) λds=>bo (decide (ds.length<aD)) (.ok .none ⟨st.m,st.C.set i (.list (ds++[d]))⟩)
 |.oN=>bo args.isEmpty (aI (eL st.C i) λds=>aI ds.getLast? λd=>.ok d ⟨st.m,st.C.set i (.list ds.dropLast)⟩)
 |.oJ=>bo args.isEmpty (aI (eL st.C i) λu'=>.ok .none ⟨st.m,st.C.set i (.list [])⟩)
 |.mf=>one args λd=>aI d.isInt λk=>aI (dictAt st.C i) λes=>.ok ((es.lookup k).getD .none) st
 |.nZ=>bo args.isEmpty (aI (dictAt st.C i) λu'=>.ok (.dC i) st)
 |.nh=>one args λd=>aI d.isInt λk=>aI (oX st.C i) λes=>bo (decide (es.length<64)) (.ok .none ⟨st.m,st.C.set i (.set (if es.contains k then es else es++[k]))⟩)
noncomputable def oP (cl:Calls) (mk:MK) (o:D) (args:List D) (st:St):aj D:=match mk with
 |.own _ f=>back st.m (cl.call f (o::args) [] st.C)
 |mk=>aI (oI o) λi=>NV mk i args st
noncomputable def Qu (P:aR) (i:Nat) (n:Nm) (d:D) (C:af):Ch->Option af
 |.slots k fs=>(P.dy k).bind λc=>c.slots.bind λns=>if ns.contains n&&decide (fs.length=ns.length) then some (C.set i (.slots k (fs.set (ns.idxOf n) (some d)))) else none
 |_=>none
noncomputable def fq (P:aR) (o:D) (n:Nm) (d:D) (C:af):Option af:=match o with
 |.inst k i=>(P.dy k).bind λc=>(eB C i).bind λes=>if c.slots.isNone&&n.mL&&decide (es.length<64) then some (C.set i (.cJ (putL n d es))) else none
 |.loc i=>C[i]?.bind (Qu P i n d C)
 |_=>none
noncomputable def gS (o:Option af) (m:List (Option D)):aj Unit:=match o with
 |some C=>.ok () ⟨m,C⟩
 |none=>.fail
noncomputable def ft (k:Nat) (d:D) (st:St):aj Unit:=if k<st.m.length then .ok () ⟨st.m.set k (some d),st.C⟩ else .fail
noncomputable def kT (op:Op) (a b:D):Option D:=a.isInt.bind λx=>b.isInt.bind λy=>match op with
 |.add=>some (.int (x+y))
 |.sub=>some (.int (x - y))
 |_=>none
noncomputable def Qx (j:Nat) (k:Int) (d:D) (C:af):Ch->Option af
 |.list ds=>if 0<=k/\k<ds.length then some (C.set j (.list (ds.set k.toNat d))) else none
 |.dict b es=>if es.length<64/\small k then some (C.set j (.dict b (putL k d es))) else none
 |_=>none
noncomputable def Qy (j:Nat) (k:Int) (d:D) (C:af):Option af:=C[j]?.bind (Qx j k d C)
noncomputable def kC (o i d:D) (C:af):Option af:=(oI o).bind λj=>i.isInt.bind λk=>Qy j k d C
noncomputable def Bk (j:Nat) (k:Int) (C:af):Ch->Option af
 |.dict _ es=>if (es.lookup k).isSome then some (C.set j (.dict false (eY k es))) else none
 |_=>none
noncomputable def IM (j:Nat) (k:Int) (C:af):Option af:=C[j]?.bind (Bk j k C)
noncomputable def nY (o i:D) (C:af):Option af:=(oI o).bind λj=>i.isInt.bind λk=>IM j k C
noncomputable def fZ (mu:Bool) (d:D) (st:St):aj D:=match mu with
 |true=>match d with
  |.lst ds=>.ok (.loc st.C.length) ⟨st.m,st.C++[.list ds]⟩
  |_=>.fail
 |false=>.ok d st
noncomputable def cO:E->Bool
 |.list _=>true
 |.comp _ _=>true
 |.bin .add _ _=>true
 |_=>false
set_option backward.match.sparseCases true
noncomputable def aj.bind {α β:Type} (o:aj α) (f:α->St->aj β):aj β:=match o with
 |.ok a st=>f a st
 |.exc x st=>.exc x st
 |.fail=>.fail
noncomputable def lR:List Nat->List D->St->aj Unit
 |n::ns,d::ds,st=>(ft n d st).bind λu' aa=>lR ns ds aa
 |_,_,st=>.ok () st
noncomputable def T.width:T->Nat
 |.one _=>1
 |.many ns=>ns.length
noncomputable def fF (t:T) (d:D) (st:St):aj Unit:=match t with
 |.one n=>ft n d st
 |.many ns=>match d with
  |.tup ds=>if ns.length==ds.length then lR ns ds st else .fail
  |_=>.fail
noncomputable def cw (tests:St->aj D) (inner:List D->St->aj D) (acc:List D) (st:St):aj D:=match tests st with
 |.ok (.bool true) ae=>inner acc ae
 |.ok (.bool false) ae=>.ok (.lst acc) ae
 |_=>.fail
noncomputable def dD (t:T) (turn:List D->St->aj D) (bc:af->af->Bool):List D->List D->St->aj D
 |[],acc,st=>.ok (.lst acc) st
 |d::ds,acc,st=>match fF t d ⟨st.m++replicate t.width none,st.C⟩ with
  |.ok _ aa=>match turn acc aa with
   |.ok (.lst bk) ae=>if bc st.C ae.C then dD t turn bc ds bk ⟨ae.m.take st.m.length,ae.C⟩ else .fail
   |_=>.fail
  |_=>.fail
mutual
noncomputable def ev (P:aR) (cl:Calls):E->St->aj D
 |.bad,_=>.fail
 |.cst d,st=>.ok d st
 |.var n,st=>match st.m[n]? with
  |some (some d)=>.ok d st
  |_=>.fail
 |.bin op a b,st=>(ev P cl a st).bind λx aa=>(ev P cl b aa).bind λy ae=>dq (d6 ae.C op x y) ae
 |.cmp op a b,st=>(ev P cl a st).bind λx aa=>(ev P cl b aa).bind λy ae=>dq ((eX ae.C op x y).map .bool) ae
 |.not a,st=>(ev P cl a st).bind λx aa=>dq ((bI aa.C x).map λb=>.bool (!b)) aa
 |.and a b,st=>(ev P cl a st).bind λx aa=>match bI aa.C x with
  |some true=>ev P cl b aa
  |some false=>.ok x aa
  |none=>.fail
 |.or a b,st=>(ev P cl a st).bind λx aa=>match bI aa.C x with
  |some true=>.ok x aa
  |some false=>ev P cl b aa
  |none=>.fail
 |.ite c a b,st=>(ev P cl c st).bind λx aa=>match bI aa.C x with
  |some true=>ev P cl a aa
  |some false=>ev P cl b aa
  |none=>.fail
 |.list es,st=>match bG P cl es st with
  |.ok (.lst ds) aa=>if ds.length<=aD then .ok (.lst ds) aa else .fail
  |.exc x aa=>.exc x aa
  |_=>.fail
 |.tup es,st=>match bG P cl es st with
  |.ok (.lst ds) aa=>if ds.length<=aD then .ok (.tup ds) aa else .fail
  |.exc x aa=>.exc x aa
  |_=>.fail
 |.mi,st=>.ok (.loc st.C.length) ⟨st.m,st.C++[.dict true []]⟩
 |.idx a i,st=>(ev P cl a st).bind λx aa=>(ev P cl i aa).bind λy ae=>dq (gg ae.C x y) ae
 |.slice a lo hi,st=>(ev P cl a st).bind λx aa=>(ev P cl lo aa).bind λy ae=>(ev P cl hi ae).bind λz aG=>dq (nu aG.C x y z) aG
 |.comp _ .nil,_=>.fail
 |.comp elt (.cons t it ifs g),st=>if cl.fuel==0 then .fail else (ev P cl it st).bind λy aa=>match bU aa.C y with
  |some items=>match dD t (cw (λae=>cW P cl ifs ae) (λacc ae=>d9 P cl (λaG=>ev P cl elt aG) g acc ae)) (λC C'=>aW C C' y) items [] aa with
   |.ok (.lst ds) ae=>.ok (.lst ds) ⟨aa.m,ae.C⟩
   |_=>.fail
  |none=>.fail
 |.attr a n,st=>(ev P cl a st).bind λx aa=>dq (eU P aa.C x n) aa
 |.call f es ks,st=>(ev P cl f st).bind λg aa=>match bG P cl es aa with
  |.ok (.lst ds) ae=>sr P cl g ds [] ks ae
  |.exc x ae=>.exc x ae
  |_=>.fail
 |.bq o n es,st=>(ev P cl o st).bind λx aa=>match dO P aa.C x n with
  |none=>.fail
  |some mk=>(bG P cl es aa).bind λd ae=>match d with
   |.lst ds=>oP cl mk x ds ae
   |_=>.fail
 |.gn o n es e,st=>(ev P cl o st).bind λx aa=>match dO P aa.C x n with
  |some (.own k f)=>((bG P cl es aa).bind λd ae=>match d with
   |.lst ds=>(ev P cl e ae).bind λy aG=>match bW aG.C y with
    |some ys=>(.ok (D.lst (ds++ys)) aG:aj D)
    |none=>.fail
   |_=>.fail).bind λ(d:D) aG=>match d with
    |.lst ds=>oP cl (.own k f) x ds aG
    |_=>.fail
  |_=>.fail
 |.kF n a,st=>(ev P cl a st).bind λx aa=>if n<aa.m.length then .ok x ⟨aa.m.set n (some x),aa.C⟩ else .fail
 |.JX es,st=>BU P cl Str.empty es st
 |.Pc a,st=>(ev P cl a st).bind λx aa=>match x with
  |.int i=>if small i then .ok (.str (Str.ofString (toString i))) aa else .fail
  |_=>.fail
 |.AF a,st=>(ev P cl a st).bind λx aa=>fZ (cO a) x aa
noncomputable def bG (P:aR) (cl:Calls):Es->St->aj D
 |.nil,st=>.ok (.lst []) st
 |.cons e es,st=>(ev P cl e st).bind λx aa=>match bG P cl es aa with
  |.ok (.lst ds) ae=>.ok (.lst (x::ds)) ae
  |.exc x ae=>.exc x ae
  |_=>.fail
noncomputable def BU (P:aR) (cl:Calls) (acc:Str):Es->St->aj D
 |.nil,st=>.ok (.str acc) st
 |.cons e es,st=>(ev P cl e st).bind λx aa=>match x with
  |.str y=>if acc.length+y.length<=aD then BU P cl (acc++y) es aa else .fail
  |_=>.fail
noncomputable def sr (P:aR) (cl:Calls) (g:D) (ds:List D) (acc:List (Nm × D)):Ks->St->aj D
 |.nil,st=>ma P cl g ds acc st
 |.cons n e ks,st=>(ev P cl e st).bind λx aa=>sr P cl g ds (acc++[(n,x)]) ks aa
noncomputable def d9 (P:aR) (cl:Calls) (elt:St->aj D):Gs->List D->St->aj D
 |.nil,acc,st=>(elt st).bind λx aa=>if acc.length<aD then .ok (.lst (acc++[x])) aa else .fail
 |.cons t it ifs g,acc,st=>(ev P cl it st).bind λy aa=>match bU aa.C y with
  |some items=>dD t (cw (λae=>cW P cl ifs ae) (λacc ae=>d9 P cl elt g acc ae)) (λC C'=>aW C C' y) items acc aa
  |none=>.fail
noncomputable def cW (P:aR) (cl:Calls):Es->St->aj D
 |.nil,st=>.ok (.bool true) st
 |.cons e es,st=>(ev P cl e st).bind λx aa=>match bI aa.C x with
  |some true=>cW P cl es aa
  |some false=>.ok (.bool false) aa
  |none=>.fail
end
noncomputable def forLoop (bc:af->af->Bool) (t:T) (f:St->aj Fl):List D->St->aj Fl
 |[],st=>.ok .next st
 |d::ds,st=>match fY t d st.m with
  |some m1=>match f ⟨m1,st.C⟩ with
   |.ok .next aa=>if bc st.C aa.C then forLoop bc t f ds aa else .fail
   |.ok .cont aa=>if bc st.C aa.C then forLoop bc t f ds aa else .fail
   |.ok .brk aa=>.ok .next aa
   |o=>o
  |none=>.fail
noncomputable def whileLoop (c:St->aj D) (f:St->aj Fl) (eD:St->aj Fl):Nat->St->aj Fl
 |0,_=>.fail
 |n+1,st=>match c st with
  |.ok d aa=>match bI aa.C d with
   |some true=>match f aa with
    |.ok .next ae=>whileLoop c f eD n ae
    |.ok .cont ae=>whileLoop c f eD n ae
    |.ok .brk ae=>.ok .next ae
    |o=>o
   |some false=>eD aa
   |none=>.fail
  |.exc x aa=>.exc x aa
  |.fail=>.fail
noncomputable def je:Calls:=⟨λu' u' u' u'=>.fail,0⟩
noncomputable def pG (k:Nat) (x:X):Bool:=match k,x with
 |0,.stop=>true
 |1,.r9=>true
 |2,.value _=>true
 |_,_=>false
mutual
noncomputable def ex (P:aR) (cl:Calls):S->St->aj Fl
 |.bad,_=>.fail
 |.pass,st=>.ok .next st
 |.brk,st=>.ok .brk st
 |.cont,st=>.ok .cont st
 |.expr e,st=>(ev P cl e st).bind λu' aa=>.ok .next aa
 |.aN n mu e,st=>((ev P cl e st).bind λx aa=>fZ (mu&&cO e) x aa).bind λd ae=>(ft n d ae).bind λu' aG=>.ok .next aG
 |.vc ns e,st=>if cl.fuel==0 then .fail else (ev P cl e st).bind λx aa=>match x with
  |.tup ds=>if ns.length==ds.length then (lR ns ds aa).bind λu' ae=>.ok .next ae else .fail
  |_=>.fail
 |.cU o a mu e,st=>((ev P cl e st).bind λx aa=>fZ (mu&&cO e) x aa).bind λd ae=>(ev P cl o ae).bind λy aG=>
   (gS (fq P y a d aG.C) aG.m).bind λu' fx=>.ok .next fx
 |.kP o i e,st=>(ev P cl e st).bind λx aa=>(ev P cl o aa).bind λy ae=>(ev P cl i ae).bind λz aG=>
   (gS (kC y z x aG.C) aG.m).bind λu' fx=>.ok .next fx
 |.pB o i n e,st=>(ev P cl e st).bind λx aa=>((ev P cl o aa).bind λy ae=>(ev P cl i ae).bind λz aG=>
   gS (kC y z x aG.C) aG.m).bind λu' fx=>(ft n x fx).bind λu' RM=>.ok .next RM
 |.kS o a op e,st=>(ev P cl o st).bind λy aa=>(dq (eU P aa.C y a) aa).bind λold ae=>(ev P cl e ae).bind λx aG=>
   match kT op old x with
   |some d=>(gS (fq P y a d aG.C) aG.m).bind λu' fx=>.ok .next fx
   |none=>.fail
 |.ifs c a b,st=>(ev P cl c st).bind λx aa=>match bI aa.C x with
  |some true=>av P cl a aa
  |some false=>av P cl b aa
  |none=>.fail
 |.kG c a b,st=>whileLoop (λaa=>ev P cl c aa) (λaa=>av P cl a aa) (λaa=>av P cl b aa) cl.fuel st
 |.dR t it a,st=>if cl.fuel==0 then .fail else (ev P cl it st).bind λy aa=>match bU aa.C y with
  |some items=>forLoop (λC C'=>aW C C' y) t (λae=>av P cl a ae) items aa
  |none=>.fail
 |.ret e,st=>(ev P cl e st).bind λx aa=>.ok (.ret x) aa
 |.O4 e,st=>if cl.fuel==0 then .fail else (ev P cl e st).bind λx aa=>match x with
  |.str s=>.exc (.value s) aa
  |_=>.fail
 |.Fh a b,st=>if cl.fuel==0 then .fail else (ev P cl a st).bind λu' aa=>(ev P cl b aa).bind λu' ae=>.exc .r9 ae
 |.pa b k n h,st=>if cl.fuel==0 then .fail else match av P cl b st with
  |.exc x aa=>if pG k x then
    match n with
    |none=>match av P je h aa with
     |.ok f ae=>.ok f ae
     |_=>.fail
    |some n=>match x with
     |.value s=>if n<aa.m.length then (match av P je h ⟨aa.m.set n (some (.jO s)),aa.C⟩ with
      |.ok f ae=>.ok f ⟨ae.m.set n none,ae.C⟩
      |_=>.fail) else .fail
     |_=>.fail
   else .fail
  |o=>o
 |.pK o i,st=>(ev P cl o st).bind λy aa=>(ev P cl i aa).bind λz ae=>(gS (nY y z ae.C) ae.m).bind λu' aG=>.ok .next aG
noncomputable def av (P:aR) (cl:Calls):Ss->St->aj Fl
 |.nil,st=>.ok .next st
 |.cons s ss,st=>match ex P cl s st with
  |.ok .next aa=>av P cl ss aa
  |o=>o
end
noncomputable def gT (xs:List (Nat × D)) (m:List (Option D)):List (Option D):=xs.foldl (λm x=>m.set x.1 (some x.2)) m
noncomputable def fX (f:Fn) (pos:List D) (kl:List (Nm × D)):Option (List (Option D)):=
 let np:=f.cg.length
 let miss:=np - pos.length
 let vals:=pos.take np++f.bM.drop (f.bM.length - miss)
 let m0:=replicate f.size none
 if vals.length==np&&decide (pos.length<=aD)&&decide (miss<=f.bM.length)&&(f.cq.isSome||decide (pos.length<=np))&&decide (kl.map (·.1)=f.cp.map (·.1)) then
  let m1:=gT (f.cg.zip vals) m0
  let m2:=gT ((f.cp.map (·.2)).zip (kl.map (·.2))) m1
  match f.cq with
  |some v=>some (m2.set v (some (.tup (pos.drop np))))
  |none=>some m2
 else none
noncomputable def dt:aj Fl->aj D
 |.ok (.ret d) st=>.ok d st
 |.ok .next st=>.ok .none st
 |.ok _ _=>.fail
 |.exc x st=>.exc x st
 |.fail=>.fail
noncomputable def aA (P:aR) (fuel:Nat):Nat->Nat->List D->List (Nm × D)->af->aj D
 |0,_,_,_,_=>.fail
 |n+1,k,pos,kl,C=>match P.fns[k]? with
  |some f=>match fX f pos kl with
   |some m=>dt (av P ⟨aA P fuel n,fuel⟩ f.body ⟨m,C⟩)
   |none=>.fail
  |none=>.fail
theorem pA {C:af} {i:Nat} {ds:List D} (h:C[i]?=some (.list ds)):aU C (.loc i)=some ds:=by
 unfold aU; dsimp only; rw [h]
theorem Hl {C:af} {i:Nat} {ds:List D} (h:C[i]?=some (.list ds)):bW C (.loc i)=some ds:=by
 unfold bW; dsimp only; rw [h]
theorem cps {G:Prop} (h : ∀ Q:Prop,(G->Q)->Q):G:=h G id
end Mine.Lake
end
section
open PySem
namespace Mine.Lake
structure aV where
 glob:List (Str × D)
 mu:List Str
 AE:List (Str × Nat)
noncomputable def EA:List (Str × Nm):=[("append",.append),("pop",.pop),("clear",.clear),("get",.get),("values",.values),("add",.add),("_get_nodeinfo",.mw),
 ("prepare",.prepare),("_find_cycle",.n5),("get_ready",.jx),("is_active",.qC),("done",.done),
 ("_node2info",.cL),("_ready_nodes",.cC),("_npassedout",.el),("_nfinished",.fp),("node",.node),("npredecessors",.er),
 ("successors",.succ),("_it",.it),("_func",.func),("__contains__",.bg),("__next__",.b9),("newline",.newline),("__init__",.init),("__iter__",.iN)]
noncomputable def c6 (x:Str):Option Nm:=EA.lookup x
noncomputable def jh:Operator->Option Op
 |.Add=>some .add|.Sub=>some .sub|.Mult=>some .mul|.FloorDiv=>some .fdiv|.Mod=>some .mod|.Pow=>some .pow
 |.LShift=>some .shl|.RShift=>some .shr|.BitAnd=>some .and|.BitOr=>some .or
 |_=>none
noncomputable def r7:CmpOp->Cm
 |.Eq=>.eq|.NotEq=>.ne|.Lt=>.lt|.LtE=>.le|.Gt=>.gt|.GtE=>.ge|.Is=>.is|.IsNot=>.mO|.In=>.eK|.NotIn=>.xT
structure aJ where
 names:List (Str × NameKind)
 slots:List (Str × Nat)
 base:Nat
noncomputable def oQ (G:aV) (c:aJ) (x:Str):E:=match c.names.lookup x with
 |some .local|some .cell|some .free=>match c.slots.lookup x with
  |some n=>.var n
  |none=>.bad
 |some .globalImplicit=>match G.glob.lookup x with
  |some d=>.cst d
  |none=>.bad
 |_=>.bad
noncomputable def dz (c:aJ) (x:Str):Option Nat:=match c.names.lookup x with
 |some .local|some .cell=>c.slots.lookup x
 |_=>none
noncomputable def r8:Const->E
 |.none=>.cst .none
 |.bool b=>.cst (.bool b)
 |.int i=>.cst (.int i)
 |.str s=>.cst (.str s)
 |_=>.bad
noncomputable def cP:List (Str × NameKind)->List Str
 |[]=>[]
 |(x,.local)::r=>x::cP r
 |(x,.cell)::r=>x::cP r
 |_::r=>cP r
set_option backward.match.sparseCases false in
noncomputable def fS:Expr->Option Str
 |.Name x _=>some x
 |_=>none
set_option backward.match.sparseCases false in
noncomputable def o9:Expr->Option (List Str)
 |.Name x _=>some [x]
 |.Tuple es _ _=>es.mapM fS
 |_=>none
noncomputable def cD (xs:List Str) (b:Nat):List (Str × Nat):=xs.zipIdx.map λp=>(p.1,b+p.2)
noncomputable def kq (xs:List Str) (one:Bool) (b:Nat):T:=if one then .one b else .many (xs.zipIdx.map λp=>b+p.2)
set_option backward.match.sparseCases false in
noncomputable def qD:Expr->Nat
 |.Set .. => 1
 |.Starred .. => 2
 |.Tuple .. => 3
 |.List .. => 3
 |.ListComp .. => 4
 |.SetComp .. => 4
 |.DictComp .. => 4
 |.Name .. => 5
 |_=>0
noncomputable def jG (e:Expr):Bool:=qD e==5
noncomputable def lD (e:Expr):Bool:=qD e==1
set_option backward.match.sparseCases false in
noncomputable def As:Expr->Option (Expr × List Expr × List Keyword)
 |.Call f args ks _=>some (f,args,ks)
 |_=>none
noncomputable def mM (e:Expr):Bool:=match As e with
 |some (f,args,ks)=>jG f&&args.isEmpty&&ks.isEmpty
 |none=>false
noncomputable def Nb (e:Expr):Bool:=match fS e with
 |some x=>x==("_wall":Str)
 |none=>false
noncomputable def dW (e:Expr):Bool:=qD e==2
noncomputable def xt (e:Expr):Bool:=qD e==3
noncomputable def ki (e:Expr):Bool:=qD e==4
noncomputable def bX (f:Expr->E):List Expr->Es
 |[]=>.nil
 |e::r=>.cons (f e) (bX f r)
noncomputable def kU (f:Expr->E) (es:List Expr):Es:=if es.any dW then .cons .bad .nil else bX f es
noncomputable def pE (f:Expr->E):Option Expr->E
 |none=>.cst .none
 |some e=>f e
noncomputable def vn (f:Nat->Expr->E) (i:Nat):List Expr->Es
 |[]=>.nil
 |e::r=>.cons (f i e) (vn f (i+1) r)
noncomputable def l9 (f:Expr->E):List Keyword->Ks
 |[]=>.nil
 |⟨k,v,_⟩::r=>match k.bind c6 with
  |some a=>.cons a (f v) (l9 f r)
  |none=>.cons .init .bad .nil
noncomputable def jV (f:Expr->E):List Expr->E
 |[]=>.bad
 |[e]=>f e
 |e::r=>.and (f e) (jV f r)
noncomputable def jW (f:Expr->E):List Expr->E
 |[]=>.bad
 |[e]=>f e
 |e::r=>.or (f e) (jW f r)
set_option backward.match.sparseCases false in
noncomputable def rh:Expr->Option Expr
 |.Starred e _=>some e
 |_=>none
noncomputable def jl:List Expr->Option (List Expr × Option Expr)
 |[]=>some ([],none)
 |e::r=>match rh e with
  |some x=>if r.isEmpty then some ([],some x) else none
  |none=>(jl r).map λp=>(e::p.1,p.2)
noncomputable def own (names:List (Str × NameKind)) (x:Str):Bool:=match names.lookup x with
 |some .local|some .cell=>true
 |_=>false
noncomputable def j4 (c:aJ) (xs:List Str):Bool:=decide xs.Nodup&&xs.all λx=>own c.names x&&(c.slots.lookup x).isNone
noncomputable def d7 (c:aJ) (xs:List Str):aJ:={c with slots:=cD xs c.base++c.slots,base:=c.base+xs.length}
noncomputable def nS (f:aJ->Expr->E):aJ->List Comprehension->Option (Gs × aJ)
 |c,[]=>some (.nil,c)
 |c,⟨t,it,ifs,a⟩::r=>match o9 t with
  |some xs=>if a==0&&!lD it&&j4 c xs then (nS f (d7 c xs) r).map λp=>(.cons (kq xs (jG t) c.base) (f c it) (bX (f (d7 c xs)) ifs) p.1,p.2) else none
  |none=>none
noncomputable def eV (f:aJ->Expr->E) (ci co:aJ) (elt:Expr):List Comprehension->E
 |[]=>.bad
 |⟨t,it,ifs,a⟩::r=>match o9 t with
  |some xs=>if a==0&&!lD it&&j4 ci xs then (match nS f (d7 ci xs) r with
   |some (rest,cz)=>.comp (f cz elt) (.cons (kq xs (jG t) ci.base) (f co it) (bX (f (d7 ci xs)) ifs) rest)
   |none=>.bad) else .bad
  |none=>.bad
noncomputable def cV (c:aJ) (sc:Scope):aJ:={names:=sc.names,slots:=c.slots.filter λp=>!own sc.names p.1,base:=c.base}
noncomputable def me (c:aJ) (sc:Scope):Bool:=sc.kind==.function&&decide ((sc.names.map (·.1)).Nodup)&&(sc.names.all λp=>p.2 != .free||c.names.lookup p.1==some .cell||c.names.lookup p.1==some .free) &&
 (sc.names.lookup ("__debug__":Str)).isNone&&(sc.names.lookup ("__classdict__":Str)).isNone
noncomputable def dw {α:Type} (o:Option α) (f:α->E):E:=match o with
 |some x=>f x
 |none=>.bad
noncomputable def dU (b:Bool) (e:E):E:=match b with
 |true=>e
 |false=>.bad
noncomputable def bL {α:Type} (o:Option α) (f:α->S):S:=match o with
 |some x=>f x
 |none=>.bad
noncomputable def dM (b:Bool) (e:S):S:=match b with
 |true=>e
 |false=>.bad
noncomputable def qN {α:Type}:List α->Option α
 |[x]=>some x
 |_=>none
set_option backward.match.sparseCases false in
noncomputable def nJ:Expr->Option (Expr × Str × Pos)
 |.Attribute o a p=>some (o,a,p)
 |_=>none
set_option backward.match.sparseCases false in
noncomputable def yG:Expr->Option (Expr × Expr)
 |.Subscript o i _=>some (o,i)
 |_=>none
set_option backward.match.sparseCases false in
noncomputable def uz:Expr->Option (Option Expr × Option Expr × Option Expr)
 |.Slice lo hi st _=>some (lo,hi,st)
 |_=>none
set_option backward.match.sparseCases false in
noncomputable def Em:Expr->Option Int
 |.Constant k _ _=>match k with
  |.int i=>some i
  |_=>none
 |_=>none
noncomputable def AM (f:Expr->E) (l:Expr) (ops:List CmpOp) (rs:List Expr):E:=dw (qN ops) λop=>dw (qN rs) λr=>dU (!lD r) (.cmp (r7 op) (f l) (f r))
noncomputable def yL (f:Expr->E) (op:UnaryOp) (x:Expr):E:=match op with
 |.Not=>.not (f x)
 |.USub=>dw (Em x) λi=>.cst (.int (-i))
 |_=>.bad
noncomputable def HP (f:Expr->E) (op:BoolOp) (es:List Expr):E:=match op with
 |.And=>jV f es
 |.Or=>jW f es
noncomputable def rm (f:Expr->E) (v i:Expr):E:=match uz i with
 |none=>.idx (f v) (f i)
 |some (lo,hi,st)=>dU st.isNone (.slice (f v) (pE f lo) (pE f hi))
noncomputable def RP (f:Expr->E) (o:Expr) (a:Nm) (ps:List Expr) (st:Option Expr):E:=match st with
 |none=>.bq (f o) a (bX f ps)
 |some e=>.gn (f o) a (bX f ps) (f e)
noncomputable def Ee (f:Expr->E) (o:Expr) (a:Str) (apos:Pos) (args:List Expr) (ks:List Keyword) (pos:Pos):E:=
 dU (!mM o&&ks.isEmpty&&(apos.endLine==pos.line)&&decide (args.length<20)) (dw (c6 a) λa=>dw (jl args) λp=>RP f o a p.1 p.2)
noncomputable def AD (G:aV) (fe:Expr) (i:Nat):Bool:=match fS fe with
 |some x=>G.AE.contains (x,i)
 |none=>false
noncomputable def zF (G:aV) (f:Expr->E) (fe:Expr) (i:Nat) (e:Expr):E:=match AD G fe i with
 |true=>.AF (f e)
 |false=>f e
noncomputable def E6 (G:aV) (f:Expr->E) (fe:Expr) (args:List Expr) (ks:List Keyword):E:=
 dU (!Nb fe&&!args.any dW&&ks.all λk=>(k.arg.bind c6).isSome) (.call (f fe) (vn (zF G f fe) 0 args) (l9 f ks))
noncomputable def pF (G:aV) (f:Expr->E) (fe:Expr) (args:List Expr) (ks:List Keyword) (pos:Pos):E:=match nJ fe with
 |some (o,a,apos)=>Ee f o a apos args ks pos
 |none=>E6 G f fe args ks
set_option backward.match.sparseCases false in
noncomputable def cE (G:aV):Nat->aJ->Expr->E
 |0,_,_=>.bad
 |n+1,c,e=>match e with
  |.Constant k _ _=>r8 k
  |.Name x _=>oQ G c x
  |.BinOp l op r _=>dw (jh op) λo=>.bin o (cE G n c l) (cE G n c r)
  |.Compare l ops rs _=>AM (cE G n c) l ops rs
  |.UnaryOp op x _=>yL (cE G n c) op x
  |.BoolOp op es _=>HP (cE G n c) op es
  |.IfExp t a b _=>.ite (cE G n c t) (cE G n c a) (cE G n c b)
  |.List es _=>.list (kU (cE G n c) es)
  |.Tuple es _ _=>.tup (kU (cE G n c) es)
  |.Dict ks vs _=>dU (ks.isEmpty&&vs.isEmpty) .mi
  |.Subscript v i _=>rm (cE G n c) v i
  |.ListComp elt gens sc _=>dU (me c sc) (eV (cE G n) (cV c sc) c elt gens)
  |.Attribute v a _=>dU (!mM v) (dw (c6 a) λa=>.attr (cE G n c v) a)
  |.NamedExpr t v _=>dw (fS t) λx=>dw (dz c x) λk=>.kF k (cE G n c v)
  |.Call f args ks pos=>pF G (cE G n c) f args ks pos
  |_=>.bad
noncomputable def DO (G:aV) (x:Str):Bool:=G.mu.contains x
noncomputable def ib (f:Stmt->S):List Stmt->Ss
 |[]=>.nil
 |s::r=>.cons (f s) (ib f r)
noncomputable def mr (x:Str):Nat:=if x==("StopIteration":Str) then 0 else 9
noncomputable def qK (c:aJ) (x:Str):Bool:=c.names.lookup x==some .globalImplicit
noncomputable def JB (f:Expr->E) (e:Expr):S:=dM (!ki e) (.expr (f e))
set_option backward.match.sparseCases false in
noncomputable def zI (G:aV) (c:aJ) (f:Expr->E) (t e:Expr):S:=match t with
 |.Name x _=>bL (dz c x) λk=>.aN k (DO G x) (f e)
 |.Tuple es _ _=>dM (!xt e&&!ki e) (bL ((es.mapM fS).bind (·.mapM (dz c))) λns=>.vc ns (f e))
 |.Attribute o a _=>dM (!mM o) (bL (c6 a) λb=>.cU (f o) b (DO G a) (f e))
 |.Subscript o i _=>dM (!ki e) (.kP (f o) (f i) (f e))
 |_=>.bad
noncomputable def Hm (c:aJ) (f:Expr->E) (t u e:Expr):S:=bL (yG t) λp=>bL (fS u) λx=>bL (dz c x) λk=>.pB (f p.1) (f p.2) k (f e)
noncomputable def zJ (G:aV) (c:aJ) (f:Expr->E) (ts:List Expr) (e:Expr):S:=match ts with
 |[t]=>zI G c f t e
 |[t,u]=>Hm c f t u e
 |_=>.bad
noncomputable def Hr (f:Expr->E) (t:Expr) (op:Operator) (e:Expr):S:=bL (nJ t) λp=>bL (c6 p.2.1) λb=>bL (jh op) λo=>.kS (f p.1) b o (f e)
noncomputable def JO (c:aJ) (f:Expr->E) (t it:Expr) (a:Ss) (Ol:Bool):S:=dM (Ol&&!lD it) (bL (fS t) λx=>bL (dz c x) λk=>.dR (.one k) (f it) a)
noncomputable def O3 (c:aJ) (f:Expr->E) (x:Str) (args:List Expr):S:=dM (qK c x) (match args with
 |[a,b]=>dM (x==("CycleError":Str)&&!dW a&&!dW b) (.Fh (f a) (f b))
 |_=>.bad)
noncomputable def Tt (c:aJ) (f:Expr->E) (exc cause:Option Expr):S:=dM cause.isNone (bL exc λe=>bL (As e) λp=>bL (fS p.1) λx=>dM p.2.2.isEmpty (O3 c f x p.2.1))
noncomputable def CQ:ExceptHandler->Option (Expr × Option Str × List Stmt)
 |.ExceptHandler t nm h _=>t.map λt=>(t,nm,h)
noncomputable def Sk (c:aJ) (x:Str) (nm:Option Str) (b h:Ss):S:=match nm with
 |none=>.pa b (mr x) none h
 |some _=>.bad
noncomputable def Gu (c:aJ) (g:List Stmt->Ss) (b:List Stmt) (hs:List ExceptHandler) (Oo:Bool):S:=
 dM Oo (bL (qN hs) λh=>bL (CQ h) λp=>bL (fS p.1) λx=>dM (qK c x&&!p.2.2.isEmpty) (Sk c x p.2.1 (g b) (g p.2.2)))
noncomputable def IP (f:Expr->E) (ts:List Expr):S:=bL (qN ts) λt=>bL (yG t) λp=>.pK (f p.1) (f p.2)
set_option backward.match.sparseCases false in
noncomputable def cS (G:aV):Nat->aJ->Stmt->S
 |0,_,_=>.bad
 |n+1,c,s=>match s with
  |.Pass _=>.pass
  |.Break _=>.brk
  |.Continue _=>.cont
  |.Expr e _=>JB (cE G n c) e
  |.Return v _=>bL v λe=>.ret (cE G n c e)
  |.Assign ts e _=>zJ G c (cE G n c) ts e
  |.AugAssign t op e _=>Hr (cE G n c) t op e
  |.If t a b _=>.ifs (cE G n c t) (ib (cS G n c) a) (ib (cS G n c) b)
  |.While t a b _=>.kG (cE G n c t) (ib (cS G n c) a) (ib (cS G n c) b)
  |.For t it a orelse _=>JO c (cE G n c) t it (ib (cS G n c) a) orelse.isEmpty
  |.Try b hs orelse fin _=>Gu c (ib (cS G n c)) b hs (orelse.isEmpty&&fin.isEmpty)
  |.Delete ts _=>IP (cE G n c) ts
  |_=>.bad
noncomputable def kW (sc:Scope):aJ:=let ns:=cP sc.names; {names:=sc.names,slots:=cD ns 0,base:=ns.length}
set_option backward.match.sparseCases false in
noncomputable def vF:Expr->D
 |.Constant .none _ _=>.none
 |.Constant (.bool b) _ _=>.bool b
 |.Constant (.int i) _ _=>.int i
 |_=>.bn .repr
noncomputable def eO (sc:Scope) (x:Arg):Nat:=((kW sc).slots.lookup x.arg).getD 999
noncomputable def dX (G:aV) (a:Arguments) (body:List Stmt) (sc:Scope):Fn:=
 {cg:=(a.posonlyargs++a.args).map (eO sc),bM:=a.defaults.map vF,cp:=a.kwonlyargs.map λx=>((c6 x.arg).getD .init,eO sc x),
  cq:=a.vararg.map (eO sc),size:=(kW sc).base,body:=ib (cS G 40 (kW sc)) body}
noncomputable def sE (a:Arguments) (sc:Scope):Bool:=sc.kind==.function&&!sc.isCoroutine&&!sc.isGenerator&&decide ((sc.names.map (·.1)).Nodup)&&(sc.names.all λp=>p.2 != .free)&&(sc.names.lookup ("__debug__":Str)).isNone &&
 (sc.names.lookup ("__classdict__":Str)).isNone&&a.kwarg.isNone&&decide (((a.posonlyargs.map (·.arg)++a.args.map (·.arg))++a.kwonlyargs.map (·.arg)++(a.vararg.map (·.arg)).toList).Nodup) &&
 (((a.posonlyargs.map (·.arg)++a.args.map (·.arg))++a.kwonlyargs.map (·.arg)++(a.vararg.map (·.arg)).toList).all (own sc.names))&&decide (a.defaults.length<=(a.posonlyargs.map (·.arg)++a.args.map (·.arg)).length) &&
 (a.kwonlyargs.all λx=>(c6 x.arg).isSome)
structure aq where
 prog:Program
 w:World
 h₀:Heap
 os:OsState
 P:aR
 K:W.Frag
 ba:Nat->Addr
 bw:Nat->Addr
 gV:Nat->Nat->Nat
abbrev aq.M (V:aq):Model:=model V.prog V.w
noncomputable def Bn.val:Bn->Value
 |.len=>.builtin "len"|.list=>.type "list"|.range=>.type "range"|.tuple=>.type "tuple"|.sum=>.builtin "sum"|.min=>.builtin "min"
 |.sorted=>.builtin "sorted"|.isinstance=>.builtin "isinstance"|.bool=>.type "bool"|.bytes=>.type "bytes"|.str=>.type "str"|.type=>.type "type"
 |.set=>.type "set"|.iter=>.builtin "iter"|.next=>.builtin "next"|.int=>.type "int"|.float=>.type "float"|.complex=>.type "complex"
 |.bytearray=>.type "bytearray"|.dict=>.type "dict"|.frozenset=>.type "frozenset"|.uJ=>.type "ValueError"|.stopIteration=>.type "StopIteration"
 |.repr=>.builtin "repr"
noncomputable def Nm.str:Nm->Str
 |.append=>"append"|.pop=>"pop"|.clear=>"clear"|.get=>"get"|.values=>"values"|.add=>"add"|.mw=>"_get_nodeinfo"
 |.prepare=>"prepare"|.n5=>"_find_cycle"|.jx=>"get_ready"|.qC=>"is_active"|.done=>"done"
 |.cL=>"_node2info"|.cC=>"_ready_nodes"|.el=>"_npassedout"|.fp=>"_nfinished"|.node=>"node"|.er=>"npredecessors"
 |.succ=>"successors"|.it=>"_it"|.func=>"_func"|.bg=>"__contains__"|.b9=>"__next__"|.newline=>"newline"|.init=>"__init__"|.iN=>"__iter__"
inductive GO where
 |ay (o:Obj)
 |cell (i:Nat)
 |aw (o:Obj)
 |locals
 |cA (x:Str)
noncomputable def GO.ctorIdx (x:GO):Nat:=GO.casesOn x (λ_=>0) (λ_=>1) (λ_=>2) 3 (λ_=>4)
abbrev Gh:=Addr->Option GO
structure Gh.Le (g g':Gh):Prop where
 ay : ∀ a o,g a=some (.ay o)->g' a=some (.ay o)
 cell : ∀ a i,g a=some (.cell i)->g' a=some (.cell i)
structure Gh.Step (g g':Gh):Prop extends Gh.Le g g' where
 aw : ∀ a o,g a=some (.aw o)↔g' a=some (.aw o)
theorem Gh.Le.refl (g:Gh):g.Le g:=⟨λu' u' h=>h,λu' u' h=>h⟩
theorem Gh.Le.trans {g₁ g₂ g₃:Gh} (x:g₁.Le g₂) (y:g₂.Le g₃):g₁.Le g₃:=⟨λa o h=>y.ay a o (x.ay a o h),λa i h=>y.cell a i (x.cell a i h)⟩
theorem Gh.Step.refl (g:Gh):g.Step g:=⟨.refl g,λu' u'=>.rfl⟩
theorem Gh.Step.trans {g₁ g₂ g₃:Gh} (x:g₁.Step g₂) (y:g₂.Step g₃):g₁.Step g₃:=⟨x.toLe.trans y.toLe,λa o=>(x.aw a o).trans (y.aw a o)⟩
noncomputable def kO (T:String) (vs:List Value) (o:Obj):Prop:=vs.length<=aD/\∃ n,o={cls:=.type T,dict:=none,data:=.seq vs.toArray n,slots := #[]}
noncomputable def eQ (T:String) (vs:List Value) (o:Obj):Prop:=o={cls:=.type T,dict:=none,data:=.fields vs.toArray,slots := #[]}
mutual
inductive ab (V:aq) (g:Gh):D->Value->Prop
 |none:ab V g .none .none
 |bool (b:Bool):ab V g (.bool b) (.bool b)
 |int (i:Int) (t:Tok):ab V g (.int i) (.int i t)
 |str (s:Str) (t:Tok):ab V g (.str s) (.str s t)
 |bytes {b:List UInt8} (t:Tok):b.length<=aD->ab V g (.bytes b) (.bytes b.toArray t)
 |bn (b:Bn):ab V g (.bn b) b.val
 |fn (k:Nat):ab V g (.fn k) (.ref (V.ba k))
 |cls (k:Nat):ab V g (.cls k) (.ref (V.bw k))
 |tup {ds:List D} {a:Addr} {o:Obj} {vs:List Value}:g a=some (.ay o)->kO "tuple" vs o->aE V g ds vs->ab V g (.tup ds) (.ref a)
 |lst {ds:List D} {a:Addr} {o:Obj} {vs:List Value}:g a=some (.ay o)->kO "list" vs o->aE V g ds vs->ab V g (.lst ds) (.ref a)
 |ck {a b:Int} {r:Addr} {o:Obj} {t₁ t₂ t₃:Tok}:g r=some (.ay o)->eQ "range" [.int a t₁,.int b t₂,.int 1 t₃] o->ab V g (.ck a b) (.ref r)
 |loc {i:Nat} {a:Addr}:g a=some (.cell i)->ab V g (.loc i) (.ref a)
 |inst {k i:Nat} {x dx:Addr} {sl:Array (Option Value)}:g x=some (.ay ⟨.ref (V.bw k),some dx,.plain,sl⟩)->g dx=some (.cell i)->ab V g (.inst k i) (.ref x)
 |nL {s:D} {v:Value} {a:Addr} {o:Obj}:g a=some (.ay o)->eQ "method-wrapper" [.builtin "list.__contains__",v] o->ab V g s v->ab V g (.bm .bg s) (.ref a)
 |nM {s:D} {v:Value} {a:Addr} {o:Obj}:g a=some (.ay o)->eQ "method-wrapper" [.builtin "list_iterator.__next__",v] o->ab V g s v->ab V g (.bm .b9 s) (.ref a)
 |dC {i:Nat} {a d:Addr} {o:Obj}:g a=some (.ay o)->eQ "dict_values" [.ref d] o->g d=some (.cell i)->ab V g (.dC i) (.ref a)
 |jO {msg:Str} {a:Addr} {t:Addr} {o o':Obj} {u:Tok} {vs:List Value}:g a=some (.ay o)->o.cls=.type "ValueError"->o.data=.fields (.ref t::vs).toArray->
   g t=some (.ay o')->(o'.cls=.type "tuple"/\∃ n,o'.data=.seq [Value.str msg u].toArray n)->ab V g (.jO msg) (.ref a)
inductive aE (V:aq) (g:Gh):List D->List Value->Prop
 |nil:aE V g [] []
 |cons {d:D} {v:Value} {ds:List D} {vs:List Value}:ab V g d v->aE V g ds vs->aE V g (d::ds) (v::vs)
end
theorem ab.mono {V:aq} {g g':Gh} (L:g.Le g') {d:D} {v:Value} (h:ab V g d v):ab V g' d v:=
 ab.rec (motive_1:=λd v u'=>ab V g' d v) (motive_2:=λds vs u'=>aE V g' ds vs) .none (λb=>.bool b) (λi t=>.int i t) (λs t=>.str s t) (λt h=>.bytes t h) (λb=>.bn b) (λk=>.fn k) (λk=>.cls k)
  (λh a u' b=>.tup (L.ay _ _ h) a b) (λh a u' b=>.lst (L.ay _ _ h) a b) (λh a=>.ck (L.ay _ _ h) a) (λh=>.loc (L.cell _ _ h)) (λh a=>.inst (L.ay _ _ h) (L.cell _ _ a))
  (λh a u' b=>.nL (L.ay _ _ h) a b) (λh a u' b=>.nM (L.ay _ _ h) a b) (λh a b=>.dC (L.ay _ _ h) a (L.cell _ _ b)) (λh a b c d=>.jO (L.ay _ _ h) a b (L.ay _ _ c) d) .nil (λu' u' a b=>.cons a b) h
theorem aE.mono {V:aq} {g g':Gh} (L:g.Le g') {ds:List D} {vs:List Value} (h:aE V g ds vs):aE V g' ds vs:=
 aE.rec (motive_1:=λd v u'=>ab V g' d v) (motive_2:=λds vs u'=>aE V g' ds vs) .none (λb=>.bool b) (λi t=>.int i t) (λs t=>.str s t) (λt h=>.bytes t h) (λb=>.bn b) (λk=>.fn k) (λk=>.cls k)
  (λh a u' b=>.tup (L.ay _ _ h) a b) (λh a u' b=>.lst (L.ay _ _ h) a b) (λh a=>.ck (L.ay _ _ h) a) (λh=>.loc (L.cell _ _ h)) (λh a=>.inst (L.ay _ _ h) (L.cell _ _ a))
  (λh a u' b=>.nL (L.ay _ _ h) a b) (λh a u' b=>.nM (L.ay _ _ h) a b) (λh a b=>.dC (L.ay _ _ h) a (L.cell _ _ b)) (λh a b c d=>.jO (L.ay _ _ h) a b (L.ay _ _ c) d) .nil (λu' u' a b=>.cons a b) h
noncomputable def GR (V:aq) (g:Gh):D->Value->Prop
 |.none,v=>v=.none
 |.bool b,v=>v=.bool b
 |.int i,v => ∃ t,v=.int i t
 |.str s,v => ∃ t,v=.str s t
 |.bytes b,v => ∃ t,b.length<=aD/\v=.bytes b.toArray t
 |.bn b,v=>v=b.val
 |.fn k,v=>v=.ref (V.ba k)
 |.cls k,v=>v=.ref (V.bw k)
 |.tup ds,v => ∃ a o vs,g a=some (.ay o)/\kO "tuple" vs o/\aE V g ds vs/\v=.ref a
 |.lst ds,v => ∃ a o vs,g a=some (.ay o)/\kO "list" vs o/\aE V g ds vs/\v=.ref a
 |.ck a b,v => ∃ r o t₁ t₂ t₃,g r=some (.ay o)/\eQ "range" [.int a t₁,.int b t₂,.int 1 t₃] o/\v=.ref r
 |.loc i,v => ∃ a,g a=some (.cell i)/\v=.ref a
 |.inst k i,v => ∃ x dx sl,g x=some (.ay ⟨.ref (V.bw k),some dx,.plain,sl⟩)/\g dx=some (.cell i)/\v=.ref x
 |.dC i,v => ∃ a d o,g a=some (.ay o)/\eQ "dict_values" [.ref d] o/\g d=some (.cell i)/\v=.ref a
 |_,_=>True
theorem ab.inv {V:aq} {g:Gh} {d:D} {v:Value} (h:ab V g d v):GR V g d v:=by
 induction h using ab.casesOn with
 |none=>exact rfl
 |bool b=>exact rfl
 |int i t=>exact ⟨_,rfl⟩
 |str s t=>exact ⟨_,rfl⟩
 |bytes t h=>exact ⟨_,h,rfl⟩
 |bn b=>exact rfl
 |fn k=>exact rfl
 |cls k=>exact rfl
 |tup a b c=>exact ⟨_,_,_,a,b,c,rfl⟩
 |lst a b c=>exact ⟨_,_,_,a,b,c,rfl⟩
 |ck a b=>exact ⟨_,_,_,_,_,a,b,rfl⟩
 |loc a=>exact ⟨_,a,rfl⟩
 |inst a b=>exact ⟨_,_,_,a,b,rfl⟩
 |dC a b c=>exact ⟨_,_,_,a,b,c,rfl⟩
 |nL=>exact trivial
 |nM=>exact trivial
 |jO=>exact trivial
section
variable {V:aq} {g:Gh} {v:Value}
theorem ab.xi (h:ab V g .none v):v=.none:=h.inv
theorem ab.oC {b:Bool} (h:ab V g (.bool b) v):v=.bool b:=h.inv
theorem ab.ja {i:Int} (h:ab V g (.int i) v) : ∃ t,v=.int i t:=h.inv
theorem ab.tu {s:Str} (h:ab V g (.str s) v) : ∃ t,v=.str s t:=h.inv
theorem ab.mI {b:List UInt8} (h:ab V g (.bytes b) v) : ∃ t,b.length<=aD/\v=.bytes b.toArray t:=h.inv
theorem ab.xh {b:Bn} (h:ab V g (.bn b) v):v=b.val:=h.inv
theorem ab.MD {k:Nat} (h:ab V g (.fn k) v):v=.ref (V.ba k):=h.inv
theorem ab.MC {k:Nat} (h:ab V g (.cls k) v):v=.ref (V.bw k):=h.inv
theorem ab.MH {ds:List D} (h:ab V g (.tup ds) v) : ∃ a o vs,g a=some (.ay o)/\kO "tuple" vs o/\aE V g ds vs/\v=.ref a:=h.inv
theorem ab.ME {ds:List D} (h:ab V g (.lst ds) v) : ∃ a o vs,g a=some (.ay o)/\kO "list" vs o/\aE V g ds vs/\v=.ref a:=h.inv
theorem ab.MG {a b:Int} (h:ab V g (.ck a b) v) : ∃ r o t₁ t₂ t₃,g r=some (.ay o)/\eQ "range" [.int a t₁,.int b t₂,.int 1 t₃] o/\v=.ref r:=h.inv
theorem ab.gd {i:Nat} (h:ab V g (.loc i) v) : ∃ a,g a=some (.cell i)/\v=.ref a:=h.inv
theorem ab.MI {i:Nat} (h:ab V g (.dC i) v) : ∃ a d o,g a=some (.ay o)/\eQ "dict_values" [.ref d] o/\g d=some (.cell i)/\v=.ref a:=h.inv
theorem ab.DC {d:D} (h:ab V g (.bm .bg d) v) : ∃ u a,g a=some (.ay {cls:=.type "method-wrapper",dict:=Option.none,data:=.fields #[.builtin "list.__contains__",u],slots := #[]})/\ab V g d u/\v=.ref a:=by
 cases h with
 |nL h1 h2 h3=>unfold eQ at h2; subst h2; exact ⟨_,_,h1,h3,rfl⟩
theorem ab.DD {d:D} (h:ab V g (.bm .b9 d) v) : ∃ u a,g a=some (.ay {cls:=.type "method-wrapper",dict:=Option.none,data:=.fields #[.builtin "list_iterator.__next__",u],slots := #[]})/\ab V g d u/\v=.ref a:=by
 cases h with
 |nM h1 h2 h3=>unfold eQ at h2; subst h2; exact ⟨_,_,h1,h3,rfl⟩
theorem aE.gf {vs:List Value} (h:aE V g [] vs):vs=[]:=by cases h; rfl
inductive y9 (V:aq) (g:Gh) (d:D) (ds:List D) (vs:List Value):Prop
 |mk (v:Value) (ws:List Value) (h1:ab V g d v) (h2:aE V g ds ws) (e:vs=v::ws):y9 V g d ds vs
theorem aE.gc {d:D} {ds:List D} {vs:List Value} (h:aE V g (d::ds) vs):y9 V g d ds vs:=by cases h; exact ⟨_,_,by assumption,by assumption,rfl⟩
inductive uM {α β:Type} (o:Option α) (f:α->Option β) (b:β):Prop
 |mk (a:α) (h1:o=some a) (h2:f a=some b):uM o f b
inductive zk {α β:Type} (o:Option α) (f:α->β) (b:β):Prop
 |mk (a:α) (h1:o=some a) (h2:f a=b):zk o f b
theorem aS {α β:Type} {o:Option α} {f:α->Option β} {b:β} (h:o.bind f=some b):uM o f b:=let ⟨a,h1,h2⟩:=Option.bind_eq_some_iff.mp h; ⟨a,h1,h2⟩
theorem cB {α β:Type} {o:Option α} {f:α->β} {b:β} (h:o.map f=some b):zk o f b:=let ⟨a,h1,h2⟩:=Option.map_eq_some_iff.mp h; ⟨a,h1,h2⟩
theorem oE {α:Type} {M:Model} {A:Around} {c:Prop} [Decidable c] {f k:Sem α} {Q E s} (h : ¬c) (q:wpAny M A k Q E s):wpAny M A (if c then f else k) Q E s:=by rw [if_neg h]; exact q
theorem DH {α:Type} {M:Model} {A:Around} {c:Prop} [Decidable c] {f k:Sem α} {Q E s} (h:c) (q:wpAny M A f Q E s):wpAny M A (if c then f else k) Q E s:=by rw [if_pos h]; exact q
theorem ao {α:Type} {a:α} {P:Prop} (h:Option.none=some a):P:=by cases h
theorem gk {c:Prop} [Decidable c] {α:Type} {a:Option α} {b:α} (h:(if c then a else Option.none)=some b):c/\a=some b:=by
 by_cases q:c
 ·rw [if_pos q] at h; exact ⟨q,h⟩
 ·rw [if_neg q] at h; exact ao h
set_option tactic.hygienic true in
theorem u5 {C:af} {i:Nat} {es:List (Nm × D)} (h:eB C i=some es):C[i]?=some (.cJ es):=by
 unfold eB at h
 split at h
 ·rename_i e q; rw [Option.some.inj h] at q; exact q
 ·exact ao h
set_option tactic.hygienic true in
theorem xB {C:af} {i:Nat} {es:List D} (h:eL C i=some es):C[i]?=some (.list es):=by
 unfold eL at h
 split at h
 ·rename_i e q; rw [Option.some.inj h] at q; exact q
 ·exact ao h
set_option tactic.hygienic true in
theorem Qt {C:af} {i:Nat} {es:List Int} (h:oX C i=some es):C[i]?=some (.set es):=by
 unfold oX at h
 split at h
 ·rename_i e q; rw [Option.some.inj h] at q; exact q
 ·exact ao h
set_option tactic.hygienic true in
theorem Br {C:af} {i:Nat} {es:List (Int × D)} (h:dictAt C i=some es) : ∃ b,C[i]?=some (.dict b es):=by
 unfold dictAt at h
 split at h
 ·rename_i b e q; rw [Option.some.inj h] at q; exact ⟨b,q⟩
 ·exact ao h
theorem kD {α:Type} {a:α} {P:Prop} (h:some a=Option.none):P:=by cases h
theorem bA {P:Prop} (h:false=true):P:=by cases h
theorem fT {P:Prop} (h:true=false):P:=by cases h
theorem aj.ok.inj {α:Type} {a b:α} {s t:St} (h:aj.ok a s=aj.ok b t):a=b/\s=t:=by cases h; exact ⟨rfl,rfl⟩
theorem cF {α:Type} {a:α} {st:St} {P:Prop} (h:aj.fail=aj.ok a st):P:=by cases h
theorem vQ {α:Type} {a:α} {x:X} {st aC:St} {P:Prop} (h:aj.exc x aC=aj.ok a st):P:=by cases h
theorem EP {α:Type} {a:α} {st:St} {P:Prop} (h:aj.ok a st=aj.fail):P:=by cases h
theorem BY {α:Type} {x:X} {st:St} {P:Prop} (h:(aj.exc x st:aj α)=aj.fail):P:=by cases h
theorem B7 {α:Type} {x:X} {st:St} {P:Prop} (h:(aj.fail:aj α)=aj.exc x st):P:=by cases h
end
noncomputable def gu (V:aq) (g:Gh) (e:Int × D) (kv:Int × Value):Prop:=e.1=kv.1/\ab V g e.2 kv.2
noncomputable def iI (V:aq) (g:Gh) (e:Nm × D) (en:DictEntry):Prop:=(∃ t,en.key=.str e.1.str t)/\ab V g e.2 en.val
noncomputable def jo (V:aq) (g:Gh):Option D->Option Value->Prop
 |none,none=>True
 |some d,some v=>ab V g d v
 |_,_=>False
noncomputable def aZ {α β:Type} (R:α->β->Prop):List α->List β->Prop
 |[],[]=>True
 |a::as,b::bs=>R a b/\aZ R as bs
 |_,_=>False
theorem aZ.imp {α β:Type} {R R':α->β->Prop} (f : ∀ a b,R a b->R' a b) : ∀ {as:List α} {bs:List β},aZ R as bs->aZ R' as bs
 |[],[],_=>trivial
 |_::_,_::_,h=>⟨f _ _ h.1,h.2.imp f⟩
 |[],_::_,h=>h.elim
 |_::_,[],h=>h.elim
noncomputable def kJ (V:aq) (g:Gh):Ch->Obj->Prop
 |.list ds,o => ∃ vs,kO "list" vs o/\aE V g ds vs
 |.dict b es,o=>es.length<=64/\∃ ents ep ax,o.ExactDict/\o.data=.dict ents ep/\KeysOf (intKind V.prog V.w) ents/\Pairs (intKind V.prog V.w) ents.toList ax/\(ax.map (·.1)).Nodup/\aZ (gu V g) es ax/\(b=true->ep=es.length)
 |.cJ es,o=>es.length<=64/\∃ ents n,o=W.dictOf ents n/\aZ (iI V g) es ents/\(es.map (·.1)).Nodup
 |.set es,o=>es.length<=64/\∃ ents ep t,o.ExactSet/\o.data=.set ents ep t/\ElemsOf (intKind V.prog V.w) ents.toList/\(∀ k,es.contains k=true ↔ ∃ e∈ents.toList,(intKind V.prog V.w).is k e.2=true)/\
   ents.size<scanBound/\t.fits ents.size=true/\ents.size=es.length
 |.slots k fs,o=>o.cls=.ref (V.bw k)/\(∃ dx,o.dict=some dx/\g dx=some (.ay W.emptyDict))/\o.data=.plain/\∀ j,j<fs.length->jo V g (fs[j]?).join (o.slots[V.gV k j]?).join
 |.bj src pos,o=>match src with
  |.none=>True
  |.tup ds => ∃ v t,eQ "tuple_iterator" [v,.int pos t] o/\ab V g (.tup ds) v
  |src => ∃ v t,eQ "list_iterator" [v,.int pos t] o/\ab V g src v
structure aB where
 env:Env
 names:List (Str × NameKind)
 slots:List (Str × Nat)
 base:Nat
 stack:List Env
noncomputable def zg (k:NameKind) (r:Option NameKind):Prop:=match k with
 |.free=>r=some .free\/r=some .cell
 |k=>r=some k
structure aB.Ok (F:aB):Prop where
 fn:F.env.scope.kind=.function
 glob:F.env.globals=mainGlobals
 blt:F.env.builtins=builtinsNs
 kinds : ∀ x k,F.names.lookup x=some k->zg k (F.env.kindOf x)
 inj : ∀ x y n,F.slots.lookup x=some n->F.slots.lookup y=some n->x=y
 bound : ∀ x n,F.slots.lookup x=some n->n<F.base
 frame : ∃ L,F.env.frame=some L
 cells : ∀ x k,F.names.lookup x=some k->k=.cell\/k=.free->(F.env.cells.lookup x).isSome=true
 debug:F.names.lookup ("__debug__":Str)=none
 md:F.names.lookup ("__classdict__":Str)=none
noncomputable def GS (g:Gh) (L:Addr):Prop:=g L=some .locals\/∃ o es n,g L=some (.aw o)/\o.data=.dict es n
noncomputable def eA (F:aB) (g:Gh) (L:Addr):Prop:=L=F.env.locals\/∃ o es n,g L=some (.aw o)/\o.data=.dict es n
noncomputable def jS (o:Obj):Prop:=(∀ v,o.data≠.cell v)/\∀ es n,o.data≠.dict es n
structure kK (V:aq) (F:aB) (m:List (Option D)) (g:Gh) (h:Heap):Prop where
 len:m.length=F.base
 above:V.h₀.objs.size<=F.env.locals
 out : ∀ e∈F.stack,e.scope.kind≠.module/\∃ L,e.frame=some L/\eA F g L
 here:g F.env.locals=some .locals
 loc : ∃ M,h.Ns F.env.locals M/\∀ x n d,F.names.lookup x=some .local->F.slots.lookup x=some n->m[n]?=some (some d)->∃ v,M x=some v/\ab V g d v
 cell : ∀ x,F.names.lookup x=some .cell->∃ c v,F.env.cells.lookup x=some c/\g c=some (.cA x)/\h.IsCell c v/\
  ∀ n d,F.slots.lookup x=some n->m[n]?=some (some d)->∃ v',v=some v'/\ab V g d v'
 free : ∀ x n d,F.names.lookup x=some .free->F.slots.lookup x=some n->m[n]?=some (some d)->∃ c o v,F.env.cells.lookup x=some c/\g c=some (.aw o)/\o.data=.cell (some v)/\ab V g d v
inductive yY (V:aq) (g:Gh) (h:Heap) (i:Nat) (c:Ch):Prop
 |mk (a:Addr) (o:Obj) (h1:g a=some (.cell i)) (h2:h.get? a=some o) (h3:kJ V g c o):yY V g h i c
structure ah (V:aq) (F:aB) (m:List (Option D)) (C:af) (g:Gh) (s:Shared):Prop where
 keep : ∀ b o,V.h₀.get? b=some o->s.heap.get? b=some o
 new : ∀ a x,g a=some x->V.h₀.get? a=none
 live : ∀ a x,g a=some x->∃ o,s.heap.get? a=some o
 ay : ∀ a o,g a=some (.ay o)->s.heap.get? a=some o
 aw : ∀ a o,g a=some (.aw o)->∃ sl,s.heap.get? a=some {o with slots:=sl}/\(jS o->sl=o.slots)
 cell : ∀ i c,C[i]?=some c->yY V g s.heap i c
 uniq : ∀ a b i,g a=some (.cell i)->g b=some (.cell i)->a=b
 dB : ∀ a i,g a=some (.cell i)->i<C.length
 fr:kK V F m g s.heap
 gens:s.gens = #[]
 os:s.os=V.os
theorem gu.mono {V:aq} {g g':Gh} (L:g.Le g') (e:Int × D) (en:Int × Value) (h:gu V g e en):gu V g' e en:=⟨h.1,h.2.mono L⟩
theorem iI.mono {V:aq} {g g':Gh} (L:g.Le g') (e:Nm × D) (en:DictEntry) (h:iI V g e en):iI V g' e en:=⟨h.1,h.2.mono L⟩
theorem jo.mono {V:aq} {g g':Gh} (L:g.Le g') : ∀ {d:Option D} {v:Option Value},jo V g d v->jo V g' d v
 |none,none,_=>trivial
 |some _,some _,h=>ab.mono L h
 |none,some _,h=>h.elim
 |some _,none,h=>h.elim
theorem kJ.mono {V:aq} {g g':Gh} (L:g.Le g') {c:Ch} {o:Obj} (h:kJ V g c o):kJ V g' c o:=by
 induction c using Ch.casesOn with
 |list ds=>obtain ⟨vs,a,b⟩:=h; exact ⟨vs,a,b.mono L⟩
 |dict _ _=>obtain ⟨a,ents,ep,ax,b,c,d,e,f,q,y⟩:=h; exact ⟨a,ents,ep,ax,b,c,d,e,f,q.imp (gu.mono L),y⟩
 |cJ _=>obtain ⟨a,ents,n,c,d,e⟩:=h; exact ⟨a,ents,n,c,d.imp (iI.mono L),e⟩
 |set _=>exact h
 |slots _ _=>obtain ⟨a,⟨dx,b,b'⟩,c,d⟩:=h; exact ⟨a,⟨dx,b,L.ay _ _ b'⟩,c,λj hj=>(d j hj).mono L⟩
 |bj src p=>induction src using D.casesOn<;>first|exact trivial|(obtain ⟨v,t,a,b⟩:=h; exact ⟨v,t,a,b.mono L⟩)
section
variable {V:aq} {F:aB} {m:List (Option D)} {C:af} {g:Gh} {s:Shared}
theorem ah.apart (I:ah V F m C g s) {a:Addr} (h:s.heap.get? a=none):g a=none:=by
 induction e:g a with
 |none=>rfl
 |some x=>obtain ⟨o,ho⟩:=I.live a x e; rw [h] at ho; cases ho
theorem ah.fw (I:ah V F m C g s):g s.heap.objs.size=none:=I.apart (Heap.get?_none_of_le (le_refl _))
theorem kK.keeps (x:kK V F m g s.heap) {h':Heap} (k : ∀ b o,s.heap.get? b=some o->h'.get? b=some o):kK V F m g h':=
 ⟨x.len,x.above,x.out,x.here,by obtain ⟨M,a,b⟩:=x.loc; exact ⟨M,a.keeps k,b⟩,λy hy=>by obtain ⟨c,v,a,b,d,e⟩:=x.cell y hy; exact ⟨c,v,a,b,d.keeps k,e⟩,x.free⟩
theorem kK.mono {g':Gh} {h:Heap} (x:kK V F m g h) (L:g.Le g') (wY : ∀ c,g c=some .locals->g' c=some .locals) (hc : ∀ c y,g c=some (.cA y)->g' c=some (.cA y))
  (hp : ∀ c o,g c=some (.aw o)->g' c=some (.aw o)):kK V F m g' h:=by
 refine ⟨x.len,x.above,λe he=>let ⟨k,L',q,r⟩:=x.out e he; ⟨k,L',q,?_⟩,wY _ x.here,?_,λy hy=>?_,λy n d a b e=>?_⟩
 ·rcases r with r|⟨o,es,n,r,z⟩
  ·exact .inl r
  ·exact .inr ⟨o,es,n,hp _ _ r,z⟩
 ·obtain ⟨M,a,b⟩:=x.loc
  exact ⟨M,a,λy n d h1 h2 h3=>(b y n d h1 h2 h3).imp λv q=>⟨q.1,q.2.mono L⟩⟩
 ·obtain ⟨c,v,a,b,d,e⟩:=x.cell y hy
  exact ⟨c,v,a,hc c y b,d,λn d' h1 h2=>(e n d' h1 h2).imp λv q=>⟨q.1,q.2.mono L⟩⟩
 ·obtain ⟨c,o,v,h1,h2,h3,h4⟩:=x.free y n d a b e
  exact ⟨c,o,v,h1,hp c o h2,h3,h4.mono L⟩
theorem ah.keeps (I:ah V F m C g s) {h':Heap} {t:Nat} {d:Drawn} (k : ∀ b o,s.heap.get? b=some o->h'.get? b=some o):ah V F m C g {s with heap:=h',toks:=t,drawn:=d} where
 keep b o h:=k b o (I.keep b o h)
 new:=I.new
 live a x h:=(I.live a x h).imp λo=>k a o
 ay a o h:=k a o (I.ay a o h)
 aw a o h:=(I.aw a o h).imp λsl q=>⟨k a _ q.1,q.2⟩
 cell i c h:=by obtain ⟨a,o,x,y,z⟩:=I.cell i c h; exact ⟨a,o,x,k a o y,z⟩
 uniq:=I.uniq
 dB:=I.dB
 fr:=I.fr.keeps k
 gens:=I.gens
 os:=I.os
theorem ah.tok (I:ah V F m C g s) (t:Nat):ah V F m C g {s with toks:=t}:=I.keeps (h':=s.heap) (d:=s.drawn) λu' u' h=>h
theorem ah.heap (I:ah V F m C g s) {h':Heap} (k : ∀ b o,s.heap.get? b=some o->h'.get? b=some o):ah V F m C g {s with heap:=h'}:=I.keeps (t:=s.toks) (d:=s.drawn) k
theorem ah.both (I:ah V F m C g s) {h':Heap} (t:Nat) (k : ∀ b o,s.heap.get? b=some o->h'.get? b=some o):ah V F m C g {s with heap:=h',toks:=t}:=I.keeps (d:=s.drawn) k
noncomputable def Gh.put (g:Gh) (a:Addr) (x:Option GO):Gh:=λb=>if b=a then x else g b
theorem Gh.bu (g:Gh) (a:Addr) (x:Option GO):g.put a x a=x:=by simp [Gh.put]
theorem Gh.aX (g:Gh) {a b:Addr} (x:Option GO) (h:b≠a):g.put a x b=g b:=by simp [Gh.put,h]
theorem Gh.bE {g:Gh} {a b:Addr} {x:Option GO} {y:GO} (h:g.put a x b=some y):(b=a/\x=some y)\/(b≠a/\g b=some y):=by
 by_cases e:b=a
 ·left; subst e; rw [Gh.bu] at h; exact ⟨rfl,h⟩
 ·right; rw [Gh.aX _ _ e] at h; exact ⟨e,h⟩
theorem Gh.gm {g:Gh} {a:Addr} (x:Option GO) (h:g a=none):g.Le (g.put a x):=
 ⟨λb o e=>(by rw [Gh.aX]; exact e; intro q; subst q; rw [h] at e; cases e),λb i e=>(by rw [Gh.aX]; exact e; intro q; subst q; rw [h] at e; cases e)⟩
theorem ah.more (I:ah V F m C g s) {h':Heap} {t:Nat} {a:Addr} {o:Obj} {x:GO} (k : ∀ b o,s.heap.get? b=some o->h'.get? b=some o) (ha:s.heap.get? a=none) (ho:h'.get? a=some o)
  (hx:x=.ay o\/x=.aw o):ah V F m C (g.put a (some x)) {s with heap:=h',toks:=t}:=by
 have hg:=I.apart ha
 have L:g.Le (g.put a (some x)):=Gh.gm _ hg
 have I':=I.both t k
 have other : ∀ {b y},g b=some y->g.put a (some x) b=some y:=λ{b y} e=>by
  rw [Gh.aX]; exact e; intro q; subst q; rw [hg] at e; cases e
 refine ⟨I'.keep,λb y e=>?_,λb y e=>?_,λb o' e=>?_,λb o' e=>?_,λi c e=>?_,λb c i e e'=>?_,λb i e=>?_,?_,I'.gens,I'.os⟩
 ·rcases Gh.bE e with ⟨rfl,_⟩|⟨_,q⟩
  ·induction q:V.h₀.get? b with
   |none=>rfl
   |some o'=>rw [I.keep _ _ q] at ha; cases ha
  ·exact I.new b y q
 ·rcases Gh.bE e with ⟨rfl,_⟩|⟨_,q⟩
  ·exact ⟨o,ho⟩
  ·exact I'.live b y q
 ·rcases Gh.bE e with ⟨rfl,q⟩|⟨_,q⟩
  ·rcases hx with rfl|rfl<;>cases q
   exact ho
  ·exact I'.ay b o' q
 ·rcases Gh.bE e with ⟨rfl,q⟩|⟨_,q⟩
  ·rcases hx with rfl|rfl<;>cases q
   exact ⟨o.slots,ho,λu'=>rfl⟩
  ·exact I'.aw b o' q
 ·obtain ⟨b,o',h1,h2,h3⟩:=I'.cell i c e
  exact ⟨b,o',other h1,h2,h3.mono L⟩
 ·rcases Gh.bE e with ⟨rfl,q⟩|⟨_,q⟩
  ·rcases hx with rfl|rfl<;>cases q
  ·rcases Gh.bE e' with ⟨rfl,q'⟩|⟨_,q'⟩
   ·rcases hx with rfl|rfl<;>cases q'
   ·exact I.uniq b c i q q'
 ·rcases Gh.bE e with ⟨rfl,q⟩|⟨_,q⟩
  ·rcases hx with rfl|rfl<;>cases q
  ·exact I.dB b i q
 ·exact I'.fr.mono L (λc e=>other e) (λc y e=>other e) (λc o e=>other e)
set_option tactic.hygienic true in
theorem ah.vp (I:ah V F m C g s) {h':Heap} {t:Nat} {a:Addr} {o:Obj} {c:Ch} (k : ∀ b o,s.heap.get? b=some o->h'.get? b=some o) (ha:s.heap.get? a=none) (ho:h'.get? a=some o)
  (hc:kJ V (g.put a (some (.cell C.length))) c o):ah V F m (C++[c]) (g.put a (some (.cell C.length))) {s with heap:=h',toks:=t}:=by
 have hg:=I.apart ha
 have L:g.Le (g.put a (some (.cell C.length))):=Gh.gm _ hg
 have I':=I.both t k
 have other : ∀ {b y},g b=some y->g.put a (some (.cell C.length)) b=some y:=λ{b y} e=>by
  rw [Gh.aX]; exact e; intro q; subst q; rw [hg] at e; cases e
 refine ⟨I'.keep,λb y e=>?_,λb y e=>?_,λb o' e=>?_,λb o' e=>?_,λi c' e=>?_,λb c' i e e'=>?_,λb i e=>?_,?_,I'.gens,I'.os⟩
 ·rcases Gh.bE e with ⟨rfl,_⟩|⟨_,q⟩
  ·induction q:V.h₀.get? b with
   |none=>rfl
   |some o'=>rw [I.keep _ _ q] at ha; cases ha
  ·exact I.new b y q
 ·rcases Gh.bE e with ⟨rfl,_⟩|⟨_,q⟩
  ·exact ⟨o,ho⟩
  ·exact I'.live b y q
 ·rcases Gh.bE e with ⟨rfl,q⟩|⟨_,q⟩
  ·cases q
  ·exact I'.ay b o' q
 ·rcases Gh.bE e with ⟨rfl,q⟩|⟨_,q⟩
  ·cases q
  ·exact I'.aw b o' q
 ·rw [List.getElem?_append] at e
  split at e
  ·obtain ⟨b,o',h1,h2,h3⟩:=I'.cell i c' e
   exact ⟨b,o',other h1,h2,h3.mono L⟩
  ·rename_i hi
   have iq:i=C.length:=by
    induction hq:i - C.length using Nat.casesOn with
    |zero=>exact le_antisymm (Nat.le_of_sub_eq_zero hq) (not_lt.mp hi)
    |succ n=>rw [hq] at e; simp at e
   subst iq
   simp at e
   subst e
   exact ⟨a,o,Gh.bu ..,ho,hc⟩
 ·rcases Gh.bE e with ⟨rfl,q⟩|⟨_,q⟩
  ·cases q
   rcases Gh.bE e' with ⟨rfl,_⟩|⟨_,q'⟩
   ·rfl
   ·exact absurd (I.dB _ _ q') (lt_irrefl _)
  ·rcases Gh.bE e' with ⟨rfl,q'⟩|⟨_,q'⟩
   ·cases q'; exact absurd (I.dB _ _ q) (lt_irrefl _)
   ·exact I.uniq b c' i q q'
 ·rw [length_append]
  rcases Gh.bE e with ⟨rfl,q⟩|⟨_,q⟩
  ·cases q; simp
  ·exact lt_of_lt_of_le (I.dB b i q) (le_add_right ..)
 ·exact I'.fr.mono L (λc e=>other e) (λc y e=>other e) (λc o e=>other e)
set_option tactic.hygienic true in
theorem ah.cellSet (I:ah V F m C g s) {h':Heap} {t:Nat} {a:Addr} {i:Nat} {o:Obj} {c:Ch} (hg:g a=some (.cell i)) (hs:Heap.SameBut a s.heap h') (ho:h'.get? a=some o) (hc:kJ V g c o) :
  ah V F m (C.set i c) g {s with heap:=h',toks:=t}:=by
 have ne : ∀ {b y},g b=some y->y≠.cell i->b≠a:=λ{b y} e q z=>by subst z; rw [hg] at e; cases e; exact q rfl
 refine ⟨λb o' e=>?_,I.new,λb y e=>?_,λb o' e=>?_,λb o' e=>?_,λj c' e=>?_,I.uniq,λb j e=>?_,?_,I.gens,I.os⟩
 ·refine (hs.2 b λz=>?_).trans (I.keep b o' e)
  subst z; rw [I.new _ _ hg] at e; cases e
 ·by_cases z:b=a
  ·subst z; exact ⟨o,ho⟩
  ·obtain ⟨o',q⟩:=I.live b y e; exact ⟨o',(hs.2 b z).trans q⟩
 ·exact (hs.2 b (ne e (by intro z; cases z))).trans (I.ay b o' e)
 ·obtain ⟨sl,q,q'⟩:=I.aw b o' e
  exact ⟨sl,(hs.2 b (ne e (by intro z; cases z))).trans q,q'⟩
 ·rw [getElem?_set] at e
  split at e
  ·rename_i wQ
   subst wQ
   split at e
   ·cases e; exact ⟨a,o,hg,ho,hc⟩
   ·cases e
  ·rename_i wQ
   obtain ⟨b,o',h1,h2,h3⟩:=I.cell j c' e
   refine ⟨b,o',h1,(hs.2 b λz=>?_).trans h2,h3⟩
   subst z; rw [hg] at h1; cases h1; exact wQ rfl
 ·rw [length_set]; exact I.dB b j e
 ·have x:=I.fr
  refine ⟨x.len,x.above,x.out,x.here,?_,λy hy=>?_,x.free⟩
  ·obtain ⟨M,q,r⟩:=x.loc
   exact ⟨M,q.sameBut hs (ne x.here (by intro z; cases z)),r⟩
  ·obtain ⟨c',v,q1,q2,q3,q4⟩:=x.cell y hy
   exact ⟨c',v,q1,q2,q3.sameBut hs (ne q2 (by intro z; cases z)),q4⟩
theorem ah.oV (I:ah V F m C g s) {h':Heap} {t:Nat} {a:Addr} {o₀ o:Obj} (hg:g a=some (.aw o₀)) (ht:jS o₀)
  (hs:Heap.ExtBut a s.heap h') (ho:h'.get? a=some o):ah V F m C (g.put a (some (.aw o))) {s with heap:=h',toks:=t}:=by
 have ne : ∀ {b y},g b=some y->(∀ o,y≠.aw o)->b≠a:=λ{b y} e q z=>by subst z; rw [hg] at e; cases e; exact q _ rfl
 have L:g.Le (g.put a (some (.aw o))):=⟨λb o' e=>by rw [Gh.aX _ _ (ne e (by intro _ z; cases z))]; exact e,λb o' e=>by rw [Gh.aX _ _ (ne e (by intro _ z; cases z))]; exact e⟩
 refine ⟨λb o' e=>?_,λb y e=>?_,λb y e=>?_,λb o' e=>?_,λb o' e=>?_,λj c' e=>?_,λb c' i e e'=>?_,λb j e=>?_,?_,I.gens,I.os⟩
 ·refine hs b o' (λz=>?_) (I.keep b o' e)
  subst z; rw [I.new _ _ hg] at e; cases e
 ·rcases Gh.bE e with ⟨rfl,_⟩|⟨_,q⟩
  ·exact I.new _ _ hg
  ·exact I.new b y q
 ·rcases Gh.bE e with ⟨rfl,_⟩|⟨z,q⟩
  ·exact ⟨o,ho⟩
  ·obtain ⟨o',r⟩:=I.live b y q; exact ⟨o',hs b o' z r⟩
 ·rcases Gh.bE e with ⟨rfl,q⟩|⟨z,q⟩
  ·cases q
  ·exact hs b o' z (I.ay b o' q)
 ·rcases Gh.bE e with ⟨rfl,q⟩|⟨z,q⟩
  ·cases q; exact ⟨_,ho,λu'=>rfl⟩
  ·obtain ⟨sl,r,r'⟩:=I.aw b o' q; exact ⟨sl,hs b _ z r,r'⟩
 ·obtain ⟨b,o',h1,h2,h3⟩:=I.cell j c' e
  have z:=ne h1 (by intro _ z; cases z)
  exact ⟨b,o',by rw [Gh.aX _ _ z]; exact h1,hs b o' z h2,h3.mono L⟩
 ·rcases Gh.bE e with ⟨rfl,q⟩|⟨z,q⟩
  ·cases q
  ·rcases Gh.bE e' with ⟨rfl,q'⟩|⟨_,q'⟩
   ·cases q'
   ·exact I.uniq b c' i q q'
 ·rcases Gh.bE e with ⟨rfl,q⟩|⟨z,q⟩
  ·cases q
  ·exact I.dB b j q
 ·have x:=I.fr
  have w7 : ∀ e∈F.stack,e.scope.kind≠.module/\∃ L,e.frame=some L/\eA F (g.put a (some (.aw o))) L:=λe he=>by
   obtain ⟨k,L',q,r⟩:=x.out e he
   refine ⟨k,L',q,?_⟩
   rcases r with r|⟨o',es,n,r,z⟩
   ·exact .inl r
   ·exact .inr ⟨o',es,n,by rw [Gh.aX _ _ (λw=>by subst w; rw [hg] at r; cases r; exact ht.2 _ _ z)]; exact r,z⟩
  refine ⟨x.len,x.above,w7,by rw [Gh.aX _ _ (ne x.here (by intro _ z; cases z))]; exact x.here,?_,λy hy=>?_,λy n d h1 h2 h3=>?_⟩
  ·obtain ⟨M,q,r⟩:=x.loc
   exact ⟨M,q.extBut hs (ne x.here (by intro _ z; cases z)),λy n d h1 h2 h3=>(r y n d h1 h2 h3).imp λv q=>⟨q.1,q.2.mono L⟩⟩
  ·obtain ⟨c',v,q1,q2,⟨oc,q3,O1⟩,q4⟩:=x.cell y hy
   have z:=ne q2 (by intro _ z; cases z)
   exact ⟨c',v,q1,by rw [Gh.aX _ _ z]; exact q2,⟨oc,hs _ _ z q3,O1⟩,λn d h1 h2=>(q4 n d h1 h2).imp λv q=>⟨q.1,q.2.mono L⟩⟩
  ·obtain ⟨c',o',v,q1,q2,q3,q4⟩:=x.free y n d h1 h2 h3
   exact ⟨c',o',v,q1,by rw [Gh.aX _ _ (λw=>by subst w; rw [hg] at q2; cases q2; exact ht.1 _ q3)]; exact q2,q3,q4.mono L⟩
theorem ah.qR (I:ah V F m C g s) {a:Addr} {o₀:Obj} (hg:g a=some (.aw o₀)) (ht:jS o₀) :
  ah V F m C (g.put a none) s:=by
 have ne : ∀ {b y},g b=some y->(∀ o,y≠.aw o)->b≠a:=λ{b y} e q z=>by subst z; rw [hg] at e; cases e; exact q _ rfl
 have L:g.Le (g.put a none):=⟨λb o' e=>by rw [Gh.aX _ _ (ne e (by intro _ z; cases z))]; exact e,λb o' e=>by rw [Gh.aX _ _ (ne e (by intro _ z; cases z))]; exact e⟩
 have old : ∀ {b y},g.put a none b=some y->g b=some y:=λ{b y} e=>by
  rcases Gh.bE e with ⟨_,q⟩|⟨_,q⟩
  ·cases q
  ·exact q
 refine ⟨I.keep,λb y e=>I.new b y (old e),λb y e=>I.live b y (old e),λb o' e=>I.ay b o' (old e),λb o' e=>I.aw b o' (old e),λj c' e=>?_,λb c' i e e'=>I.uniq b c' i (old e) (old e'),
  λb j e=>I.dB b j (old e),?_,I.gens,I.os⟩
 ·obtain ⟨b,o',h1,h2,h3⟩:=I.cell j c' e
  exact ⟨b,o',by rw [Gh.aX _ _ (ne h1 (by intro _ z; cases z))]; exact h1,h2,h3.mono L⟩
 ·have x:=I.fr
  have w7 : ∀ e∈F.stack,e.scope.kind≠.module/\∃ L,e.frame=some L/\eA F (g.put a none) L:=λe he=>by
   obtain ⟨k,L',q,r⟩:=x.out e he
   refine ⟨k,L',q,?_⟩
   rcases r with r|⟨o',es,n,r,z⟩
   ·exact .inl r
   ·exact .inr ⟨o',es,n,by rw [Gh.aX _ _ (λw=>by subst w; rw [hg] at r; cases r; exact ht.2 _ _ z)]; exact r,z⟩
  refine ⟨x.len,x.above,w7,by rw [Gh.aX _ _ (ne x.here (by intro _ z; cases z))]; exact x.here,?_,λy hy=>?_,λy n d h1 h2 h3=>?_⟩
  ·obtain ⟨M,q,r⟩:=x.loc
   exact ⟨M,q,λy n d h1 h2 h3=>(r y n d h1 h2 h3).imp λv q=>⟨q.1,q.2.mono L⟩⟩
  ·obtain ⟨c',v,q1,q2,q3,q4⟩:=x.cell y hy
   exact ⟨c',v,q1,by rw [Gh.aX _ _ (ne q2 (by intro _ z; cases z))]; exact q2,q3,λn d h1 h2=>(q4 n d h1 h2).imp λv q=>⟨q.1,q.2.mono L⟩⟩
  ·obtain ⟨c',o',v,q1,q2,q3,q4⟩:=x.free y n d h1 h2 h3
   exact ⟨c',o',v,q1,by rw [Gh.aX _ _ (λw=>by subst w; rw [hg] at q2; cases q2; exact ht.1 _ q3)]; exact q2,q3,q4.mono L⟩
end
inductive zq (V:aq) (g:Gh) (L:Addr) (e:Addr) (cls:Value) (args:List Value) (h:Heap):Prop
 |mk (oe:Obj) (vs:Array Value) (t:Addr) (h1:h.get? e=some oe) (h2:oe.cls=cls) (h3:oe.data=.fields vs) (h4:vs[0]?=some (.ref t)) (h5:h.TupAt t args) (h6:V.h₀.get? t=none/\g t=none)
  (h7:vs[1]?=some .none\/∃ T oT ts,vs[1]?=some (.ref T)/\T≠e/\g T=none/\V.h₀.get? T=none/\h.get? T=some oT/\oT.data=.fields ts/\(ts[3]?=some .none\/ts[3]?=some (rawInt L))):zq V g L e cls args h
structure GX (V:aq) (g:Gh) (L:Addr) (e:Addr) (cls:Value) (args:List Value) (h:Heap):Prop where
 un:g e=none
 new:V.h₀.get? e=none
 there:zq V g L e cls args h
noncomputable def zv (V:aq):X->Value->List Value->Prop
 |.stop,c,args=>c=.type "StopIteration"/\args=[]
 |.r9,c,_=>c=.ref (V.bw 1)
 |.value msg,c,args=>c=.type "ValueError"/\∃ t,args=[.str msg t]
inductive gv (V:aq) (F:aB) (x:X) (st:St) (g:Gh) (e:Value) (s:Shared):Prop
 |mk (I:ah V F st.m st.C g s) (a:Addr) (cls:Value) (args:List Value) (L:Addr) (e1:e=.ref a) (e2:F.env.frame=some L) (e3:zv V x cls args) (e4:GX V g L a cls args s.heap):gv V F x st g e s
abbrev Tr (α:Type):=(α->Shared->Prop)->(Value->Shared->Prop)->Shared->Prop
noncomputable def ai {α β:Type} (V:aq) (F:aB) (R:Gh->β->α->Prop) (W:Tr α) (g:Gh) (s:Shared):aj β->Prop
 |.ok b st => ∀ (Q:α->Shared->Prop) (E:Value->Shared->Prop),(∀ g' a s',g.Step g'->ah V F st.m st.C g' s'->R g' b a->Q a s')->W Q E s
 |.exc x st => ∀ (Q:α->Shared->Prop) (E:Value->Shared->Prop),(∀ g' e s',g.Step g'->gv V F x st g' e s'->E e s')->W Q E s
 |.fail=>True
abbrev aF {α β:Type} (V:aq) (F:aB) (A:Around) (R:Gh->β->α->Prop) (t:Sem α) (g:Gh) (s:Shared) (o:aj β):Prop:=ai V F R (wpAny V.M A t) g s o
section
variable {α β γ δ:Type} {V:aq} {F:aB} {R:Gh->β->α->Prop} {R':Gh->δ->γ->Prop} {g:Gh} {s:Shared} {W:Tr α} {W':Tr γ} {o:aj β}
theorem ai.seq {K:α->Tr γ} {k:β->St->aj δ} (h:ai V F R W g s o) (hT : ∀ Q E,W (λa s₁=>K a Q E s₁) E s->W' Q E s)
  (hf : ∀ b st g₁ s₁ a,o=.ok b st->g.Step g₁->ah V F st.m st.C g₁ s₁->R g₁ b a->ai V F R' (K a) g₁ s₁ (k b st)):ai V F R' W' g s (o.bind k):=by
 induction o with
 |fail=>trivial
 |exc x st=>exact λQ E q=>hT Q E (h _ E λg' e s' aC hx=>q g' e s' aC hx)
 |ok b st=>
  show ai V F R' W' g s (k b st)
  induction hk:k b st with
  |fail=>trivial
  |ok d aC=>
   refine λQ E q=>hT Q E (h _ E λg' a s' dP I r=>?_)
   have:=hf b st g' s' a rfl dP I r
   rw [hk] at this
   exact this Q E λdS c du bP I' r'=>q dS c du (dP.trans bP) I' r'
  |exc x aC=>
   refine λQ E q=>hT Q E (h _ E λg' a s' dP I r=>?_)
   have:=hf b st g' s' a rfl dP I r
   rw [hk] at this
   exact this Q E λdS e du bP hx=>q dS e du (dP.trans bP) hx
theorem ai.wp {W₂:Tr α} (h:ai V F R W g s o) (f : ∀ Q E,W Q E s->W₂ Q E s):ai V F R W₂ g s o:=by
 induction o with
 |ok b st=>exact λQ E k=>f Q E (h Q E k)
 |exc x st=>exact λQ E k=>f Q E (h Q E k)
 |fail=>trivial
theorem ai.go {W₂:Tr α} {s':Shared} (h:ai V F R W g s' o) (f : ∀ Q E,W Q E s'->W₂ Q E s):ai V F R W₂ g s o:=by
 induction o with
 |ok b st=>exact λQ E k=>f Q E (h Q E k)
 |exc x st=>exact λQ E k=>f Q E (h Q E k)
 |fail=>trivial
theorem ai.from {g₀:Gh} (q:g₀.Step g) (h:ai V F R W g s o):ai V F R W g₀ s o:=by
 induction o with
 |fail=>trivial
 |ok b st=>exact λQ E k=>h Q E λg' a s' aC I r=>k g' a s' (q.trans aC) I r
 |exc x st=>exact λQ E k=>h Q E λg' e s' aC I=>k g' e s' (q.trans aC) I
end
section
variable {α β γ δ:Type} {V:aq} {F:aB} {A:Around} {g:Gh} {s:Shared} {R:Gh->β->α->Prop} {R':Gh->δ->γ->Prop} {t:Sem α}
theorem aF.wp {t':Sem α} {o:aj β} (f : ∀ Q E,wpAny V.M A t Q E s->wpAny V.M A t' Q E s) (h:aF V F A R t g s o):aF V F A R t' g s o:=by
 induction o with
 |ok b st=>exact λQ E k=>f Q E (h Q E k)
 |exc x st=>exact λQ E k=>f Q E (h Q E k)
 |fail=>trivial
theorem SF {M:Model} {A:Around} {vs:List Value} {m:Sem Value} {Q:Value->Shared->Prop} {E:Value->Shared->Prop} {s:Shared} (h:wpAny M A m Q E s):wpAny M A (operate vs m) Q E s:=
 fun Γ p hΓ => by rw [Sem.wp_operate]; exact h Γ p hΓ
end
section
variable {V:aq} {F:aB} {R:Gh->D->Value->Prop} {W:Tr Value} {g:Gh} {s:Shared}
theorem ai.aI {α:Type} {o:Option α} {f:α->aj D} (h : ∀ x,o=some x->ai V F R W g s (f x)):ai V F R W g s (aI o f):=by
 induction o with
 |none=>trivial
 |some x=>exact h x rfl
theorem ai.bo {b:Bool} {o:aj D} (h:b=true->ai V F R W g s o):ai V F R W g s (bo b o):=by
 induction b with
 |false=>trivial
 |true=>exact h rfl
theorem ai.one {T:List Value->Tr Value} {ds:List D} {vs:List Value} {f:D->aj D} (rd:aE V g ds vs) (h : ∀ d v,ab V g d v->ai V F R (T [v]) g s (f d)):ai V F R (T vs) g s (one ds f):=by
 match ds with
 |[]=>trivial
 |[d]=>obtain ⟨v,ws,a,r,rfl⟩:=rd.gc; obtain rfl:=r.gf; exact h d v a
 |_::_::_=>trivial
theorem ai.two {T:List Value->Tr Value} {ds:List D} {vs:List Value} {f:D->D->aj D} (rd:aE V g ds vs) (h : ∀ d e v u,ab V g d v->ab V g e u->ai V F R (T [v,u]) g s (f d e)):ai V F R (T vs) g s (two ds f):=by
 match ds with
 |[]=>trivial
 |[_]=>trivial
 |[d,e]=>obtain ⟨v,ws,a,r1,rfl⟩:=rd.gc; obtain ⟨u,ws,b,r2,rfl⟩:=r1.gc; obtain rfl:=r2.gf; exact h d e v u a b
 |_::_::_::_=>trivial
end
end Mine.Lake
end
section
open PySem PyProof.Rows
namespace Mine.Lake
structure aq.Ok (V:aq) (G:aV):Prop where
 glob : ∃ mg mb,V.h₀.Ns mainGlobals mg/\V.h₀.Ns builtinsNs mb/\∀ x d,G.glob.lookup x=some d->∃ v,(mg x=some v\/(mg x=none/\mb x=some v))/\∀ g,ab V g d v
 nolimit:V.h₀.NoLimit
section
variable {V:aq} {G:aV} {F:aB} {A:Around} {m:List (Option D)} {C:af} {g:Gh} {s:Shared}
theorem aF.leaf {R:Gh->D->Value->Prop} {t:Sem Value} {o:Option D}
  (h : ∀ d,o=some d->∀ (Q:Value->Shared->Prop) (E:Value->Shared->Prop),(∀ g' a s',g.Step g'->ah V F m C g' s'->R g' d a->Q a s')->wpAny V.M A t Q E s):aF V F A R t g s (dq o ⟨m,C⟩):=by
 induction o with
 |none=>trivial
 |some d=>exact h d rfl
theorem PR (I:ah V F m C g s) {k:Const} {n:Nat} {p:Pos} {P:aR} {cl:Calls}:aF V F A (ab V) (eval (.Constant k n p) F.env) g s (ev P cl (r8 k) ⟨m,C⟩):=by
 induction k using Const.casesOn with
 |none=>exact λQ E k=>wpAny_pure (k g _ s (.refl g) I .none)
 |bool b=>exact λQ E k=>wpAny_pure (k g _ s (.refl g) I (.bool b))
 |int i=>exact λQ E k=>wpAny_mkInt (k g _ _ (.refl g) (I.tok _) (.int i _))
 |str x=>exact λQ E k=>wpAny_mkText (k g _ _ (.refl g) (I.tok _) (.str x _))
 |float _=>trivial
 |complex _ _=>trivial
 |bytes _=>trivial
 |ellipsis=>trivial
noncomputable def aB.ctx (F:aB) (c:aJ):Prop:=c.names=F.names/\c.slots=F.slots/\c.base=F.base
theorem aB.Ok.oU (K:F.Ok) {x:Str} {k:NameKind} (h:F.names.lookup x=some k):(x==("__debug__":Str))=false:=by
 induction q:x==("__debug__":Str) with
 |false=>rfl
 |true=>rw [eq_of_beq q,K.debug] at h; exact ao h
theorem Qa (O:V.Ok G) (K:F.Ok) (I:ah V F m C g s) {c:aJ} (hc:F.ctx c) {x:Str} {p:Pos} {P:aR} {cl:Calls} :
  aF V F A (ab V) (eval (.Name x p) F.env) g s (ev P cl (oQ G c x) ⟨m,C⟩):=by
 unfold oQ
 rw [hc.1,hc.2.1]
 induction hk:F.names.lookup x with
 |none=>trivial
 |some k=>
  have oq:=K.kinds x k hk
  have slot : ∀ (d:D),(∀ n,F.slots.lookup x=some n->∀ d,m[n]?=some (some d)->aF V F A (ab V) (eval (.Name x p) F.env) g s (.ok d ⟨m,C⟩))->aF V F A (ab V) (eval (.Name x p) F.env) g s (ev P cl (match F.slots.lookup x with
    |some n=>.var n
    |none=>.bad) ⟨m,C⟩):=by
   intro _ h
   induction hs:F.slots.lookup x with
   |none=>trivial
   |some n=>
    show aF _ _ _ _ _ _ _ (match m[n]? with|some (some d)=>.ok d ⟨m,C⟩|_=>.fail)
    induction hm:m[n]? with
    |none=>trivial
    |some od=>
     induction od with
     |none=>trivial
     |some d=>exact h n hs d hm
  induction k using NameKind.casesOn with
  |«local»=>
   refine slot .none λn hs d hm Q E k=>?_
   obtain ⟨M,hM,hv⟩:=I.fr.loc
   obtain ⟨v,hv,r⟩:=hv x n d hk hs hm
   exact wpAny_Name (wpAny_loadName_local K.fn oq hM hv (k g v s (.refl g) I r)) (K.oU hk)
  |cell=>
   refine slot .none λn hs d hm Q E k=>?_
   obtain ⟨c,v,h1,h2,h3,h4⟩:=I.fr.cell x hk
   obtain ⟨v',rfl,r⟩:=h4 n d hs hm
   exact wpAny_Name (wpAny_loadName_cell K.fn oq h1 h3 (k g v' s (.refl g) I r)) (K.oU hk)
  |free=>
   refine slot .none λn hs d hm Q E k=>?_
   obtain ⟨c,o,v,h1,h2,h3,r⟩:=I.fr.free x n d hk hs hm
   obtain ⟨sl,h4,_⟩:=I.aw c o h2
   have h5:s.heap.IsCell c (some v):=⟨_,h4,h3⟩
   rcases oq with hf|hf
   ·refine wpAny_Name (wpAny_loadName_free K.fn hf h1 h5 (k g v s (.refl g) I r) ?_) (K.oU hk)
    induction q:x==("__classdict__":Str) with
    |false=>rfl
    |true=>rw [eq_of_beq q,K.md] at hk; exact ao hk
   ·exact wpAny_Name (wpAny_loadName_cell K.fn hf h1 h5 (k g v s (.refl g) I r)) (K.oU hk)
  |globalExplicit=>trivial
  |globalImplicit=>
   show aF _ _ _ _ _ _ _ (ev P cl (match G.glob.lookup x with|some d=>.cst d|none=>.bad) ⟨m,C⟩)
   induction hg:G.glob.lookup x with
   |none=>trivial
   |some d=>
    intro Q E k
    obtain ⟨mg,mb,h1,h2,h3⟩:=O.glob
    obtain ⟨v,hv,r⟩:=h3 x d hg
    have e1:s.heap.Ns F.env.globals mg:=by rw [K.glob]; exact h1.keeps I.keep
    have e2:s.heap.Ns F.env.builtins mb:=by rw [K.blt]; exact h2.keeps I.keep
    refine Calls.Name_function_global K.fn oq ?_ (K.oU hk)
    rcases hv with hv|⟨hm,hv⟩
    ·exact Calls.loadGlobal_global e1 hv (k g v s (.refl g) I (r g))
    ·exact Calls.loadGlobal_builtin e1 hm e2 hv (k g v s (.refl g) I (r g))
theorem o5 {a:Int} (h:small a=true):a.natAbs<2 ^ 64:=of_decide_eq_true h
theorem zw {a:Int} {n:Nat} (h:a.natAbs<n) : -(n:Int)<a/\a<n:=
 have e:(a.natAbs:Int)<n:=ofNat_lt.mpr h
 ⟨Int.neg_lt_of_neg_lt (Int.lt_of_le_of_lt (by rw [<-Int.natAbs_neg]; exact le_natAbs) e),Int.lt_of_le_of_lt le_natAbs e⟩
theorem IntMulOk.OG {a b:Int} (h:small b=true):IntMulOk a b:=.of_right (intBits_le_64 (zw (o5 h)).1 (zw (o5 h)).2)
theorem Oq {x y:Int} (h:y.natAbs<2 ^ 64):Builtin.divisionGoesByPylong x y=false:=by
 refine PyProof.noPylong_of_log2 ?_
 by_cases h0:y.natAbs=0
 ·rw [h0]; decide +kernel
 ·have:=(Nat.log2_lt h0).mpr h
  omega
set_option tactic.hygienic true in
theorem PY {op:Operator} {o:Op} (ho:jh op=some o) (I:ah V F m C g s) {a b:Int} {t u:Tok} :
  aF V F A (ab V) (binaryOp op (.int a t) (.int b u)) g s (dq ((gR o a b).map .int) ⟨m,C⟩):=by
 refine aF.leaf λd hd Q E k=>?_
 have fin : ∀ i,gR o a b=some i->Q (.int i s.toks) {s with toks:=s.toks+1}:=λi hi=>by
  rw [hi] at hd; obtain rfl:=Option.some.inj hd
  exact k g _ _ (.refl g) (I.tok _) (.int _ _)
 obtain ⟨i,hi⟩ : ∃ i,gR o a b=some i:=by
  induction q:gR o a b with
  |none=>rw [q] at hd; exact ao hd
  |some i=>exact ⟨i,rfl⟩
 have hq:=fin i hi
 unfold gR at hi
 induction op using Operator.casesOn<;>first|((first|exact ao ho|obtain rfl:=Option.some.inj ho); done)|(injection ho with ho; subst ho; dsimp only at hi)
 ·obtain rfl:=Option.some.inj hi; exact add_int hq
 ·obtain rfl:=Option.some.inj hi; exact PyProof.Rows.sub_int hq
 ·split at hi
  ·rename_i hc; obtain rfl:=Option.some.inj hi
   rw [and_eq_true] at hc
   exact P.mul_int hq (IntMulOk.OG hc.2)
  ·exact ao hi
 ·split at hi
  ·rename_i hc; obtain rfl:=Option.some.inj hi
   exact mod_int (by simpa using hc) hq
  ·exact ao hi
 ·split at hi
  ·rename_i hc; obtain rfl:=Option.some.inj hi
   simp only [and_eq_true,decide_eq_true_eq] at hc
   exact pow_int_small hc.1.2 (by omega) (o5 hc.1.1) hq
  ·exact ao hi
 ·split at hi
  ·rename_i hc; obtain rfl:=Option.some.inj hi
   simp only [and_eq_true,decide_eq_true_eq] at hc
   exact lshift_int_small hc.1.2 (by omega) (o5 hc.1.1) hq
  ·exact ao hi
 ·split at hi
  ·rename_i hc; obtain rfl:=Option.some.inj hi
   simp only [and_eq_true,decide_eq_true_eq] at hc
   exact rshift_int hc.1 hq
  ·exact ao hi
 ·obtain rfl:=Option.some.inj hi; exact or_int hq
 ·obtain rfl:=Option.some.inj hi; exact and_int hq
 ·split at hi
  ·rename_i hc; obtain rfl:=Option.some.inj hi
   simp only [and_eq_true,bne_iff_ne,ne_eq] at hc
   exact floordiv_int hc.2 hq (.inl (Oq (o5 hc.1)))
  ·exact ao hi
inductive zh (V:aq) (g:Gh) (h:Heap) (ds:List D) (v:Value):Prop
 |mk (a:Addr) (vs:List Value) (n:Nat) (e:v=.ref a) (hl:IsL h a vs.toArray n) (hz:vs.length<=aD) (rs:aE V g ds vs):zh V g h ds v
set_option tactic.hygienic true in
theorem ah.list (I:ah V F m C g s) {d:D} {v:Value} (r:ab V g d v) {ds:List D} (h:aU C d=some ds) :
  zh V g s.heap ds v:=by
 unfold aU at h
 split at h
 ·cases h
  cases r with
  |lst h1 h2 h3=>
   obtain ⟨hl,n,rfl⟩:=h2
   exact ⟨_,_,n,rfl,I.ay _ _ h1,hl,h3⟩
 ·split at h
  ·rename_i SQ hC
   cases h
   cases r with
   |loc h1=>
    obtain ⟨b,o,e1,e2,vs,⟨hl,n,rfl⟩,e4⟩:=I.cell _ _ hC
    cases I.uniq _ _ _ h1 e1
    exact ⟨_,_,n,rfl,e2,hl,e4⟩
  ·cases h
 ·cases h
theorem aE.length {V:aq} {g:Gh} : ∀ {ds:List D} {vs:List Value},aE V g ds vs->ds.length=vs.length
 |_,_,.nil=>rfl
 |_,_,.cons _ r=>congrArg (· + 1) r.length
theorem aE.append {V:aq} {g:Gh} : ∀ {ds:List D} {vs:List Value} {es:List D} {ws:List Value},aE V g ds vs->aE V g es ws->aE V g (ds++es) (vs++ws)
 |_,_,_,_,.nil,h=>h
 |_,_,_,_,.cons a r,h=>.cons a (r.append h)
theorem d4 {n:Nat} (h:n<=aD):n<=sizeLine:=le_trans h (by decide)
theorem ah.xO (I:ah V F m C g s) (o:Obj) (hf:o.isFreed=false) (t:Nat):ah V F m C (g.put s.heap.objs.size (some (.ay o))) {s with heap:=s.heap.push o,toks:=t}:=
 I.more (λu' u' h=>Heap.get?_push_of_some _ h) (Heap.get?_none_of_le (le_refl _)) (Heap.get?_push_size _ hf) (.inl rfl)
theorem Gh.nv {g:Gh} {a:Addr} {o:Obj} (h:g a=none):g.Step (g.put a (some (.ay o))):=
 ⟨Gh.gm _ h,λb o'=>⟨λe=>(by rw [Gh.aX]; exact e; intro q; subst q; rw [h] at e; exact ao e),λe=>(by
  rcases Gh.bE e with ⟨_,q⟩|⟨_,q⟩
  ·cases q
  ·exact q)⟩⟩
theorem ah.newList (I:ah V F m C g s) {ds:List D} {vs:List Value} (r:aE V g ds vs) (hz:vs.length<=aD) {T:String} {n:Nat} {Q:Value->Shared->Prop} {t:Nat}
  (k : ∀ g',g.Step g'->ah V F m C g' {s with heap:=s.heap.push {cls:=.type T,data:=.seq vs.toArray n},toks:=t}->g' s.heap.objs.size=some (.ay {cls:=.type T,data:=.seq vs.toArray n})->
   kO T vs {cls:=.type T,data:=.seq vs.toArray n}->aE V g' ds vs->Q (.ref s.heap.objs.size) {s with heap:=s.heap.push {cls:=.type T,data:=.seq vs.toArray n},toks:=t}) :
  Q (.ref s.heap.objs.size) {s with heap:=s.heap.push {cls:=.type T,data:=.seq vs.toArray n},toks:=t}:=
 k _ (Gh.nv I.fw) (I.xO _ rfl t) (Gh.bu ..) ⟨hz,n,rfl⟩ (r.mono (Gh.gm _ I.fw))
theorem Pz (I:ah V F m C g s) {x y:D} {a b:Value} (hx:ab V g x a) (hy:ab V g y b) {xs ys:List D} (ex:aU C x=some xs) (ey:aU C y=some ys) (hz:xs.length+ys.length<=aD) :
  aF V F A (ab V) (binaryOp .Add a b) g s (.ok (.lst (xs++ys)) ⟨m,C⟩):=by
 obtain ⟨l,vs,n,rfl,hl,mH,r1⟩:=I.list hx ex
 obtain ⟨l',ws,n',rfl,eI,My,r2⟩:=I.list hy ey
 intro Q E k
 have e1:=r1.length
 have e2:=r2.length
 refine P.add_list hl eI ?_ (d4 (by simpa [<-e1,<-e2] using hz))
 rw [show vs.toArray++ws.toArray=(vs++ws).toArray from by simp]
 exact I.newList (T:="list") (n:=0) (t:=s.toks) (r1.append r2) (by simpa [<-e1,<-e2] using hz) λg' st I' h1 h2 h3=>k g' _ _ st I' (.lst h1 h2 h3)
end
section
variable {V:aq} {G:aV} {F:aB} {A:Around} {m:List (Option D)} {C:af} {g:Gh} {s:Shared}
theorem RV {x y:Str} (h:(x.length==0)=true):x++y=y:=by
 have:x.cps = #[]:=by
  have:=eq_of_beq h
  exact Array.eq_empty_of_size_eq_zero this
 have e:x=Str.empty:=by induction x using Str.casesOn; simp only at this; subst this; rfl
 rw [e]; exact Str.empty_append y
theorem RU {x y:Str} (h:(y.length==0)=true):x++y=x:=by
 have:y.cps = #[]:=Array.eq_empty_of_size_eq_zero (eq_of_beq h)
 have e:y=Str.empty:=by induction y using Str.casesOn; simp only at this; subst this; rfl
 rw [e]; exact Str.append_empty x
theorem qB {x:D} {i:Int} (h:x.isInt=some i):x=.int i:=by induction x using D.casesOn<;>first|exact ao h|exact congrArg D.int (Option.some.inj h)
theorem tA {x:D} {i:Str} (h:mN x=some i):x=.str i:=by induction x using D.casesOn<;>first|exact ao h|exact congrArg D.str (Option.some.inj h)
theorem DM {x:D} {i:Bool} (h:tC x=some i):x=.bool i:=by induction x using D.casesOn<;>first|exact ao h|exact congrArg D.bool (Option.some.inj h)
theorem ab.fE {x:D} {i:Int} {v:Value} (hx:ab V g x v) (h:x.isInt=some i) : ∃ t,v=.int i t:=by
 obtain rfl:=qB h; exact hx.ja
theorem EU {op:Operator} (ho:jh op=some .add):op=.Add:=by
 induction op using Operator.casesOn<;>first|rfl|exact ao ho|exact nomatch ho
theorem aF.opt {t:Sem Value} {o:Option D} (h : ∀ d,o=some d->aF V F A (ab V) t g s (.ok d ⟨m,C⟩)):aF V F A (ab V) t g s (dq o ⟨m,C⟩):=by
 induction o with
 |none=>trivial
 |some d=>exact h d rfl
set_option tactic.hygienic true in
theorem PA (I:ah V F m C g s) {x y:Str} {t u:Tok} {d:D} (hd:pw x y=some d):aF V F A (ab V) (binaryOp .Add (.str x t) (.str y u)) g s (.ok d ⟨m,C⟩):=by
 unfold pw at hd
 by_cases hz:x.length+y.length<=aD
 ·rw [if_pos hz] at hd
  obtain rfl:=Option.some.inj hd
  intro Q E k
  refine P.add_str ?_
  split
  ·rename_i q
   exact k g _ _ (.refl g) I (by rw [RV q]; exact .str _ _)
  ·split
   ·rename_i q
    exact k g _ _ (.refl g) I (by rw [RU q]; exact .str _ _)
   ·refine ⟨?_,k g _ _ (.refl g) (I.tok _) (.str _ _)⟩
    rw [Str.length_append]
    exact d4 hz
 ·rw [if_neg hz] at hd; exact ao hd
theorem Py (I:ah V F m C g s) {x y d:D} {a b:Value} (hx:ab V g x a) (hy:ab V g y b) (hd:rN C x y=some d):aF V F A (ab V) (binaryOp .Add a b) g s (.ok d ⟨m,C⟩):=by
 obtain ⟨xs,ex,hd⟩:=aS hd
 obtain ⟨ys,ey,hd⟩:=aS hd
 by_cases hz:xs.length+ys.length<=aD
 ·rw [if_pos hz] at hd
  obtain rfl:=Option.some.inj hd
  exact Pz I hx hy ex ey hz
 ·rw [if_neg hz] at hd; exact ao hd
theorem HG {x y d:D} (h:vh C x y=some d):(∃ i j,x=.str i/\y=.str j/\pw i j=some d)\/rN C x y=some d:=by
 unfold vh at h
 induction e:mN x with
 |none=>rw [e] at h; exact .inr h
 |some i=>
  rw [e] at h
  obtain ⟨j,e2,h⟩:=aS h
  exact .inl ⟨i,j,tA e,tA e2,h⟩
theorem zY {o:Op} {x y d:D} (h:d6 C o x y=some d):(∃ i j,x=.int i/\y=.int j/\(gR o i j).map D.int=some d)\/o=.add/\((∃ i j,x=.str i/\y=.str j/\pw i j=some d)\/rN C x y=some d):=by
 unfold d6 at h
 induction e:x.isInt with
 |none=>
  rw [e] at h
  induction o using Op.casesOn<;>first|exact ao h|exact .inr ⟨rfl,HG h⟩
 |some i=>
  rw [e] at h
  obtain ⟨j,e2,h⟩:=aS h
  exact .inl ⟨i,j,qB e,qB e2,h⟩
theorem PC {op:Operator} {o:Op} (ho:jh op=some o) (I:ah V F m C g s) {x y:D} {a b:Value} (hx:ab V g x a) (hy:ab V g y b) :
  aF V F A (ab V) (binaryOp op a b) g s (dq (d6 C o x y) ⟨m,C⟩):=aF.opt λd h=>by
 rcases zY h with ⟨i,j,rfl,rfl,h2⟩|⟨e,h2⟩
 ·obtain ⟨t,rfl⟩:=hx.ja
  obtain ⟨u,rfl⟩:=hy.ja
  have:=PY (A:=A) (t:=t) (u:=u) (a:=i) (b:=j) ho I
  rw [h2] at this; exact this
 ·obtain rfl:=EU (ho.trans (congrArg some e))
  rcases h2 with ⟨i,j,rfl,rfl,h3⟩|h3
  ·obtain ⟨_,rfl⟩:=hx.tu
   obtain ⟨_,rfl⟩:=hy.tu
   exact PA I h3
  ·exact Py I hx hy h3
noncomputable def zm (h:Heap) (n:Nat) (v:Value) (x:PyData):Prop := ∃ as,Reads h v x as/\x.canLay0=true/\x.depth<=n
theorem toPys_of {h:Heap} {n:Nat} (ih : ∀ {d:D} {x:PyData} {v:Value},toPy n d=some x->ab V g d v->zm h n v x) : ∀ {ds:List D} {xs:List PyData} {vs:List Value},toPys n ds=some xs->aE V g ds vs->
  ∃ as,ReadsAll h vs xs as/\PyData.canLayAll0 xs=true/\PyData.depthAll xs<=n
 |[],xs,vs,e,r=>by
  obtain rfl:=r.gf
  obtain rfl:=Option.some.inj (show some []=some xs from e)
  exact ⟨_,.nil,rfl,zero_le _⟩
 |d::ds,xs,vs,e,r=>by
  obtain ⟨v,ws,r1,r2,rfl⟩:=r.gc
  obtain ⟨x,e1,e⟩:=aS (show ((toPy n d).bind λx=>(toPys n ds).map λxs=>x::xs)=some xs from e)
  obtain ⟨ys,e2,rfl⟩:=cB e
  obtain ⟨as,r1,c1,d1⟩:=ih e1 r1
  obtain ⟨bs,r2,c2,d2⟩:=toPys_of ih e2 r2
  refine ⟨_,.cons r1 r2,?_,?_⟩
  ·unfold PyData.canLayAll0; rw [c1,c2]; rfl
  ·unfold PyData.depthAll; exact Nat.max_le.mpr ⟨d1,d2⟩
theorem toPy_reads {h:Heap} (fz : ∀ a o,g a=some (.ay o)->h.get? a=some o) : ∀ {n:Nat} {d:D} {x:PyData} {v:Value},toPy n d=some x->ab V g d v->zm h n v x:=by
 intro n
 induction n with
 |zero=>
  intro d x v e r
  induction d using D.casesOn<;>first|exact ao e|skip
  obtain ⟨t,rfl⟩:=r.ja
  obtain rfl:=Option.some.inj e
  exact ⟨_,.int _ t,rfl,zero_le _⟩
 |succ n ih=>
  intro d x v e r
  induction d using D.casesOn<;>first|exact ao e|skip
  ·obtain ⟨t,rfl⟩:=r.ja
   obtain rfl:=Option.some.inj e
   exact ⟨_,.int _ t,rfl,zero_le _⟩
  ·obtain ⟨a,o,vs,h1,⟨hz,k,rfl⟩,h3,rfl⟩:=r.MH
   obtain ⟨xs,qz,rfl⟩:=cB (show (toPys n _).map PyData.tuple=some x from e)
   obtain ⟨as,r,c,d⟩:=toPys_of ih qz h3
   exact ⟨_,.tuple (fz _ _ h1) rfl rfl r,c,succ_le_succ d⟩
  ·obtain ⟨a,o,vs,h1,⟨hz,k,rfl⟩,h3,rfl⟩:=r.ME
   obtain ⟨xs,qz,rfl⟩:=cB (show (toPys n _).map PyData.list=some x from e)
   obtain ⟨as,r,c,d⟩:=toPys_of ih qz h3
   exact ⟨_,.list (fz _ _ h1) rfl rfl r,c,succ_le_succ d⟩
theorem toPys_reads {h:Heap} (fz : ∀ a o,g a=some (.ay o)->h.get? a=some o) {n:Nat} {ds:List D} {xs:List PyData} {vs:List Value} (e:toPys n ds=some xs) (r:aE V g ds vs) :
  ∃ as,ReadsAll h vs xs as/\PyData.canLayAll0 xs=true/\PyData.depthAll xs<=n:=toPys_of (λe r=>toPy_reads fz e r) e r
noncomputable def JQ (i:Nat):Option Ch->D
 |some (.list ds)=>.lst ds
 |_=>.loc i
theorem Cq {i:Nat}:gF C (.loc i)=JQ i C[i]?:=by
 unfold gF; dsimp only
 induction C[i]? with
 |none=>rfl
 |some c=>induction c using Ch.casesOn<;>rfl
set_option tactic.hygienic true in
theorem ah.reads (I:ah V F m C g s) {d:D} {v:Value} (r:ab V g d v) {x:PyData} (h:toPy 8 (gF C d)=some x) : ∃ as,Reads s.heap v x as/\SeqAt.shaped x=true:=by
 have fin : ∀ {as},Reads s.heap v x as->x.canLay0=true->x.depth<=8->∃ as,Reads s.heap v x as/\SeqAt.shaped x=true:=λ{as} a b c=>⟨as,a,by
  unfold SeqAt.shaped
  rw [b,decide_eq_true (by omega)]; rfl⟩
 have gen:gF C d=d->∃ as,Reads s.heap v x as/\SeqAt.shaped x=true:=λe=>by
  rw [e] at h
  obtain ⟨as,a,b,c⟩:=toPy_reads I.ay h r
  exact fin a b c
 induction d using D.casesOn<;>first|exact gen rfl|skip
 rename_i i
 have e0:=Cq (C:=C) (i:=i)
 induction hC:C[i]? with
 |none=>exact gen (by rw [e0,hC]; rfl)
 |some ch=>
  induction ch using Ch.casesOn<;>first|exact gen (by rw [e0,hC]; rfl)|skip
  rename_i ds
  rw [e0,hC] at h
  cases r with
  |loc h1=>
   obtain ⟨b,o,e1,e2,vs,⟨hl,n,rfl⟩,e4⟩:=I.cell _ _ hC
   cases I.uniq _ _ _ h1 e1
   obtain ⟨xs,qz,rfl⟩:=cB (show (toPys 7 ds).map PyData.list=some x from h)
   obtain ⟨as,r,c,d⟩:=toPys_reads I.ay qz e4
   exact fin (.list e2 rfl rfl r) c (succ_le_succ d)
theorem Gg (x y:Str):(x.cps.toList==y.cps.toList)=decide (x=y):=by
 by_cases h:x=y
 ·subst h; simp
 ·rw [decide_eq_false h]
  induction q:x.cps.toList==y.cps.toList with
  |false=>rfl
  |true=>
   have:=eq_of_beq q
   exact absurd (by induction x using Str.casesOn; induction y using Str.casesOn; congr; exact Array.ext' this) h
theorem JR {d:D}:gF C d=d\/∃ ds,gF C d=.lst ds:=by
 induction d using D.casesOn<;>first|exact .inl rfl|skip
 rw [Cq]
 induction C[i]? with
 |none=>exact .inl rfl
 |some ch=>induction ch using Ch.casesOn<;>first|exact .inr ⟨_,rfl⟩|exact .inl rfl
theorem pb {x y:D} (h:gF C x=y) (hn : ∀ ds,y≠.lst ds):x=y:=by
 rcases JR (C:=C) (d:=x) with e|⟨ds,e⟩
 ·exact e.symm.trans h
 ·exact absurd (h.symm.trans e) (hn ds)
theorem Jg {x y:D} {r:Bool} (h:kZ x y=some r):(∃ i j,x=.int i/\y=.int j/\(i==j)=r)\/(∃ i j,x=.bool i/\y=.bool j/\(i==j)=r)\/(∃ i j,x=.str i/\y=.str j/\decide (i=j)=r) ∨
  ∃ p q,toPy 8 x=some p/\toPy 8 y=some q/\PyData.eqv p q=r:=by
 have py : ∀ {x},pO x y=some r->∃ p q,toPy 8 x=some p/\toPy 8 y=some q/\PyData.eqv p q=r:=λh=>by
  obtain ⟨p,e1,h⟩:=aS h
  obtain ⟨q,e2,h⟩:=cB h
  exact ⟨p,q,e1,e2,h⟩
 induction x using D.casesOn with
 |int i=>
  induction e:y.isInt with
  |none=>exact .inr (.inr (.inr (py (by rw [<-h]; show _=(match y.isInt with|some y=>some (i==y)|none=>pO (.int i) y); rw [e]))))
  |some j=>
   refine .inl ⟨i,j,rfl,qB e,?_⟩
   have h:(match y.isInt with|some y=>some (i==y)|none=>pO (.int i) y)=some r:=h
   rw [e] at h; exact Option.some.inj h
 |bool i=>
  obtain ⟨j,e,h⟩:=cB (show (tC y).map (λy=>i==y)=some r from h)
  exact .inr (.inl ⟨i,j,rfl,DM e,h⟩)
 |str i=>
  obtain ⟨j,e,h⟩:=cB (show (mN y).map (λy=>decide (i=y))=some r from h)
  exact .inr (.inr (.inl ⟨i,j,rfl,tA e,h⟩))
 |_=>exact .inr (.inr (.inr (py h)))
theorem Fy (hu:A.units+64<cLine) (I:ah V F m C g s) {x y:D} {a b:Value} (hx:ab V g x a) (hy:ab V g y b) {r:Bool} (he:kZ (gF C x) (gF C y)=some r) :
  aF V F A (ab V) (compareOp .Eq a b) g s (.ok (.bool r) ⟨m,C⟩)/\aF V F A (ab V) (compareOp .NotEq a b) g s (.ok (.bool (!r)) ⟨m,C⟩):=by
 rcases Jg he with ⟨p,q,e1,e2,rfl⟩|⟨p,q,e1,e2,rfl⟩|⟨p,q,e1,e2,rfl⟩|⟨p,q,e1,e2,rfl⟩
 ·obtain rfl:=pb e1 nofun
  obtain rfl:=pb e2 nofun
  obtain ⟨_,rfl⟩:=hx.ja
  obtain ⟨_,rfl⟩:=hy.ja
  exact ⟨λQ E k=>P.eq_int (k g _ _ (.refl g) I (.bool _)),λQ E k=>P.ne_int (k g _ _ (.refl g) I (.bool _))⟩
 ·obtain rfl:=pb e1 nofun
  obtain rfl:=pb e2 nofun
  obtain rfl:=hx.oC
  obtain rfl:=hy.oC
  exact ⟨λQ E k=>eq_bool (k g _ _ (.refl g) I (.bool _)),λQ E k=>ne_bool (k g _ _ (.refl g) I (.bool _))⟩
 ·obtain rfl:=pb e1 nofun
  obtain rfl:=pb e2 nofun
  obtain ⟨_,rfl⟩:=hx.tu
  obtain ⟨_,rfl⟩:=hy.tu
  refine ⟨λQ E k=>P.eq_str (k g _ _ (.refl g) I ?_),λQ E k=>P.ne_str (k g _ _ (.refl g) I ?_)⟩
  ·rw [Gg]; exact .bool _
  ·show ab V g _ (.bool (!(p.cps.toList==q.cps.toList)))
   rw [Gg]; exact .bool _
 ·obtain ⟨as,r1,s1⟩:=I.reads hx e1
  obtain ⟨bs,r2,s2⟩:=I.reads hy e2
  exact ⟨λQ E k=>eq_dataH r1 r2 s1 s2 hu (k g _ _ (.refl g) I (.bool _)),λQ E k=>ne_dataH r1 r2 s1 s2 hu (k g _ _ (.refl g) I (.bool _))⟩
theorem oH {V:aq} {g:Gh} : ∀ {ds:List D} {xs:List Int} {vs:List Value},eh ds=some xs->aE V g ds vs->PyProof.Rows.IntsAre vs xs
 |[],xs,vs,e,h=>by
  obtain rfl:=Option.some.inj e
  obtain rfl:=h.gf
  exact .nil
 |d::r,xs,vs,e,h=>by
  obtain ⟨v,ws,h1,h2,rfl⟩:=h.gc
  induction d using D.casesOn<;>first|exact ao e|skip
  obtain ⟨t,rfl⟩:=h1.ja
  obtain ⟨ys,hy,rfl⟩:=cB (show (eh r).map _=some xs from e)
  exact .cons _ _ (oH hy h2)
noncomputable def tE (k:Int):Value->Bool
 |.int i _=>i==k
 |_=>false
theorem G7 {vs:List Value} {xs:List Int} (h:PyProof.Rows.IntsAre vs xs) (k:Int):vs.toArray.any (tE k)=xs.contains k:=by
 rw [List.any_toArray]
 induction h with
 |nil=>rfl
 |cons n t _ ih=>
  rw [any_cons,ih,List.contains_cons]
  congr 1
  exact Bool.eq_iff_iff.mpr ⟨λe=>by rw [eq_of_beq (show (n==k)=true from e)]; exact beq_self_eq_true _,λe=>by rw [eq_of_beq e]; exact beq_self_eq_true _⟩
theorem Jh {vs:List Value} {xs:List Int} (h:PyProof.Rows.IntsAre vs xs) (k:Int) (t:Tok) : ∀ y,y∈vs.toArray->MeetsSeq.EqGives y (.int k t) (tE k y):=by
 induction h with
 |nil=>intro y hy; simp at hy
 |cons n u _ ih=>
  intro y hy
  simp only [List.mem_toArray,mem_cons] at hy ih
  rcases hy with rfl|hy
  ·exact MeetsSeq.EqGives.int n k u t
  ·exact ih y hy
inductive za (V:aq) (g:Gh) (h:Heap) (a:Addr) (fl:Bool) (es:List (Int × D)):Prop
 |mk (hz:es.length<=64) (ax:List (Int × Value)) (ep:Nat) (hd:h.DictAt (intKind V.prog V.w) a ax ep) (hr:aZ (gu V g) es ax) (he:fl=true->ep=es.length):za V g h a fl es
theorem ah.dictAt (I:ah V F m C g s) {i:Nat} {a:Addr} (hg:g a=some (.cell i)) {fl:Bool} {es:List (Int × D)} (hC:C[i]?=some (.dict fl es)) :
  za V g s.heap a fl es:=by
 obtain ⟨b,o,e1,e2,hz,ents,ep,ax,x1,x2,x3,x4,x5,x6,x7⟩:=I.cell _ _ hC
 cases I.uniq _ _ _ hg e1
 exact ⟨hz,ax,ep,⟨o,ents,e2,x1,x2,x3,x4,x5⟩,x6,x7⟩
theorem ah.setOf (I:ah V F m C g s) {i:Nat} {a:Addr} (hg:g a=some (.cell i)) {es:List Int} (hC:C[i]?=some (.set es)) :
  es.length<=64/\s.heap.SetOf (intKind V.prog V.w) a (λk=>es.contains k) es.length:=by
 obtain ⟨b,o,e1,e2,hz,ents,ep,t,x1,x2,x3,x4,x5,x6,x7⟩:=I.cell _ _ hC
 cases I.uniq _ _ _ hg e1
 exact ⟨hz,o,ents,ep,t,e2,x1,x2,x3,x4,x5,x6,x7⟩
theorem aZ.lookupI {V:aq} {g:Gh} (k:Int) : ∀ {es:List (Int × D)} {ax:List (Int × Value)},aZ (gu V g) es ax->jo V g (es.lookup k) (valueAt ax k)
 |[],[],_=>trivial
 |e::es,kv::ax,h=>by
  obtain ⟨⟨h1,h2⟩,h3⟩:=h
  have ih:=aZ.lookupI k h3
  obtain ⟨e1,e2⟩:=e
  obtain ⟨k1,v1⟩:=kv
  simp only at h1 h2
  subst h1
  unfold valueAt at ih ⊢
  rw [lookup_cons,List.find?_cons]
  by_cases q:k=e1
  ·subst q; simp only [beq_self_eq_true,decide_true]; exact h2
  ·rw [show (k==e1)=false from beq_eq_false_iff_ne.mpr q]
   simp only [show decide (e1=k)=false from decide_eq_false (Ne.symm q)]
   exact ih
 |[],_::_,h=>h.elim
 |_::_,[],h=>h.elim
theorem qO {V:aq} {g:Gh} {o:Option Value} {d:D} (h:jo V g (some d) o) : ∃ v,o=some v/\ab V g d v:=by
 induction o with
 |none=>exact h.elim
 |some v=>exact ⟨v,rfl,h⟩
theorem ug {V:aq} {g:Gh} {o:Option Value} (h:jo V g none o):o=none:=by
 induction o with
 |none=>rfl
 |some v=>exact h.elim
theorem NH (es:List (Int × D)) (k:Int):(es.lookup k).isSome=es.any (·.1==k):=by
 induction es with
 |nil=>rfl
 |cons e r ih=>
  rw [lookup_cons,any_cons]
  by_cases q:k=e.1
  ·subst q; simp
  ·rw [show (k==e.1)=false from beq_eq_false_iff_ne.mpr q,show (e.1==k)=false from beq_eq_false_iff_ne.mpr (Ne.symm q)]
   simpa using ih
theorem rp (I:ah V F m C g s) {a:Addr} {x:GO} (h:g a=some x) (hs : ∃ o,V.h₀.get? sysModules=some o):(a==sysModules)=false:=by
 induction q:a==sysModules with
 |false=>rfl
 |true=>
  rw [eq_of_beq q] at h
  obtain ⟨o,ho⟩:=hs
  rw [I.new _ _ h] at ho; exact ao ho
end
section
variable {V:aq} {G:aV} {F:aB} {A:Around} {m:List (Option D)} {C:af} {g:Gh} {s:Shared}
structure aq.Base (V:aq):Prop where
 mods : ∃ o,V.h₀.get? sysModules=some o
 cZ:V.K.In V.h₀
inductive zr (V:aq) (g:Gh) (h:Heap) (ds:List D) (v:Value):Prop
 |mk (a:Addr) (vs:List Value) (n:Nat) (e:v=.ref a) (hl:h.get? a=some {cls:=.type "tuple",dict:=none,data:=.seq vs.toArray n,slots := #[]}) (hz:vs.length<=aD) (rs:aE V g ds vs):zr V g h ds v
theorem ah.tup (I:ah V F m C g s) {ds:List D} {v:Value} (r:ab V g (.tup ds) v) :
  zr V g s.heap ds v:=by
 cases r with
 |tup h1 h2 h3=>
  obtain ⟨hl,n,rfl⟩:=h2
  exact ⟨_,_,n,rfl,I.ay _ _ h1,hl,h3⟩
noncomputable def uH:List Bn:=[.list,.range,.tuple,.bool,.bytes,.str,.type,.set,.int,.float,.complex,.bytearray,.dict,.frozenset]
theorem yK {b:Bn} (h:b.kj=true):b∈uH:=by induction b using Bn.casesOn<;>first|exact bA h|decide
theorem Sn:(uH.all λa=>uH.all λb=>plainIs a.val b.val&&((a.val==b.val)==(a==b)))=true:=by kernel_rfl
theorem So (c:Addr):(uH.all λb=>plainIs (.ref c) b.val&&!(Value.ref c==b.val))=true:=by kernel_rfl
theorem M7 {x:D} {a:Value} {r:Bool} (hx:ab V g x a) (he:DP x=some r):plainIs a .none=true/\(a==Value.none)=r:=by
 induction hx using ab.casesOn<;>first|exact ao he|(obtain rfl:=Option.some.inj he; exact ⟨rfl,rfl⟩)
theorem Gv {b:Bn} (h:b.kj=true) (c:Addr):plainIs (.ref c) b.val=true/\(Value.ref c==b.val)=false:=by
 have:=all_eq_true.mp (So c) b (yK h)
 rw [and_eq_true,not_eq_true'] at this; exact this
theorem Na {x:D} {a:Value} {b:Bn} {r:Bool} (hx:ab V g x a) (hb:b.kj=true) (he:xu x b=some r):plainIs a b.val=true/\(a==b.val)=r:=by
 induction hx using ab.casesOn with
 |bn c=>
  have he:(if c.kj=true then some (c==b) else none)=some r:=he
  induction hc:c.kj with
  |false=>rw [hc] at he; exact ao he
  |true=>
   have h:=all_eq_true.mp (all_eq_true.mp Sn c (yK hc)) b (yK hb)
   rw [and_eq_true,beq_iff_eq] at h
   rw [hc,if_pos rfl] at he
   exact ⟨h.1,h.2.trans (Option.some.inj he)⟩
 |nL=>obtain rfl:=Option.some.inj he; exact Gv hb _
 |nM=>obtain rfl:=Option.some.inj he; exact Gv hb _
 |_=>exact ao he
theorem M4 {x y:D} {a b:Value} {r:Bool} (hx:ab V g x a) (hy:ab V g y b) (he:tD x y=some r):plainIs a b=true/\(a==b)=r:=by
 induction hy using ab.casesOn with
 |none=>exact M7 hx he
 |bn b=>
  have he:(if b.kj=true then xu x b else none)=some r:=he
  induction hb:b.kj with
  |true=>rw [hb,if_pos rfl] at he; exact Na hx hb he
  |false=>rw [hb] at he; exact ao he
 |_=>exact ao he
theorem FD (I:ah V F m C g s) {x y:D} {a b:Value} (hx:ab V g x a) (hy:ab V g y b) {r:Bool} (he:tD x y=some r) :
  aF V F A (ab V) (compareOp .Is a b) g s (.ok (.bool r) ⟨m,C⟩)/\aF V F A (ab V) (compareOp .IsNot a b) g s (.ok (.bool (!r)) ⟨m,C⟩):=by
 obtain ⟨p,q⟩:=M4 hx hy he
 exact ⟨λQ E k=>wpAny_is_plain p (by rw [q]; exact k g _ _ (.refl g) I (.bool _)),λQ E k=>wpAny_isNot_plain p (by rw [q]; exact k g _ _ (.refl g) I (.bool _))⟩
theorem xq {x:D} {a:Value} (hx:ab V g x a) {r:Bool} {ds:List D} {vs:List Value} (rs:aE V g ds vs) (e:gP x ds=some r) :
  ∃ i t,a=.int i t/\(∀ y,y∈vs.toArray->MeetsSeq.EqGives y a (tE i y))/\vs.toArray.any (tE i)=r:=by
 obtain ⟨i,e1,e⟩:=aS e
 obtain ⟨xs,e2,rfl⟩:=cB e
 obtain ⟨t,rfl⟩:=hx.fE e1
 have h:=oH e2 rs
 exact ⟨_,_,rfl,Jh h _ _,G7 h _⟩
noncomputable def rF (V:aq) (F:aB) (A:Around) (m:List (Option D)) (C:af) (g:Gh) (s:Shared) (a b:Value) (r:Bool):Prop:=
 aF V F A (ab V) (compareOp .In a b) g s (.ok (.bool r) ⟨m,C⟩)/\aF V F A (ab V) (compareOp .NotIn a b) g s (.ok (.bool (!r)) ⟨m,C⟩)
theorem in_list (I:ah V F m C g s) {x c:D} {a b:Value} {r:Bool} {ds:List D} (hx:ab V g x a) (hc:ab V g c b) (hl:aU C c=some ds) (he:gP x ds=some r):rF V F A m C g s a b r:=by
 obtain ⟨l,vs,n,rfl,hl,hz,rs⟩:=I.list hc hl
 obtain ⟨k,t,rfl,h1,h2⟩:=xq hx rs he
 exact ⟨λQ E q=>SeqRoads2.in_list _ h1 hl (by rw [h2]; exact q g _ _ (.refl g) I (.bool _)),λQ E q=>SeqRoads2.notIn_list _ h1 hl (by rw [h2]; exact q g _ _ (.refl g) I (.bool _))⟩
theorem MY (I:ah V F m C g s) {i:Nat} {b:Value} {es:List Int} {k:Int} {t:Tok} (hc:ab V g (.loc i) b) (hC:C[i]?=some (.set es)):rF V F A m C g s (.int k t) b (es.contains k):=by
 obtain ⟨_,hg,rfl⟩:=hc.gd
 obtain ⟨hz,hS⟩:=I.setOf hg hC
 exact ⟨λQ E q=>wpAny_inSet_of (knd:=intKind V.prog V.w) (beq_self_eq_true _) rfl hS (q g _ _ (.refl g) (I.tok _) (.bool _)),λQ E q=>wpAny_notInSet_of (knd:=intKind V.prog V.w) (beq_self_eq_true _) rfl hS (q g _ _ (.refl g) (I.tok _) (.bool _))⟩
theorem MX (B:V.Base) (I:ah V F m C g s) {i:Nat} {b:Value} {bb:Bool} {es:List (Int × D)} {k:Int} {t:Tok} (hc:ab V g (.loc i) b) (hC:C[i]?=some (.dict bb es)) :
  rF V F A m C g s (.int k t) b (es.any λe=>e.1==k):=by
 obtain ⟨_,hg,rfl⟩:=hc.gd
 obtain ⟨hz,ax,ep,hd,hr,_⟩:=I.dictAt hg hC
 have e:(valueAt ax k).isSome=es.any (·.1==k):=by
  rw [<-NH]
  have:=hr.lookupI k
  induction h1:es.lookup k with
  |none=>rw [h1] at this; rw [ug this]; rfl
  |some d=>rw [h1] at this; obtain ⟨v,hv,_⟩:=qO this; rw [hv]; rfl
 exact ⟨λQ E q=>wpAny_in_of (knd:=intKind V.prog V.w) (k:=k) (beq_self_eq_true _) (rp I hg B.mods) hd.dictOf.mapOf (by rw [e]; exact q g _ _ (.refl g) (I.tok _) (.bool _)),
  λQ E q=>wpAny_notIn_of (knd:=intKind V.prog V.w) (k:=k) (beq_self_eq_true _) (rp I hg B.mods) hd.dictOf.mapOf (by rw [e]; exact q g _ _ (.refl g) (I.tok _) (.bool _))⟩
theorem FC (B:V.Base) (I:ah V F m C g s) {x c:D} {a b:Value} (hx:ab V g x a) (hc:ab V g c b) {r:Bool} (he:xo C x c=some r):rF V F A m C g s a b r:=by
 induction c using D.casesOn<;>first|exact ao he|skip
 ·obtain ⟨l,vs,n,rfl,hl,hz,rs⟩:=I.tup hc
  obtain ⟨k,t,rfl,h1,h2⟩:=xq hx rs he
  exact ⟨λQ E q=>SeqRoads2.in_tuple _ h1 hl (by rw [h2]; exact q g _ _ (.refl g) I (.bool _)),λQ E q=>SeqRoads2.notIn_tuple _ h1 hl (by rw [h2]; exact q g _ _ (.refl g) I (.bool _))⟩
 ·exact in_list I hx hc rfl he
 ·obtain ⟨ch,hC,he⟩:=aS he
  induction ch using Ch.casesOn<;>first|exact ao he|skip
  ·exact in_list I hx hc (pA hC) he
  ·obtain ⟨k,e1,rfl⟩:=cB he
   obtain ⟨t,rfl⟩:=hx.fE e1
   exact MX B I hc hC
  ·obtain ⟨k,e1,rfl⟩:=cB he
   obtain ⟨t,rfl⟩:=hx.fE e1
   exact MY I hc hC
end
section
variable {V:aq} {G:aV} {F:aB} {A:Around} {m:List (Option D)} {C:af} {g:Gh} {s:Shared}
theorem uh {f:Int->Int->Bool} {x y:D} {a b:Value} (hx:ab V g x a) (hy:ab V g y b) {r:Bool} (h:qP f x y=some r) : ∃ i j t u,a=.int i t/\b=.int j u/\f i j=r:=by
 obtain ⟨i,e1,h⟩:=aS h
 obtain ⟨j,e2,h⟩:=cB h
 obtain ⟨t,rfl⟩:=hx.fE e1
 obtain ⟨u,rfl⟩:=hy.fE e2
 exact ⟨i,j,t,u,rfl,rfl,h⟩
theorem Fw (B:V.Base) (hu:A.units+64<cLine) (I:ah V F m C g s) {op:CmpOp} {x y:D} {a b:Value} (hx:ab V g x a) (hy:ab V g y b) :
  aF V F A (ab V) (compareOp op a b) g s (dq ((eX C (r7 op) x y).map .bool) ⟨m,C⟩):=aF.opt λd hd=>by
 obtain ⟨r,hr,rfl⟩:=cB hd
 induction op using CmpOp.casesOn with
 |Eq=>exact (Fy hu I hx hy hr).1
 |NotEq=>
  obtain ⟨b,hb,rfl⟩:=cB hr
  exact (Fy hu I hx hy hb).2
 |Lt=>obtain ⟨i,j,t,u,rfl,rfl,rfl⟩:=uh hx hy hr; exact λQ E k=>P.lt_int (k g _ _ (.refl g) I (.bool _))
 |LtE=>obtain ⟨i,j,t,u,rfl,rfl,rfl⟩:=uh hx hy hr; exact λQ E k=>P.le_int (k g _ _ (.refl g) I (.bool _))
 |Gt=>obtain ⟨i,j,t,u,rfl,rfl,rfl⟩:=uh hx hy hr; exact λQ E k=>P.gt_int (k g _ _ (.refl g) I (.bool _))
 |GtE=>obtain ⟨i,j,t,u,rfl,rfl,rfl⟩:=uh hx hy hr; exact λQ E k=>P.ge_int (k g _ _ (.refl g) I (.bool _))
 |Is=>exact (FD I hx hy hr).1
 |IsNot=>
  obtain ⟨b,hb,rfl⟩:=cB hr
  exact (FD I hx hy hb).2
 |In=>exact (FC B I hx hy hr).1
 |NotIn=>
  obtain ⟨b,hb,rfl⟩:=cB hr
  exact (FC B I hx hy hb).2
noncomputable def jr (o:Option Bool) (st:St):aj Bool:=match o with
 |some b=>.ok b st
 |none=>.fail
noncomputable def jR (_:Gh) (b b':Bool):Prop:=b=b'
theorem aE.isEmpty {V:aq} {g:Gh} {ds:List D} {vs:List Value} (r:aE V g ds vs):vs.toArray.isEmpty=ds.isEmpty:=by
 induction r using aE.casesOn<;>simp
theorem tO {n:Nat} (h:n<=aD):(n:Int)<2 ^ 63:=by
 have:aD<2 ^ 63:=by decide
 omega
theorem oK {α:Type} {vs:List α} (h:vs.length<=aD):(vs.toArray.size:Int)<2 ^ 63:=by simpa using tO h
theorem Qr {k:Int} {n:Nat} (h0:0<=k) (h:k.toNat<n):seqIndex? k n=some k.toNat:=by
 show (if (decide (0<=(if k<0 then k+(n:Int) else k))&&decide ((if k<0 then k+(n:Int) else k)<n))=true then some (Int.toNat (if k<0 then k+n else k)) else none)=_
 rw [if_neg (Int.not_lt.mpr h0),decide_eq_true h0,decide_eq_true ((Int.toNat_lt h0).mp h)]; rfl
theorem N8 {k:Int} {n:Nat} (h0:k<0):k+n<n:=by have:=Int.add_lt_add_right h0 (n:Int); rw [Int.zero_add] at this; exact this
theorem Qq {k:Int} {n:Nat} (h0:k<0) (h1:0<=k+n):seqIndex? k n=some (k+n).toNat:=by
 show (if (decide (0<=(if k<0 then k+(n:Int) else k))&&decide ((if k<0 then k+(n:Int) else k)<n))=true then some (Int.toNat (if k<0 then k+n else k)) else none)=_
 rw [if_pos h0,decide_eq_true h1,decide_eq_true (N8 h0)]; rfl
theorem Cb {k:Int} (h1:k<2 ^ 62):k<2 ^ 63:=Int.lt_trans h1 (by decide)
theorem JJ {k:Int} (h0:0<=k) : -(2 ^ 63)<=k:=Int.le_trans (by decide) h0
theorem En {k:Int} {n:Nat} (h1:0<=k+n) : -(n:Int)<=k:=Int.le_of_sub_nonneg (by rw [Int.sub_neg]; exact h1)
theorem Cd {k:Int} {n:Nat} (h1:0<=k+n) (hb:(n:Int)<2 ^ 63) : -(2 ^ 63)<=k:=Int.le_trans (Int.neg_le_neg (Int.le_of_lt hb)) (En h1)
theorem A9 {α:Type} (xs:List α) (l k:Nat):((xs.drop l).take k).length<=xs.length:=by rw [length_take,length_drop]; exact le_trans (Nat.min_le_right _ _) (sub_le _ _)
theorem IsTup.mk' {h:Heap} {a:Addr} {xs:Array Value} {n:Nat} (e:h.get? a=some {cls:=.type "tuple",dict:=none,data:=.seq xs n,slots := #[]}):IsTup h a xs:=⟨_,e,rfl,n,rfl⟩
theorem qW (I:ah V F m C g s) {x:D} {a:Value} (hx:ab V g x a):aF V F A jR (truthy a) g s (jr (bI C x) ⟨m,C⟩):=by
 have list : ∀ {ds:List D},aU C x=some ds->aF V F A jR (truthy a) g s (.ok (!ds.isEmpty) ⟨m,C⟩):=λ{ds} h Q E k=>by
  obtain ⟨l,vs,n,rfl,hl,hz,r⟩:=I.list hx h
  exact wpAny_truthy_list hl.isList (by simpa using tO hz) (by rw [r.isEmpty]; exact k g _ _ (.refl g) (I.tok _) rfl)
 induction x using D.casesOn with
 |none=>obtain rfl:=hx.xi; exact λQ E k=>truthy_none (k g _ _ (.refl g) I rfl)
 |bool b=>obtain rfl:=hx.oC; exact λQ E k=>wpAny_truthy_bool (k g _ _ (.refl g) I rfl)
 |int b=>obtain ⟨_,rfl⟩:=hx.ja; exact λQ E k=>P.truthy_int (k g _ _ (.refl g) I rfl)
 |lst ds=>exact list rfl
 |tup ds=>
  obtain ⟨l,vs,n,rfl,hl,hz,r⟩:=I.tup hx
  exact λQ E k=>truthy_tuple (IsTup.mk' hl) (oK hz) (by rw [r.isEmpty]; exact k g _ _ (.refl g) (I.tok _) rfl)
 |loc i=>
  show aF _ _ _ _ _ _ _ (jr (C[i]?.bind uF) _)
  induction hC:C[i]? with
  |none=>trivial
  |some ch=>
   induction ch using Ch.casesOn<;>first|trivial|exact list (pA hC)
 |_=>trivial
set_option tactic.hygienic true in
theorem R4 (slice:Expr) (o i:Value) : ∃ l,subscripted slice false o i=operate l (getItem o i):=by
 induction slice using Expr.casesOn with
 |Slice a b c d=>induction c<;>exact ⟨_,rfl⟩
 |_=>exact ⟨_,rfl⟩
theorem nA {value slice:Expr} {o i:Value} {T id:String} {prog:Program} {w:World} {E:Value->Shared->Prop} {Q:Value->Shared->Prop} (hT:s.TypeIs o T)
  (hl:typeLookup (.type T) "__getitem__"=pure (some (.builtin id))) (h:wpAny (model prog w) A (getItem o i) Q E s) :
  wpAny (model prog w) A (subscriptTail value slice o i) Q E s:=by
 unfold subscriptTail
 refine wpAny_bind ?_
 rw [getitemInPython_of_ne hT.not_modules]
 refine wpAny_bind (wpAny_specialOf hT hl ?_)
 have fin:wpAny (model prog w) A (subscripted slice false o i) (λr s₃=>wpAny (model prog w) A (letTemporaryGo value o r >>= λu'=>pure r) Q E s₃) E s:=by
  obtain ⟨l,e⟩:=R4 slice o i
  rw [e]
  exact wpAny_operating (wpAny_mono h (λr s₃ h₃=>wpAny_bind (wpAny_letTemporaryGo (wpAny_pure h₃))) λu' u' x=>x)
 first
  |exact wpAny_pure (wpAny_bind fin)
  |exact wpAny_bind (wpAny_pure (wpAny_bind fin))
  |exact wpAny_bind fin
theorem aE.get {V:aq} {g:Gh} : ∀ {ds:List D} {vs:List Value} {i:Nat} {d:D},aE V g ds vs->ds[i]?=some d->∃ v,vs[i]?=some v/\ab V g d v
 |[],_,_,_,_,h=>ao h
 |_::_,_,0,_,r,h=>by
  obtain ⟨v,ws,a,r,rfl⟩:=r.gc
  obtain rfl:=Option.some.inj h; exact ⟨v,rfl,a⟩
 |_::ds,_,i+1,_,r0,h=>by
  obtain ⟨v,ws,a,r,rfl⟩:=r0.gc
  exact aE.get (ds:=ds) (i:=i) r h
theorem pz {α:Type} {vs:List α} {i:Nat} {v:α} (h:vs[i]?=some v):vs.toArray[i]?=some v:=by rw [List.getElem?_toArray]; exact h
theorem DE {ds:List D} {k:Int} {d:D} (h:gM ds k=some d):(0<=k/\k<2 ^ 62/\ds[k.toNat]?=some d)\/(k<0/\0<=k+ds.length/\ds[(k+ds.length).toNat]?=some d):=by
 unfold gM at h
 split at h
 ·split at h
  ·exact .inl ⟨by assumption,by assumption,h⟩
  ·exact ao h
 ·split at h
  ·exact .inr ⟨by omega,by assumption,h⟩
  ·exact ao h
section
variable {value slice:Expr} {Q E:Value->Shared->Prop}
abbrev rL (V:aq) (F:aB) (m:List (Option D)) (C:af) (g:Gh) (d:D) (Q:Value->Shared->Prop):Prop := ∀ g' a s',g.Step g'->ah V F m C g' s'->ab V g' d a->Q a s'
theorem DF (I:ah V F m C g s) {x d:D} {a:Value} {k:Int} {t:Tok} {ds:List D} (hx:ab V g x a) (e:aU C x=some ds) (h:gM ds k=some d) (q:rL V F m C g d Q) :
  wpAny V.M A (subscriptTail value slice a (.int k t)) Q E s:=by
 obtain ⟨l,vs,n,rfl,hl,hz,r⟩:=I.list hx e
 have hlen:=r.length
 rcases DE h with ⟨h0,h1,h2⟩|⟨h0,h1,h2⟩
 ·obtain ⟨v,hv,rv⟩:=r.get h2
  exact nA hl.isList.typeIs slot_list_getitem.lookup (wpAny_getItem_list hl.isList h0 (Cb h1) (pz hv) (q g _ _ (.refl g) I rv))
 ·obtain ⟨v,hv,rv⟩:=r.get h2
  have e:(k+(vs.toArray.size:Int))=k+ds.length:=by rw [hlen]; rfl
  exact nA hl.isList.typeIs slot_list_getitem.lookup (wpAny_getItem_list_neg hl.isList h0 (En (by rw [e]; exact h1)) (Cd (n:=vs.toArray.size) (by rw [e]; exact h1) (oK hz)) (by rw [e]; exact pz hv) (q g _ _ (.refl g) I rv))
theorem MU (I:ah V F m C g s) {d:D} {a:Value} {k:Int} {t:Tok} {ds:List D} (hx:ab V g (.tup ds) a) (h:gM ds k=some d) (q:rL V F m C g d Q) :
  wpAny V.M A (subscriptTail value slice a (.int k t)) Q E s:=by
 obtain ⟨l,vs,n,rfl,hl,hz,r⟩:=I.tup hx
 have hlen:=r.length
 have ht:IsTup s.heap l vs.toArray:=IsTup.mk' hl
 have hb:=tO hz
 have go : ∀ j v,-(2 ^ 63)<=k/\k<2 ^ 63->seqIndex? k vs.toArray.size=some j->vs.toArray[j]?=some v->ab V g d v->wpAny V.M A (subscriptTail value slice (.ref l) (.int k t)) Q E s:=λj v hk h1 h2 h3=>
  nA ht.typeIs PyProof.Rows.slot_tuple_getitem.lookup (getItem_tuple ht hk.1 hk.2 h1 h2 (q g _ _ (.refl g) I h3))
 rcases DE h with ⟨h0,h1,h2⟩|⟨h0,h1,h2⟩
 ·obtain ⟨v,hv,rv⟩:=r.get h2
  have b7:=(List.getElem?_eq_some_iff.mp hv).1
  exact go k.toNat v ⟨JJ h0,Cb h1⟩ (Qr h0 (by rw [size_toArray]; exact b7)) (pz hv) rv
 ·obtain ⟨v,hv,rv⟩:=r.get h2
  have e:(k+(vs.toArray.size:Int))=k+ds.length:=by rw [hlen]; rfl
  exact go (k+ds.length).toNat v ⟨Cd (n:=vs.toArray.size) (by rw [e]; exact h1) (oK hz),Int.lt_trans h0 (by decide)⟩ (e ▸ Qq h0 (by rw [e]; exact h1)) (pz hv) rv
theorem MO (I:ah V F m C g s) {d:D} {a:Value} {k:Int} {t:Tok} {b:List UInt8} (hx:ab V g (.bytes b) a) (h:qA b k=some d) (q:rL V F m C g d Q) :
  wpAny V.M A (subscriptTail value slice a (.int k t)) Q E s:=by
 obtain ⟨_,hz,rfl⟩:=hx.mI
 unfold qA at h
 by_cases hk:0<=k/\k<2 ^ 62
 ·rw [if_pos hk] at h
  obtain ⟨c,hc,rfl⟩:=cB h
  have b7:=(List.getElem?_eq_some_iff.mp hc).1
  refine nA (W.typeIs_bytes _ _ _) W.FB.slot_bytes_getitem.lookup (W.getItem_bytes (le_trans hz (by decide)) hk.1 ((Int.toNat_lt hk.1).mp b7) ?_)
  rw [show b.getD k.toNat 0=c by rw [getD_eq_getElem?_getD,hc]; rfl]
  exact q g _ _ (.refl g) (I.tok _) (.int _ _)
 ·rw [if_neg hk] at h; exact ao h
theorem MQ (I:ah V F m C g s) {d:D} {a:Value} {k:Int} {t:Tok} {i:Nat} {bb:Bool} {es:List (Int × D)} (hx:ab V g (.loc i) a) (hC:C[i]?=some (.dict bb es)) (h:es.lookup k=some d) (q:rL V F m C g d Q) :
  wpAny V.M A (subscriptTail value slice a (.int k t)) Q E s:=by
 obtain ⟨_,hg,rfl⟩:=hx.gd
 obtain ⟨hz,ax,ep,iX,hr,_⟩:=I.dictAt hg hC
 have:=hr.lookupI k
 rw [h] at this
 obtain ⟨v,hv,rv⟩:=qO this
 exact nA iX.dictOf.mapOf.typeIs slot_dict_getitem.lookup (wpAny_getItem_of (knd:=intKind V.prog V.w) (k:=k) (beq_self_eq_true _) iX.dictOf.mapOf hv (q g _ _ (.refl g) (I.tok _) rv))
end
theorem PX (I:ah V F m C g s) {value slice:Expr} {x y:D} {a b:Value} (hx:ab V g x a) (hy:ab V g y b) :
  aF V F A (ab V) (subscriptTail value slice a b) g s (dq (gg C x y) ⟨m,C⟩):=aF.leaf λd hd Q E q=>by
 obtain ⟨k,e,hd⟩:=aS hd
 obtain ⟨t,rfl⟩:=hy.fE e
 induction x using D.casesOn<;>first|exact ao hd|skip
 ·exact MO I hx hd q
 ·exact MU I hx hd q
 ·exact DF I hx rfl hd q
 ·obtain ⟨ch,hC,hd⟩:=aS hd
  induction ch using Ch.casesOn<;>first|exact ao hd|skip
  ·exact DF I hx (pA hC) hd q
  ·exact MQ I hx hC hd q
theorem ah.slice (I:ah V F m C g s) (vl vu:Value):g.Step (g.put s.heap.objs.size (some (.ay {cls:=.type "slice",data:=.fields #[vl,vu,.none]})))/\
  ah V F m C (g.put s.heap.objs.size (some (.ay {cls:=.type "slice",data:=.fields #[vl,vu,.none]}))) {s with heap:=s.heap.push {cls:=.type "slice",data:=.fields #[vl,vu,.none]}}:=
 ⟨Gh.nv I.fw,I.xO _ rfl s.toks⟩
set_option tactic.hygienic true in
theorem rV {x:D} {v:Value} {dflt n k:Nat} (hx:ab V g x v) (h:bound x dflt n=some k) : ∃ p,IsPart v p/\p.elim dflt (clipAt n)=k:=by
 induction x using D.casesOn<;>first|exact ao h|skip
 ·obtain rfl:=hx.xi; obtain rfl:=Option.some.inj h; exact ⟨_,.none,rfl⟩
 ·obtain ⟨t,rfl⟩:=hx.ja
  rename_i i
  have h:(if 0<=i/\i<2 ^ 62 then some (min i.toNat n) else none)=some k:=h
  by_cases hk:0<=i/\i<2 ^ 62
  ·rw [if_pos hk] at h
   obtain rfl:=Option.some.inj h
   refine ⟨_,.int _ _,?_⟩
   show clipAt n i=_
   obtain ⟨j,rfl⟩:=Int.eq_ofNat_of_zero_le hk.1
   rw [clipAt_nat]; rfl
  ·rw [if_neg hk] at h; exact ao h
theorem aE.drop {V:aq} {g:Gh} : ∀ {ds:List D} {vs:List Value} (n:Nat),aE V g ds vs->aE V g (ds.drop n) (vs.drop n)
 |_,_,0,h=>h
 |[],_,_+1,h=>by obtain rfl:=h.gf; exact .nil
 |_::_,_,n+1,h=>by obtain ⟨_,_,_,r,rfl⟩:=h.gc; exact r.drop n
theorem aE.take {V:aq} {g:Gh} : ∀ {ds:List D} {vs:List Value} (n:Nat),aE V g ds vs->aE V g (ds.take n) (vs.take n)
 |_,_,0,_=>by rw [take_zero,take_zero]; exact .nil
 |[],_,_+1,h=>by obtain rfl:=h.gf; exact .nil
 |_::_,_,n+1,h=>by obtain ⟨_,_,a,r,rfl⟩:=h.gc; exact .cons a (r.take n)
theorem Qh (I:ah V F m C g s) {value slice:Expr} {x lo hi:D} {a vl vu:Value} {sl:Addr} (hx:ab V g x a) (ka:ab V g lo vl) (mC:ab V g hi vu)
  (hs:s.heap.IsSliceOf sl vl vu .none) :
  aF V F A (ab V) (subscriptTail value slice a (.ref sl)) g s (dq (nu C x lo hi) ⟨m,C⟩):=by
 refine aF.leaf λd hd Q E q=>?_
 have list : ∀ {ds:List D} {l h:Nat},aU C x=some ds->bound lo 0 ds.length=some l->bound hi ds.length ds.length=some h->d=.lst (dg ds l h)->wpAny V.M A (subscriptTail value slice a (.ref sl)) Q E s:=by
  intro ds l h e h1 h2 hd
  subst hd
  obtain ⟨b,vs,n,rfl,hl,hz,r⟩:=I.list hx e
  have hlen:=r.length
  obtain ⟨p,ip,ep⟩:=rV ka h1
  obtain ⟨u,iu,eu⟩:=rV mC h2
  refine nA hl.isList.typeIs slot_list_getitem.lookup (wpAny_getItem_list_slice hl.isList hs ip iu .none (by simp) ?_ (d4 (by simpa using hz)))
  rw [slicePick_plain]
  have e1:vs.toArray.size=ds.length:=by simp [hlen]
  rw [e1,ep,eu]
  have r':aE V g (dg ds l h) ((vs.drop l).take (h - l)):=(r.drop l).take (h - l)
  exact I.newList (T:="list") (n:=0) (t:=s.toks) r' (le_trans (A9 _ _ _) hz) λg' st I' h1 h2 h3=>q g' _ _ st I' (.lst h1 h2 h3)
 have lst:uy C x lo hi=some d->wpAny V.M A (subscriptTail value slice a (.ref sl)) Q E s:=λhd=>by
  obtain ⟨ds,e,hd⟩:=aS hd
  obtain ⟨l,h1,hd⟩:=aS hd
  obtain ⟨h,h2,hd⟩:=cB hd
  exact list e h1 h2 hd.symm
 induction x using D.casesOn with
 |bytes b=>
  obtain ⟨l,h1,hd⟩:=aS hd
  obtain ⟨h,h2,rfl⟩:=cB hd
  obtain ⟨t,hz,rfl⟩:=hx.mI
  obtain ⟨p,ip,ep⟩:=rV ka h1
  obtain ⟨u,iu,eu⟩:=rV mC h2
  have e1:W.KBy.picked b.toArray p u=(dg b l h).toArray:=by
   rw [W.KBc.picked_eq]
   simp only [size_toArray,ep,eu]; rfl
  have bT:(dg b l h).length<=aD:=le_trans (A9 _ _ _) hz
  refine nA (W.typeIs_bytes _ _ _) W.FB.slot_bytes_getitem.lookup (getItem_meets (W.typeIs_bytes _ _ _) (by decide) W.FB.slot_bytes_getitem W.FB.entry_bytes_getitem (W.FB.args_bytes_getitem_2 _ _) (W.KBc.meets_slice2 b.toArray t _ ip iu)
   ⟨hs,by rw [e1]; exact d4 (by simpa using bT),λt' k=>?_⟩)
  rw [e1]
  exact q g _ _ (.refl g) (I.tok _) (.bytes _ bT)
 |_=>exact lst hd
end
structure fA (F:aB) (A:Around) (cl:Calls) (n l:Nat):Prop where
 frames:A.frames=some F.stack
 depth:A.depth+8*n+8<=900
 units:A.units+8*l+500*n+500<=9000
 calm:cl.fuel≠0->A.handled=none
theorem HU:cLine=9900:=rfl
noncomputable def cM (o:aj D):aj Bool:=o.bind λx st=>jr (bI st.C x) st
noncomputable def az (V:aq) (F:aB) (A:Around) (cl:Calls) (c:E) (e:Expr):Prop:=
 ∀ m C g s,ah V F m C g s->aF V F A (ab V) (eval e F.env) g s (ev V.P cl c ⟨m,C⟩)/\aF V F A jR (isTrue e F.env (eval e F.env)) g s (cM (ev V.P cl c ⟨m,C⟩))
noncomputable def pk (V:aq) (g:Gh) (d:D) (vs:List Value):Prop := ∃ ds,d=.lst ds/\aE V g ds vs
section
variable {V:aq} {G:aV} {F:aB} {A:Around} {cl:Calls}
theorem az.bad {e:Expr}:az V F A cl .bad e:=λu' u' u' u' u'=>⟨trivial,trivial⟩
theorem Qn {g:Gh} {s:Shared} {e:Expr} {o:aj D} (he:isTrue e F.env (eval e F.env)=(do let v <-eval e F.env; standAt e.pos; holding [v] (truthy v)))
  (h:aF V F A (ab V) (eval e F.env) g s o):aF V F A jR (isTrue e F.env (eval e F.env)) g s (cM o):=
 ai.seq h (λu' u' x=>isTrue_plain x he) λu' u' u' u' u' u' u' I r=>qW I r
theorem az.of {c:E} {e:Expr} (he:isTrue e F.env (eval e F.env)=(do let v <-eval e F.env; standAt e.pos; holding [v] (truthy v)))
  (h : ∀ m C g s,ah V F m C g s->aF V F A (ab V) (eval e F.env) g s (ev V.P cl c ⟨m,C⟩)):az V F A cl c e:=
 λm C g s I=>⟨h m C g s I,Qn he (h m C g s I)⟩
theorem Ri {k:Const} {n:Nat} {p:Pos}:az V F A cl (r8 k) (.Constant k n p):=.of rfl λu' u' u' u' I=>PR I
theorem Rw (O:V.Ok G) (K:F.Ok) {c:aJ} (hc:F.ctx c) {x:Str} {p:Pos}:az V F A cl (oQ G c x) (.Name x p):=.of rfl λu' u' u' u' I=>Qa O K I hc
theorem Ra {op:Operator} {o:Op} (ho:jh op=some o) {a b:E} {l r:Expr} {p:Pos} (hl:az V F A cl a l) (hr:az V F A cl b r):az V F A cl (.bin o a b) (.BinOp l op r p):=
 .of rfl λm C g s I=>ai.seq (hl m C g s I).1 (λu' u' x=>wpAny_BinOp x) λu' u' u' u' u' u' u' I₁ rx=>
  ai.seq (hr _ _ _ _ I₁).1 (λu' u' x=>x) λu' u' u' u' u' u' bP I₂ ry=>PC ho I₂ (rx.mono bP.toLe) ry
theorem zO {op:CmpOp} {r:Expr} (h:lD r=false):behindInMarks op r=false:=by
 induction r using Expr.casesOn<;>first|rfl|exact fT h
theorem aj.bind_assoc {α β γ:Type} (o:aj α) (f:α->St->aj β) (k:β->St->aj γ):(o.bind f).bind k=o.bind λa st=>(f a st).bind k:=by
 induction o<;>rfl
theorem Rf (B:V.Base) {n l:Nat} (hA:fA F A cl n l) {op:CmpOp} {a b:E} {x r:Expr} {p:Pos} (hs:lD r=false) (hl:az V F A cl a x) (hr:az V F A cl b r) :
  az V F A cl (.cmp (r7 op) a b) (.Compare x [op] [r] p):=by
 have hu:A.units+64<cLine:=lt_of_le_of_lt (le_trans (add_le_add (le_trans (le_add_right _ (8*l)) (le_add_right _ (500*n))) (by decide:64<=500)) hA.units) (by decide)
 refine λm C g s I=>⟨?_,?_⟩
 ·exact ai.seq (hl m C g s I).1 (λu' u' x=>wpAny_Compare1 x (zO hs)) λu' u' u' u' u' u' u' I₁ rx=>
   ai.seq (hr _ _ _ _ I₁).1 (λu' u' x=>x) λu' u' u' u' u' u' bP I₂ ry=>Fw B hu I₂ (rx.mono bP.toLe) ry
 ·show aF _ _ _ _ _ _ _ (cM ((ev V.P cl a ⟨m,C⟩).bind λx aa=>(ev V.P cl b aa).bind λy ae=>dq ((eX ae.C (r7 op) x y).map .bool) ae))
  unfold cM
  rw [aj.bind_assoc]
  refine ai.seq (hl m C g s I).1 (λu' u' x=>wpAny_isTrue_Compare1 x (zO hs)) λu' u' u' u' u' u' u' I₁ rx=>?_
  rw [aj.bind_assoc]
  exact ai.seq (hr _ _ _ _ I₁).1 (λu' u' x=>x) λu' u' u' u' u' u' bP I₂ ry=>ai.seq (Fw B hu I₂ (rx.mono bP.toLe) ry) (λu' u' x=>x) λu' u' u' u' u' u' u' I₃ r₃=>qW I₃ r₃
theorem Rz {a:E} {x:Expr} {p:Pos} (h:az V F A cl a x):az V F A cl (.not a) (.UnaryOp .Not x p):=by
 refine λm C g s I=>⟨?_,?_⟩
 ·refine ai.seq (h m C g s I).1 (λu' u' x=>wpAny_UnaryOp x) λd st g₁ s₁ v u' u' I₁ rx=>?_
  have e:dq ((bI st.C d).map λb=>D.bool (!b)) st=(jr (bI st.C d) st).bind λb st=>.ok (.bool (!b)) st:=by induction bI st.C d<;>rfl
  rw [e]
  exact ai.seq (qW I₁ rx) (λu' u' x=>PyProof.Rows.not_of x) (K:=λb Q E s=>Q (.bool (!b)) s) λu' u' g₂ s₂ u' u' u' I₂ r=>λQ E k=>k _ _ _ (.refl _) I₂ (by cases r; exact .bool _)
 ·have e:cM (ev V.P cl (.not a) ⟨m,C⟩)=(cM (ev V.P cl a ⟨m,C⟩)).bind λb st=>.ok (!b) st:=by
   show cM ((ev V.P cl a ⟨m,C⟩).bind _)=_
   unfold cM
   rw [aj.bind_assoc,aj.bind_assoc]
   congr 1; funext x st
   induction bI st.C x<;>rfl
  rw [e]
  exact ai.seq (h m C g s I).2 (λu' u' x=>wpAny_isTrue_Not x) (K:=λb Q E s=>Q (!b) s) λu' u' g₂ s₂ u' u' u' I₂ r=>λQ E k=>k _ _ _ (.refl _) I₂ (by cases r; rfl)
theorem Rq {c a b:E} {t x y:Expr} {p:Pos} (ht:az V F A cl c t) (hx:az V F A cl a x) (hy:az V F A cl b y):az V F A cl (.ite c a b) (.IfExp t x y p):=by
 have e : ∀ st,ev V.P cl (.ite c a b) st=(cM (ev V.P cl c st)).bind λq aa=>if q then ev V.P cl a aa else ev V.P cl b aa:=λst=>by
  show (ev V.P cl c st).bind _=_
  unfold cM
  rw [aj.bind_assoc]
  congr 1; funext x aa
  induction bI aa.C x with
  |none=>rfl
  |some q=>induction q<;>rfl
 refine λm C g s I=>⟨?_,?_⟩
 ·rw [e]
  refine ai.seq (ht m C g s I).2 (λu' u' x=>wpAny_IfExp x) λq st g₁ s₁ q' u' u' I₁ r=>?_
  cases r
  induction q
  ·exact (hy _ _ _ _ I₁).1
  ·exact (hx _ _ _ _ I₁).1
 ·rw [e]
  unfold cM
  rw [aj.bind_assoc]
  refine ai.seq (ht m C g s I).2 (λu' u' x=>PyProof.Rows.isTrue_IfExp x) λq st g₁ s₁ q' u' u' I₁ r=>?_
  cases r
  induction q
  ·exact (hy _ _ _ _ I₁).2
  ·exact (hx _ _ _ _ I₁).2
theorem GG {M:Model} {A:Around} {Q:Value->Shared->Prop} {E:Value->Shared->Prop} {s:Shared} {pos:Pos} {op:BoolOp} {x y:Sem Value} {r:List (Sem Value)}
  (h:wpAny M A x (λv s₁=>wpAny M A (truthy v) (λt s₂=>match op,t with
   |.And,false|.Or,true=>Q v s₂
   |_,_=>wpAny M A (boolOp pos op (y::r)) Q E s₂) E s₁) E s):wpAny M A (boolOp pos op (x::y::r)) Q E s:=by
 show wpAny M A (x >>= λv=>standAt pos >>= λ_=>holding [v] (truthy v) >>= λt=>match op,t with
  |.And,false|.Or,true=>pure v
  |_,_=>boolOp pos op (y::r)) Q E s
 refine wpAny_bind (wpAny_mono h (λv s₁ h₁=>wpAny_bind (wpAny_standAt (wpAny_bind (wpAny_holding (wpAny_mono h₁ (λt s₂ h₂=>?_) λu' u' e=>e))))) λu' u' e=>e)
 induction op using BoolOp.casesOn<;>cases t<;>first|exact wpAny_pure h₂|exact h₂
theorem BC (a b:E) (st:St):ev V.P cl (.and a b) st=(ev V.P cl a st).bind λx aa=>(jr (bI aa.C x) aa).bind λq ae=>if q then ev V.P cl b ae else .ok x ae:=by
 show (ev V.P cl a st).bind _=_
 congr 1; funext x aa
 induction bI aa.C x with
 |none=>rfl
 |some q=>induction q<;>rfl
theorem BN (a b:E) (st:St):ev V.P cl (.or a b) st=(ev V.P cl a st).bind λx aa=>(jr (bI aa.C x) aa).bind λq ae=>if q then .ok x ae else ev V.P cl b ae:=by
 show (ev V.P cl a st).bind _=_
 congr 1; funext x aa
 induction bI aa.C x with
 |none=>rfl
 |some q=>induction q<;>rfl
theorem zB {op:BoolOp} {e:Expr} {W:Tr Bool} {g:Gh} {s:Shared} {o:aj Bool} (h:aF V F A jR (isTrue e F.env (eval e F.env)) g s o) :
  aF V F A jR (allTrue op [e] F.env) g s o:=by
 refine h.wp λQ E x=>?_
 induction op using BoolOp.casesOn with
 |And=>exact wpAny_allTrue_And_cons (wpAny_mono x (λb s₁ y=>by
   induction b
   ·exact y
   ·exact wpAny_pure y) λu' u' y=>y)
 |Or=>exact wpAny_allTrue_Or_cons (wpAny_mono x (λb s₁ y=>by
   induction b
   ·exact wpAny_pure y
   ·exact y) λu' u' y=>y)
theorem yn {f:Expr->E} {p:Pos} : ∀ (es:List Expr),(∀ e∈es,az V F A cl (f e) e)->∀ m C g s,ah V F m C g s->
  aF V F A (ab V) (boolOp p .And (evalEach es F.env)) g s (ev V.P cl (jV f es) ⟨m,C⟩)/\aF V F A jR (allTrue .And es F.env) g s (cM (ev V.P cl (jV f es) ⟨m,C⟩))
 |[],_,_,_,_,_,_=>⟨trivial,trivial⟩
 |[e],h,m,C,g,s,I=>⟨(h e (.head _) m C g s I).1,zB (W:=λu' u' u'=>True) (h e (.head _) m C g s I).2⟩
 |e::e'::r,h,m,C,g,s,I=>by
  have ih:=yn (p:=p) (e'::r) λx hx=>h x (.tail _ hx)
  have h0:=h e (.head _)
  refine ⟨?_,?_⟩
  ·show aF _ _ _ _ _ _ _ (ev V.P cl (.and (f e) (jV f (e'::r))) _)
   rw [BC]
   refine ai.seq (h0 m C g s I).1 (λu' u' x=>GG x) λx st g₁ s₁ v u' u' I₁ rx=>?_
   refine ai.seq (qW I₁ rx) (λu' u' x=>x) λq aC g₂ s₂ q' u' bP I₂ rq=>?_
   subst rq
   induction q
   ·exact λQ E k=>k _ _ _ (.refl _) I₂ (rx.mono bP.toLe)
   ·exact (ih _ _ _ _ I₂).1
  ·have e1:cM (ev V.P cl (.and (f e) (jV f (e'::r))) ⟨m,C⟩)=(cM (ev V.P cl (f e) ⟨m,C⟩)).bind λq st=>if q then cM (ev V.P cl (jV f (e'::r)) st) else .ok false st:=by
    rw [BC]; unfold cM
    rw [aj.bind_assoc,aj.bind_assoc]
    congr 1; funext x st
    induction ht:bI st.C x with
    |none=>rfl
    |some q=>
     induction q
     ·show jr (bI st.C x) st=_; rw [ht]; rfl
     ·rfl
   show aF _ _ _ _ _ _ _ (cM (ev V.P cl (.and (f e) (jV f (e'::r))) ⟨m,C⟩))
   rw [e1]
   refine ai.seq (h0 m C g s I).2 (λu' u' x=>wpAny_allTrue_And_cons x) λq st g₁ s₁ q' u' u' I₁ rq=>?_
   subst rq
   induction q
   ·exact λQ E k=>k _ _ _ (.refl _) I₁ rfl
   ·exact (ih _ _ _ _ I₁).2
theorem yr {f:Expr->E} {p:Pos} : ∀ (es:List Expr),(∀ e∈es,az V F A cl (f e) e)->∀ m C g s,ah V F m C g s->
  aF V F A (ab V) (boolOp p .Or (evalEach es F.env)) g s (ev V.P cl (jW f es) ⟨m,C⟩)/\aF V F A jR (allTrue .Or es F.env) g s (cM (ev V.P cl (jW f es) ⟨m,C⟩))
 |[],_,_,_,_,_,_=>⟨trivial,trivial⟩
 |[e],h,m,C,g,s,I=>⟨(h e (.head _) m C g s I).1,zB (W:=λu' u' u'=>True) (h e (.head _) m C g s I).2⟩
 |e::e'::r,h,m,C,g,s,I=>by
  have ih:=yr (p:=p) (e'::r) λx hx=>h x (.tail _ hx)
  have h0:=h e (.head _)
  refine ⟨?_,?_⟩
  ·show aF _ _ _ _ _ _ _ (ev V.P cl (.or (f e) (jW f (e'::r))) _)
   rw [BN]
   refine ai.seq (h0 m C g s I).1 (λu' u' x=>GG x) λx st g₁ s₁ v u' u' I₁ rx=>?_
   refine ai.seq (qW I₁ rx) (λu' u' x=>x) λq aC g₂ s₂ q' u' bP I₂ rq=>?_
   subst rq
   induction q
   ·exact (ih _ _ _ _ I₂).1
   ·exact λQ E k=>k _ _ _ (.refl _) I₂ (rx.mono bP.toLe)
  ·have e1:cM (ev V.P cl (.or (f e) (jW f (e'::r))) ⟨m,C⟩)=(cM (ev V.P cl (f e) ⟨m,C⟩)).bind λq st=>if q then .ok true st else cM (ev V.P cl (jW f (e'::r)) st):=by
    rw [BN]; unfold cM
    rw [aj.bind_assoc,aj.bind_assoc]
    congr 1; funext x st
    induction ht:bI st.C x with
    |none=>rfl
    |some q=>
     induction q
     ·rfl
     ·show jr (bI st.C x) st=_; rw [ht]; rfl
   show aF _ _ _ _ _ _ _ (cM (ev V.P cl (.or (f e) (jW f (e'::r))) ⟨m,C⟩))
   rw [e1]
   refine ai.seq (h0 m C g s I).2 (λu' u' x=>wpAny_allTrue_Or_cons x) λq st g₁ s₁ q' u' u' I₁ rq=>?_
   subst rq
   induction q
   ·exact (ih _ _ _ _ I₁).2
   ·exact λQ E k=>k _ _ _ (.refl _) I₁ rfl
theorem QV {f:Expr->E} {es:List Expr} {p:Pos} (h : ∀ e∈es,az V F A cl (f e) e):az V F A cl (jV f es) (.BoolOp .And es p):=λm C g s I=>
 ⟨(yn es h m C g s I).1,(yn (p:=p) es h m C g s I).2.wp λu' u' x=>wpAny_isTrue_BoolOp x⟩
theorem RA {f:Expr->E} {es:List Expr} {p:Pos} (h : ∀ e∈es,az V F A cl (f e) e):az V F A cl (jW f es) (.BoolOp .Or es p):=λm C g s I=>
 ⟨(yr es h m C g s I).1,(yr (p:=p) es h m C g s I).2.wp λu' u' x=>wpAny_isTrue_BoolOp x⟩
theorem o7 {e:Expr} {r:List Expr} {env:Env} (h:dW e=false):starEach (e::r) env=(false,eval e env)::starEach r env:=by
 induction e using Expr.casesOn<;>first|rfl|exact fT h
theorem BV (c:E) (cs:Es) (st:St):bG V.P cl (.cons c cs) st=(ev V.P cl c st).bind λx aa=>(bG V.P cl cs aa).bind λd ae=>match d with
  |.lst ds=>.ok (.lst (x::ds)) ae
  |_=>.fail:=by
 show (ev V.P cl c st).bind _=_
 congr 1; funext x aa
 induction bG V.P cl cs aa with
 |ok d ae=>induction d using D.casesOn<;>rfl
 |exc x ae=>rfl
 |fail=>rfl
theorem uv {f:Expr->E} {p:Pos} : ∀ (es:List Expr),es.any dW=false->(∀ e∈es,az V F A cl (f e) e)->∀ m C g s,ah V F m C g s->
  aF V F A (pk V) (spliced (backTo p (starEach es F.env))) g s (bG V.P cl (bX f es) ⟨m,C⟩)
 |[],_,_,m,C,g,s,I=>λQ E k=>Calls.spliced_nil (k g _ _ (.refl _) I ⟨[],rfl,.nil⟩)
 |e::r,hs,h,m,C,g,s,I=>by
  rw [any_cons,or_eq_false_iff] at hs
  have ih:=uv (p:=p) r hs.2 λx hx=>h x (.tail _ hx)
  rw [o7 hs.1]
  show aF _ _ _ _ _ _ _ (bG V.P cl (.cons (f e) (bX f r)) _)
  rw [BV]
  refine ai.seq (h e (.head _) m C g s I).1 (λu' u' x=>Calls.spliced_cons x) λx st g₁ s₁ v u' u' I₁ rx=>?_
  refine ai.seq (K:=λvs Q E s=>Q (v::vs) s) (ih _ _ _ _ I₁) (λQ E x=>x) λd aC g₂ s₂ vs u' bP I₂ rd=>?_
  obtain ⟨ds,rfl,rs⟩:=rd
  exact λQ E k=>k _ _ _ (.refl _) I₂ ⟨_,rfl,.cons (rx.mono bP.toLe) rs⟩
set_option tactic.hygienic true in
theorem Rr {f:Expr->E} {es:List Expr} {p:Pos} (h : ∀ e∈es,az V F A cl (f e) e):az V F A cl (.list (kU f es)) (.List es p):=by
 refine .of rfl λm C g s I=>?_
 unfold kU
 induction hs:es.any dW with
 |true=>trivial
 |false=>
  rw [if_neg (by decide)]
  have e:ev V.P cl (.list (bX f es)) ⟨m,C⟩=(bG V.P cl (bX f es) ⟨m,C⟩).bind λd st=>match d with
    |.lst ds=>if ds.length<=aD then .ok (.lst ds) st else .fail
    |_=>.fail:=by
   show (match bG V.P cl (bX f es) ⟨m,C⟩ with|.ok (.lst ds) aa=>_|.exc x aa=>_|_=>_)=_
   induction bG V.P cl (bX f es) ⟨m,C⟩ with
   |ok d ae=>induction d using D.casesOn<;>rfl
   |exc x ae=>rfl
   |fail=>rfl
  rw [e]
  refine ai.seq (uv (p:=p) es hs h m C g s I) (λu' u' x=>wpAny_List_spliced x) λd st g₁ s₁ vs u' u' I₁ rd=>?_
  obtain ⟨ds,rfl,rs⟩:=rd
  dsimp only
  split
  ·rename_i hz
   have fM:vs.length<=aD:=by rw [<-rs.length]; exact hz
   exact λQ E k=>⟨d4 fM,I₁.newList (T:="list") (n:=0) (t:=s₁.toks) rs fM λg' aC I' h1 h2 h3=>k g' _ _ aC I' (.lst h1 h2 h3)⟩
  ·trivial
set_option tactic.hygienic true in
theorem RI {f:Expr->E} {es:List Expr} {n:Nat} {p:Pos} (h : ∀ e∈es,az V F A cl (f e) e):az V F A cl (.tup (kU f es)) (.Tuple es n p):=by
 refine .of rfl λm C g s I=>?_
 unfold kU
 induction hs:es.any dW with
 |true=>trivial
 |false=>
  rw [if_neg (by decide)]
  have e:ev V.P cl (.tup (bX f es)) ⟨m,C⟩=(bG V.P cl (bX f es) ⟨m,C⟩).bind λd st=>match d with
    |.lst ds=>if ds.length<=aD then .ok (.tup ds) st else .fail
    |_=>.fail:=by
   show (match bG V.P cl (bX f es) ⟨m,C⟩ with|.ok (.lst ds) aa=>_|.exc x aa=>_|_=>_)=_
   induction bG V.P cl (bX f es) ⟨m,C⟩ with
   |ok d ae=>induction d using D.casesOn<;>rfl
   |exc x ae=>rfl
   |fail=>rfl
  rw [e]
  refine ai.seq (uv (p:=p) es hs h m C g s I) (λu' u' x=>wpAny_Tuple_spliced x) λd st g₁ s₁ vs u' u' I₁ rd=>?_
  obtain ⟨ds,rfl,rs⟩:=rd
  dsimp only
  split
  ·rename_i hz
   have fM:vs.length<=aD:=by rw [<-rs.length]; exact hz
   exact λQ E k=>⟨d4 fM,I₁.newList (T:="tuple") (n:=0) (t:=s₁.toks) rs fM λg' aC I' h1 h2 h3=>k g' _ _ aC I' (.tup h1 h2 h3)⟩
  ·trivial
end
section
variable {V:aq} {G:aV} {F:aB} {A:Around} {cl:Calls} {m:List (Option D)} {C:af} {g:Gh} {s:Shared}
theorem ah.localSet (K:F.Ok) (I:ah V F m C g s) {h':Heap} {t:Nat} {x:Str} {k:Nat} {d:D} {v:Value} {M:Str->Option Value} (hx:F.names.lookup x=some .local) (hk:F.slots.lookup x=some k)
  (hM:s.heap.Ns F.env.locals M) (hr : ∀ x n d,F.names.lookup x=some .local->F.slots.lookup x=some n->m[n]?=some (some d)->∃ v,M x=some v/\ab V g d v)
  (hn:h'.Ns F.env.locals (λy=>if y=x then some v else M y)) (hs:Heap.SameBut F.env.locals s.heap h') (r:ab V g d v):ah V F (m.set k (some d)) C g {s with heap:=h',toks:=t}:=by
 have hg:=I.fr.here
 have ne : ∀ {b y},g b=some y->y≠.locals->b≠F.env.locals:=λ{b y} e q z=>by subst z; rw [hg] at e; obtain rfl:=Option.some.inj e; exact q rfl
 refine ⟨λb o' e=>?_,I.new,λb y e=>?_,λb o' e=>?_,λb o' e=>?_,λj c' e=>?_,I.uniq,I.dB,?_,I.gens,I.os⟩
 ·refine (hs.2 b λz=>?_).trans (I.keep b o' e)
  subst z; rw [I.new _ _ hg] at e; exact ao e
 ·by_cases z:b=F.env.locals
  ·subst z; obtain ⟨o,_,_,ho,_⟩:=hn; exact ⟨o,ho⟩
  ·obtain ⟨o',q⟩:=I.live b y e; exact ⟨o',(hs.2 b z).trans q⟩
 ·exact (hs.2 b (ne e (by intro z; cases z))).trans (I.ay b o' e)
 ·obtain ⟨sl,q,q'⟩:=I.aw b o' e
  exact ⟨sl,(hs.2 b (ne e (by intro z; cases z))).trans q,q'⟩
 ·obtain ⟨b,o',h1,h2,h3⟩:=I.cell j c' e
  exact ⟨b,o',h1,(hs.2 b (ne h1 (by intro z; cases z))).trans h2,h3⟩
 ·have fr:=I.fr
  refine ⟨by rw [length_set]; exact fr.len,fr.above,fr.out,fr.here,⟨_,hn,λy n d' h1 h2 h3=>?_⟩,λy hy=>?_,λy n d' h1 h2 h3=>?_⟩
  ·by_cases q:y=x
   ·subst q
    rw [hk] at h2; obtain rfl:=Option.some.inj h2
    rw [getElem?_set] at h3
    simp only [if_true] at h3
    split at h3
    ·cases h3; exact ⟨v,if_pos rfl,r⟩
    ·exact ao h3
   ·have eH:k≠n:=λz=>q (K.inj _ _ _ h2 (z ▸ hk))
    rw [getElem?_set,if_neg eH] at h3
    obtain ⟨v',e1,e2⟩:=hr y n d' h1 h2 h3
    exact ⟨v',by rw [if_neg q]; exact e1,e2⟩
  ·obtain ⟨c,v',h1,h2,h3,h4⟩:=fr.cell y hy
   refine ⟨c,v',h1,h2,h3.sameBut hs (ne h2 (by intro z; cases z)),λn d' e1 e2=>h4 n d' e1 ?_⟩
   have eH:k≠n:=λz=>by
    have:=K.inj _ _ _ e1 (z ▸ hk); subst this; rw [hx] at hy; cases hy
   rw [getElem?_set,if_neg eH] at e2
   exact e2
  ·have eH:k≠n:=λz=>by
    have:=K.inj _ _ _ h2 (z ▸ hk); subst this; rw [hx] at h1; cases h1
   rw [getElem?_set,if_neg eH] at h3
   exact fr.free y n d' h1 h2 h3
theorem ah.JE (K:F.Ok) (I:ah V F m C g s) {h':Heap} {t:Nat} {x:Str} {k:Nat} {d:D} {v:Value} {c:Addr} (hx:F.names.lookup x=some .cell) (hk:F.slots.lookup x=some k)
  (hc:F.env.cells.lookup x=some c) (hg:g c=some (.cA x)) (hn:h'.IsCell c (some v)) (hs:Heap.SameBut c s.heap h') (r:ab V g d v):ah V F (m.set k (some d)) C g {s with heap:=h',toks:=t}:=by
 have ne : ∀ {b y},g b=some y->y≠.cA x->b≠c:=λ{b y} e q z=>by subst z; rw [hg] at e; obtain rfl:=Option.some.inj e; exact q rfl
 refine ⟨λb o' e=>?_,I.new,λb y e=>?_,λb o' e=>?_,λb o' e=>?_,λj c' e=>?_,I.uniq,I.dB,?_,I.gens,I.os⟩
 ·refine (hs.2 b λz=>?_).trans (I.keep b o' e)
  subst z; rw [I.new _ _ hg] at e; exact ao e
 ·by_cases z:b=c
  ·subst z; obtain ⟨o,ho,_⟩:=hn; exact ⟨o,ho⟩
  ·obtain ⟨o',q⟩:=I.live b y e; exact ⟨o',(hs.2 b z).trans q⟩
 ·exact (hs.2 b (ne e (by intro z; cases z))).trans (I.ay b o' e)
 ·obtain ⟨sl,q,q'⟩:=I.aw b o' e
  exact ⟨sl,(hs.2 b (ne e (by intro z; cases z))).trans q,q'⟩
 ·obtain ⟨b,o',h1,h2,h3⟩:=I.cell j c' e
  exact ⟨b,o',h1,(hs.2 b (ne h1 (by intro z; cases z))).trans h2,h3⟩
 ·have fr:=I.fr
  obtain ⟨M,hM,hr⟩:=fr.loc
  refine ⟨by rw [length_set]; exact fr.len,fr.above,fr.out,fr.here,⟨M,hM.sameBut hs (ne fr.here (by intro z; cases z)),λy n d' h1 h2 h3=>?_⟩,λy hy=>?_,λy n d' h1 h2 h3=>?_⟩
  ·have eH:k≠n:=λz=>by
    have:=K.inj _ _ _ h2 (z ▸ hk); subst this; rw [hx] at h1; cases h1
   rw [getElem?_set,if_neg eH] at h3
   exact hr y n d' h1 h2 h3
  ·by_cases q:y=x
   ·subst q
    refine ⟨c,some v,hc,hg,hn,λn d' e1 e2=>?_⟩
    rw [hk] at e1; obtain rfl:=Option.some.inj e1
    rw [getElem?_set] at e2
    simp only [if_true] at e2
    split at e2
    ·cases e2; exact ⟨v,rfl,r⟩
    ·exact ao e2
   ·obtain ⟨c',v',h1,h2,h3,h4⟩:=fr.cell y hy
    refine ⟨c',v',h1,h2,h3.sameBut hs (ne h2 (by intro z; cases z; exact q rfl)),λn d' e1 e2=>h4 n d' e1 ?_⟩
    have eH:k≠n:=λz=>q (K.inj _ _ _ e1 (z ▸ hk))
    rw [getElem?_set,if_neg eH] at e2
    exact e2
  ·have eH:k≠n:=λz=>by
    have:=K.inj _ _ _ h2 (z ▸ hk); subst this; rw [hx] at h1; cases h1
   rw [getElem?_set,if_neg eH] at h3
   exact fr.free y n d' h1 h2 h3
noncomputable def dQ {α β:Type} (_:Gh) (_:α) (_:β):Prop:=True
set_option tactic.hygienic true in
theorem nj (K:F.Ok) (I:ah V F m C g s) {c:aJ} (hc:F.ctx c) {x:Str} {k:Nat} (hk:dz c x=some k) {d:D} {v:Value} (r:ab V g d v) :
  aF V F A dQ (storeName F.env x v) g s (ft k d ⟨m,C⟩):=by
 unfold ft
 split
 ·unfold dz at hk
  rw [hc.1,hc.2.1] at hk
  split at hk
  ·rename_i hx
   obtain ⟨M,hM,hr⟩:=I.fr.loc
   exact λQ E q=>wpAny_storeName_local (K.kinds x _ hx) hM (λh' hn hs=>q g _ _ (.refl _) (I.localSet K hx hk hM hr hn hs r) trivial) (by rw [K.fn]; rfl)
  ·rename_i hx
   obtain ⟨cc,v₀,h1,h2,h3,_⟩:=I.fr.cell x hx
   exact λQ E q=>wpAny_storeName_cell K.fn (K.kinds x _ hx) h1 h3 λh' hn hs=>q g _ _ (.refl _) (I.JE (t:=s.toks) K hx hk h1 h2 hn hs r) trivial
  ·exact ao hk
 ·trivial
theorem RK (K:F.Ok) {c:aJ} (hc:F.ctx c) {x:Str} {xp p:Pos} {k:Nat} (hk:dz c x=some k) {a:E} {e:Expr} (h:az V F A cl a e) :
  az V F A cl (.kF k a) (.NamedExpr (.Name x xp) e p):=by
 refine .of rfl λm C g s I=>?_
 have e1:ev V.P cl (.kF k a) ⟨m,C⟩=(ev V.P cl a ⟨m,C⟩).bind λx aa=>(ft k x aa).bind λu' ae=>.ok x ae:=by
  show (ev V.P cl a ⟨m,C⟩).bind _=_
  congr 1; funext x aa
  unfold ft
  split<;>rfl
 rw [e1]
 refine ai.seq (h m C g s I).1 (λu' u' x=>wpAny_NamedExpr x) λd st g₁ s₁ v u' u' I₁ r=>?_
 refine ai.seq (nj (A:=A) K I₁ hc hk r) (λu' u' x=>wpAny_assign_Name x) (K:=λu' Q E s=>Q v s) λu' u' g₂ s₂ u' u' bP I₂ u'=>?_
 exact λQ E q=>q _ _ _ (.refl _) I₂ (r.mono bP.toLe)
theorem Ro {a i:E} {x y:Expr} {p:Pos} (hx:az V F A cl a x) (hy:az V F A cl i y):az V F A cl (.idx a i) (.Subscript x y p):=
 .of rfl λm C g s I=>ai.seq (hx m C g s I).1 (λu' u' x=>Subscript_ x) λu' u' u' u' u' u' u' I₁ rx=>
  ai.seq (hy _ _ _ _ I₁).1 (λu' u' x=>x) λu' u' u' u' u' u' bP I₂ ry=>PX I₂ (rx.mono bP.toLe) ry
theorem FJ {f:Expr->E} {o:Option Expr} (h : ∀ e,o=some e->az V F A cl (f e) e) (I:ah V F m C g s):aF V F A (ab V) (evalPart o F.env) g s (ev V.P cl (pE f o) ⟨m,C⟩):=by
 induction o with
 |none=>exact λQ E k=>wpAny_evalPart_none (k g _ _ (.refl _) I .none)
 |some e=>exact (h e rfl m C g s I).1
theorem RE {f:Expr->E} {x:Expr} {lo hi:Option Expr} {sp p:Pos} (hx:az V F A cl (f x) x) (ka : ∀ e,lo=some e->az V F A cl (f e) e) (mC : ∀ e,hi=some e->az V F A cl (f e) e) :
  az V F A cl (.slice (f x) (pE f lo) (pE f hi)) (.Subscript x (.Slice lo hi none sp) p):=by
 refine .of rfl λm C g s I=>?_
 refine ai.seq (hx m C g s I).1 (λu' u' x=>Subscript_ x) λd st g₁ s₁ v u' u' I₁ rx=>?_
 refine ai.seq (FJ ka I₁) (λu' u' x=>wpAny_Slice x) λd1 aa g₂ s₂ v1 u' bP I₂ r1=>?_
 refine ai.seq (FJ mC I₂) (λu' u' x=>x) λd2 ae g₃ s₃ v2 u' gq I₃ r2=>?_
 obtain ⟨q,I₄⟩:=I₃.slice v1 v2
 have L:=(gq.trans q).toLe
 have:=Qh (A:=A) (value:=x) (slice:=.Slice lo hi none sp) I₄ (rx.mono (bP.toLe.trans L)) (r1.mono L) (r2.mono q.toLe) (Heap.IsSliceOf.new _ _ _ _)
 exact ai.go (ai.from q this) λQ E x=>wpAny_evalPart_none x
end
theorem EB (n:Nm):c6 n.str=some n:=by induction n using Nm.casesOn<;>decide +kernel
theorem Nm.inj {a b:Nm} (h:a.str=b.str):a=b:=by
 have:=EB a
 rw [h,EB b] at this
 obtain rfl:=Option.some.inj this; rfl
theorem Gi (x y:Str) (t:Tok):(Value.str x t).isStr y=decide (x=y):=by
 show (x==y)=_
 by_cases h:x=y
 ·subst h; simp
 ·rw [decide_eq_false h]; exact beq_eq_false_iff_ne.mpr h
structure y0 (V:aq) (k:Nat) (c:gZ):Prop where
 get:W.plainGet V.K (V.bw k) ""=true
 set:W.findIn V.K (.ref (V.bw k)) "__setattr__"=some (some (.builtin "object.__setattr__"))
 over:W.plainOver V.K (V.bw k)=true
 meths : ∀ n f,c.meths.lookup n=some f->W.findIn V.K (.ref (V.bw k)) n.str=some (some (.ref (V.ba f)))/\W.typeIn V.K (.ref (V.ba f))=some (.type "function")/\
  W.specialIn V.K (.ref (V.ba f)) "__get__"=some (some (.builtin "function.__get__"))/\W.takesIn V.K (.ref (V.ba f))=some false/\W.copiedNames.contains n.str=false
 init:W.findIn V.K (.ref (V.bw k)) "__init__"=some (some (.ref (V.ba c.init)))
 MZ:W.typeIn V.K (.ref (V.ba c.init))=some (.type "function")
 makes:W.makesIn V.K (V.bw k)=true
 Om:(c.meths.lookup .b9).isSome=true->W.findIn V.K (.ref (V.bw k)) "__len__"=some none/\W.findIn V.K (.ref (V.bw k)) "__length_hint__"=some none
 own:c.slots=none->W.hasDictIn V.K (V.bw k)=true/\∀ n:Nm,n.mL=true->W.findIn V.K (.ref (V.bw k)) n.str=some none/\W.takerIn V.K (V.bw k) n.str=some none
 slots : ∀ ns,c.slots=some ns->(∀ n,ns.contains n=true->∃ p,W.findIn V.K (.ref (V.bw k)) n.str=some (some (.ref p))/\W.slotIn V.K p (V.bw k)=some (V.gV k (ns.idxOf n))/\
  W.typeIn V.K (.ref p)=some (.type "member_descriptor")/\W.specialIn V.K (.ref p) "__get__"=some (some (.builtin "member_descriptor.__get__"))/\W.takesIn V.K (.ref p)=some true/\
  W.takerIn V.K (V.bw k) n.str=some (some (.ref p)))/\(∀ i j,i<ns.length->j<ns.length->V.gV k i=V.gV k j->i=j)/\(∀ i,i<ns.length->V.gV k i<1000)/\(W.clsIn V.K (V.bw k)).isSome=true
noncomputable def aq.c7 (V:aq):Prop := ∀ k c,V.P.dy k=some c->y0 V k c
section
variable {V:aq} {G:aV} {F:aB} {A:Around} {cl:Calls} {m:List (Option D)} {C:af} {g:Gh} {s:Shared}
theorem ah.cZ (B:V.Base) (I:ah V F m C g s):V.K.In s.heap:=λa o h=>I.keep a o (B.cZ a o h)
set_option tactic.hygienic true in
theorem CR {d:D} {v:Value} (r:ab V g d v):W.handedIn v=true:=by
 induction r using ab.casesOn<;>first|rfl|(rename_i b; induction b using Bn.casesOn<;>decide +kernel)
inductive ze (V:aq) (g:Gh) (h:Heap) (k i:Nat) (es:List (Nm × D)) (v:Value):Prop
 |mk (x dx:Addr) (ox:Obj) (ents:List DictEntry) (n:Nat) (e:v=.ref x) (hI:W.InstAt h x ox (V.bw k) (some (W.dictOf ents n))) (h1:ox.dict=some dx) (h2:g dx=some (.cell i)) (h3:h.get? dx=some (W.dictOf ents n))
  (h4:aZ (iI V g) es ents) (h5:(es.map (·.1)).Nodup):ze V g h k i es v
inductive zp (V:aq) (g:Gh) (h:Heap) (k i:Nat) (fs:List (Option D)) (v:Value):Prop
 |mk (x:Addr) (ox:Obj) (e:v=.ref x) (hI:W.InstAt h x ox (V.bw k) (some W.emptyDict)) (h1:g x=some (.cell i)) (h2:h.get? x=some ox) (h3:ox.data=.plain) (h4 : ∃ dx,ox.dict=some dx/\g dx=some (.ay W.emptyDict))
  (h5 : ∀ j,j<fs.length->jo V g (fs[j]?).join (ox.slots[V.gV k j]?).join):zp V g h k i fs v
set_option tactic.hygienic true in
theorem ah.inst (I:ah V F m C g s) {k i:Nat} {v:Value} (r:ab V g (.inst k i) v) {es:List (Nm × D)} (hC:C[i]?=some (.cJ es)) :
  ze V g s.heap k i es v:=by
 cases r with
 |inst h1 h2=>
  rename_i x dx sl
  obtain ⟨b,o,e1,e2,hz,ents,n,rfl,e4,e5⟩:=I.cell _ _ hC
  cases I.uniq _ _ _ h2 e1
  exact ⟨x,dx,_,ents,n,rfl,⟨I.ay _ _ h1,rfl,rfl,e2⟩,rfl,h2,e2,e4,e5⟩
theorem ah.o4 (I:ah V F m C g s) {k i:Nat} {v:Value} (r:ab V g (.loc i) v) {fs:List (Option D)} (hC:C[i]?=some (.slots k fs)) :
  zp V g s.heap k i fs v:=by
 cases r with
 |loc h1=>
  obtain ⟨b,o,e1,e2,h2,⟨dx,h3,h4⟩,h5,h6⟩:=I.cell _ _ hC
  cases I.uniq _ _ _ h1 e1
  refine ⟨_,o,rfl,⟨e2,h2,by unfold W.notCls; rw [h5],?_⟩,h1,e2,h5,⟨dx,h3,h4⟩,h6⟩
  rw [h3]; exact I.ay _ _ h4
theorem aZ.getL {es:List (Nm × D)} {ents:List DictEntry} (h:aZ (iI V g) es ents) (n:Nm) : ∃ o,W.getL n.str ents=some o/\jo V g (es.lookup n) o:=by
 have Ox : ∀ {es:List (Nm × D)} {ents:List DictEntry},aZ (iI V g) es ents->ents.any (·.refKey)=false:=by
  intro es
  induction es with
  |nil=>intro ents h; induction ents using List.casesOn with|nil=>rfl|cons _ _=>exact h.elim
  |cons e es ih=>
   intro ents h
   induction ents using List.casesOn with
   |nil=>exact h.elim
   |cons en ents=>
    obtain ⟨⟨⟨t,hk⟩,_⟩,h2⟩:=h
    rw [any_cons,ih h2,Bool.or_false]
    unfold DictEntry.refKey; rw [hk]
 have find : ∀ {es:List (Nm × D)} {ents:List DictEntry},aZ (iI V g) es ents->jo V g (es.lookup n) ((ents.find? (·.key.isStr n.str)).map (·.val)):=by
  intro es
  induction es with
  |nil=>intro ents h; induction ents using List.casesOn with|nil=>exact trivial|cons _ _=>exact h.elim
  |cons e es ih=>
   intro ents h
   induction ents using List.casesOn with
   |nil=>exact h.elim
   |cons en ents=>
    obtain ⟨⟨⟨t,hk⟩,hv⟩,h2⟩:=h
    obtain ⟨e1,e2⟩:=e
    rw [lookup_cons,List.find?_cons,hk,Gi]
    by_cases q:n=e1
    ·subst q; simp only [beq_self_eq_true,decide_true]; exact hv
    ·have q':(n==e1)=false:=beq_eq_false_iff_ne.mpr q
     have q2:decide (e1.str=n.str)=false:=decide_eq_false λz=>q (Nm.inj z).symm
     simp only [q',q2]
     exact ih h2
 unfold W.getL
 have f:=find h
 induction hf:ents.find? (·.key.isStr n.str) with
 |some en=>rw [hf] at f; exact ⟨_,rfl,f⟩
 |none=>rw [hf] at f; dsimp only; rw [Ox h]; exact ⟨none,rfl,f⟩
theorem PV (B:V.Base) (au:V.c7) (I:ah V F m C g s) {k i:Nat} {n:Nm} {a:Value} {ex:Bool} (hx:ab V g (.inst k i) a) :
  aF V F A (ab V) (getAttr a n.str ex) g s (dq (eU V.P C (.inst k i) n) ⟨m,C⟩):=by
 refine aF.leaf λd hd Q E q=>?_
 obtain ⟨c,hc,hd⟩:=aS hd
 obtain ⟨es,hC,hd⟩:=aS hd
 obtain ⟨hb,hd⟩:=gk hd
 rw [and_eq_true,isNone_iff_eq_none] at hb
 have ok:=au k c hc
 obtain ⟨hD,hN⟩:=ok.own hb.1
 obtain ⟨x,dx,ox,ents,nn,rfl,hI,h1,h2,h3,h4,h5⟩:=I.inst hx (u5 hC)
 obtain ⟨o,ho,hr⟩:=h4.getL n
 rw [hd] at hr
 obtain ⟨v,rfl,hr⟩:=qO hr
 exact W.get_value (I.cZ B) hI (W.plainGet_of ok.get).1 (W.findObj_own (attr:=none) hD (hN n hb.2).1 rfl ho) (CR hr) (q g _ _ (.refl g) (I.tok _) hr)
theorem MN {ns:List Nm} {n:Nm} (h:ns.contains n=true):ns.idxOf n<ns.length:=List.idxOf_lt_length_of_mem (contains_iff_mem.mp h)
theorem PW (B:V.Base) (au:V.c7) (I:ah V F m C g s) {k i:Nat} {n:Nm} {a:Value} {ex:Bool} {fs:List (Option D)} {c:gZ} {ns:List Nm} (hx:ab V g (.loc i) a)
  (hC:C[i]?=some (.slots k fs)) (hc:V.P.dy k=some c) (hs:c.slots=some ns) (hn:ns.contains n=true) :
  aF V F A (ab V) (getAttr a n.str ex) g s (dq (fs[ns.idxOf n]?).join ⟨m,C⟩):=by
 refine aF.leaf λd hd Q E q=>?_
 have ok:=au k c hc
 obtain ⟨H,inj,b7,CT⟩:=ok.slots ns hs
 obtain ⟨p,f1,f2,f3,f4,f5,f6⟩:=H n hn
 obtain ⟨x,ox,rfl,hI,h1,h2,h3,h4,h5⟩:=I.o4 hx hC
 have hj:ns.idxOf n<fs.length:=by
  rcases Nat.lt_or_ge (ns.idxOf n) fs.length with h|h
  ·exact h
  ·rw [getElem?_eq_none h] at hd; exact ao hd
 have hr:=h5 _ hj
 rw [hd] at hr
 obtain ⟨v,hv,hr⟩:=qO hr
 refine W.get_bind (I.cZ B) hI (W.plainGet_of ok.get).1 (W.findObj_data CT f1 f4 f5) (W.plainGet_of ok.get).2 (wpAny_call ?_)
 exact W.slot_get (s:={s with toks:=s.toks+1}) (show V.K.In s.heap from I.cZ B) hI f2 hv (W.handed_on (CR hr) (q g _ _ (.refl g) (I.tok _) hr))
set_option tactic.hygienic true in
theorem OO {prog:Program} {w:World} {A:Around} {K:W.Frag} {x Cc dx:Addr} {ox:Obj} {es:List DictEntry} {n:Nat} {name:Str} {tk:Tok} {v:Value} {R:Result->Shared->Prop} (X:K.In s.heap)
  (I:W.InstAt s.heap x ox Cc (some (W.dictOf es n))) (hd:ox.dict=some dx) (hp:W.plainOver K Cc=true) (ht:W.takerIn K Cc name=some none) (hh:(W.clsIn K Cc).any (·.hasDict)=true)
  (hl:(W.getL name es).isSome=true) (D:s.heap.get? dx=some (W.dictOf es n)) (hz:(W.putL name (PyData.keyHash w.params name) (.str name s.toks) v es).length<=1000)
  (h:R (.ok (.ret .none)) {s with heap:=s.heap.update dx (Obj.putName name (PyData.keyHash w.params name) (.str name s.toks) v),toks:=s.toks+1}) :
  codeAny (model prog w) A (.call (.builtin "object.__setattr__") ⟨[.ref x,.str name tk,v],[]⟩) R s:=by
 refine W.osa_open X I hp ht λb=>?_
 obtain ⟨cd,hc,f9⟩:=W.any_some hh
 have D':(s.heap.update dx (Obj.putName name (PyData.keyHash w.params name) (.str name s.toks) v)).get? dx=some (W.dictOf (W.putL name (PyData.keyHash w.params name) (.str name s.toks) v es) (W.putN name es n)):=by
  rw [<-W.putName_dict]
  refine Heap.get?_update_self _ D ?_
  rw [W.putName_dict]; rfl
 obtain ⟨hx,au,hn,-⟩:=I
 obtain ⟨oc,Tn,EM,OP⟩:=ox
 dsimp only at au hd
 subst au hd
 refine wpAny_bind (wpAny_pure (wpAny_bind (wpAny_bind (wpAny_loadPart hx (wpAny_bind ((W.looks_clsIn X hc).here ?_))))))
 rw [f9]
 refine wpAny_pure (a:=some dx) (wpAny_bind (wpAny_pure (wpAny_bind ?_)))
 unfold nsSet
 refine wpAny_bind (wpAny_bind (wpAny_askSetting (wpAny_pure (wpAny_bind (wpAny_mkText (wpAny_bind (wpAny_loadPart D ?_)))))))
 dsimp only
 have c:(!es.toArray.any (·.key.isStr name)&&es.toArray.any (·.refKey))=false:=by
  rw [<-Array.any_toList,<-Array.any_toList]
  unfold W.getL at hl
  split at hl
  ·rename_i en he
   rw [any_eq_true.mpr ⟨en,mem_of_find?_eq_some he,find?_some he⟩]; rfl
  ·split at hl
   ·exact bA hl
   ·rename_i z; rw [not_eq_true] at z; simp only [z,Bool.and_false]
 rw [aRefKeyMayBeTheName_at,c]
 refine wpAny_updatePart D ?_
 refine wpAny_bind (wpAny_lookBehind D' (pastItsLine_dict (by rw [size_toArray,sizeLine_eq]; omega)) ?_)
 exact wpAny_pure h
theorem Ed {n:Nm} {d:D} : ∀ {es:List (Nm × D)} {x:Nm},x∈(putL n d es).map (·.1)->x=n\/x∈es.map (·.1)
 |[],x,h=>by simp only [putL,map_cons,map_nil,mem_singleton] at h; exact .inl h
 |e::r,x,h=>by
  unfold putL at h
  split at h
  ·exact .inr h
  ·simp only [map_cons,mem_cons] at h ⊢
   rcases h with h|h
   ·exact .inr (.inl h)
   ·rcases Ed h with h|h
    ·exact .inl h
    ·exact .inr (.inr h)
set_option tactic.hygienic true in
theorem EE {n:Nm} {d:D} : ∀ {es:List (Nm × D)},(es.map (·.1)).Nodup->((putL n d es).map (·.1)).Nodup
 |[],_=>by simp [putL]
 |e::r,h=>by
  unfold putL
  split
  ·exact h
  ·rename_i q
   simp only [map_cons,nodup_cons] at h ⊢
   refine ⟨λz=>?_,EE h.2⟩
   rcases Ed z with z|z
   ·exact q (by rw [z]; exact beq_self_eq_true _)
   ·exact h.1 z
theorem DY {α:Type} [BEq α] {n:α} {d:D} : ∀ {es:List (α × D)},(putL n d es).length<=es.length+1
 |[]=>le_refl _
 |e::r=>by
  unfold putL
  split
  ·exact le_succ _
  ·exact succ_le_succ DY
theorem aZ.length {α β:Type} {R:α->β->Prop} : ∀ {as:List α} {bs:List β},aZ R as bs->as.length=bs.length
 |[],[],_=>rfl
 |_::_,_::_,h=>congrArg (· + 1) h.2.length
 |[],_::_,h=>h.elim
 |_::_,[],h=>h.elim
theorem aZ.putL {n:Nm} {d:D} {v:Value} {hs:Int} {t:Tok} (r:ab V g d v) : ∀ {es:List (Nm × D)} {ents:List DictEntry},aZ (iI V g) es ents->
  aZ (iI V g) (Mine.Lake.putL n d es) (W.putL n.str hs (.str n.str t) v ents)
 |[],[],_=>⟨⟨⟨t,rfl⟩,r⟩,trivial⟩
 |e::es,en::ents,h=>by
  obtain ⟨⟨⟨t',hk⟩,hv⟩,h2⟩:=h
  unfold Mine.Lake.putL W.putL
  rw [hk,Gi]
  by_cases q:e.1=n
  ·rw [q]
   simp only [beq_self_eq_true,decide_true,if_true]
   exact ⟨⟨⟨t',rfl⟩,r⟩,h2⟩
  ·have q':(e.1==n)=false:=beq_eq_false_iff_ne.mpr q
   have q2:decide (e.1.str=n.str)=false:=decide_eq_false λz=>q (Nm.inj z)
   simp only [q',q2,false_eq_true,if_false]
   exact ⟨⟨⟨t',hk⟩,hv⟩,aZ.putL r h2⟩
 |[],_::_,h=>h.elim
 |_::_,[],h=>h.elim
set_option tactic.hygienic true in
theorem QP (sl:Array (Option Value)) (i i':Nat) (v:Value):(((sl++Array.replicate (i+1 - sl.size) none).setIfInBounds i (some v))[i']?).join=if i'=i then some v else (sl[i']?).join:=by
 rw [Array.getElem?_setIfInBounds]
 by_cases e:i=i'
 ·subst e
  rw [if_pos rfl,if_pos rfl,if_pos (by simp; omega)]; rfl
 ·rw [if_neg e,if_neg (Ne.symm e)]
  rw [Array.getElem?_append]
  split
  ·rfl
  ·rename_i h
   rw [Array.getElem?_replicate,Array.getElem?_eq_none (le_of_not_lt h)]
   split<;>rfl
open PySem PySem.W PySem.Calls PyProof.Rows Builtin Builtin.ObjectAttr Builtin.Getset_descriptor in
theorem QO {prog:Program} {w:World} {A:Around} {K:W.Frag} {x Cc:Addr} {ox:Obj} {od:Option Obj} {v:Value} {p i:Nat} {R:Result->Shared->Prop} (X:K.In s.heap) (I:W.InstAt s.heap x ox Cc od)
  (hp:W.slotIn K p Cc=some i) (hi:i<1000)
  (h:R (.ok (.ret .none)) {s with heap:=s.heap.update x (λo=>{o with slots:=(o.slots++Array.replicate (i+1 - o.slots.size) none).setIfInBounds i (some v)})}) :
  codeAny (model prog w) A (.call (.builtin "member_descriptor.__set__") ⟨[.ref p,.ref x,v],[]⟩) R s:=by
 obtain ⟨n,tn,owner,behind,tb,d,sl,cd,ho,hc,hm,hb,rfl⟩:=W.slot_of X hp
 obtain ⟨hh,g,dr,t,os⟩:=s
 have L0:=I.type (M:=model prog w)
 have L1:=W.looks_mroIn (M:=model prog w) X hm
 have L2:Looks (model prog w) hh (Slots.slotNamesOf (.ref Cc)) cd.slotNames:=(W.looks_clsIn X hc).andThen .now
 have hx:=I.at_
 dsimp only at ho hx L0 L1
 have f0:=W.looks_field (M:=model prog w) ho 0 (v:=.str n tn) rfl
 have f1:=W.looks_field (M:=model prog w) ho 1 (v:=owner) rfl
 have f3:=W.looks_field (M:=model prog w) ho 3 (v:=.builtin "proto.slot#set") rfl
 have f4:=W.looks_field (M:=model prog w) ho 4 (v:=.int behind tb) rfl
 refine codeAny_call_builtin W.KF.slot_mset.plain W.KF.entry_mset (W.KF.slot_mset.check _ _ _ _ _ _ _ _ ⟨_,ho,rfl⟩ (W.KF.args_mset _ _ _) ?_)
 unfold Builtin.«member_descriptor.__set__» descrSet descrStoreThrough descrCheckInstance descrNameAndClass isInstance
 have f5:Looks (model prog w) hh (descrItself (.ref p)) [.ref p]:=((W.Looks.ld (part:=none) ho).andThen .now).andThen (Looks.of_pure (by kernel_rfl))
 repeat lk
 refine ⟨Code.quiet_builtin _ (by decide +kernel),codeAny_builtin W.KF.entry_slotset ?_⟩
 unfold Builtin.«proto.slot#set» Slots.target
 repeat lk
 rw [if_neg hb]
 refine wpAny_pure (wpAny_bind ?_)
 unfold setSlotAt
 dsimp only
 rw [if_neg (by rw [sizeLine_eq]; omega)]
 exact wpAny_updatePart hx (wpAny_pure h)
theorem QD (B:V.Base) (au:V.c7) (I:ah V F m C g s) {k i:Nat} {n:Nm} {a:Value} {d:D} {v:Value} {c:gZ} {es:List (Nm × D)} (hx:ab V g (.inst k i) a) (hv:ab V g d v) (hc:V.P.dy k=some c)
  (hC:C[i]?=some (.cJ es)) (hs:c.slots=none) (hn:n.mL=true) (hl:es.length<64):aF V F A dQ (setAttr a n.str v) g s (.ok () ⟨m,C.set i (.cJ (putL n d es))⟩):=λQ E q=>by
 have ok:=au k c hc
 obtain ⟨hD,hN⟩:=ok.own hs
 obtain ⟨x,dx,ox,ents,nn,rfl,hI,h1,h2,h3,h4,h5⟩:=I.inst hx hC
 obtain ⟨ov,LX,_⟩:=h4.getL n
 have h6:=aZ.putL (n:=n) (hs:=PyData.keyHash V.w.params n.str) (t:=s.toks+1) hv h4
 have hz:(putL n d es).length<=64:=le_trans DY hl
 refine W.set_plain (I.cZ B) hI ok.set ?_
 refine OO (s:={s with toks:=s.toks+1}) (show V.K.In s.heap from I.cZ B) hI h1 ok.over (hN n hn).2 hD (by rw [LX]; rfl) h3 (le_trans (h6.length ▸ hz) (by decide)) ?_
 have D':(s.heap.update dx (Obj.putName n.str (PyData.keyHash V.w.params n.str) (.str n.str (s.toks+1)) v)).get? dx=some (W.dictOf (W.putL n.str (PyData.keyHash V.w.params n.str) (.str n.str (s.toks+1)) v ents) (W.putN n.str ents nn)):=by
  rw [<-W.putName_dict]
  refine Heap.get?_update_self _ h3 ?_
  rw [W.putName_dict]; rfl
 exact q g () _ (.refl g) (I.cellSet h2 (Heap.SameBut.update ..) D' ⟨hz,_,_,rfl,h6,EE h5⟩) trivial
theorem QE (B:V.Base) (au:V.c7) (I:ah V F m C g s) {k i:Nat} {n:Nm} {a:Value} {d:D} {v:Value} {c:gZ} {fs:List (Option D)} {ns:List Nm} (hx:ab V g (.loc i) a) (hv:ab V g d v) (hc:V.P.dy k=some c)
  (hC:C[i]?=some (.slots k fs)) (hs:c.slots=some ns) (hn:ns.contains n=true) (hl:fs.length=ns.length):aF V F A dQ (setAttr a n.str v) g s (.ok () ⟨m,C.set i (.slots k (fs.set (ns.idxOf n) (some d)))⟩):=λQ E q=>by
 have ok:=au k c hc
 obtain ⟨H,inj,b7,CT⟩:=ok.slots ns hs
 obtain ⟨p,f1,f2,f3,f4,f5,f6⟩:=H n hn
 obtain ⟨x,ox,rfl,hI,h1,h2,h3,h4,h5⟩:=I.o4 hx hC
 have hj:=MN hn
 refine W.set_plain (I.cZ B) hI ok.set ?_
 refine W.osa_descr (s:={s with toks:=s.toks+1}) W.KF.slot_mset (show V.K.In s.heap from I.cZ B) hI ok.over f6 f3 ?_
 refine QO (s:={s with toks:=s.toks+1}) (show V.K.In s.heap from I.cZ B) hI f2 (b7 _ hj) ?_
 have D':=Heap.get?_update_self (λo=>{o with slots:=(o.slots++Array.replicate (V.gV k (ns.idxOf n)+1 - o.slots.size) none).setIfInBounds (V.gV k (ns.idxOf n)) (some v)}) h2 (by show Obj.isFreed _=false; unfold Obj.isFreed; simp only [h3])
 refine q g () _ (.refl g) (I.cellSet h1 (Heap.SameBut.update ..) D' ⟨hI.cls,h4,h3,λj sX=>?_⟩) trivial
 rw [length_set] at sX
 rw [QP,getElem?_set]
 by_cases e:ns.idxOf n=j
 ·subst e
  rw [if_pos rfl,if_pos rfl,if_pos sX]
  exact hv
 ·rw [if_neg e,if_neg λz=>e (inj _ _ hj (hl ▸ sX) z.symm)]
  exact h5 j sX
theorem FL (B:V.Base) (au:V.c7) (I:ah V F m C g s) {o:D} {n:Nm} {a:Value} {d:D} {v:Value} (hx:ab V g o a) (hv:ab V g d v) :
  aF V F A dQ (setAttr a n.str v) g s (gS (fq V.P o n d C) m):=by
 induction ho:fq V.P o n d C with
 |none=>trivial
 |some C'=>
  show aF V F A dQ (setAttr a n.str v) g s (.ok () ⟨m,C'⟩)
  induction o using D.casesOn<;>first|exact ao ho|skip
  ·obtain ⟨ch,hC,ho⟩:=aS ho
   induction ch using Ch.casesOn<;>first|exact ao ho|skip
   obtain ⟨c,hc,ho⟩:=aS ho
   obtain ⟨ns,hs,ho⟩:=aS ho
   obtain ⟨hb,ho⟩:=gk ho
   rw [and_eq_true,decide_eq_true_eq] at hb
   obtain rfl:=Option.some.inj ho
   exact QE B au I hx hv hc hC hs hb.1 hb.2
  ·obtain ⟨c,hc,ho⟩:=aS ho
   obtain ⟨es,hC,ho⟩:=aS ho
   obtain ⟨hb,ho⟩:=gk ho
   rw [and_eq_true,and_eq_true,isNone_iff_eq_none,decide_eq_true_eq] at hb
   obtain rfl:=Option.some.inj ho
   exact QD B au I hx hv hc (u5 hC) hb.1.1 hb.1.2 hb.2
end
end Mine.Lake
end
section
set_option maxRecDepth 100000
open PySem PySem.W PySem.Calls PyProof.Rows Builtin
namespace Mine.Lake
namespace AB
theorem slot_get:Slot "wrapper_descriptor" "__get__" "wrapper_descriptor.__get__":=
 .of (owner:="wrapper_descriptor") (n:="__get__") (by rw [typeLookup_type,builtinLookup_eq_fast]; kernel_rfl) (by decide +kernel) (by decide +kernel) (by decide +kernel)
  (by first|exact .inl (by decide +kernel)|exact .inr (by decide +kernel)) (by rw [isSubtype_type]; kernel_rfl)
theorem Je:entryFor table "wrapper_descriptor.__get__"=some Builtin.«wrapper_descriptor.__get__» := entryFor_of_tree (by kernel_rfl)
theorem Hi (a b c:Value):argsOk "wrapper_descriptor.__get__" ⟨[a,b,c],[]⟩:=by unfold argsOk; kernel_rfl
theorem Sp:typeOf (.builtin "list.__contains__")=pure (.type "wrapper_descriptor"):=by show builtinType _=_; rw [builtinType_eq_fast]; kernel_rfl
theorem Sq:typeOf (.builtin "list_iterator.__next__")=pure (.type "wrapper_descriptor"):=by show builtinType _=_; rw [builtinType_eq_fast]; kernel_rfl
theorem Ow:typeLookup (.type "wrapper_descriptor") "__set__"=pure none:=by rw [typeLookup_type,builtinLookup_eq_fast]; kernel_rfl
theorem Ov:typeLookup (.type "wrapper_descriptor") "__delete__"=pure none:=by rw [typeLookup_type,builtinLookup_eq_fast]; kernel_rfl
theorem NA:typeLookup (.type "wrapper_descriptor") "__get__"=pure (some (.builtin "wrapper_descriptor.__get__")):=slot_get.lookup
theorem NB:typeLookup (.type "list") "__contains__"=pure (some (.builtin "list.__contains__")):=by rw [typeLookup_type,builtinLookup_eq_fast]; kernel_rfl
theorem NC:typeLookup (.type "list_iterator") "__next__"=pure (some (.builtin "list_iterator.__next__")):=by rw [typeLookup_type,builtinLookup_eq_fast]; kernel_rfl
theorem NG {M:Model} {h:Heap} {v:Value} (ht:typeOf v=pure (.type "wrapper_descriptor")):Looks M h (ObjectAttr.takesStores v) false:=by
 unfold ObjectAttr.takesStores
 have s1:Looks M h (specialOf v (Str.ofString "__set__")) none:=(Looks.of_pure ht).andThen (Looks.of_pure Ow)
 have s2:Looks M h (specialOf v (Str.ofString "__delete__")) none:=(Looks.of_pure ht).andThen (Looks.of_pure Ov)
 refine s1.andThen ?_
 simp only [Option.isSome_none,false_eq_true,if_false]
 exact s2.andThen .now
theorem ND {M:Model} {h:Heap} {a:Addr} {o:Obj} {T:String} {name:Str} {id:String} (hx:h.get? a=some o) (hc:o.cls=.type T) (hn:W.notCls o=true) (hd:o.dict=none)
  (hl:typeLookup (.type T) name=pure (some (.builtin id))) (ht:typeOf (.builtin id)=pure (.type "wrapper_descriptor")) (hg:W.copiedNames.contains name=false) :
  Looks M h (ObjectAttr.find (.ref a) (.type T) name) (.bind (.builtin "wrapper_descriptor.__get__") (.builtin id)):=by
 obtain ⟨oc,od,EM,OP⟩:=o
 dsimp only at hc hd
 subst hc hd
 unfold ObjectAttr.find
 refine (Looks.of_pure hl).andThen ?_
 refine (show Looks M h (ObjectAttr.getOf _) (some (.builtin "wrapper_descriptor.__get__")) from (Looks.of_pure ht).andThen (Looks.of_pure NA)).andThen ?_
 refine (show Looks M h (ObjectAttr.dataDescriptor? _ _) none from by
  show Looks M h (ObjectAttr.takesStores (.builtin id) >>= λr=>if r=true then _ else _) none
  refine (NG ht).andThen ?_
  simp only [false_eq_true,if_false]
  exact .now).andThen ?_
 unfold ObjectAttr.ownThenClass
 have L:Looks M h (instanceDict a false) none:=by
  unfold instanceDict
  exact (Looks.ld hx).andThen .now
 have L1:Looks M h (ObjectAttr.ownDict a) none:=by
  unfold ObjectAttr.ownDict
  refine (Looks.ld hx).andThen ?_
  induction EM using Data.casesOn<;>first|exact L|exact bA hn
 refine (show Looks M h (ObjectAttr.inOwnDict name (.ref a)) none from L1.andThen .now).andThen ?_
 have mA:(["__module__","__name__","__qualname__","__doc__","__annotations__"]:List Str).contains name=false:=hg
 refine (show Looks M h (ObjectAttr.copiedAttributeGuard name (.ref a)) () from by
  unfold ObjectAttr.copiedAttributeGuard
  simp only [mA]
  exact .now).andThen ?_
 exact Looks.tag .now
section
variable {prog:Program} {w:World} {A:Around} {E:Value->Shared->Prop} {s:Shared}
theorem HK {a:Addr} {P:Fin->Shared->Prop} (hs:Looks (model prog w) s.heap (isInstance (.ref a) (.type "list")) true)
  (h:P (.done (.ret (.ref s.heap.objs.size))) {s with heap:=s.heap.push {cls:=.type "method-wrapper",data:=.fields #[.builtin "list.__contains__",.ref a]}}) :
  wpAny (model prog w) A (Builtin.«wrapper_descriptor.__get__» ⟨[.builtin "list.__contains__",.ref a,.type "list"],[]⟩) P E s:=by
 unfold Builtin.«wrapper_descriptor.__get__»
 refine wpAny_bind (wpAny_of_eq (a:=(.builtin "list.__contains__",some (.ref a),some (.type "list"))) (by first|rfl|kernel_rfl) ?_)
 refine wpAny_bind ?_
 refine wpAny_bind (wpAny_of_eq (a:=((Str.ofString "__contains__"),Value.type "list")) (by first|rfl|kernel_rfl) ?_)
 refine wpAny_bind (hs.here ?_)
 refine wpAny_pure ?_
 exact wpAny_bind (wpAny_newObj_type (wpAny_pure h))
theorem HL {a:Addr} {P:Fin->Shared->Prop} (hs:Looks (model prog w) s.heap (isInstance (.ref a) (.type "list_iterator")) true)
  (h:P (.done (.ret (.ref s.heap.objs.size))) {s with heap:=s.heap.push {cls:=.type "method-wrapper",data:=.fields #[.builtin "list_iterator.__next__",.ref a]}}) :
  wpAny (model prog w) A (Builtin.«wrapper_descriptor.__get__» ⟨[.builtin "list_iterator.__next__",.ref a,.type "list_iterator"],[]⟩) P E s:=by
 unfold Builtin.«wrapper_descriptor.__get__»
 refine wpAny_bind (wpAny_of_eq (a:=(.builtin "list_iterator.__next__",some (.ref a),some (.type "list_iterator"))) (by first|rfl|kernel_rfl) ?_)
 refine wpAny_bind ?_
 refine wpAny_bind (wpAny_of_eq (a:=((Str.ofString "__next__"),Value.type "list_iterator")) (by first|rfl|kernel_rfl) ?_)
 refine wpAny_bind (hs.here ?_)
 refine wpAny_pure ?_
 exact wpAny_bind (wpAny_newObj_type (wpAny_pure h))
theorem Iw:W.copiedNames.contains (Str.ofString "__contains__")=false:=by decide +kernel
theorem Iy:W.copiedNames.contains (Str.ofString "__next__")=false:=by decide +kernel
set_option maxHeartbeats 4000000 in
theorem CB {T id gid:String} {name:Str} {a:Addr} {o:Obj} {Q:Value->Shared->Prop} (hx:s.heap.get? a=some o) (hc:o.cls=.type T) (hn:W.notCls o=true) (hd:o.dict=none)
  (hl:typeLookup (.type T) name=pure (some (.builtin id))) (ht:typeOf (.builtin id)=pure (.type "wrapper_descriptor")) (hg:W.copiedNames.contains name=false)
  (sg:Slot T "__getattribute__" gid) (eg:entryFor table gid=some Builtin.«object.__getattribute__») (ag : ∀ a b,argsOk gid ⟨[a,b],[]⟩)
  (fin : ∀ {P:Fin->Shared->Prop} {A':Around} {E':Value->Shared->Prop} {s':Shared},s'.heap=s.heap->P (.done (.ret (.ref s'.heap.objs.size))) {s' with heap:=s'.heap.push {cls:=.type "method-wrapper",data:=.fields #[.builtin id,.ref a]}}->
   wpAny (model prog w) A' (Builtin.«wrapper_descriptor.__get__» ⟨[.builtin id,.ref a,.type T],[]⟩) P E' s')
  (h:Q (.ref s.heap.objs.size) {s with heap:=s.heap.push {cls:=.type "method-wrapper",data:=.fields #[.builtin id,.ref a]},toks:=s.toks+1}) :
  wpAny (model prog w) A (getAttr (.ref a) name true) Q E s:=by
 obtain ⟨hp,g,d,tk,os⟩:=s
 dsimp only at hx fin
 have lf := @ND (model prog w) hp a o T name id hx hc hn hd hl ht hg
 have hT : ∀ yI,(⟨hp,g,d,yI,os⟩:Shared).TypeIs (.ref a) T:=λu'=>⟨_,hx,hc⟩
 have lT:Looks (model prog w) hp (typeOf (.ref a)) (.type T):=hc ▸ (Looks.ld hx).andThen .now
 have f3:=sg.lookup
 have f4:=sg.bind (.ref a)
 unfold getAttr getAttrBy
 refine wpAny_bind (wpAny_mkText (wpAny_holding (wpAny_bind (lT.at (wpAny_bind (wpAny_of_eq f3 ?_))))))
 dsimp only
 rw [if_neg (show ¬ ((onTheHeap (.type T)&&Value.builtin gid==Value.builtin "object.__getattribute__")=true) by rw [show onTheHeap (.type T)=false from rfl]; exact Bool.false_ne_true)]
 unfold getAttrByItsOwn
 refine wpAny_bind (wpAny_of_eq (a:=none) rfl ?_)
 refine wpAny_bind (wpAny_attempt (wpAny_holding ?_))
 unfold callGetattribute
 rw [if_neg (show ¬ ((true&&onTheHeap (Value.builtin gid))=true) by rw [show onTheHeap (Value.builtin gid)=false from rfl]; exact Bool.false_ne_true)]
 unfold boundAndCalled
 refine wpAny_bind (wpAny_of_eq f4 ?_)
 refine wpAny_call_entry sg (hT _) eg ?_ (ag _ _)
 unfold Builtin.«object.__getattribute__»
 refine wpAny_bind (wpAny_of_eq (a:=(.ref a,[Value.str name tk])) (by first|rfl|kernel_rfl) ?_)
 refine wpAny_bind (wpAny_of_eq (a:=name) (by first|rfl|kernel_rfl) ?_)
 refine wpAny_bind (lT.at ?_)
 refine wpAny_bind (lf.at ?_)
 show wpAny _ _ (holding [Value.builtin id] (call (.builtin "wrapper_descriptor.__get__") [.builtin id,.ref a,.type T]) >>= λv=>ret v) _ _ _
 refine wpAny_bind (wpAny_holding (wpAny_call_entry slot_get ht Je ?_ (Hi _ _ _)))
 refine fin rfl ⟨_,rfl,?_⟩
 refine wpAny_pure ⟨_,rfl,?_⟩
 exact wpAny_pure h
theorem R3:isSubtype (.type "list") (.type "list")=pure true:=by rw [isSubtype_type]; kernel_rfl
theorem R0:isSubtype (.type "list_iterator") (.type "list_iterator")=pure true:=by rw [isSubtype_type]; kernel_rfl
theorem QN:Slot "list_iterator" "__getattribute__" "object.__getattribute__":=
 .of (owner:="object") (n:="__getattribute__") (by rw [typeLookup_type,builtinLookup_eq_fast]; kernel_rfl) (by decide +kernel) (by decide +kernel) (by decide +kernel)
  (by first|exact .inl (by decide +kernel)|exact .inr (by decide +kernel)) (by rw [isSubtype_type]; kernel_rfl)
theorem Hj (a b:Value):argsOk "object.__getattribute__" ⟨[a,b],[]⟩:=by unfold argsOk; kernel_rfl
theorem Jf:entryFor table "object.__getattribute__"=some Builtin.«object.__getattribute__» := entryFor_of_tree (by kernel_rfl)
theorem Kh {a:Addr} {o:Obj} {Q:Value->Shared->Prop} (hx:s.heap.get? a=some o) (hc:o.cls=.type "list") (hn:W.notCls o=true) (hd:o.dict=none)
  (h:Q (.ref s.heap.objs.size) {s with heap:=s.heap.push {cls:=.type "method-wrapper",data:=.fields #[.builtin "list.__contains__",.ref a]},toks:=s.toks+1}) :
  wpAny (model prog w) A (getAttr (.ref a) (Str.ofString "__contains__") true) Q E s:=by
 have lI:Looks (model prog w) s.heap (isInstance (.ref a) (.type "list")) true:=(hc ▸ (Looks.ld hx).andThen .now:Looks (model prog w) s.heap (typeOf (.ref a)) (.type "list")).andThen (Looks.of_pure R3)
 refine CB (T:="list") (id:="list.__contains__") (gid:="list.__getattribute__") hx hc hn hd NB Sp Iw F.slot_list_getattribute am_entry_list_getattribute F.args_list_getattribute_2 (λ{P A' E' s'} e z=>HK (e ▸ lI) z) h
theorem Ki {a:Addr} {o:Obj} {Q:Value->Shared->Prop} (hx:s.heap.get? a=some o) (hc:o.cls=.type "list_iterator") (hn:W.notCls o=true) (hd:o.dict=none)
  (h:Q (.ref s.heap.objs.size) {s with heap:=s.heap.push {cls:=.type "method-wrapper",data:=.fields #[.builtin "list_iterator.__next__",.ref a]},toks:=s.toks+1}) :
  wpAny (model prog w) A (getAttr (.ref a) (Str.ofString "__next__") true) Q E s:=by
 have lI:Looks (model prog w) s.heap (isInstance (.ref a) (.type "list_iterator")) true:=(hc ▸ (Looks.ld hx).andThen .now:Looks (model prog w) s.heap (typeOf (.ref a)) (.type "list_iterator")).andThen (Looks.of_pure R0)
 refine CB (T:="list_iterator") (id:="list_iterator.__next__") (gid:="object.__getattribute__") hx hc hn hd NC Sq Iy QN Jf Hj (λ{P A' E' s'} e z=>HL (e ▸ lI) z) h
end
end AB
end Mine.Lake
end
section
open PySem PyProof.Rows
namespace Mine.Lake
theorem Oi : ∀ p∈EA,p.1=p.2.str:=by decide +kernel
set_option tactic.hygienic true in
theorem D3 {β:Type} : ∀ {l:List (Str × β)} {x:Str} {b:β},l.lookup x=some b->(x,b)∈l
 |[],_,_,h=>by exact ao h
 |e::r,x,b,h=>by
  rw [lookup_cons] at h
  split at h
  ·rename_i q
   obtain rfl:=Option.some.inj h
   rw [eq_of_beq q]
   exact .head _
  ·exact .tail _ (D3 h)
theorem mZ {x:Str} {n:Nm} (h:c6 x=some n):x=n.str:=Oi _ (D3 h)
section
variable {V:aq} {G:aV} {F:aB} {A:Around} {cl:Calls} {m:List (Option D)} {C:af} {g:Gh} {s:Shared}
inductive yZ (V:aq) (g:Gh) (h:Heap) (i:Nat) (ds:List D) (v:Value):Prop
 |mk (a:Addr) (vs:List Value) (n:Nat) (e:v=.ref a) (hg:g a=some (.cell i)) (hl:IsL h a vs.toArray n) (hz:vs.length<=aD) (rs:aE V g ds vs):yZ V g h i ds v
theorem ah.lH (I:ah V F m C g s) {i:Nat} {v:Value} (r:ab V g (.loc i) v) {ds:List D} (hC:C[i]?=some (.list ds)):yZ V g s.heap i ds v:=by
 cases r with
 |loc h1=>
  obtain ⟨b,o,e1,e2,vs,⟨hl,n,rfl⟩,e4⟩:=I.cell _ _ hC
  cases I.uniq _ _ _ h1 e1
  exact ⟨_,vs,n,rfl,h1,e2,hl,e4⟩
theorem ah.ku (I:ah V F m C g s) (o:Obj) (hf:o.isFreed=false) (t:Nat):g.Step (g.put s.heap.objs.size (some (.ay o)))/\ah V F m C (g.put s.heap.objs.size (some (.ay o))) {s with heap:=s.heap.push o,toks:=t}:=
 ⟨Gh.nv I.fw,I.xO o hf t⟩
theorem P8 (I:ah V F m C g s) {i:Nat} {a:Value} {src:D} {p:Nat} (hx:ab V g (.loc i) a) (hC:C[i]?=some (.bj src p)) (hs:(aU C src).isSome=true) :
  aF V F A (ab V) (getAttr a (Str.ofString "__next__") true) g s (.ok (.bm .b9 (.loc i)) ⟨m,C⟩):=λQ E q=>by
 obtain ⟨l,h1,rfl⟩:=hx.gd
 obtain ⟨b,o,e1,e2,e3⟩:=I.cell _ _ hC
 cases I.uniq _ _ _ h1 e1
 have vI : ∃ v t,eQ "list_iterator" [v,.int p t] o/\ab V g src v:=by
  induction src using D.casesOn<;>first|exact e3|exact bA hs
 obtain ⟨v,t,rfl,_⟩:=vI
 refine AB.Ki e2 rfl rfl rfl ?_
 obtain ⟨st,I'⟩:=I.ku {cls:=.type "method-wrapper",data:=.fields #[.builtin "list_iterator.__next__",.ref l]} rfl (s.toks+1)
 exact q _ _ _ st I' (.nM (Gh.bu ..) rfl (.loc (st.toLe.cell _ _ h1)))
theorem FA (B:V.Base) (au:V.c7) (I:ah V F m C g s) {o:D} {n:Nm} {a:Value} (hx:ab V g o a) :
  aF V F A (ab V) (getAttr a n.str true) g s (dq (eU V.P C o n) ⟨m,C⟩):=by
 have contains : ∀ {d:D},ab V g d a->(∃ l vs k,a=.ref l/\IsL s.heap l vs k)->aF V F A (ab V) (getAttr a (Str.ofString "__contains__") true) g s (.ok (.bm .bg d) ⟨m,C⟩):=λ{d} hr ⟨l,vs,k,e,hl⟩ Q E q=>by
  subst e
  refine AB.Kh hl rfl rfl rfl ?_
  obtain ⟨st,I'⟩:=I.ku {cls:=.type "method-wrapper",data:=.fields #[.builtin "list.__contains__",.ref l]} rfl (s.toks+1)
  exact q _ _ _ st I' (.nL (Gh.bu ..) rfl (hr.mono st.toLe))
 induction o using D.casesOn with
 |inst k i=>exact PV B au I hx
 |lst ds=>
  induction n using Nm.casesOn<;>first|trivial|skip
  obtain ⟨l,vs,k,e,hl,_⟩:=I.list hx (ds:=ds) rfl
  exact contains hx ⟨l,_,k,e,hl⟩
 |loc i=>
  refine aF.opt λd hd=>?_
  obtain ⟨ch,hC,hd⟩:=aS hd
  induction ch using Ch.casesOn<;>first|exact ao hd|skip
  ·induction n using Nm.casesOn<;>first|exact ao hd|skip
   obtain rfl:=Option.some.inj hd
   obtain ⟨l,vs,k,e,_,hl,_⟩:=I.lH hx hC
   exact contains hx ⟨l,_,k,e,hl⟩
  ·obtain ⟨c,hc,hd⟩:=aS hd
   obtain ⟨ns,hs,hd⟩:=aS hd
   obtain ⟨hn,hd⟩:=gk hd
   have:=PW (A:=A) (ex:=true) B au I hx hC hc hs hn
   rw [hd] at this; exact this
  ·induction n using Nm.casesOn<;>first|exact ao hd|skip
   obtain ⟨hs,hd⟩:=gk hd
   obtain rfl:=Option.some.inj hd
   exact P8 I hx hC hs
 |_=>trivial
theorem vd {o:Expr} {attr:Str} {env:Env} {w:Sem Value} (h:mM o=false):attributeBase o attr env w=w:=by
 induction o using Expr.casesOn with
 |Call f as ks q=>induction f using Expr.casesOn<;>first|rfl|(induction as using List.casesOn<;>first|rfl|(induction ks using List.casesOn<;>first|exact fT h|rfl))
 |_=>rfl
theorem Q8 (B:V.Base) (au:V.c7) {v:Expr} {attr:Str} {n:Nm} {p:Pos} {a:E} (hv:mM v=false) (hn:c6 attr=some n) (h:az V F A cl a v) :
  az V F A cl (.attr a n) (.Attribute v attr p):=by
 have e:=mZ hn
 subst e
 refine .of rfl λm C g s I=>?_
 refine ai.seq (h m C g s I).1 (λQ E x=>Attribute_any_ x ?_) λd st g₁ s₁ w u' u' I₁ r=>FA B au I₁ r
 show (do let o <-attributeBase v n.str F.env (eval v F.env); _)=_
 rw [vd hv]
theorem vo {M:Model} {A:Around} {E:Value->Shared->Prop} {s:Shared} {pos:Pos} {f:Value} {first:List Value} {args:List (Bool × Sem Value)} {keywords:List (Option Str × Sem Value)} {Q:Value->Shared->Prop}
  (h:wpAny M A (evalArgs f true args keywords) (λa s₁=>(∃ k,W.Looks M s₁.heap (keeperOf f) k)/\wpAny M A (call f (first++a.pos) a.kw) Q E s₁) E s):wpAny M A (callWith pos f first args keywords) Q E s:=by
 unfold callWith
 refine wpAny_bind (wpAny_holding (wpAny_mono h (λa s₁ h₁=>wpAny_bind (wpAny_standAt ?_)) λu' u' x=>x))
 obtain ⟨⟨k,L⟩,h₁⟩:=h₁
 refine wpAny_bind (L.here ?_)
 have tail : ∀ {t:Sem Value},wpAny M A t Q E s₁->wpAny M A (t >>= λr=>holding [r] point >>= λu'=>pure r) Q E s₁:=
  λht=>wpAny_bind (wpAny_mono ht (λr s₂ hr=>wpAny_bind (wpAny_holding (wpAny_point (wpAny_pure hr)))) λu' u' x=>x)
 have marked (mk:Value):wpAny M A (callMarked mk f (first++a.pos) a.kw) Q E s₁:=by unfold callMarked; exact Calls.wpAny_keep h₁
 have OL (vs:List Value):wpAny M A (operate vs (call f (first++a.pos) a.kw)) Q E s₁:=SF h₁
 induction (args.any (·.1)||keywords.any (·.1.isNone))<;>cases k<;>dsimp only<;>first|exact tail h₁|exact tail (OL _)|exact tail (marked _)|(split<;>first|exact tail h₁|exact tail (marked _))
noncomputable def gw (V:aq) (g:Gh):List (Nm × D)->List (Str × Value)->Prop:=aZ λa b=>b.1=a.1.str/\ab V g a.2 b.2
theorem gw.mono {g g':Gh} (L:g.Le g') {a:List (Nm × D)} {b:List (Str × Value)} (h:gw V g a b):gw V g' a b:=aZ.imp (λu' u' x=>⟨x.1,x.2.mono L⟩) h
theorem gw.snoc {V:aq} {g:Gh} {n:Nm} {d:D} {v:Value} (r:ab V g d v) : ∀ {a:List (Nm × D)} {b:List (Str × Value)},gw V g a b->gw V g (a++[(n,d)]) (b++[(n.str,v)])
 |[],[],_=>⟨⟨rfl,r⟩,trivial⟩
 |_::_,_::_,h=>⟨h.1,gw.snoc r h.2⟩
 |[],_::_,h=>h.elim
 |_::_,[],h=>h.elim
noncomputable def dv (M:Model) (A:Around) (f:Value) (pos:List Value) (kw:List (Str × Value)):Tr Value:=λQ E s=>(∃ k,W.Looks M s.heap (keeperOf f) k)/\wpAny M A (call f pos kw) Q E s
noncomputable def rK (V:aq) (F:aB) (A:Around) (cl:Calls):Prop := ∀ {m C g s} {f:D} {v:Value} {ds:List D} {vs:List Value} {ks:List (Nm × D)} {ax:List (Str × Value)},ah V F m C g s->ab V g f v->aE V g ds vs->gw V g ks ax->
 ai V F (ab V) (dv V.M A v vs ax) g s (ma V.P cl f ds ks ⟨m,C⟩)
theorem ve {p:Pos} {trees:List (Bool × Sem Value)}:(backTo p trees).any (·.1)=trees.any (·.1):=by
 unfold backTo; rw [List.any_map]; rfl
theorem uB {env:Env} : ∀ {es:List Expr},es.any dW=false->(starEach es env).any (·.1)=false
 |[],_=>rfl
 |e::r,h=>by
  rw [any_cons,or_eq_false_iff] at h
  rw [o7 h.1,any_cons,uB h.2]; rfl
theorem DU {p:Pos} {env:Env} {f:Expr->E} : ∀ {ks:List Keyword},(∀ k∈ks,∃ n,k.arg.bind c6=some n)->(backToKw p (keywordEach ks env)).all (·.1.isSome)=true
 |[],_=>rfl
 |⟨n,v,q⟩::r,h=>by
  obtain ⟨a,ha⟩:=h _ (.head _)
  have:n.isSome=true:=by induction n with|none=>exact ao ha|some _=>rfl
  show (n.isSome&&_)=true
  rw [this,Bool.true_and]
  exact DU (f:=f) λk hk=>h k (.tail _ hk)
theorem BS {M:Model} {A:Around} {E:Value->Shared->Prop} {s:Shared} {f:Value} {args:List (Bool × Sem Value)} {keywords:List (Option Str × Sem Value)} {Q:Args->Shared->Prop} (hs:args.any (·.1)=false)
  (jA:keywords.all (·.1.isSome)=true)
  (h:wpAny M A (spliced args) (λvs s₁=>wpAny M A (evalAll (keywords.map (·.2))) (λks s₂=>Q ⟨vs,(keywords.filterMap (·.1)).zip ks⟩ s₂) E s₁) E s) :
  wpAny M A (evalArgs f true args keywords) Q E s:=by
 match args,hs with
 |[],_=>
  unfold evalArgs
  show wpAny M A (spliced [] >>= _) Q E s
  refine wpAny_bind (wpAny_mono h (λvs s₁ h₁=>?_) λu' u' x=>x)
  refine wpAny_bind (wpAny_pure (wpAny_holding ?_))
  simp only [jA,if_true]
  refine wpAny_bind (wpAny_mono h₁ (λks s₂ h₂=>?_) λu' u' x=>x)
  exact wpAny_bind (wpAny_pure (wpAny_pure h₂))
 |(false,x)::r,_=>exact evalArgs_kw jA h
 |(true,_)::_,hs=>exact fT hs
set_option tactic.hygienic true in
theorem FG {f:Expr->E} {p:Pos} (fI:rK V F A cl) {fd:D} {fv:Value} : ∀ (ks:List Keyword) (g0:Gh),(∀ k∈ks,az V F A cl (f k.value) k.value)->∀ (ds:List D) (vs:List Value) (acc:List (Nm × D)) (ax:List (Str × Value)) m C g s,
  ab V g fd fv->aE V g ds vs->gw V g acc ax->ah V F m C g s->
  ai V F (ab V) (λQ E s₁=>wpAny V.M A (evalAll ((backToKw p (keywordEach ks F.env)).map (·.2))) (λus s₂=>dv V.M A fv vs (ax++((backToKw p (keywordEach ks F.env)).filterMap (·.1)).zip us) Q E s₂) E s₁) g s (sr V.P cl fd ds acc (l9 f ks) ⟨m,C⟩)
 |[],_,_,ds,vs,acc,ax,m,C,g,s,rf,rd,rk,I=>by
  have:=fI I rf rd rk
  exact this.wp λQ E x=>wpAny_evalAll_nil ((append_nil ax).symm ▸ x)
 |⟨n,v,q⟩::r,g0,h,ds,vs,acc,ax,m,C,g,s,rf,rd,rk,I=>by
  unfold l9
  split
  ·rename_i a ha
   have ih:=FG fI (fd:=fd) (fv:=fv) (p:=p) r g0 λk hk=>h k (.tail _ hk)
   obtain ⟨nn,rfl,hn⟩ : ∃ nn,n=some nn/\c6 nn=some a:=by
    induction n with
    |none=>exact ao ha
    |some nn=>exact ⟨nn,rfl,ha⟩
   have en:=mZ hn
   subst en
   show ai _ _ _ _ _ _ ((ev V.P cl (f v) ⟨m,C⟩).bind _)
   refine ai.seq (h _ (.head _) m C g s I).1 (λQ E x=>?_) λd st g₁ s₁ u u' dP I₁ ru=>ih ds vs (acc++[(a,d)]) (ax++[(a.str,u)]) _ _ _ _ (rf.mono dP.toLe) (rd.mono dP.toLe) ((rk.mono dP.toLe).snoc ru) I₁
   show wpAny _ _ (evalAll ((eval v F.env >>= λv=>standAt p >>= λu'=>pure v)::_)) _ _ _
   refine wpAny_evalAll_cons (wpAny_bind (wpAny_mono x (λu s₁ y=>wpAny_bind (wpAny_standAt (wpAny_pure ?_))) λu' u' y=>y))
   refine wpAny_mono y (λus s₂ z=>?_) λu' u' z=>z
   have e:ax++[(a.str,u)]++((backToKw p (keywordEach r F.env)).filterMap (·.1)).zip us=ax++((backToKw p (keywordEach (⟨some a.str,v,q⟩::r) F.env)).filterMap (·.1)).zip (u::us):=by
    exact append_assoc _ _ _
   rw [<-e]; exact z
  ·trivial
end
section
variable {V:aq} {G:aV} {F:aB} {A:Around} {cl:Calls} {m:List (Option D)} {C:af} {g:Gh} {s:Shared}
noncomputable def u0 (V:aq) (F:aB) (A:Around) (cl:Calls) (c:E) (e:Expr):Prop := ∀ m C g s,ah V F m C g s->aF V F A (ab V) (eval e F.env) g s (ev V.P cl c ⟨m,C⟩)
theorem az.val {c:E} {e:Expr} (h:az V F A cl c e):u0 V F A cl c e:=λm C g s I=>(h m C g s I).1
inductive fD (V:aq) (F:aB) (A:Around) (cl:Calls):Es->List Expr->Prop
 |nil:fD V F A cl .nil []
 |cons {c:E} {cs:Es} {e:Expr} {es:List Expr}:dW e=false->u0 V F A cl c e->fD V F A cl cs es->fD V F A cl (.cons c cs) (e::es)
theorem yu {p:Pos} : ∀ {cs:Es} {es:List Expr},fD V F A cl cs es->∀ m C g s,ah V F m C g s->
  aF V F A (pk V) (spliced (backTo p (starEach es F.env))) g s (bG V.P cl cs ⟨m,C⟩)
 |_,_,.nil,m,C,g,s,I=>λQ E k=>Calls.spliced_nil (k g _ _ (.refl _) I ⟨[],rfl,.nil⟩)
 |_,_,.cons (c:=c) (cs:=cs) (e:=e) (es:=es) hs h hr,m,C,g,s,I=>by
  have ih:=yu (p:=p) hr
  rw [o7 hs,BV]
  refine ai.seq (h m C g s I) (λu' u' x=>Calls.spliced_cons x) λx st g₁ s₁ v u' u' I₁ rx=>?_
  refine ai.seq (K:=λvs Q E s=>Q (v::vs) s) (ih _ _ _ _ I₁) (λQ E x=>x) λd aC g₂ s₂ vs u' bP I₂ rd=>?_
  obtain ⟨ds,rfl,rs⟩:=rd
  exact λQ E k=>k _ _ _ (.refl _) I₂ ⟨_,rfl,.cons (rx.mono bP.toLe) rs⟩
theorem fD.noStar {cs:Es} {es:List Expr} (h:fD V F A cl cs es):es.any dW=false:=by
 induction h with
 |nil=>rfl
 |cons hs _ _ ih=>rw [any_cons,hs,ih]; rfl
theorem fD.of {f:Expr->E} : ∀ {es:List Expr},es.any dW=false->(∀ e∈es,az V F A cl (f e) e)->fD V F A cl (bX f es) es
 |[],_,_=>.nil
 |e::r,hs,h=>by
  rw [any_cons,or_eq_false_iff] at hs
  exact .cons hs.1 (h e (.head _)).val (fD.of hs.2 λx hx=>h x (.tail _ hx))
theorem fD.EN {f:Nat->Expr->E} : ∀ {es:List Expr} (i:Nat),es.any dW=false->(∀ i,∀ e∈es,u0 V F A cl (f i e) e)->fD V F A cl (vn f i es) es
 |[],_,_,_=>.nil
 |e::r,i,hs,h=>by
  rw [any_cons,or_eq_false_iff] at hs
  exact .cons hs.1 (h i e (.head _)) (fD.EN (i+1) hs.2 λi x hx=>h i x (.tail _ hx))
noncomputable def tB:Expr->Bool
 |.Attribute .. => true
 |_=>false
theorem Jt {f:Expr} {args:List Expr} {ks:List Keyword} {pos:Pos} {env:Env} (h:tB f=false) :
  eval (.Call f args ks pos) env=(eval f env >>= λv=>callWith pos v [] (backTo pos (starEach args env)) (backToKw pos (keywordEach ks env))):=by
 induction f using Expr.casesOn<;>first|rfl|exact fT h
theorem Rc (fI:rK V F A cl) {fc:E} {f:Expr} {cs:Es} {args:List Expr} {kf:Expr->E} {ks:List Keyword} {p:Pos} (hf:tB f=false) (h:az V F A cl fc f) (hr:fD V F A cl cs args)
  (hk : ∀ k∈ks,az V F A cl (kf k.value) k.value) (eH : ∀ k∈ks,∃ n,k.arg.bind c6=some n):az V F A cl (.call fc cs (l9 kf ks)) (.Call f args ks p):=by
 refine .of rfl λm C g s I=>?_
 have e:ev V.P cl (.call fc cs (l9 kf ks)) ⟨m,C⟩=(ev V.P cl fc ⟨m,C⟩).bind λd aa=>(bG V.P cl cs aa).bind λl ae=>match l with
   |.lst ds=>sr V.P cl d ds [] (l9 kf ks) ae
   |_=>.fail:=by
  show (ev V.P cl fc ⟨m,C⟩).bind _=_
  congr 1; funext d aa
  induction bG V.P cl cs aa with
  |ok d ae=>induction d using D.casesOn<;>rfl
  |exc x ae=>rfl
  |fail=>rfl
 rw [e]
 refine ai.seq (K:=λv Q E s₁=>wpAny V.M A (callWith p v [] (backTo p (starEach args F.env)) (backToKw p (keywordEach ks F.env))) Q E s₁) (h m C g s I).1 (λQ E x=>by rw [Jt hf]; exact wpAny_bind x) λd st g₁ s₁ v u' u' I₁ rf=>?_
 refine ai.seq (K:=λvs Q E s₁=>wpAny V.M A (evalAll ((backToKw p (keywordEach ks F.env)).map (·.2))) (λus s₂=>dv V.M A v ([]++vs) (((backToKw p (keywordEach ks F.env)).filterMap (λ(x:Option Str × Sem Value)=>x.1)).zip us) Q E s₂) E s₁) (yu (p:=p) hr _ _ _ _ I₁)
  (λQ E x=>vo (BS (by rw [ve]; exact uB hr.noStar) (DU (f:=kf) eH) x)) λl aC g₂ s₂ vs u' bP I₂ rl=>?_
 obtain ⟨ds,rfl,rd⟩:=rl
 have:=FG (p:=p) fI (fd:=d) (fv:=v) ks g₂ hk ds vs [] [] _ _ _ _ (rf.mono bP.toLe) rd trivial I₂
 exact this.wp λQ E x=>by simpa using x
noncomputable def fC (V:aq):MK->Value
 |.own _ f=>.ref (V.ba f)
 |.lG=>.builtin "list.append"|.oN=>.builtin "list.pop"|.oJ=>.builtin "list.clear"
 |.mf=>.builtin "dict.get"|.nZ=>.builtin "dict.values"|.nh=>.builtin "set.add"
theorem xJ {k i:Nat} {n:Nm} {mk:MK} (h:dO V.P C (.inst k i) n=some mk) : ∃ c es f,V.P.dy k=some c/\C[i]?=some (.cJ es)/\c.meths.lookup n=some f/\es.lookup n=none/\c.slots=none/\mk=.own k f:=by
 refine cps λQQ kQ=>?_
 obtain ⟨c,hc,h⟩:=aS h
 obtain ⟨es,hC,h⟩:=aS h
 obtain ⟨f,hf,h⟩:=aS h
 obtain ⟨hb,h⟩:=gk h
 rw [and_eq_true,isNone_iff_eq_none,isNone_iff_eq_none] at hb
 exact kQ ⟨c,es,f,hc,u5 hC,hf,hb.1,hb.2,(Option.some.inj h).symm⟩
noncomputable def MK.M8:MK->Bool
 |.own _ _=>true
 |_=>false
theorem NW (n:Nm) (ch:Ch):(kp n ch).any MK.M8=false:=by
 induction ch using Ch.casesOn<;>first|rfl|(induction n using Nm.casesOn<;>rfl)
theorem NX {o:D} {n:Nm} {k f:Nat} (h:dO V.P C o n=some (.own k f)) : ∃ i,o=.inst k i:=by
 induction o using D.casesOn<;>first|exact ao h|skip
 ·obtain ⟨ch,_,h⟩:=aS h
  have:=NW n ch
  rw [h] at this
  exact fT this
 ·obtain ⟨_,_,_,_,_,_,_,_,e⟩:=xJ h
  injection e with e
  exact ⟨_,by rw [e]⟩
section
variable {Q:Value × List Value->Shared->Prop} {E:Value->Shared->Prop} {pl:Sem Bool}
theorem Ke (B:V.Base) (au:V.c7) (I:ah V F m C g s) {k i:Nat} {n:Nm} {a:Value} (hx:ab V g (.inst k i) a) {mk:MK} (hm:dO V.P C (.inst k i) n=some mk) (h:Q (fC V mk,[a]) s):wpAny V.M A (getMethod a n.str pl) Q E s:=by
 obtain ⟨c,es,f,hc,hC,hf,hl,hs,rfl⟩:=xJ hm
 have ok:=au k c hc
 obtain ⟨x,dx,ox,ents,nn,rfl,hI,h1,h2,h3,h4,h5⟩:=I.inst hx hC
 obtain ⟨o,ho,hr⟩:=h4.getL n
 rw [hl] at hr
 obtain rfl:=ug hr
 obtain ⟨m1,m2,m3,m4,m5⟩:=ok.meths n f hf
 exact W.method_fn (I.cZ B) hI (W.plainGet_of ok.get).1 (W.plainGet_of ok.get).2 m1 m2 (by show (W.lookIn n.str (W.dictOf ents nn)).map _=_; rw [W.lookIn_dict,ho]; rfl) h
theorem vf {a:Addr} {o:Obj} (h:s.heap.get? a=some o) (hd:o.dict=none) : ∀ b,Value.ref a=.ref b->∃ o,s.heap.get? b=some o/\o.dict=none:=λb e=>by cases e; exact ⟨_,h,hd⟩
theorem Kf (I:ah V F m C g s) {i:Nat} {n:Nm} {a:Value} (hx:ab V g (.loc i) a) {mk:MK} (hm:dO V.P C (.loc i) n=some mk) (h:Q (fC V mk,[a]) s):wpAny V.M A (getMethod a n.str pl) Q E s:=by
 obtain ⟨ch,hC,hm⟩:=aS hm
 induction ch using Ch.casesOn<;>first|exact ao hm|skip
 ·obtain ⟨l,vs,k,rfl,_,hl,_⟩:=I.lH hx hC
  have hT:s.TypeIs (.ref l) "list":=hl.isList.typeIs
  have hd:=vf hl rfl
  induction n using Nm.casesOn<;>first|exact ao hm|(obtain rfl:=Option.some.inj hm; first
   |exact getMethod_builtin hT PySem.F.plainAttrs_list PySem.F.slot_list_append PySem.F.type_list_append hd h
   |exact getMethod_builtin hT PySem.F.plainAttrs_list PySem.F.slot_list_pop PySem.F.type_list_pop hd h
   |exact getMethod_builtin hT PySem.F.plainAttrs_list PySem.F.slot_list_clear PySem.F.type_list_clear hd h)
 ·obtain ⟨l,h1,rfl⟩:=hx.gd
  obtain ⟨hz,ax,ep,iX,hr,_⟩:=I.dictAt h1 hC
  have hT:s.TypeIs (.ref l) "dict":=iX.dictOf.mapOf.typeIs
  obtain ⟨o,ents,ho,⟨_,i6,_⟩,_⟩:=id iX
  have hd:=vf ho i6
  induction n using Nm.casesOn<;>first|exact ao hm|(obtain rfl:=Option.some.inj hm; first
   |exact getMethod_builtin hT PySem.F.plainAttrs_dict PySem.F.slot_dict_get PySem.F.type_dict_get hd h
   |exact getMethod_builtin hT PySem.F.plainAttrs_dict PySem.F.slot_dict_values PySem.F.type_dict_values hd h)
 ·obtain ⟨l,h1,rfl⟩:=hx.gd
  obtain ⟨hz,o,ents,ep,t,ho,⟨hc,i6,_⟩,_⟩:=I.setOf h1 hC
  induction n using Nm.casesOn<;>first|exact ao hm|(obtain rfl:=Option.some.inj hm; exact getMethod_builtin ⟨o,ho,hc⟩ PySem.F.plainAttrs_set PySem.F.slot_set_add PySem.F.type_set_add (vf ho i6) h)
end
theorem PU (B:V.Base) (au:V.c7) (I:ah V F m C g s) {o:D} {n:Nm} {a:Value} {pl:Sem Bool} (hx:ab V g o a) {mk:MK} (hm:dO V.P C o n=some mk) {Q:Value × List Value->Shared->Prop} {E:Value->Shared->Prop}
  (h:Q (fC V mk,[a]) s):wpAny V.M A (getMethod a n.str pl) Q E s:=by
 induction o using D.casesOn<;>first|exact ao hm|skip
 ·exact Kf I hx hm h
 ·exact Ke B au I hx hm h
end
section
variable {V:aq} {G:aV} {F:aB} {A:Around} {cl:Calls} {m:List (Option D)} {C:af} {g:Gh} {s:Shared}
theorem ah.seq (I:ah V F m C g s) {d:D} {v:Value} (r:ab V g d v) {ds:List D} (h:bW C d=some ds) :
  ∃ a T vs n,v=.ref a/\(T="list"\/T="tuple")/\s.heap.get? a=some {cls:=.type T,dict:=none,data:=.seq vs.toArray n,slots := #[]}/\vs.length<=aD/\aE V g ds vs:=by
 have list:aU C d=some ds->∃ a T vs n,v=.ref a/\(T="list"\/T="tuple")/\s.heap.get? a=some {cls:=.type T,dict:=none,data:=.seq vs.toArray n,slots := #[]}/\vs.length<=aD/\aE V g ds vs:=λh=>by
  obtain ⟨a,vs,n,e,hl,hz,rs⟩:=I.list r h
  exact ⟨a,"list",vs,n,e,.inl rfl,hl,hz,rs⟩
 induction d using D.casesOn<;>first|((first|exact ao h|obtain rfl:=Option.some.inj h); done)|exact list h|skip
 obtain rfl:=Option.some.inj h
 obtain ⟨a,vs,n,e,hl,hz,rs⟩:=I.tup r
 exact ⟨a,"tuple",vs,n,e,.inr rfl,hl,hz,rs⟩
theorem FN (I:ah V F m C g s) {y:D} {v:Value} (r:ab V g y v) {ys:List D} (h:bW C y=some ys) :
  ai V F (pk V) (λQ E s=>W.StarOf V.M A E v Q s) g s (.ok (.lst ys) ⟨m,C⟩):=by
 obtain ⟨a,T,vs,n,rfl,hT,ho,hz,rs⟩:=I.seq r h
 intro Q E k
 have CO:s.TypeIs (.ref a) T:=⟨_,ho,rfl⟩
 have z:wpAny V.M A (collect (.ref a)) Q E s:=
  wpAny_collect_seq a hT ho rfl rfl (λh' hk=>k g _ _ (.refl g) (I.heap hk) ⟨ys,rfl,by simpa using rs⟩) (d4 (by simpa using hz))
 show wpAny _ _ (notIterableAtAll _) _ _ _
 unfold notIterableAtAll
 rcases hT with rfl|rfl
 ·exact wpAny_bind (wpAny_specialOf CO PySem.F.slot_list_iter.lookup (wpAny_pure ⟨rfl,z⟩))
 ·exact wpAny_bind (wpAny_specialOf CO PySem.F.slot_tuple_iter.lookup (wpAny_pure ⟨rfl,z⟩))
noncomputable def jv (P:aR) (cl:Calls) (f:Expr->E) (ps:List Expr) (e:Expr) (st:St):aj D:=(bG P cl (bX f ps) st).bind λd ae=>match d with
 |.lst ds=>(ev P cl (f e) ae).bind λy aG=>match bW aG.C y with
  |some ys=>.ok (.lst (ds++ys)) aG
  |none=>.fail
 |_=>.fail
theorem BB {P:aR} {f:Expr->E} {e:Expr} {st:St}:jv P cl f [] e st=(ev P cl (f e) st).bind λy aG=>match bW aG.C y with
  |some ys=>.ok (.lst ys) aG
  |none=>.fail:=rfl
set_option tactic.hygienic true in
theorem Jk {P:aR} {f:Expr->E} {e0 e:Expr} {ps:List Expr} {st:St}:jv P cl f (e0::ps) e st=(ev P cl (f e0) st).bind λx aa=>(jv P cl f ps e aa).bind λd st=>match d with
  |.lst ds=>.ok (.lst (x::ds)) st
  |_=>.fail:=by
 show (bG P cl (.cons (f e0) (bX f ps)) st).bind _=_
 show ((ev P cl (f e0) st).bind _).bind _=_
 rw [aj.bind_assoc]
 congr 1; funext x aa
 unfold jv
 induction bG P cl (bX f ps) aa with
 |fail=>rfl
 |exc _ _=>rfl
 |ok d ae=>
  induction d using D.casesOn<;>first|rfl|skip
  rename_i ds
  show ((ev P cl (f e) ae).bind _)=((ev P cl (f e) ae).bind _).bind _
  rw [aj.bind_assoc]
  congr 1; funext y aG
  induction bW aG.C y<;>rfl
theorem F8 {e:Expr} (h:rh e=none):dW e=false:=by induction e using Expr.casesOn<;>first|rfl|exact kD h
theorem RN {e x:Expr} (h:rh e=some x) : ∃ p,e=.Starred x p:=by induction e using Expr.casesOn<;>first|((first|exact ao h|obtain rfl:=Option.some.inj h); exact ⟨_,rfl⟩)|exact ao h
set_option tactic.hygienic true in
theorem yC : ∀ {args:List Expr} {ps:List Expr} {e:Expr},jl args=some (ps,some e)->(∃ p,args=[.Starred e p]/\ps=[])\/∃ e0 r jM,args=e0::r/\dW e0=false/\ps=e0::jM/\jl r=some (jM,some e)
 |[],ps,e,h=>by cases h
 |e0::r,ps,e,h=>by
  unfold jl at h
  induction hs:rh e0 with
  |some x=>
   rw [hs] at h
   dsimp only at h
   split at h
   ·rename_i hr
    cases h
    obtain ⟨p,rfl⟩:=RN hs
    exact .inl ⟨p,by rw [isEmpty_iff.mp hr],rfl⟩
   ·exact ao h
  |none=>
   rw [hs] at h
   obtain ⟨⟨a,b⟩,hp,hq⟩:=cB h
   cases hq
   exact .inr ⟨e0,r,a,rfl,F8 hs,rfl,hp⟩
theorem Ga : ∀ {args:List Expr} {ps:List Expr},jl args=some (ps,none)->ps=args/\args.any dW=false
 |[],ps,h=>by cases h; exact ⟨rfl,rfl⟩
 |e0::r,ps,h=>by
  unfold jl at h
  induction hs:rh e0 with
  |some x=>
   rw [hs] at h
   dsimp only at h
   split at h<;>(first|exact ao h|cases h)
  |none=>
   rw [hs] at h
   obtain ⟨⟨a,b⟩,hp,hq⟩:=cB h
   cases hq
   obtain ⟨rfl,hz⟩:=Ga hp
   exact ⟨rfl,by rw [any_cons,hz,F8 hs]; rfl⟩
set_option tactic.hygienic true in
theorem FO {f:Expr->E} {p:Pos} : ∀ (args ps:List Expr) (e:Expr),jl args=some (ps,some e)->(∀ x∈e::ps,az V F A cl (f x) x)->∀ m C g s,ah V F m C g s->
  aF V F A (pk V) (spliced (backTo p (starEach args F.env))) g s (jv V.P cl f ps e ⟨m,C⟩)
 |[],ps,e,hs,h,m,C,g,s,I=>by cases hs
 |e1::r1,ps,e,hs,h,m,C,g,s,I=>by
  rcases yC hs with ⟨q,ha,rfl⟩|⟨e0,r,jM,ha,h0,rfl,hr⟩
  ·cases ha
   rw [BB]
   refine ai.seq (h e (.head _) m C g s I).1 (λQ E x=>W.ks_spliced x) λy st g₁ s₁ v u' u' I₁ ry=>?_
   split
   ·rename_i ys hy
    exact ai.wp (FN I₁ ry hy) λQ E x=>wpAny_mono (show wpAny _ _ (notIterableAtAll v) _ _ _ from x) (λb s₂ ⟨hb,z⟩=>⟨hb,wpAny_mono z (λhere s₃ q=>Calls.spliced_nil (by rw [append_nil]; exact q)) λu' u' q=>q⟩) λu' u' q=>q
   ·trivial
  ·cases ha
   rw [Jk,o7 h0]
   refine ai.seq (h e1 (.tail _ (.head _)) m C g s I).1 (λu' u' x=>Calls.spliced_cons x) λx st g₁ s₁ v u' u' I₁ rx=>?_
   refine ai.seq (K:=λvs Q E s=>Q (v::vs) s) (FO r1 jM e hr (λx hx=>h x (by rcases mem_cons.mp hx with rfl|hx; exact .head _; exact .tail _ (.tail _ hx))) _ _ _ _ I₁) (λQ E x=>x) λd aC g₂ s₂ vs u' bP I₂ rd=>?_
   obtain ⟨ds,rfl,rs⟩:=rd
   exact λQ E k=>k _ _ _ (.refl _) I₂ ⟨_,rfl,.cons (rx.mono bP.toLe) rs⟩
set_option tactic.hygienic true in
theorem Qj {f:Expr->E} {p:Pos} {args ps:List Expr} {e:Expr} {fv:Value} (hs:jl args=some (ps,some e)) (h : ∀ x∈e::ps,az V F A cl (f x) x) (I:ah V F m C g s) :
  aF V F A (λg d (a:Args)=>a.kw=[]/\pk V g d a.pos) (evalArgs fv true (backTo p (starEach args F.env)) []) g s (jv V.P cl f ps e ⟨m,C⟩):=by
 rcases yC hs with ⟨q,rfl,rfl⟩|⟨e0,r,jM,rfl,h0,rfl,hr⟩
 ·rw [BB]
  refine ai.seq (h e (.head _) m C g s I).1 (λQ E x=>W.ks_lone x) λy st g₁ s₁ v u' u' I₁ ry=>?_
  split
  ·rename_i ys hy
   have:=FN (A:=A) I₁ ry hy
   exact λQ E k=>this _ E λg' a s' st I r=>k g' _ s' st I ⟨rfl,r⟩
  ·trivial
 ·have:=FO (p:=p) (e0::r) (e0::jM) e hs h m C g s I
  rw [o7 h0] at this ⊢
  have e1:jv V.P cl f (e0::jM) e ⟨m,C⟩=(jv V.P cl f (e0::jM) e ⟨m,C⟩).bind λd st=>.ok d st:=by induction jv V.P cl f (e0::jM) e ⟨m,C⟩<;>rfl
  rw [e1]
  refine ai.seq (K:=λ(vs:List Value) (Q:Args->Shared->Prop) E s=>Q (⟨vs,[]⟩:Args) s) this (λQ E x=>show wpAny V.M A (evalArgs fv true ((false,eval e0 F.env)::backTo p (starEach r F.env)) []) Q E s from Calls.evalArgs_plain x) λd st g₁ s₁ vs u' u' I₁ rd=>λQ E k=>k _ _ _ (.refl _) I₁ ⟨rfl,rd⟩
end
noncomputable def uq (Q:Value->Shared->Prop) (E:Value->Shared->Prop) (r:Result) (s:Shared):Prop:=match r with
 |.ok (.ret v)=>Q v s
 |.ok _=>False
 |.error e=>E e s
noncomputable def pg (M:Model) (A:Around) (c:Code):Tr Value:=λQ E s=>codeAny M A c (uq Q E) s
structure pf (F:aB) (A:Around) (n:Nat):Prop where
 frames:A.frames=some F.stack
 depth:A.depth+8*n+4<=900
 units:A.units+500*n+450<=9000
 calm:A.handled=none
theorem fA.c {F:aB} {A:Around} {cl:Calls} {n l:Nat} (h:fA F A cl n l) (hf:cl.fuel≠0):pf F A n:=
 ⟨h.frames,by have:=h.depth; omega,by have:=h.units; omega,h.calm hf⟩
theorem Hf {a n:Nat} (h:a+8*n+8<=900):a+1+8*n+4<=900:=le_trans (by rw [Nat.add_right_comm a 1]; exact add_le_add_left (by decide:1+4<=8) (a+8*n)) h
theorem Hh {u a l n:Nat} (h1:u<=a+8) (h2:a+8*l+500*n+500<=9000):u+500*n+450<=9000:=
 le_trans (add_le_add_right (add_le_add_right h1 _) 450) (le_trans (by rw [Nat.add_right_comm a 8,add_assoc _ 8 450]; exact add_le_add (add_le_add_right (le_add_right a _) _) (by decide:8+450<=500)) h2)
theorem He {a n:Nat} (h:a+8*(n+1)+4<=900):a+1+8*n+8<=900:=le_trans (by rw [Nat.add_right_comm a 1]; exact add_le_add_left (by decide:1+8<=8+4) (a+8*n)) h
theorem Hg {u n:Nat} (h:u+500*(n+1)+450<=9000):u+3+8*1+500*n+500<=9000:=le_trans (by rw [add_assoc u 3 (8*1),Nat.add_right_comm u (3+8*1),add_assoc _ (3+8*1) 500,Nat.mul_succ 500 n,<-add_assoc u,add_assoc _ 500 450]; exact add_le_add_left (by decide) _) h
structure fV (V:aq) (cl:Calls) (n:Nat):Prop where
 none:cl.fuel=0->∀ k ds ks C,cl.call k ds ks C=.fail
 some : ∀ {F:aB} {A:Around} {m C g s} (k:Nat) {ds:List D} {vs:List Value} {ks:List (Nm × D)} {ax:List (Str × Value)},F.Ok->pf F A n->ah V F m C g s->aE V g ds vs->gw V g ks ax->
  ai V F (ab V) (pg V.M A (.call (.ref (V.ba k)) ⟨vs,ax⟩)) g s (back m (cl.call k ds ks C))
section
variable {V:aq} {G:aV} {F:aB} {A:Around} {cl:Calls} {m:List (Option D)} {C:af} {g:Gh} {s:Shared} {n l:Nat}
theorem Fz (hC:fV V cl n) (K:F.Ok) (hA:fA F A cl n l) (I:ah V F m C g s) (k:Nat) {ds:List D} {vs:List Value} {ks:List (Nm × D)} {ax:List (Str × Value)} (rd:aE V g ds vs) (rk:gw V g ks ax) :
  aF V F A (ab V) (call (.ref (V.ba k)) vs ax) g s (back m (cl.call k ds ks C)):=by
 by_cases hf:cl.fuel=0
 ·rw [hC.none hf]; trivial
 ·exact (hC.some k K (hA.c hf) I rd rk).wp λQ E x=>wpAny_call x
theorem aE.one {d:D} {vs:List Value} (h:aE V g [d] vs) : ∃ v,vs=[v]/\ab V g d v:=by
 obtain ⟨v,ws,a,r,rfl⟩:=h.gc
 obtain rfl:=r.gf; exact ⟨_,rfl,a⟩
theorem jF {x:D} {i:Nat} (h:oI x=some i):x=.loc i:=by induction x using D.casesOn<;>first|exact ao h|exact congrArg D.loc (Option.some.inj h)
theorem oL {M:Model} {h:Heap} {id:String} : ∃ k,W.Looks M h (keeperOf (.builtin id)) k:=⟨.machine,W.Looks.now⟩
theorem ah.tP (I:ah V F m C g s) {i:Nat} {a:Addr} {vs:List Value} {k:Nat} {f:Array Value->Array Value} {ds:List D} {ws:List Value} {t:Nat} (hg:g a=some (.cell i)) (hl:IsL s.heap a vs.toArray k)
  (e:f vs.toArray=ws.toArray) (r:aE V g ds ws) (hz:ws.length<=aD):ah V F m (C.set i (.list ds)) g {s with heap:=s.heap.update a (Obj.mapSeq f),toks:=t}:=by
 have:=IsL.update hl f
 rw [e] at this
 exact I.cellSet hg (Heap.SameBut.update ..) this ⟨ws,⟨hz,_,rfl⟩,r⟩
theorem aE.dropLast {V:aq} {g:Gh} : ∀ {ds:List D} {vs:List Value},aE V g ds vs->aE V g ds.dropLast vs.dropLast
 |[],_,h=>by obtain rfl:=h.gf; exact .nil
 |[_],_,h=>by obtain ⟨_,_,_,r,rfl⟩:=h.gc; obtain rfl:=r.gf; exact .nil
 |_::d::ds,_,h=>by
  obtain ⟨v,ws,a,r,rfl⟩:=h.gc
  obtain ⟨u,ws,b,r',rfl⟩:=r.gc
  exact .cons a (aE.dropLast (ds:=d::ds) (.cons b r'))
theorem Ji (vs:List Value):vs.toArray.eraseIdxIfInBounds (vs.toArray.size - 1)=vs.dropLast.toArray:=by
 by_cases h:vs=[]
 ·subst h; rfl
 ·have hl:vs.length - 1<vs.length:=Nat.sub_lt (List.length_pos_iff.mpr h) (by decide)
  rw [Array.eraseIdxIfInBounds,dif_pos (by simpa using hl)]
  simp [List.dropLast_eq_take,List.eraseIdx_eq_take_drop_succ]
  omega
section
variable {i:Nat} {a:Value} {ds:List D} {vs:List Value}
theorem NL (I:ah V F m C g s) (hx:ab V g (.loc i) a) {d:D} {v:Value} (rv:ab V g d v) {es:List D} (hC:C[i]?=some (.list es)) (hz:es.length<aD) :
  ai V F (ab V) (dv V.M A (fC V .lG) [a,v] []) g s (.ok .none ⟨m,C.set i (.list (es++[d]))⟩):=λQ E q=>by
 obtain ⟨l,vs,k,rfl,hg,hl,mH,rs⟩:=I.lH hx hC
 have hlen:=rs.length
 refine ⟨oL,call_meets PySem.F.slot_list_append hl.isList.typeIs PySem.F.entry_list_append (PySem.F.args_list_append_2 _ _) (PySem.list_append l vs.toArray k v (d4 (by simpa using mH))) ⟨hl,?_⟩⟩
 exact q g _ _ (.refl g) (I.tP (ws:=vs++[v]) hg hl (by simp) (rs.append (.cons rv .nil)) (by simp; omega)) .none
theorem NO (I:ah V F m C g s) (hx:ab V g (.loc i) a) {d:D} {es:List D} (hC:C[i]?=some (.list es)) (hd:es.getLast?=some d) :
  ai V F (ab V) (dv V.M A (fC V .oN) [a] []) g s (.ok d ⟨m,C.set i (.list es.dropLast)⟩):=λQ E q=>by
 obtain ⟨l,vs,k,rfl,hg,hl,mH,rs⟩:=I.lH hx hC
 have hlen:=rs.length
 rw [List.getLast?_eq_getElem?] at hd
 obtain ⟨v,hv,rv⟩:=rs.get hd
 refine ⟨oL,call_meets PySem.F.slot_list_pop hl.isList.typeIs PySem.F.entry_list_pop (PySem.F.args_list_pop_1 _) (MeetsSeq.list_pop_last l vs.toArray k v (by rw [<-hv]; simp [hlen]) (d4 (by simpa using mH))) ⟨hl,?_⟩⟩
 exact q g _ _ (.refl g) (I.tP (t:=s.toks) (ws:=vs.dropLast) hg hl (Ji vs) rs.dropLast (by simp; omega)) rv
theorem NM (I:ah V F m C g s) (hx:ab V g (.loc i) a) {es:List D} (hC:C[i]?=some (.list es)) :
  ai V F (ab V) (dv V.M A (fC V .oJ) [a] []) g s (.ok .none ⟨m,C.set i (.list [])⟩):=λQ E q=>by
 obtain ⟨l,vs,k,rfl,hg,hl,mH,rs⟩:=I.lH hx hC
 refine ⟨oL,call_meets PySem.F.slot_list_clear hl.isList.typeIs PySem.F.entry_list_clear (PySem.F.args_list_clear_1 _) (AutoSeq1.list_clear_list_0 l vs.toArray k (d4 (by simpa using mH))) ⟨hl,?_⟩⟩
 exact q g _ _ (.refl g) (I.tP (ws:=[]) hg hl rfl .nil (zero_le _)) .none
theorem NN (B:V.Base) (I:ah V F m C g s) (hx:ab V g (.loc i) a) {k:Int} {t:Tok} {b:Bool} {es:List (Int × D)} (hC:C[i]?=some (.dict b es)) :
  ai V F (ab V) (dv V.M A (fC V .mf) [a,.int k t] []) g s (.ok ((es.lookup k).getD .none) ⟨m,C⟩):=λQ E q=>by
 obtain ⟨l,h1,rfl⟩:=hx.gd
 obtain ⟨hz,ax,ep,iX,hr,_⟩:=I.dictAt h1 hC
 refine ⟨oL,call_meetsIn PySem.F.slot_dict_get iX.dictOf.mapOf.typeIs PySem.F.entry_dict_get (PySem.F.args_dict_get_2 _ _) (meets_dict_get (intKind V.prog V.w) _ (k:=k) (beq_self_eq_true _) (rp I h1 B.mods)) ⟨_,iX.dictOf.mapOf,?_⟩⟩
 refine q g _ _ (.refl g) (I.tok _) ?_
 have:=hr.lookupI k
 induction j9:es.lookup k with
 |none=>rw [j9] at this; rw [ug this]; exact .none
 |some d=>rw [j9] at this; obtain ⟨v,hv,rv⟩:=qO this; rw [hv]; exact rv
theorem NQ (B:V.Base) (I:ah V F m C g s) (hx:ab V g (.loc i) a) {b:Bool} {es:List (Int × D)} (hC:C[i]?=some (.dict b es)) :
  ai V F (ab V) (dv V.M A (fC V .nZ) [a] []) g s (.ok (.dC i) ⟨m,C⟩):=λQ E q=>by
 obtain ⟨l,h1,rfl⟩:=hx.gd
 obtain ⟨hz,ax,ep,iX,hr,_⟩:=I.dictAt h1 hC
 refine ⟨oL,call_meetsIn PySem.F.slot_dict_values iX.dictOf.mapOf.typeIs PySem.F.entry_dict_values (PySem.F.args_dict_values_1 _) (meets_dict_values (intKind V.prog V.w) _ (rp I h1 B.mods)) ⟨⟨_,iX.dictOf⟩,?_⟩⟩
 obtain ⟨st,I'⟩:=I.ku {cls:=.type "dict_values",data:=.fields #[.ref _]} rfl s.toks
 exact q _ _ _ st I' (.dC (Gh.bu ..) rfl (st.toLe.cell _ _ h1))
theorem NP (I:ah V F m C g s) (hx:ab V g (.loc i) a) {k:Int} {t:Tok} {es:List Int} (hC:C[i]?=some (.set es)) (Mz:es.length<64) :
  ai V F (ab V) (dv V.M A (fC V .nh) [a,.int k t] []) g s (.ok .none ⟨m,C.set i (.set (if es.contains k then es else es++[k]))⟩):=λQ E q=>by
 obtain ⟨l,h1,rfl⟩:=hx.gd
 obtain ⟨hz,hS⟩:=I.setOf h1 hC
 refine ⟨oL,call_set_add (knd:=intKind V.prog V.w) (k:=k) (beq_self_eq_true _) rfl hS (by have:scanBound=scanBound:=rfl; unfold scanBound; omega) λh' Mh fH=>?_⟩
 obtain ⟨o',pN,vK,t',h2,x1,x2,x3,x4,x5,x6,x7⟩:=fH
 refine q g _ _ (.refl g) (I.cellSet h1 Mh h2 ⟨?_,pN,vK,t',x1,x2,x3,λk'=>?_,x5,x6,?_⟩) .none
 ·by_cases hk:es.contains k=true
  ·rw [if_pos hk]; exact hz
  ·rw [if_neg hk,length_append]; exact Mz
 ·rw [<-x4 k']
  show _↔(es.contains k'||decide (k'=k))=true
  by_cases hk:es.contains k=true
  ·rw [if_pos hk]
   by_cases e:k'=k
   ·subst e; rw [hk]; simp
   ·rw [decide_eq_false e,Bool.or_false]
  ·rw [if_neg hk,List.contains_append]
   by_cases e:k'=k
   ·subst e; simp
   ·have:[k].contains k'=false:=by simp [e]
    rw [this,decide_eq_false e]
 ·rw [x7]
  by_cases hk:es.contains k=true
  ·rw [if_pos hk,if_pos hk]
  ·rw [if_neg hk,if_neg hk]; simp
end
theorem P9 (B:V.Base) (hC:fV V cl n) (dE : ∀ k,W.keepIn V.K (.ref (V.ba k))=true) (K:F.Ok) (hA:fA F A cl n l) (I:ah V F m C g s) (mk:MK) {o:D} {a:Value} (hx:ab V g o a) {ds:List D} {vs:List Value} (rd:aE V g ds vs) :
  ai V F (ab V) (dv V.M A (fC V mk) (a::vs) []) g s (oP cl mk o ds ⟨m,C⟩):=by
 induction mk using MK.casesOn with
 |own k f=>
  have h:=Fz (A:=A) hC K hA I f (.cons hx rd) (ks:=[]) (ax:=[]) trivial
  obtain ⟨kk,_,L⟩:=W.looks_keep (M:=V.M) (dE f) (I.cZ B)
  exact ai.wp (W₂:=dv V.M A (fC V (.own k f)) (a::vs) []) h λQ E x=>And.intro ⟨kk,L⟩ x
 |lG=>
  exact ai.aI λi hi=>by
   obtain rfl:=jF hi
   exact ai.one (T:=λvs=>dv V.M A (fC V .lG) (a::vs) []) rd λd v rv=>ai.aI λes he=>ai.bo λhz=>NL I hx rv (xB he) (of_decide_eq_true hz)
 |oN=>
  exact ai.aI λi hi=>by
   obtain rfl:=jF hi
   exact ai.bo λhz=>by
    obtain rfl:=isEmpty_iff.mp hz
    obtain rfl:=rd.gf
    exact ai.aI λes he=>ai.aI λd hd=>NO I hx (xB he) hd
 |oJ=>
  exact ai.aI λi hi=>by
   obtain rfl:=jF hi
   exact ai.bo λhz=>by
    obtain rfl:=isEmpty_iff.mp hz
    obtain rfl:=rd.gf
    exact ai.aI λes he=>NM I hx (xB he)
 |mf=>
  exact ai.aI λi hi=>by
   obtain rfl:=jF hi
   exact ai.one (T:=λvs=>dv V.M A (fC V .mf) (a::vs) []) rd λd v rv=>ai.aI λk hk=>by
    obtain ⟨t,rfl⟩:=rv.fE hk
    exact ai.aI λes he=>let ⟨_,hC⟩:=Br he; NN B I hx hC
 |nZ=>
  exact ai.aI λi hi=>by
   obtain rfl:=jF hi
   exact ai.bo λhz=>by
    obtain rfl:=isEmpty_iff.mp hz
    obtain rfl:=rd.gf
    exact ai.aI λes he=>let ⟨_,hC⟩:=Br he; NQ B I hx hC
 |nh=>
  exact ai.aI λi hi=>by
   obtain rfl:=jF hi
   exact ai.one (T:=λvs=>dv V.M A (fC V .nh) (a::vs) []) rd λd v rv=>ai.aI λk hk=>by
    obtain ⟨t,rfl⟩:=rv.fE hk
    exact ai.aI λes he=>ai.bo λhz=>NP I hx (Qt he) (of_decide_eq_true hz)
end
section
variable {V:aq} {G:aV} {F:aB} {A:Around} {cl:Calls} {m:List (Option D)} {C:af} {g:Gh} {s:Shared} {n l:Nat}
structure aq.l0 (V:aq):Prop where
 keep : ∀ k,W.keepIn V.K (.ref (V.ba k))=true
 fn : ∀ k,W.fnIn V.K (V.ba k)=true
theorem RO {env:Env} {p:Pos} {es:List Expr} (h:es.any dW=false):(backTo p (starEach es env)).all (λx=>!x.1)=true:=by
 have:=uB (env:=env) h
 rw [<-ve (p:=p)] at this
 rw [List.all_eq_not_any_not]
 simpa using this
theorem F9 {env:Env} {p:Pos} : ∀ {args ps:List Expr} {e:Expr},jl args=some (ps,some e)->(backTo p (starEach args env)).all (λx=>!x.1)=false
 |[],_,_,h=>by cases h
 |e1::r1,ps,e,h=>by
  rcases yC h with ⟨q,ha,rfl⟩|⟨e0,r,jM,ha,h0,rfl,hr⟩
  ·cases ha; rfl
  ·cases ha
   rw [o7 h0]
   show (true&&(backTo p (starEach r1 env)).all _)=false
   rw [Bool.true_and]
   exact F9 hr
theorem Ef {JF:Bool} {o:Expr} {env:Env} {apos pos:Pos} (h:(apos.endLine==pos.line)=true):methodCallPos JF o env apos pos=pure pos:=by
 unfold methodCallPos; simp [h]
theorem Rt (B:V.Base) (au:V.c7) (dE:V.l0) (hC:fV V cl n) (K:F.Ok) (hA:fA F A cl n l) {f:Expr->E} {o:Expr} {attr:Str} {a:Nm} {apos pos:Pos} {args:List Expr}
  (ho:mM o=false) (ha:c6 attr=some a) (kb:args.any dW=false) (wX:(apos.endLine==pos.line)=true) (hlen:args.length<20)
  (hO:az V F A cl (f o) o) (kg : ∀ x∈args,az V F A cl (f x) x) :
  az V F A cl (.bq (f o) a (bX f args)) (.Call (.Attribute o attr apos) args [] pos):=by
 have en:=mZ ha
 subst en
 refine .of rfl λm C g s I=>?_
 refine ai.seq (K:=λov Q E s₁=>wpAny V.M A (methodCall o a.str apos pos F.env ov (args.length+([]:List Keyword).length) (backTo pos (starEach args F.env)) (backToKw pos (keywordEach [] F.env))) Q E s₁) (hO m C g s I).1
  (λQ E x=>by rw [arm_eval_Call,vd ho]; exact wpAny_bind (wpAny_mono x (λu' u' y=>wpAny_bind (wpAny_standAt y)) λu' u' y=>y)) λd st g₁ s₁ v u' u' I₁ rx=>?_
 induction hm:dO V.P st.C d a with
 |none=>trivial
 |some mk=>
  dsimp only
  have wM:methodCallForm (args.length+([]:List Keyword).length) (backTo pos (starEach args F.env)) (backToKw pos (keywordEach [] F.env))=true:=by
   unfold methodCallForm
   rw [RO kb]
   exact decide_eq_true (show args.length<30 from lt_of_lt_of_le hlen (by decide))
  refine ai.seq (K:=λvs Q E s₂=>dv V.M A (fC V mk) (v::vs) [] Q E s₂) (yu (p:=pos) (fD.of kb kg) _ _ _ _ I₁) (λQ E x=>?_) λdl aC g₂ s₂ vs u' bP I₂ rl=>?_
  ·unfold methodCall
   rw [wM]
   refine wpAny_bind (wpAny_holding (PU B au I₁ rx hm ?_))
   refine wpAny_bind (wpAny_of_eq (Ef wX) ?_)
   refine vo (BS (by rw [ve]; exact uB kb) rfl ?_)
   exact wpAny_mono x (λvs s₂ y=>wpAny_evalAll_nil y) λu' u' y=>y
  ·obtain ⟨ds,rfl,rd⟩:=rl
   exact P9 B hC dE.keep K hA I₂ mk (rx.mono bP.toLe) rd
set_option tactic.hygienic true in
theorem Rv (B:V.Base) (au:V.c7) (dE:V.l0) (hC:fV V cl n) (K:F.Ok) (hA:fA F A cl n l) {f:Expr->E} {o:Expr} {attr:Str} {a:Nm} {apos pos:Pos} {args ps:List Expr} {e:Expr}
  (ho:mM o=false) (ha:c6 attr=some a) (hs:jl args=some (ps,some e)) (wX:(apos.endLine==pos.line)=true)
  (hO:az V F A cl (f o) o) (kg : ∀ x∈e::ps,az V F A cl (f x) x) :
  az V F A cl (.gn (f o) a (bX f ps) (f e)) (.Call (.Attribute o attr apos) args [] pos):=by
 have en:=mZ ha
 subst en
 refine .of rfl λm C g s I=>?_
 refine ai.seq (K:=λov Q E s₁=>wpAny V.M A (methodCall o a.str apos pos F.env ov (args.length+([]:List Keyword).length) (backTo pos (starEach args F.env)) (backToKw pos (keywordEach [] F.env))) Q E s₁) (hO m C g s I).1
  (λQ E x=>by rw [arm_eval_Call,vd ho]; exact wpAny_bind (wpAny_mono x (λu' u' y=>wpAny_bind (wpAny_standAt y)) λu' u' y=>y)) λd st g₁ s₁ v e₁ dP I₁ rx=>?_
 induction hm:dO V.P st.C d a with
 |none=>trivial
 |some mk=>
  induction mk using MK.casesOn<;>first|trivial|skip
  rename_i k fk
  dsimp only
  show ai _ _ _ _ _ _ ((jv V.P cl f ps e st).bind _)
  have wM:methodCallForm (args.length+([]:List Keyword).length) (backTo pos (starEach args F.env)) (backToKw pos (keywordEach [] F.env))=false:=by
   unfold methodCallForm
   rw [F9 hs]; rfl
  obtain ⟨i,rfl⟩:=NX hm
  obtain ⟨c,es,f',hc,iR,hf,LH,Md,e⟩:=xJ hm
  obtain rfl:fk=f':=by injection e
  have ok:=au _ c hc
  obtain ⟨x,dx,ox,ents,nn,rfl,hI,h1,h2,h3,h4,h5⟩:=I₁.inst rx iR
  obtain ⟨oo,LV,hr⟩:=h4.getL a
  rw [LH] at hr
  have:=ug hr
  subst this
  obtain ⟨m1,m2,m3,m4,m5⟩:=ok.meths a _ hf
  obtain ⟨hD,_⟩:=ok.own Md
  obtain ⟨q,I₂⟩:=I₁.ku (W.methodObj (.ref (V.ba fk)) (.ref x)) rfl (s₁.toks+1)
  have eG:s₁.heap.objs.size=s₁.heap.objs.size:=rfl
  refine ai.go (s':={s₁ with heap:=s₁.heap.push (W.methodObj (.ref (V.ba fk)) (.ref x)),toks:=s₁.toks+1}) (ai.from q (ai.seq (K:=λ(ar:Args) Q E s₂=>dv V.M A (.ref s₁.heap.objs.size) ar.pos ar.kw Q E s₂)
   (W':=λQ E s₂=>wpAny V.M A (callWith pos (.ref s₁.heap.objs.size) [] (backTo pos (starEach args F.env)) []) Q E s₂) (Qj (p:=pos) (fv:=.ref s₁.heap.objs.size) hs kg I₂) (λQ E x=>vo x) λdl aC g₃ s₃ ar u' gq I₃ ra=>?_)) λQ E z=>?_
  ·obtain ⟨qn,ds,rfl,rd⟩:=ra
   have kc:s₃.heap.get? s₁.heap.objs.size=some (W.methodObj (.ref (V.ba fk)) (.ref x)):=I₃.ay _ _ (gq.toLe.ay _ _ (Gh.bu ..))
   have gK:ab V g₃ (.inst k i) (.ref x):=rx.mono (q.toLe.trans gq.toLe)
   dsimp only
   simp only [oP]
   by_cases eZ:cl.fuel=0
   ·rw [hC.none eZ]; trivial
   ·have:=hC.some fk K (hA.c eZ) I₃ (.cons gK rd) (ks:=[]) (ax:=[]) trivial
    refine ai.wp this λQ E z=>And.intro ?_ ?_
    ·have L:=W.keeps_M (M:=V.M) (K:=V.K) (q:=s₁.heap.objs.size) (self:=.ref x) (f:=V.ba fk) ?_ s₃.heap ⟨kc,I₃.cZ B⟩
     ·obtain ⟨k,_,L⟩:=L; exact ⟨k,L⟩
     ·exact dE.fn fk
    ·rw [qn]
     exact wpAny_call (W.method_call kc z)
  ·unfold methodCall
   rw [wM]
   refine wpAny_bind (wpAny_holding ?_)
   unfold calleeOf
   rw [if_neg Bool.false_ne_true]
   refine wpAny_bind ?_
   refine W.get_bind (I₁.cZ B) hI (W.plainGet_of ok.get).1 (W.findObj_fn hD m1 m3 m4 m5 (by show W.lookIn a.str (W.dictOf ents nn)=_; rw [W.lookIn_dict,LV])) (W.plainGet_of ok.get).2 (wpAny_call ?_)
   refine W.fn_get (s:={s₁ with toks:=s₁.toks+1}) (show V.K.In s₁.heap from I₁.cZ B) m2 (W.handed_on rfl ?_)
   refine wpAny_pure ?_
   exact wpAny_bind (wpAny_of_eq (Ef wX) z)
end
section
variable {V:aq} {G:aV} {F:aB} {A:Around} {cl:Calls} {m:List (Option D)} {C:af} {g:Gh} {s:Shared} {n l:Nat}
theorem Sr {A:Around} {Cc:Addr} {rest:List Value} {kw:List (Str × Value)} :
  (A.under (.builtin "type.__call__" ⟨.ref Cc::rest,kw⟩)).frames=A.frames/\(A.under (.builtin "type.__call__" ⟨.ref Cc::rest,kw⟩)).depth=A.depth+1/\
  (A.under (.builtin "type.__call__" ⟨.ref Cc::rest,kw⟩)).units<=A.units+8/\(A.under (.builtin "type.__call__" ⟨.ref Cc::rest,kw⟩)).handled=A.handled:=by
 refine ⟨rfl,?_,?_,rfl⟩
 ·show A.depth+_=_
  congr 1
 ·show A.units+_<=_
  have:(Code.builtin "type.__call__" ⟨.ref Cc::rest,kw⟩).cUnits<=8:=by show 1+3*0<=8; decide
  omega
theorem ah.size_push (I:ah V F m C g s) (o:Obj):(s.heap.push o).objs.size=s.heap.objs.size+1:=Heap.size_push ..
set_option tactic.hygienic true in
theorem PQ (B:V.Base) (au:V.c7) (hC:fV V cl n) (K:F.Ok) (hA:fA F A cl n l) (I:ah V F m C g s) (k:Nat) {ds:List D} {vs:List Value} (rd:aE V g ds vs) :
  ai V F (ab V) (pg V.M A (.call (.ref (V.bw k)) ⟨vs,[]⟩)) g s (nU V.P cl k ds ⟨m,C⟩):=by
 unfold nU
 induction hc:V.P.dy k with
 |none=>trivial
 |some c=>
  dsimp only
  have ok:=au k c hc
  have uc := @Sr A (V.bw k) vs []
  have Y:=W.makes_of (M:=V.M) (I.cZ B) ok.makes
  have hi:=W.looks_findIn (M:=V.M) (I.cZ B) ok.init
  by_cases hf:cl.fuel=0
  ·split<;>(rw [hC.none hf]; trivial)
  have Kp:pf F (A.under (.builtin "type.__call__" ⟨.ref (V.bw k)::vs,[]⟩)) n:=
   ⟨by rw [uc.1]; exact hA.frames,by rw [uc.2.1]; exact Hf hA.depth,Hh uc.2.2.1 hA.units,by rw [uc.2.2.2]; exact hA.calm hf⟩
  have core : ∀ {o:D} {C₁:af} {g₁:Gh},g.Step g₁->ah V F m C₁ g₁ {s with heap:=(s.heap.push W.emptyDict).push (W.instObj (V.bw k) s.heap.objs.size)}->ab V g₁ o (.ref (s.heap.objs.size+1))->
    ai V F (ab V) (pg V.M A (.call (.ref (V.bw k)) ⟨vs,[]⟩)) g s (mK o m (cl.call c.init (o::ds) [] C₁)):=by
   intro o C₁ g₁ dP I₁ ro
   have fI:=hC.some (F:=F) (A:=A.under (.builtin "type.__call__" ⟨.ref (V.bw k)::vs,[]⟩)) c.init K Kp I₁ (.cons ro (rd.mono dP.toLe)) (ks:=[]) (ax:=[]) trivial
   induction hr:cl.call c.init (o::ds) [] C₁ with
   |fail=>trivial
   |exc _ _=>trivial
   |ok d aC=>
    rw [hr] at fI
    induction d using D.casesOn<;>first|trivial|skip
    intro Q E q
    show codeAny _ _ _ _ _
    refine W.make_core (h:=s.heap) (g:=s.gens) (d:=s.drawn) (t:=s.toks) (os:=s.os) (R:=uq Q E) Y hi (λself=>W.bind_fn (I.cZ B) self ok.MZ) (.inl rfl) ?_
    refine codeAny_mono (fI (λv s'=>v=.none/\Q (.ref (s.heap.objs.size+1)) s') E λg' a s' bP I₂ ra=>?_) λr s' z=>?_
    ·obtain rfl:=ra.xi
     exact ⟨rfl,q g' _ s' (dP.trans bP) I₂ (ro.mono bP.toLe)⟩
    ·rcases r with e|(v|_|_|_)<;>exact z
  split
  ·rename_i ns hs
   obtain ⟨aa,I1⟩:=I.ku W.emptyDict rfl s.toks
   have bT:=I.size_push W.emptyDict
   have I2:=ah.vp (h':=(s.heap.push W.emptyDict).push (W.instObj (V.bw k) s.heap.objs.size)) (t:=s.toks) (a:=s.heap.objs.size+1) (o:=W.instObj (V.bw k) s.heap.objs.size) (c:=.slots k (replicate ns.length none)) I1
    (λb o e=>Heap.get?_push_of_some _ e) (Heap.get?_none_of_le (by rw [bT]; exact le_refl _)) (by have:=Heap.get?_push_size (s.heap.push W.emptyDict) (o:=W.instObj (V.bw k) s.heap.objs.size) rfl; rw [bT] at this; exact this)
    ⟨rfl,⟨_,rfl,by rw [Gh.aX _ _ (ne_of_lt (lt_succ_self _))]; exact Gh.bu ..⟩,rfl,λj hj=>by
     rw [List.getElem?_replicate]
     split<;>exact trivial⟩
   have lr:(g.put s.heap.objs.size (some (.ay W.emptyDict))) (s.heap.objs.size+1)=none:=I1.apart (Heap.get?_none_of_le (by rw [bT]; exact le_refl _))
   have ae:(g.put s.heap.objs.size (some (.ay W.emptyDict))).Step ((g.put s.heap.objs.size (some (.ay W.emptyDict))).put (s.heap.objs.size+1) (some (.cell C.length))):=
    ⟨Gh.gm _ lr,λb o'=>⟨λe=>(by rw [Gh.aX]; exact e; intro q; subst q; rw [lr] at e; exact ao e),λe=>(by
     rcases Gh.bE e with ⟨_,q⟩|⟨_,q⟩
     ·cases q
     ·exact q)⟩⟩
   exact core (aa.trans ae) I2 (.loc (Gh.bu ..))
  ·rename_i hs
   have lr:g s.heap.objs.size=none:=I.fw
   have bT:=I.size_push W.emptyDict
   have I1:=ah.vp (h':=s.heap.push W.emptyDict) (t:=s.toks) (a:=s.heap.objs.size) (o:=W.emptyDict) (c:=.cJ []) I
    (λb o e=>Heap.get?_push_of_some _ e) (Heap.get?_none_of_le (le_refl _)) (Heap.get?_push_size _ rfl) ⟨zero_le _,[],0,rfl,trivial,nodup_nil⟩
   have aa:g.Step (g.put s.heap.objs.size (some (.cell C.length))):=
    ⟨Gh.gm _ lr,λb o'=>⟨λe=>(by rw [Gh.aX]; exact e; intro q; subst q; rw [lr] at e; exact ao e),λe=>(by
     rcases Gh.bE e with ⟨_,q⟩|⟨_,q⟩
     ·cases q
     ·exact q)⟩⟩
   obtain ⟨ae,I2⟩:=I1.ku (W.instObj (V.bw k) s.heap.objs.size) rfl s.toks
   have e:(s.heap.push W.emptyDict).objs.size=s.heap.objs.size+1:=bT
   dsimp only at ae I2
   rw [e] at ae I2
   refine core (aa.trans ae) I2 (.inst (Gh.bu ..) ?_)
   rw [Gh.aX _ _ (ne_of_lt (lt_succ_self _))]; exact Gh.bu ..
end
section
variable {V:aq} {G:aV} {F:aB} {A:Around} {cl:Calls} {m:List (Option D)} {C:af} {g:Gh} {s:Shared} {n l:Nat}
abbrev cn (V:aq) (A:Around) (b:Bn) (vs:List Value):Tr Value:=wpAny V.M A (call b.val vs [])
theorem qV (I:ah V F m C g s) {W:Tr Value} {d:D} {v:Value} {t:Nat} (r:ab V g d v) (f : ∀ Q E,Q v {s with toks:=t}->W Q E s):ai V F (ab V) W g s (.ok d ⟨m,C⟩):=
 λQ E k=>f Q E (k g _ _ (.refl g) (I.tok t) r)
theorem P1 (I:ah V F m C g s) {d:D} {v:Value} (r:ab V g d v):ai V F (ab V) (cn V A .len [v]) g s (Ab d ⟨m,C⟩):=ai.aI λk hk=>by
 have list : ∀ {ds:List D},aU C d=some ds->ai V F (ab V) (cn V A .len [v]) g s (.ok (.int ds.length) ⟨m,C⟩):=λ{ds} h=>by
  obtain ⟨a,vs,k,rfl,hl,hz,rs⟩:=I.list r h
  refine qV I (v:=.int vs.toArray.size (s.toks+1)) (t:=s.toks+1+1) ?_ λQ E q=>Calls.call_len_list hl.isList (oK hz) q
  rw [rs.length]; exact .int _ _
 induction d using D.casesOn<;>first|exact ao hk|skip
 ·obtain rfl:=Option.some.inj hk
  obtain ⟨t,hz,rfl⟩:=r.mI
  exact qV I (v:=.int _ (s.toks+1)) (t:=s.toks+1+1) (.int _ _) λQ E q=>W.len_bytes (le_trans hz (by decide)) q
 ·obtain rfl:=Option.some.inj hk
  obtain ⟨a,vs,k,rfl,hl,hz,rs⟩:=I.tup r
  refine qV I (v:=.int vs.toArray.size (s.toks+1)) (t:=s.toks+1+1) ?_ λQ E q=>PyProof.Rows.len_tuple (IsTup.mk' hl) (oK hz) q
  rw [rs.length]; exact .int _ _
 ·obtain rfl:=Option.some.inj hk
  exact list rfl
 ·obtain ⟨ch,hC,hk⟩:=aS hk
  induction ch using Ch.casesOn<;>first|exact ao hk|skip
  ·obtain rfl:=Option.some.inj hk
   exact list (pA hC)
  ·obtain rfl:=Option.some.inj hk
   obtain ⟨_,h1,rfl⟩:=r.gd
   obtain ⟨hz,o,ents,ep,t,ho,x1,x2,x3,x4,x5,x6,x7⟩:=I.setOf h1 hC
   refine qV I (v:=.int ents.size (s.toks+1)) (t:=s.toks+1+1) ?_ λQ E q=>call_len_set ho x1 x2 x6 (by rw [x7]; omega) q
   rw [x7]; exact .int _ _
theorem Qc (I:ah V F m C g s) {k:Int} {t:Tok}:ai V F (ab V) (cn V A .range [.int k t]) g s (.ok (.ck 0 k) ⟨m,C⟩):=λQ E q=>by
 refine call_range_1 ?_
 obtain ⟨st,I'⟩:=I.ku {cls:=.type "range",data:=.fields #[.int 0 s.toks,.int k t,.int 1 (s.toks+1)]} rfl (s.toks+1+1)
 exact q _ _ _ st I' (.ck (Gh.bu ..) rfl)
theorem Qd (I:ah V F m C g s) {a b:Int} {t u:Tok}:ai V F (ab V) (cn V A .range [.int a t,.int b u]) g s (.ok (.ck a b) ⟨m,C⟩):=λQ E q=>by
 refine call_range_2 ?_
 obtain ⟨st,I'⟩:=I.ku {cls:=.type "range",data:=.fields #[.int a t,.int b u,.int 1 s.toks]} rfl (s.toks+1)
 exact q _ _ _ st I' (.ck (Gh.bu ..) rfl)
theorem ah.wc (I:ah V F m C g s) {h':Heap} {t:Nat} {o:Obj} (k : ∀ b o,s.heap.get? b=some o->h'.get? b=some o) (ho:h'.get? s.heap.objs.size=some o) :
  g.Step (g.put s.heap.objs.size (some (.ay o)))/\ah V F m C (g.put s.heap.objs.size (some (.ay o))) {s with heap:=h',toks:=t}:=
 ⟨Gh.nv I.fw,I.more k (Heap.get?_none_of_le (le_refl _)) ho (.inl rfl)⟩
theorem yp (I:ah V F m C g s) {d:D} {v:Value} (r:ab V g d v) {ds:List D} (h:bW C d=some ds):ai V F (ab V) (cn V A .list [v]) g s (.ok (.lst ds) ⟨m,C⟩):=by
 obtain ⟨a,T,vs,k,rfl,hT,ho,hz,rs⟩:=I.seq r h
 intro Q E q
 refine call_list_seq a hT ho rfl rfl (λh' c' hk hn=>?_) (d4 (by simpa using hz))
 obtain ⟨st,I'⟩:=I.wc (t:=s.toks) hk hn
 exact q _ _ _ st I' (.lst (Gh.bu ..) ⟨hz,_,rfl⟩ (rs.mono st.toLe))
theorem aE.ofInts {V:aq} {g:Gh} {f:Nat->Int} : ∀ {k:Nat} {vs:List Value},vs.length=k->(∀ (j:Nat) (v:Value),vs[j]?=some v->∃ t,v=Value.int (f j) t)->aE V g ((List.range k).map λj=>D.int (f j)) vs:=by
 intro k
 induction k generalizing f with
 |zero=>intro vs h _; induction vs using List.casesOn with|nil=>exact .nil|cons _ _=>cases h
 |succ k ih=>
  intro vs h hv
  induction vs using List.casesOn with
  |nil=>cases h
  |cons v vs=>
   obtain ⟨t,rfl⟩:=hv 0 v (by simp)
   rw [List.range_succ_eq_map,map_cons,map_map]
   refine .cons (.int _ _) (ih (f:=λj=>f (j+1)) (by simpa using h) λj v e=>hv (j+1) v (by simpa using e))
theorem Fq (a b:Int):Builtin.Range.rangeSize a b 1=((b - a).toNat:Nat):=by
 show (if a<b then (b - a - 1) / 1+1 else 0)=_
 by_cases h:a<b
 ·rw [if_pos h,Int.ediv_one,Int.sub_add_cancel,Int.toNat_of_nonneg (Int.sub_nonneg_of_le (Int.le_of_lt h))]
 ·rw [if_neg h,Int.toNat_of_nonpos (Int.sub_nonpos_of_le (Int.not_lt.mp h))]; rfl
theorem vW {a:Int} (lo : -(2 ^ 63)<=a) (hi:a<2 ^ 63):Builtin.Range.rangeFitsLong a=true:=by
 show (decide (-(2 ^ 63)<=a)&&decide (a<2 ^ 63))=true
 rw [decide_eq_true lo,decide_eq_true hi]; rfl
theorem oF {a:Int} (h:a.natAbs<2 ^ 60) : -(2 ^ 63)<=a/\a<2 ^ 63:=
 have e:(a.natAbs:Int)<2 ^ 63:=Int.lt_trans (ofNat_lt.mpr h) (by decide)
 ⟨Int.le_trans (Int.neg_le_neg (Int.le_of_lt e)) (Int.neg_le_of_neg_le (by rw [<-Int.natAbs_neg]; exact le_natAbs)),Int.lt_of_le_of_lt le_natAbs e⟩
theorem Fm {a b:Int} (h:oW a b=true):Builtin.Range.small a b 1=true/\b - a<=aD:=by
 unfold oW at h
 simp only [and_eq_true,decide_eq_true_eq] at h
 refine ⟨?_,h.2⟩
 have e:(((b - a).toNat:Nat):Int)<=aD:=ofNat_le.mpr (Int.toNat_le.mpr h.2)
 have fb:=vW (oF h.1.2).1 (oF h.1.2).2
 show (Builtin.Range.rangeFitsLong a&&Builtin.Range.rangeFitsLong b&&Builtin.Range.rangeFitsLong 1&&Builtin.Range.rangeFitsLong (Builtin.Range.rangeSize a b 1)&&(Builtin.Range.rangeSize a b 1==0||Builtin.Range.rangeFitsLong (b+0)))=true
 rw [vW (oF h.1.1).1 (oF h.1.1).2,fb,Fq,vW (Int.le_trans (by decide) (natCast_nonneg _)) (Int.lt_of_le_of_lt e (by decide)),Int.add_zero,fb,Bool.or_true]; rfl
set_option tactic.hygienic true in
theorem P7 (hh:A.handled=none) (I:ah V F m C g s) {a b:Int} {v:Value} (r:ab V g (.ck a b) v) (hz:b - a<=aD) (hs:Builtin.Range.small a b 1=true):ai V F (ab V) (cn V A .list [v]) g s (.ok (.lst (eN a b)) ⟨m,C⟩):=by
 cases r with
 |ck h1 h2=>
  rename_i ra o t₁ t₂ t₃
  intro Q E q
  have hr:IsRange s.heap ra a b 1 t₁ t₂ t₃:=by rw [eQ] at h2; subst h2; exact I.ay _ _ h1
  have hn:Builtin.Range.rangeSize a b 1=((b - a).toNat:Nat):=Fq a b
  have hl:(b - a).toNat<=100000:=Int.toNat_le.mpr hz
  refine call_list_range hh hr hs hn (le_trans hl (by decide)) λh' tk acc c' hk ho lj=>?_
  obtain ⟨st,I'⟩:=I.wc (t:=tk) hk ho
  obtain ⟨h3,h4⟩:=lj
  refine q _ _ _ st I' (.lst (Gh.bu ..) (vs:=acc.toList) ⟨by rw [Array.length_toList,h3]; exact hl,_,by simp; rfl⟩ ?_)
  unfold eN
  exact aE.ofInts (f:=λj=>a+(j:Int)) (by simpa using h3) λj v e=>by
   obtain ⟨t,rfl⟩:=h4 j v (by simpa using e)
   exact ⟨t,by simp⟩
theorem Qo (I:ah V F m C g s) {d:D} {v:Value} (r:ab V g d v) {ds:List D} (h:aU C d=some ds):ai V F (ab V) (cn V A .tuple [v]) g s (.ok (.tup ds) ⟨m,C⟩):=by
 obtain ⟨a,vs,k,rfl,hl,hz,rs⟩:=I.list r h
 intro Q E q
 refine call_tuple_list hl.isList (λh' hk=>?_) (d4 (by simpa using hz))
 have I1:=I.heap hk
 obtain ⟨st,I'⟩:=I1.ku {cls:=.type "tuple",data:=.seq vs.toArray} rfl s.toks
 exact q _ _ _ st I' (.tup (Gh.bu ..) ⟨hz,_,rfl⟩ (rs.mono st.toLe))
theorem M0 {V:aq} {g:Gh} {ds:List D} {xs:List Int} {vs:List Value} (h:eh ds=some xs) (r:aE V g ds vs) : ∃ ys:Array (Int × Tok),vs.toArray=intItems ys/\ys.toList.map (·.1)=xs:=by
 have hi:=oH h r
 have : ∃ l:List (Int × Tok),vs=l.map (λp=>Value.int p.1 p.2)/\l.map (·.1)=xs:=by
  clear h r
  induction hi with
  |nil=>exact ⟨[],rfl,rfl⟩
  |cons n t _ ih=>obtain ⟨l,rfl,h2⟩:=ih; exact ⟨(n,t)::l,rfl,by simp [h2]⟩
 obtain ⟨l,rfl,h2⟩:=this
 exact ⟨l.toArray,by simp [intItems],by simpa using h2⟩
theorem Am : ∀ {xs:List Int},(∀ x∈xs,x.natAbs<2 ^ 32)->xs.sum.natAbs<=xs.length*2 ^ 32
 |[],_=>by simp
 |x::r,h=>by
  have ih:=Am (xs:=r) λy hy=>h y (.tail _ hy)
  have hx:=h x (.head _)
  rw [List.sum_cons,length_cons]
  exact le_trans (Int.natAbs_add_le x r.sum) (le_trans (add_le_add (le_of_lt hx) ih) (by rw [succ_mul]; exact le_of_eq (add_comm _ _)))
theorem Qm (hh:A.handled=none) (I:ah V F m C g s) {d:D} {v:Value} (r:ab V g d v) {ds:List D} {xs:List Int} (h:aU C d=some ds) (hx:eh ds=some xs) (hb : ∀ x∈xs,x.natAbs<2 ^ 32) (hz:xs.length<=aD) :
  ai V F (ab V) (cn V A .sum [v]) g s (.ok (.int xs.sum) ⟨m,C⟩):=by
 obtain ⟨a,vs,k,rfl,hl,fM,rs⟩:=I.list r h
 obtain ⟨ys,e1,e2⟩:=M0 hx rs
 intro Q E q
 have eI:s.heap.IsList a (intItems ys):=e1 ▸ hl.isList
 have oy:aD=100000:=rfl
 have hlen:ys.size=xs.length:=by rw [<-e2]; simp
 refine sum_intList hh eI (λj hj=>?_) λh' tk t' hk=>?_
 ·rw [numAt_eq,preSum_eq,e2]
  constructor
  ·exact oF (lt_trans (hb _ (getD_mem (hlen ▸ hj))) (by decide))
  ·have h1:=Am (xs:=xs.take (j+1)) λx hx=>hb x (mem_of_mem_take hx)
   have h2:(xs.take (j+1)).length<=aD:=le_trans (by rw [length_take]; exact Nat.min_le_right _ _) hz
   exact oF (lt_of_le_of_lt (le_trans h1 (mul_le_mul_right _ h2)) (by decide))
 ·rw [preSum_eq,e2,List.take_of_length_le (le_of_eq hlen.symm)]
  exact q g _ _ (.refl g) (I.both tk hk) (.int _ _)
end
namespace LB
open PySem.W in
theorem QM:Slot "bytes" "__len__" "bytes.__len__":=FB.slot_bytes_len
section
variable {prog:Program} {w:World} {A:Around} {E:Value->Shared->Prop} {s:Shared} {b:Array UInt8} {t:Tok}
set_option maxRecDepth 100000 in
theorem Lr {Q:Bool->Shared->Prop} (h:Q false s):wpAny (model prog w) A (Builtin.List.listLengthHint (.bytes b t)) Q E s:=by
 unfold Builtin.List.listLengthHint
 refine wpAny_bind (wpAny_specialOf (W.typeIs_bytes _ _ _) QM.lookup ?_)
 generalize Dc:("bytes.__len__":String)=MJ
 wp_delta
 rw [show splitId MJ=some ("bytes","__len__") from by subst Dc; decide +kernel]
 subst Dc
 refine wpAny_bind (wpAny_isInstance (T:="bytes") (b:=true) (W.typeIs_bytes _ _ _) (by rw [isSubtype_type]; kernel_rfl) ?_)
 refine wpAny_ite_split (λeF=>absurd eF (by decide)) (λu'=>?_)
 refine wpAny_ite_split (λu'=>?_) (λeF=>absurd (by decide +kernel) eF)
 refine wpAny_bind (wpAny_typeOf (T:="bytes") (W.typeIs_bytes _ _ _) ?_)
 exact wpAny_pure h
set_option maxRecDepth 100000 in
theorem JC {R:Result->Shared->Prop} (hh:A.handled=none) (hlen:b.size<=2 ^ 20) (S:Addr) (res:Value) (c₀:Nat) (hS:s.heap.get? S=some {cls:=.type "list",data:=.seq #[] c₀})
  (hR : ∀ h' tk bk c',(∀ b o,b≠S->s.heap.get? b=some o->h'.get? b=some o)->h'.get? S=some {cls:=.type "list",dict:=none,data:=.seq bk c',slots := #[]}->
   ItemsOf (λi v => ∃ c u,b[i]?=some c/\v=.int (c.toNat:Int) u) bk b.size->R (.ok (.ret res)) {s with heap:=h',toks:=tk}) :
  wpAny (model prog w) A.in1 (Builtin.List.listExtendWith (.ref S) (.bytes b t) res)
   (λfin s'=>match fin with|.done f=>R (.ok f) s'|.again c'=>c'.quiet=true/\codeAny (model prog w) A c' R s') (λe s'=>R (.error e) s') s:=by
 have KQ:S<s.heap.objs.size:=Heap.lt_size hS
 have KP:S≠s.heap.objs.size:=ne_of_lt KQ
 have wm:S ∉ [s.heap.objs.size]:=λhm=>KP (mem_singleton.mp hm)
 have WW:=(W.KBw.walks (prog:=prog) (w:=w) (A:=A.in1) hh s.heap.objs.size b t).toS
 have key : ∀ (h:Heap) (c₁ tk:Nat),W.KBw.IsBytesIter h s.heap.objs.size b t 0->(∀ b o,b≠S->s.heap.get? b=some o->h.get? b=some o)->
   h.get? S=some {cls:=.type "list",data:=.seq #[] c₁}->codeAny (model prog w) A (.builtin "list.extend.loop" ⟨[.ref S,.ref s.heap.objs.size,res],[]⟩) R {s with heap:=h,toks:=tk}:=by
  intro h c₁ tk hit hk wo
  refine codeAny_extend_loopS WW (by rw [sizeLine_eq]; omega) S wm res b.size 0 _ #[] c₁ rfl (zero_le _) hit wo (ItemsOf.nil _) λs' bk c' hm fH lj=>?_
  rw [Moved.eq_with hm]
  refine hR s'.heap s'.toks bk c' (λb o hb e=>hm.heap b o (λff=>?_) (hk b o hb e)) fH lj
  rcases mem_cons.mp ff with e'|ff
  ·exact hb e'
  ·exact absurd (Heap.lt_size e) (by rw [mem_singleton.mp ff]; exact lt_irrefl _)
 unfold Builtin.List.listExtendWith
 refine wpAny_bind (wpAny_typeOf (T:="bytes") (W.typeIs_bytes _ _ _) ?_)
 have h1:Builtin.List.listSameRef (.ref S) (.bytes b t)=false:=rfl
 have h2:(Value.type "bytes"==Value.type "list")=false:=by decide
 have h3:(Value.type "bytes"==Value.type "tuple")=false:=by decide
 simp only [h1,h2,h3,Bool.or_false,false_eq_true,if_false]
 refine wpAny_bind (W.KBw.pyIter_bytes ?_)
 refine wpAny_bind (wpAny_holding (Lr ?_))
 have Lw:W.KBw.IsBytesIter (s.heap.push {cls:=.type "bytes_iterator",data:=.fields #[.bytes b t,.int 0 0]}) s.heap.objs.size b t 0:=⟨_,Heap.get?_push_size _ rfl,rfl,rfl⟩
 have wo:=Heap.get?_push_of_some {cls:=.type "bytes_iterator",data:=.fields #[.bytes b t,.int 0 0]} hS
 exact wpAny_ite_split (λeF=>absurd eF Bool.false_ne_true) (λu'=>wpAny_pure ⟨plainId_quiet PySem.F.plain_extend_loop _,key _ c₀ _ Lw (λb o u' e=>Heap.get?_push_of_some _ e) wo⟩)
set_option maxRecDepth 100000 in
theorem HY {Q:Value->Shared->Prop} (hh:A.handled=none) (hlen:b.size<=2 ^ 20)
  (hQ : ∀ h' tk bk c',(∀ b o,s.heap.get? b=some o->h'.get? b=some o)->
   h'.get? s.heap.objs.size=some {cls:=.type "list",dict:=none,data:=.seq bk c',slots := #[]}->ItemsOf (λi v => ∃ c u,b[i]?=some c/\v=.int (c.toNat:Int) u) bk b.size->Q (.ref s.heap.objs.size) {s with heap:=h',toks:=tk}) :
  wpAny (model prog w) A (call (.type "list") [.bytes b t]) Q E s:=by
 refine callType_codes (Q₁:=λobj s₁=>obj=.ref s.heap.objs.size/\s₁={s with heap:=s.heap.push {cls:=.type "list",data:=.seq #[]}}) PySem.F.called_list (PySem.F.typeCall_list_1 _) PySem.F.entry_list_init
  (code_list_new _ ⟨rfl,rfl⟩) λobj s₁ h₁=>?_
 obtain ⟨rfl,rfl⟩:=h₁
 have hS:(s.heap.push {cls:=.type "list",data:=.seq #[]}).get? s.heap.objs.size=some {cls:=.type "list",data:=.seq #[]}:=Heap.get?_push_size _ rfl
 refine ⟨⟨_,hS,rfl⟩,PySem.F.args_list_init_2 _ _,?_⟩
 show wpAny _ _ (do let old <-Builtin.List.listItems (.ref s.heap.objs.size); Builtin.List.listUpdate (.ref s.heap.objs.size) (λu' => #[]); letGo old.toList.reverse; Builtin.List.listExtendWith (.ref s.heap.objs.size) (.bytes b t) .none) _ _ _
 refine wpAny_bind ?_
 unfold Builtin.List.listItems
 refine wpAny_bind (wpAny_seqItems hS rfl (wpAny_pure ?_))
 show wpAny _ _ (updateSeq s.heap.objs.size (λu' => #[]) >>= λu'=>letGo (#[]:Array Value).toList.reverse >>= λu'=>Builtin.List.listExtendWith (.ref s.heap.objs.size) (.bytes b t) .none) _ _ _
 refine wpAny_bind (wpAny_updateSeq hS rfl ?_)
 have wq:=Heap.get?_update_self (Obj.mapSeq (λu'=>(#[]:Array Value))) hS rfl
 refine wpAny_bind (wpAny_letGo ?_)
 refine JC (A:=A.in1) hh hlen s.heap.objs.size .none _ wq λh' tk bk c' hk fH lj=>⟨rfl,hQ h' tk bk c' (λb o e=>hk b o (ne_of_lt (Heap.lt_size e)) ?_) fH lj⟩
 exact (Heap.get?_update_other _ _ (ne_of_gt (Heap.lt_size e))).trans (Heap.get?_push_of_some _ e)
theorem NU (l:Addr) (items:Array Value) (wL:(items.size:Int)<2 ^ 63) :
  Meets (Builtin.«bool.__new__» ⟨[.type "bool",.ref l],[]⟩) (λu' R s=>s.heap.IsList l items/\R (.ok (.ret (.bool (!items.isEmpty)))) {s with toks:=s.toks+1+1}):=
 Meets.of_wp λprog w A R s hs=>by
  obtain ⟨hp,g,d,tk,os⟩:=s
  obtain ⟨hl,hs⟩:=hs
  have f1:=PySem.F.conv_sub_bool
  repeat (any_goals (first|assumption|(with_reducible refine wpAny_truthy_list hl wL ?_)|wp_step))
  all_goals first|exact ⟨_,rfl,hs⟩|exact hs|skip
end
end LB
set_option maxRecDepth 100000 in
theorem Su {prog:Program} {w:World} {A:Around} {E:Value->Shared->Prop} {s:Shared} {b:Array UInt8} {t:Tok} {id:String} {S:Addr} {Q:Unit->Shared->Prop}
  (h:wpAny (model prog w) A (pyIter (.bytes b t)) (λit s'=>wpAny (model prog w) A (runValue (.builtin "set.update.loop" ⟨[.ref S,it],[]⟩)) (λu' du=>Q () du) E s') E s) :
  wpAny (model prog w) A (Builtin.Frozenset.updateFrom id S (.bytes b t)) Q E s:=by
 unfold Builtin.Frozenset.updateFrom
 refine wpAny_bind ?_
 unfold Builtin.Frozenset.isAnySet
 refine wpAny_bind (wpAny_isInstance (T:="bytes") (b:=false) (W.typeIs_bytes _ _ _) PySem.F.sub_bytes_set ?_)
 simp only [false_eq_true,if_false]
 first
 |refine wpAny_isInstance (T:="bytes") (b:=false) (W.typeIs_bytes _ _ _) PySem.F.sub_bytes_frozenset ?_
 |refine wpAny_bind (wpAny_isInstance (T:="bytes") (b:=false) (W.typeIs_bytes _ _ _) PySem.F.sub_bytes_frozenset (wpAny_pure ?_))
 simp only [false_eq_true,if_false]
 refine wpAny_bind (wpAny_typeOf (T:="bytes") (W.typeIs_bytes _ _ _) ?_)
 have td:(Value.type "bytes"==Value.type "dict")=false:=by decide
 simp only [td,false_eq_true,if_false]
 refine wpAny_bind (wpAny_mono h (λit s' h'=>wpAny_bind (wpAny_mono h' (λu' du q=>wpAny_pure q) λu' u' e=>e)) λu' u' e=>e)
set_option maxRecDepth 100000 in
set_option maxHeartbeats 2000000 in
open PySem.F in
theorem HZ {prog:Program} {w:World} {A:Around} {E:Value->Shared->Prop} {s:Shared} {b:Array UInt8} {t:Tok} {ns:List Int} {Q:Value->Shared->Prop}
  (hh:A.handled=none) (hi:ns=b.toList.map λc=>(c.toNat:Int)) (hb:b.size+1<scanBound)
  (h : ∀ (h':Heap) (tk:Nat),h'.SetOf (intKind prog w) s.heap.objs.size (λk'=>(PyProof.Rows.firstMet (λi=>ns.getD i 0) b.size).any (· == k')) (PyProof.Rows.firstMet (λi=>ns.getD i 0) b.size).length->
   (∀ b o,b<s.heap.objs.size->s.heap.get? b=some o->h'.get? b=some o)->Q (.ref s.heap.objs.size) {s with heap:=h',toks:=tk}) :
  wpAny (model prog w) A (call (.type "set") [.bytes b t]) Q E s:=by
 obtain ⟨c,tl,S6⟩:=PySem.F.called_set.mro
 have S5:=PySem.F.called_set.made
 have Td:=PySem.F.called_set.sub
 refine wpAny_call (codeAny_of_tree ?_)
 show wpAny _ _ (callAny (.type "set") _) _ _ _
 refine wpAny_pure ⟨Code.quiet_builtin _ (by decide +kernel),codeAny_builtin PySem.F.entry_type_call ?_⟩
 rw [Around.under_plain (weight_type_call_type "set" [.bytes b t] []) rfl]
 have h1:=PySem.F.called_set.notType
 have h2:=PySem.F.called_set.canCreate
 have SV:=PySem.F.typeCall_set_1 (.bytes b t)
 repeat (any_goals (first|assumption|wp_step))
 refine codeAny_mono (code_set_new_1 (.bytes b t) (E:=E) (Q₁:=λobj s₁ => ∃ led:Bool,obj=.ref s.heap.objs.size/\s₁={s with heap:=s.heap.push {cls:=.type "set",dict:=none,data:=.set #[] 0 (.fresh 0 0 led)}}) λled=>⟨led,rfl,rfl⟩) λr s₁ hr=>?_
 induction r using Except.casesOn with
 |error e=>exact hr
 |ok fl=>
  induction fl using Flow.casesOn with
  |ret obj=>
   obtain ⟨led,rfl,rfl⟩:=hr
   have hS:(s.heap.push {cls:=.type "set",dict:=none,data:=.set #[] 0 (.fresh 0 0 led)}).get? s.heap.objs.size=some {cls:=.type "set",dict:=none,data:=.set #[] 0 (.fresh 0 0 led)}:=Heap.get?_push_size _ rfl
   have hT:Shared.TypeIs {s with heap:=s.heap.push {cls:=.type "set",dict:=none,data:=.set #[] 0 (.fresh 0 0 led)}} (.ref s.heap.objs.size) "set":=⟨_,hS,rfl⟩
   have SY:=PySem.F.called_set.init.lookup
   have SU:=PySem.F.called_set.init.bind (.ref s.heap.objs.size)
   repeat (any_goals (first|assumption|wp_step))
   refine codeAny_mono (codeAny_call_builtin (R:=wants (λr s₂=>r=.none/\∃ h' tk,s₂={s with heap:=h',toks:=tk}/\
     h'.SetOf (intKind prog w) s.heap.objs.size (λk'=>(PyProof.Rows.firstMet (λi=>ns.getD i 0) b.size).any (· == k')) (PyProof.Rows.firstMet (λi=>ns.getD i 0) b.size).length/\
     (∀ b o,b<s.heap.objs.size->s.heap.get? b=some o->h'.get? b=some o)) E) PySem.F.called_set.init.plain PySem.F.entry_set_init (check_set_init_1 hT ?_)) λr₂ s₂ w8=>?_
   ·have Tc:=PySem.F.sub_bytes_set
    have Tb:=PySem.F.sub_bytes_frozenset
    have td:(Value.type "bytes"==Value.type "dict")=false:=by decide
    have Te:Shared.TypeIs {s with heap:=s.heap.push {cls:=.type "set",dict:=none,data:=.set #[] 0 (.fresh 0 0 led)}} (.bytes b t) "bytes":=W.typeIs_bytes _ _ _
    have S7:mroOf (.type "bytes")=mroOf (.type "bytes"):=rfl
    unfold Builtin.«set.__init__» noKeywords
    generalize KL:Builtin.Frozenset.updateFrom=PI
    wp_walk
    subst KL
    refine Su ?_
    refine W.KBw.pyIter_bytes ?_
    refine wpAny_runValue ?_
    have Ll:A.in1.in1.in1.handled=none:=by simp [hh]
    have wm:s.heap.objs.size ∉ [(s.heap.push {cls:=.type "set",dict:=none,data:=.set #[] 0 (.fresh 0 0 led)}).objs.size]:=by
     rw [Heap.size_push]; simp only [mem_cons,mem_singleton,not_mem_nil,or_false]
     exact ne_of_lt (lt_succ_self _)
    have qx : ∀ (i:Nat) (v:Value),(∃ c u,b[i]?=some c/\v=.int (c.toNat:Int) u)->∃ t,v=.int ((λi=>ns.getD i 0) i) t:=λi v ⟨c,u,hc,hv⟩=>by
     refine ⟨u,?_⟩
     rw [hv,hi]
     simp [getD_eq_getElem?_getD,hc]
    refine codeAny_set_update_loopS ((W.KBw.walks Ll _ b t).toS) s.heap.objs.size
     wm (λi=>ns.getD i 0) qx hb (b.size - 0) 0 _ (by omega) (zero_le _)
     ⟨_,Heap.get?_push_size _ rfl,rfl,rfl⟩ ?KO ?hR
    case KO=>
     have Li:((s.heap.push {cls:=.type "set",dict:=none,data:=.set #[] 0 (.fresh 0 0 led)}).push {cls:=.type "bytes_iterator",data:=.fields #[.bytes b t,.int 0 0]}).get? s.heap.objs.size
       = some {cls:=.type "set",dict:=none,data:=.set #[] 0 (.fresh 0 0 led)}:=Heap.get?_push_of_some _ hS
     exact SetOf_congr ((setObjOf_fresh (knd:=intKind prog w) led).setOf Li (by unfold scanBound; omega)) (λu'=>rfl) rfl
    case hR=>
     intro s' hm fH
     obtain ⟨h',g',d',yI,kx⟩:=s'
     have eg:g'=s.gens:=hm.gens
     have ed:d'=s.drawn:=hm.drawn
     have eo:kx=s.os:=hm.os
     subst eg; subst ed; subst eo
     show wpAny _ _ _ _ _ _
     refine wpAny_pure ⟨rfl,h',yI,rfl,fH,λb o hb e=>?_⟩
     have jB:b≠s.heap.objs.size:=ne_of_lt hb
     have lp:b≠(s.heap.push {cls:=.type "set",dict:=none,data:=.set #[] 0 (.fresh 0 0 led)}).objs.size:=by
      rw [Heap.size_push]; exact ne_of_lt (lt_succ_of_lt hb)
     exact hm.heap b o (by simp only [mem_cons,mem_singleton,not_mem_nil,or_false,not_or]; exact ⟨jB,lp⟩) (Heap.get?_push_of_some _ (Heap.get?_push_of_some _ e))
   ·induction r₂ using Except.casesOn with
    |error e=>exact w8
    |ok JL=>
     induction JL using Flow.casesOn with
     |ret r=>
      obtain ⟨rfl,h',tk,rfl,fH,ir⟩:=w8
      repeat (any_goals (first|assumption|wp_step))
      exact h _ _ fH ir
     |_=>exact w8.elim
  |_=>exact hr.elim
section
variable {V:aq} {G:aV} {F:aB} {A:Around} {cl:Calls} {m:List (Option D)} {C:af} {g:Gh} {s:Shared} {n l:Nat}
theorem Ec {x y:Int} : ∀ {xs:List Int},y∈gQ x xs↔y=x\/y∈xs
 |[]=>by simp [gQ]
 |a::r=>by
  unfold gQ
  split
  ·simp
  ·simp only [mem_cons,Ec (xs:=r)]
   constructor
   ·rintro (h|h|h)<;>simp [h]
   ·rintro (h|h|h)<;>simp [h]
theorem E5 {x:Int} : ∀ {xs:List Int},(gQ x xs).Perm (x::xs)
 |[]=>.refl _
 |a::r=>by
  unfold gQ
  split
  ·exact .refl _
  ·exact (List.Perm.cons a E5).trans (.swap x a r)
set_option tactic.hygienic true in
theorem F6 {x:Int} : ∀ {xs:List Int},xs.Pairwise (·<=·)->(gQ x xs).Pairwise (·<=·)
 |[],_=>by simp [gQ]
 |a::r,h=>by
  rw [pairwise_cons] at h
  unfold gQ
  split
  ·rename_i hx
   refine pairwise_cons.mpr ⟨λy hy=>?_,pairwise_cons.mpr h⟩
   rcases mem_cons.mp hy with rfl|hy
   ·omega
   ·have:=h.1 y hy; omega
  ·rename_i hx
   refine pairwise_cons.mpr ⟨λy hy=>?_,F6 h.2⟩
   rcases Ec.mp hy with rfl|hy
   ·omega
   ·exact h.1 y hy
theorem F5 (xs:List Int):(o6 xs).Perm xs/\(o6 xs).Pairwise (·<=·):=by
 have : ∀ (ys acc:List Int),acc.Pairwise (·<=·)->(ys.foldl (λacc x=>gQ x acc) acc).Perm (ys++acc)/\(ys.foldl (λacc x=>gQ x acc) acc).Pairwise (·<=·):=by
  intro ys
  induction ys with
  |nil=>intro acc h; exact ⟨.refl _,h⟩
  |cons y r ih=>
   intro acc h
   obtain ⟨h1,h2⟩:=ih (gQ y acc) (F6 h)
   refine ⟨h1.trans ?_,h2⟩
   exact (List.Perm.append_left r E5).trans List.perm_middle
 have:=this xs [] List.Pairwise.nil
 simpa [o6] using this
theorem aE.ints {V:aq} {g:Gh} {xs:List Int} {vs:List Value} (h:IntsAre vs xs):aE V g (xs.map .int) vs:=by
 induction h with
 |nil=>exact .nil
 |cons k t _ ih=>exact .cons (.int _ _) ih
theorem Qi (I:ah V F m C g s) {d:D} {v:Value} (r:ab V g d v) {ds:List D} {xs:List Int} (h:aU C d=some ds) (hx:eh ds=some xs) (hz:xs.length<64) :
  ai V F (ab V) (cn V A .sorted [v]) g s (.ok (.lst ((o6 xs).map .int)) ⟨m,C⟩):=by
 obtain ⟨a,vs,k,rfl,hl,fM,rs⟩:=I.list r h
 have hi:=oH hx rs
 have hlen:vs.length=xs.length:=hi.length
 intro Q E q
 refine sorted_ints hl.isList hi (by omega) λout OB a1 a2 a3=>?_
 obtain ⟨e,he⟩:=sortedAll_at s.heap vs out
 have kb:OB=o6 xs:=by
  obtain ⟨p1,p2⟩:=F5 xs
  exact List.Perm.eq_of_pairwise (λa b u' u' h1 h2=>Int.le_antisymm h1 h2) a3 p2 (a2.trans p1.symm)
 subst kb
 have lr:s.heap.get? (s.heap.objs.size+1)=none:=Heap.get?_none_of_le (le_succ _)
 have I':=I.more (t:=s.toks) (x:=.ay (seqObj "list" out e)) (λu' u' h=>sortedAll_old h) lr he (.inl rfl)
 have st:g.Step (g.put (s.heap.objs.size+1) (some (.ay (seqObj "list" out e)))):=Gh.nv (I.apart lr)
 refine q _ _ _ st I' (.lst (Gh.bu ..) (vs:=out.toList) ⟨?_,e,by simp⟩ (aE.ints a1))
 rw [a1.length,(F5 xs).1.length_eq]
 have:aD=100000:=rfl
 omega
theorem RZ:isSubtype (.type "bytes") (.type "bytes")=pure true:=by rw [isSubtype_type]; kernel_rfl
set_option tactic.hygienic true in
theorem PZ (I:ah V F m C g s) {d t:D} {v u:Value} (r:ab V g d v) (ru:ab V g t u):ai V F (ab V) (cn V A .isinstance [v,u]) g s (Aa d t ⟨m,C⟩):=by
 induction d using D.casesOn<;>first|trivial|skip
 ·induction t using D.casesOn<;>first|trivial|skip
  rename_i b
  induction b using Bn.casesOn<;>first|trivial|skip
  obtain rfl:=r.oC
  obtain rfl:=ru.xh
  exact λQ E q=>call_isinstance (isinstance_true (Tx:="bool") PySem.F.isi_meta_bool PySem.F.conv_sub_bool) ⟨rfl,q g _ _ (.refl g) I (.bool _)⟩
 ·induction t using D.casesOn<;>first|trivial|skip
  rename_i b
  induction b using Bn.casesOn<;>first|trivial|skip
  obtain ⟨_,_,rfl⟩:=r.mI
  obtain rfl:=ru.xh
  exact λQ E q=>call_isinstance (isinstance_true (Tx:="bytes") PySem.F.isi_meta_bytes RZ) ⟨W.typeIs_bytes _ _ _,q g _ _ (.refl g) I (.bool _)⟩
theorem PN (I:ah V F m C g s) {d:D} {v:Value} (r:ab V g d v) {ds:List D} (h:aU C d=some ds):ai V F (ab V) (cn V A .bool [v]) g s (.ok (.bool (!ds.isEmpty)) ⟨m,C⟩):=by
 obtain ⟨a,vs,k,rfl,hl,fM,rs⟩:=I.list r h
 intro Q E q
 refine call_bool_1 (LB.NU a vs.toArray (oK fM)) (show _/\_ from ⟨hl.isList,?_⟩)
 refine (⟨rfl,?_⟩:_/\_)
 rw [rs.isEmpty]
 exact q g _ _ (.refl g) (I.tok _) (.bool _)
set_option tactic.hygienic true in
theorem Aq : ∀ {xs:List Int} {b:List UInt8},gB xs=some b->(∀ x∈xs,0<=x/\x<256)/\b=xs.map (λx=>x.toNat.toUInt8)
 |[],b,h=>by obtain rfl:=Option.some.inj h; exact ⟨λx hx=>absurd hx not_mem_nil,rfl⟩
 |i::r,b,h=>by
  unfold gB at h
  split at h
  ·rename_i hi
   obtain ⟨b',hb,rfl⟩:=cB h
   obtain ⟨h1,rfl⟩:=Aq hb
   exact ⟨λx hx=>by rcases mem_cons.mp hx with rfl|hx; exact hi; exact h1 x hx,rfl⟩
  ·exact ao h
theorem PO (hh:A.handled=none) (I:ah V F m C g s) {d:D} {v:Value} (r:ab V g d v) {ds:List D} {xs:List Int} {b:List UInt8} (h:aU C d=some ds) (hx:eh ds=some xs) (hb:gB xs=some b) (hz:b.length<=aD) :
  ai V F (ab V) (cn V A .bytes [v]) g s (.ok (.bytes b) ⟨m,C⟩):=by
 obtain ⟨a,vs,k,rfl,hl,fM,rs⟩:=I.list r h
 obtain ⟨h1,rfl⟩:=Aq hb
 intro Q E q
 refine PySem.call_bytes_ints hl.isList (oH hx rs) h1 (d4 fM) hh λh' t k hk=>?_
 exact q g _ _ (.refl g) (I.both k hk) (.bytes _ hz)
theorem QR {a:Int} (h:small a=true):a.natAbs.log2<1920:=by
 have:=o5 h
 by_cases h0:a.natAbs=0
 ·rw [h0]; decide
 ·have:=(Nat.log2_lt h0).mpr this
  omega
theorem Ql (I:ah V F m C g s) {i:Int} {t:Tok} (hs:small i=true):ai V F (ab V) (cn V A .str [.int i t]) g s (.ok (.str (Str.ofString (toString i))) ⟨m,C⟩):=
 qV I (t:=s.toks+1) (.str _ _) λQ E q=>P.str_of_int (QR hs) q
set_option tactic.hygienic true in
theorem Qk (hu:A.units+2<cLine) (I:ah V F m C g s) {msg:Str} {v:Value} (r:ab V g (.jO msg) v):ai V F (ab V) (cn V A .str [v]) g s (.ok (.str msg) ⟨m,C⟩):=by
 cases r with
 |jO h1 h2 h3 h4 h5=>
  rename_i a ta o o' u vs
  obtain ⟨hz,k,hk⟩:=h5
  intro Q E q
  refine P.str_of_exc_one PySem.F.excStr_ValueError hu (e:=a) (t0:=ta) ⟨o,_,I.ay _ _ h1,h2,h3,by simp⟩ ⟨_,k,I.ay _ _ h4,hz,hk⟩ ?_
  exact q g _ _ (.refl g) I (.str _ _)
theorem Qp (I:ah V F m C g s) {d:D} {v:Value} (r:ab V g d v):ai V F (ab V) (cn V A .type [v]) g s (Ai d ⟨m,C⟩):=by
 induction d using D.casesOn<;>first|trivial|((first|obtain rfl:=r.oC|obtain ⟨_,_,rfl⟩:=r.mI); first
  |exact λQ E q=>call_type_of (W.typeIs_bytes _ _ _) (by decide) (q g _ _ (.refl g) I (.bn .bytes))
  |exact λQ E q=>call_type_of (Tx:="bool") rfl (by decide) (q g _ _ (.refl g) I (.bn .bool)))
theorem Gh.rj {g:Gh} {a:Addr} {i:Nat} (h:g a=none):g.Step (g.put a (some (.cell i))):=
 ⟨Gh.gm _ h,λb o'=>⟨λe=>(by rw [Gh.aX]; exact e; intro q; subst q; rw [h] at e; exact ao e),λe=>(by
  rcases Gh.bE e with ⟨_,q⟩|⟨_,q⟩
  ·cases q
  ·exact q)⟩⟩
theorem ah.oR (I:ah V F m C g s) {h':Heap} {t:Nat} {o:Obj} {c:Ch} (k : ∀ b o,s.heap.get? b=some o->h'.get? b=some o) (ho:h'.get? s.heap.objs.size=some o)
  (hc:kJ V (g.put s.heap.objs.size (some (.cell C.length))) c o):g.Step (g.put s.heap.objs.size (some (.cell C.length)))/\ah V F m (C++[c]) (g.put s.heap.objs.size (some (.cell C.length))) {s with heap:=h',toks:=t}/\
   ab V (g.put s.heap.objs.size (some (.cell C.length))) (.loc C.length) (.ref s.heap.objs.size):=
 ⟨Gh.rj I.fw,I.vp k (Heap.get?_none_of_le (le_refl _)) ho hc,.loc (Gh.bu ..)⟩
theorem Qe (I:ah V F m C g s):ai V F (ab V) (cn V A .set []) g s (.ok (.loc C.length) ⟨m,C++[.set []]⟩):=λQ E q=>by
 refine call_set_0 λled=>?_
 have eG:=setObjOf_fresh (knd:=intKind V.prog V.w) led
 unfold Obj.SetObjOf at eG
 obtain ⟨hex,es,ep,t,hd,qf,ff,bT,hf⟩:=eG
 obtain ⟨st,I',r⟩:=I.oR (c:=.set []) (t:=s.toks) (λu' u' h=>Heap.get?_push_of_some _ h) (Heap.get?_push_size s.heap (o:={cls:=.type "set",dict:=none,data:=.set #[] 0 (.fresh 0 0 led)}) rfl)
  ⟨zero_le _,es,ep,t,hex,hd,qf,λk=>by rw [<-ff k]; simp,by rw [bT]; unfold scanBound; omega,hf,bT⟩
 exact q _ _ _ st I' r
theorem vE (xs:List Int):firstMet (λi=>xs.getD i 0) xs.length=ct xs:=by
 have e:(List.range xs.length).map (λi=>xs.getD i 0)=xs:=by
  apply List.ext_getElem
  ·simp
  ·intro i h1 h2
   simp at h1
   simp [h1]
 unfold firstMet ct
 rw [e]
 congr 1
 funext s x
 unfold step_dedup
 have:s.any (λy=>y==x)=s.contains x:=by
  rw [List.contains_eq_any_beq]
  congr 1; funext y
  exact Bool.eq_iff_iff.mpr ⟨λh=>by rw [eq_of_beq h]; exact beq_self_eq_true _,λh=>by rw [eq_of_beq h]; exact beq_self_eq_true _⟩
 rw [this]
theorem Bh (xs:List Int):(ct xs).length<=xs.length:=by rw [<-vE]; exact firstMet_length_le _ _
theorem Qg (hh:A.handled=none) (I:ah V F m C g s) {d:D} {v:Value} (r:ab V g d v) {ds:List D} {xs:List Int} (h:aU C d=some ds) (hx:eh ds=some xs) (hz:xs.length<=64) :
  ai V F (ab V) (cn V A .set [v]) g s (.ok (.loc C.length) ⟨m,C++[.set (ct xs)]⟩):=by
 obtain ⟨a,vs,k,rfl,hl,fM,rs⟩:=I.list r h
 have hi:=oH hx rs
 have hlen:vs.length=xs.length:=hi.length
 intro Q E q
 refine call_set_list hh hl.isList (ns:=xs) (by simpa using hi) (by simp only [size_toArray]; unfold scanBound; omega) λh' tk hS hk=>?_
 have e:(firstMet (λi=>xs.getD i 0) vs.toArray.size)=ct xs:=by rw [size_toArray,hlen,vE]
 rw [e] at hS
 obtain ⟨o,es,ep,t,ho,hex,hd,qf,ff,hn,hf,bT⟩:=hS
 obtain ⟨st,I',r'⟩:=I.oR (c:=.set (ct xs)) (t:=tk) (λb o e=>hk b o (Heap.lt_size e) e) ho
  ⟨le_trans (Bh _) hz,es,ep,t,hex,hd,qf,λk=>by
   rw [<-ff k]
   have:(ct xs).contains k=(ct xs).any (λy=>y==k):=by
    rw [List.contains_eq_any_beq]
    congr 1; funext y
    exact Bool.eq_iff_iff.mpr ⟨λh=>by rw [eq_of_beq h]; exact beq_self_eq_true _,λh=>by rw [eq_of_beq h]; exact beq_self_eq_true _⟩
   rw [this],hn,hf,bT⟩
 exact q _ _ _ st I' r'
theorem Qf (hh:A.handled=none) (I:ah V F m C g s) {b:List UInt8} {v:Value} (r:ab V g (.bytes b) v) (hz:b.length<=64) :
  ai V F (ab V) (cn V A .set [v]) g s (.ok (.loc C.length) ⟨m,C++[.set (ct (b.map λc=>(c.toNat:Int)))]⟩):=by
 cases r with
 |bytes t0 fM=>
 intro Q E q
 refine HZ hh (ns:=b.map λc=>(c.toNat:Int)) rfl (by simp only [size_toArray]; unfold scanBound; omega) λh' tk hS hk=>?_
 have e:(firstMet (λi=>(b.map λc=>(c.toNat:Int)).getD i 0) b.toArray.size)=ct (b.map λc=>(c.toNat:Int)):=by
  have:=vE (b.map λc=>(c.toNat:Int))
  rw [length_map] at this
  rw [size_toArray,this]
 rw [e] at hS
 obtain ⟨o,es,ep,t,ho,hex,hd,qf,ff,hn,hf,bT⟩:=hS
 obtain ⟨st,I',r'⟩:=I.oR (c:=.set (ct (b.map λc=>(c.toNat:Int)))) (t:=tk) (λb o e=>hk b o (Heap.lt_size e) e) ho
  ⟨le_trans (Bh _) (by rw [length_map]; exact hz),es,ep,t,hex,hd,qf,λk=>by
   rw [<-ff k]
   have:(ct (b.map λc=>(c.toNat:Int))).contains k=(ct (b.map λc=>(c.toNat:Int))).any (λy=>y==k):=by
    rw [List.contains_eq_any_beq]
    congr 1; funext y
    exact Bool.eq_iff_iff.mpr ⟨λh=>by rw [eq_of_beq h]; exact beq_self_eq_true _,λh=>by rw [eq_of_beq h]; exact beq_self_eq_true _⟩
   rw [this],hn,hf,bT⟩
 exact q _ _ _ st I' r'
theorem P0 (I:ah V F m C g s) {d:D} {v:Value} (r:ab V g d v) {ds:List D} (h:bW C d=some ds):ai V F (ab V) (cn V A .iter [v]) g s (.ok (.loc C.length) ⟨m,C++[.bj d 0]⟩):=by
 intro Q E q
 have main : ∀ (a:Addr) (T:String),v=.ref a->((∃ es,d=.tup es)/\T="tuple_iterator"\/(aU C d=some ds/\(∀ es,d≠.tup es))/\T="list_iterator")->
   (∀ {Q':Value->Shared->Prop},Q' (.ref s.heap.objs.size) {s with heap:=s.heap.push {cls:=.type T,data:=.fields #[.ref a,.int 0 0]}}->wpAny V.M A.in1 (pyIter (.ref a)) Q' E s)->
   cn V A .iter [v] Q E s:=by
  intro a T e hT hp
  subst e
  refine Calls.call_function_entry (by decide +kernel) (by decide +kernel) W.kdk_entry_iter (W.kdk_args_iter _) ?_
  unfold Builtin.«iter»
  refine wpAny_bind (m:=someArgs "iter" 1 2 _) (wpAny_of_eq (a:=[Value.ref a]) (by first|rfl|kernel_rfl) ?_)
  show wpAny _ _ (pyIter (.ref a) >>= _) _ _ _
  refine wpAny_bind (hp ?_)
  refine wpAny_pure ⟨_,rfl,?_⟩
  obtain ⟨st,I',r'⟩:=I.oR (c:=.bj d 0) (t:=s.toks) (λu' u' h=>Heap.get?_push_of_some _ h) (Heap.get?_push_size s.heap (o:={cls:=.type T,data:=.fields #[.ref a,.int 0 0]}) rfl) (by
   have st:g.Step _:=Gh.rj (i:=C.length) I.fw
   rcases hT with ⟨⟨es,rfl⟩,rfl⟩|⟨⟨hl,hn⟩,rfl⟩
   ·exact ⟨.ref a,0,rfl,r.mono st.toLe⟩
   ·have:d≠.none:=λe=>by subst e; exact ao hl
    induction d using D.casesOn<;>first|exact absurd rfl this|exact absurd rfl (hn _)|exact ⟨.ref a,0,rfl,r.mono st.toLe⟩)
  exact q _ _ _ st I' r'
 induction d using D.casesOn with
 |tup es=>
  obtain rfl:=Option.some.inj h
  obtain ⟨a,vs,k,e,hl,hz,rs⟩:=I.tup r
  exact main a "tuple_iterator" e (.inl ⟨⟨_,rfl⟩,rfl⟩) λh'=>wpAny_pyIter_tuple ⟨_,hl,rfl,_,rfl⟩ h'
 |lst es=>
  obtain ⟨a,vs,k,e,hl,hz,rs⟩:=I.list (ds:=ds) r h
  exact main a "list_iterator" e (.inr ⟨⟨h,λu' e=>by cases e⟩,rfl⟩) λh'=>wpAny_pyIter_list hl.isList h'
 |loc j=>
  obtain ⟨a,vs,k,e,hl,hz,rs⟩:=I.list (ds:=ds) r h
  exact main a "list_iterator" e (.inr ⟨⟨h,λu' e=>by cases e⟩,rfl⟩) λh'=>wpAny_pyIter_list hl.isList h'
 |_=>exact ao h
end
noncomputable def ny (t:Addr):Obj:={cls:=.type "StopIteration",data:=.fields #[.ref t,.none,.none,.none,.bool false,.none]}
noncomputable def kY:Obj:={cls:=.type "tuple",data:=.seq #[]}
section
variable {V:aq} {G:aV} {F:aB} {A:Around} {cl:Calls} {m:List (Option D)} {C:af} {g:Gh} {s:Shared} {n l:Nat}
theorem Sj {prog:Program} {w:World} {E:Value->Shared->Prop} {it la:Addr} {o:Obj} {i:Nat} {t:Tok} {items:Array Value} {k:Nat} {x:Value} {b:Builtin} (hb:b=Builtin.«list_iterator.__next__»\/b=Builtin.«tuple_iterator.__next__») {P:Fin->Shared->Prop} (ho:s.heap.get? it=some o) (hd:o.data=.fields #[.ref la,.int i t])
  {ol:Obj} (hl:s.heap.get? la=some ol) (ik:ol.data=.seq items k) (hx:items[i]?=some x) (h:P (.done (.ret x)) {s with heap:=s.heap.update it (Obj.mapFields (·.setIfInBounds 1 (rawInt ((i:Int)+1))))}) :
  wpAny (model prog w) A (b ⟨[.ref it],[]⟩) P E s:=by
 rcases hb with rfl|rfl
 all_goals
  show wpAny _ _ (field (.ref it) 0 >>= _) _ _ s
  refine wpAny_bind (wpAny_field ho hd (x:=.ref la) rfl ?_)
  show wpAny _ _ (if (Value.ref la==Value.none)=true then _ else _) _ _ s
  rw [if_neg (show ¬ ((Value.ref la==Value.none)=true) from Bool.false_ne_true)]
  show wpAny _ _ (field (.ref it) 1 >>= _) _ _ s
  refine wpAny_bind (wpAny_field ho hd (x:=.int i t) rfl ?_)
  show wpAny _ _ (seqItems? (.ref la) >>= _) _ _ s
  refine wpAny_bind (wpAny_seqItems hl ik ?_)
  simp only [toNat_natCast,hx]
  exact wpAny_bind (wpAny_setField ho hd (by simp) (wpAny_pure h))
theorem Si {prog:Program} {w:World} {E:Value->Shared->Prop} {it la:Addr} {o:Obj} {i:Nat} {t:Tok} {items:Array Value} {k:Nat} {b:Builtin} (hb:b=Builtin.«list_iterator.__next__»\/b=Builtin.«tuple_iterator.__next__») {P:Fin->Shared->Prop} (hh:A.handled=none) (ho:s.heap.get? it=some o) (hd:o.data=.fields #[.ref la,.int i t])
  {ol:Obj} (hl:s.heap.get? la=some ol) (ik:ol.data=.seq items k) (hx:items[i]?=none)
  (h:E (.ref (s.heap.objs.size+1)) {s with heap:=((s.heap.update it (Obj.mapFields (·.setIfInBounds 0 Value.none))).push kY).push (ny s.heap.objs.size)}) :
  wpAny (model prog w) A (b ⟨[.ref it],[]⟩) P E s:=by
 rcases hb with rfl|rfl
 all_goals
  show wpAny _ _ (field (.ref it) 0 >>= _) _ _ s
  refine wpAny_bind (wpAny_field ho hd (x:=.ref la) rfl ?_)
  show wpAny _ _ (if (Value.ref la==Value.none)=true then _ else _) _ _ s
  rw [if_neg (show ¬ ((Value.ref la==Value.none)=true) from Bool.false_ne_true)]
  show wpAny _ _ (field (.ref it) 1 >>= _) _ _ s
  refine wpAny_bind (wpAny_field ho hd (x:=.int i t) rfl ?_)
  show wpAny _ _ (seqItems? (.ref la) >>= _) _ _ s
  refine wpAny_bind (wpAny_seqItems hl ik ?_)
  simp only [toNat_natCast,hx]
  refine wpAny_bind (wpAny_rule (wpAny_bind (wpAny_setField ho hd (by simp) ?_)))
  show wpAny _ _ (newExc (.type "StopIteration") [] >>= _) _ _ _
  refine wpAny_bind ?_
  simp only [newExc,newTuple]
  refine wpAny_bind (wpAny_newObj_type ?_ (by size_fits))
  refine wpAny_bind (m:=firstArgMember _ _) (wpAny_of_eq (a:=Value.none) (by first|rfl|(simp only [firstArgMember]; rfl)) ?_)
  refine wpAny_newObj_type ?_ (by size_fits)
  delta raiseNew; dsimp only
  refine wpAny_bind (wpAny_handled ?_)
  rw [hh]
  refine wpAny_bind (wpAny_pure (wpAny_throw ?_))
  have e1:(s.heap.update it (Obj.mapFields (·.setIfInBounds 0 Value.none))).objs.size=s.heap.objs.size:=Heap.size_update ..
  have e2:((s.heap.update it (Obj.mapFields (·.setIfInBounds 0 Value.none))).push kY).objs.size=s.heap.objs.size+1:=by rw [Heap.size_push,e1]
  have h':=h
  rw [<-e2] at h'
  have e3:ny s.heap.objs.size=ny (s.heap.update it (Obj.mapFields (·.setIfInBounds 0 Value.none))).objs.size:=by rw [e1]
  rw [e3] at h'
  exact h'
noncomputable def xv:D->String
 |.tup _=>"tuple"
 |_=>"list"
inductive zf (V:aq) (g:Gh) (h:Heap) (i:Nat) (src:D) (p:Nat) (ds:List D) (v:Value):Prop
 |mk (it la:Addr) (vs:List Value) (k:Nat) (t:Tok) (e:v=.ref it) (hg:g it=some (.cell i)) (ho:h.get? it=some {cls:=.type (xv src++"_iterator"),dict:=none,data:=.fields #[.ref la,.int p t],slots := #[]})
  (hl:h.get? la=some {cls:=.type (xv src),dict:=none,data:=.seq vs.toArray k,slots := #[]}) (rs:aE V g ds vs) (yj:ab V g src (.ref la)):zf V g h i src p ds v
theorem ah.bj (I:ah V F m C g s) {i:Nat} {v:Value} (r:ab V g (.loc i) v) {src:D} {p:Nat} {ds:List D} (hC:C[i]?=some (.bj src p)) (hs:bW C src=some ds) :
  zf V g s.heap i src p ds v:=by
 cases r with
 |loc h1=>
  obtain ⟨b,o,e1,e2,e3⟩:=I.cell _ _ hC
  cases I.uniq _ _ _ h1 e1
  induction src using D.casesOn with
  |tup es=>
   obtain ⟨u,t,rfl,ru⟩:=e3
   obtain rfl:=Option.some.inj hs
   obtain ⟨la,vs,k,rfl,hl,hz,rs⟩:=I.tup ru
   exact ⟨_,la,vs,k,t,rfl,h1,e2,hl,rs,ru⟩
  |lst es=>
   obtain ⟨u,t,rfl,ru⟩:=e3
   obtain ⟨la,vs,k,rfl,hl,hz,rs⟩:=I.list ru (ds:=ds) hs
   exact ⟨_,la,vs,k,t,rfl,h1,e2,hl,rs,ru⟩
  |loc j=>
   obtain ⟨u,t,rfl,ru⟩:=e3
   obtain ⟨la,vs,k,rfl,hl,hz,rs⟩:=I.list ru (ds:=ds) hs
   exact ⟨_,la,vs,k,t,rfl,h1,e2,hl,rs,ru⟩
  |_=>exact ao hs
noncomputable def l7 (M:Model) (A:Around) (b:Builtin) (args:Args):Tr Value:=λQ E s=>wpAny M A (b args) (λfin s' => ∃ v,fin=.done (.ret v)/\Q v s') E s
noncomputable def oS:D->Builtin
 |.tup _=>Builtin.«tuple_iterator.__next__»
 |_=>Builtin.«list_iterator.__next__»
noncomputable def Tf:D->Bool
 |.tup _=>true
 |_=>false
noncomputable def kE (C:af) (i:Nat):D:=match C[i]? with
 |some (.bj src _)=>src
 |_=>.none
theorem Ex (d:D):oS d=Builtin.«list_iterator.__next__»\/oS d=Builtin.«tuple_iterator.__next__» := by
 induction d using D.casesOn<;>first|exact .inl rfl|exact .inr rfl
theorem next_item (I:ah V F m C g s) {i:Nat} {it:Addr} (r:ab V g (.loc i) (.ref it)) {src d:D} {p:Nat} {ds:List D} (hC:C[i]?=some (.bj src p)) (hs:bW C src=some ds) (hd:ds[p]?=some d) :
  ai V F (ab V) (l7 V.M A (oS src) ⟨[.ref it],[]⟩) g s (.ok d ⟨m,C.set i (.bj src (p+1))⟩):=λQ E q=>by
 obtain ⟨fN,la,vs,k,t,e,hg,ho,hl,rs,yj⟩:=I.bj r hC hs
 cases e
 obtain ⟨v,hv,rv⟩:=rs.get hd
 refine Sj (Ex _) ho rfl hl rfl (x:=v) (pz hv) ⟨_,rfl,q g _ _ (.refl g) ?_ rv⟩
 refine I.cellSet (t:=s.toks) hg (Heap.SameBut.update ..) (Heap.get?_update_self (Obj.mapFields (·.setIfInBounds 1 (rawInt ((p:Int)+1)))) ho rfl) ?_
 induction src using D.casesOn<;>first|exact ao hs|exact ⟨_,0,rfl,yj⟩
theorem next_end {L:Addr} (hf:F.env.frame=some L) (hh:A.handled=none) (I:ah V F m C g s) {i:Nat} {it:Addr} (r:ab V g (.loc i) (.ref it)) {src:D} {p:Nat} {ds:List D} (hC:C[i]?=some (.bj src p))
  (hs:bW C src=some ds) (hd:ds[p]?=none):ai V F (ab V) (l7 V.M A (oS src) ⟨[.ref it],[]⟩) g s (.exc .stop ⟨m,C.set i (.bj .none 0)⟩):=λQ E q=>by
 obtain ⟨fN,la,vs,k,t,e,hg,ho,hl,rs,yj⟩:=I.bj r hC hs
 cases e
 have hv:vs.toArray[p]?=none:=by
  have:=rs.length
  rw [List.getElem?_eq_none_iff] at hd
  simp; omega
 refine Si (Ex _) hh ho rfl hl rfl hv ?_
 have eJ:=Heap.get?_update_self (Obj.mapFields (·.setIfInBounds 0 Value.none)) ho rfl
 have I1:=I.cellSet (t:=s.toks) (c:=.bj .none 0) hg (Heap.SameBut.update ..) eJ trivial
 have e1:(s.heap.update it (Obj.mapFields (·.setIfInBounds 0 Value.none))).objs.size=s.heap.objs.size:=Heap.size_update ..
 have I2:=I1.heap (h':=(s.heap.update it (Obj.mapFields (·.setIfInBounds 0 Value.none))).push kY) λu' u' h=>Heap.get?_push_of_some _ h
 have I3:=I2.heap (h':=((s.heap.update it (Obj.mapFields (·.setIfInBounds 0 Value.none))).push kY).push (ny s.heap.objs.size)) λu' u' h=>Heap.get?_push_of_some _ h
 have e2:((s.heap.update it (Obj.mapFields (·.setIfInBounds 0 Value.none))).push kY).objs.size=s.heap.objs.size+1:=by rw [Heap.size_push,e1]
 have Lg:V.h₀.get? s.heap.objs.size=none:=by
  induction q:V.h₀.get? s.heap.objs.size with
  |none=>rfl
  |some o=>exact absurd (Heap.lt_size (I.keep _ _ q)) (lt_irrefl _)
 have Lh:V.h₀.get? (s.heap.objs.size+1)=none:=by
  induction q:V.h₀.get? (s.heap.objs.size+1) with
  |none=>rfl
  |some o=>exact absurd (Heap.lt_size (I.keep _ _ q)) (not_lt.mpr (le_succ _))
 have La:(((s.heap.update it (Obj.mapFields (·.setIfInBounds 0 Value.none))).push kY).push (ny s.heap.objs.size)).get? (s.heap.objs.size+1)=some (ny s.heap.objs.size):=by
  rw [<-e2]; exact Heap.get?_push_size _ rfl
 have Mp:(((s.heap.update it (Obj.mapFields (·.setIfInBounds 0 Value.none))).push kY).push (ny s.heap.objs.size)).get? s.heap.objs.size=some kY:=by
  refine Heap.get?_push_of_some _ ?_
  rw [<-e1]; exact Heap.get?_push_size _ rfl
 refine q g _ _ (.refl g) ⟨I3,_,.type "StopIteration",[],L,rfl,hf,⟨rfl,rfl⟩,⟨?_,Lh,?_⟩⟩
 ·exact I.apart (Heap.get?_none_of_le (le_succ _))
 ·exact ⟨_,_,_,La,rfl,rfl,rfl,⟨_,0,Mp,rfl,rfl⟩,⟨Lg,I.fw⟩,.inl rfl⟩
theorem FI {L:Addr} (hf:F.env.frame=some L) (hh:A.handled=none) (I:ah V F m C g s) {i:Nat} {it:Addr} (r:ab V g (.loc i) (.ref it)) :
  ai V F (ab V) (l7 V.M A (oS (kE C i)) ⟨[.ref it],[]⟩) g s (fo C m i):=by
 induction hC:C[i]? with
 |none=>unfold fo; rw [hC]; trivial
 |some ch=>
  induction ch using Ch.casesOn with
  |bj src p=>
   rw [show kE C i=src by unfold kE; rw [hC]]
   unfold fo
   rw [hC]
   dsimp only
   induction hs:bW C src with
   |none=>trivial
   |some ds=>
    dsimp only
    induction hd:ds[p]? with
    |none=>exact next_end hf hh I r hC hs hd
    |some d=>exact next_item I r hC hs hd
  |_=>unfold fo; rw [hC]; trivial
theorem Of {Q E} {it:Addr} (hT:s.TypeIs (.ref it) "list_iterator") (h:l7 V.M A.in1 Builtin.«list_iterator.__next__» ⟨[.ref it],[]⟩ Q E s) :
  wpAny V.M A (call (.builtin "list_iterator.__next__") [.ref it]) Q E s:=
 wpAny_call_entry slot_listiter_next hT entry_listiter_next h (args_listiter_next _)
theorem Og {Q E} {it:Addr} (hT:s.TypeIs (.ref it) "tuple_iterator") (h:l7 V.M A.in1 Builtin.«tuple_iterator.__next__» ⟨[.ref it],[]⟩ Q E s) :
  wpAny V.M A (call (.builtin "tuple_iterator.__next__") [.ref it]) Q E s:=
 wpAny_call_entry slot_tupleiter_next hT entry_tupleiter_next h (args_tupleiter_next _)
set_option tactic.hygienic true in
theorem Qb {L:Addr} (hf:F.env.frame=some L) (hh:A.handled=none) (I:ah V F m C g s) {i:Nat} {v:Value} (r:ab V g (.loc i) v) :
  ai V F (ab V) (cn V A .next [v]) g s (fo C m i):=by
 induction ho:fo C m i with
 |fail=>trivial
 |_=>
  have hT : ∃ it,v=.ref it/\s.TypeIs (.ref it) (xv (kE C i)++"_iterator"):=by
   unfold fo at ho
   split at ho
   ·rename_i src p hC
    have eS:kE C i=src:=by unfold kE; rw [hC]
    rw [eS]
    split at ho
    ·rename_i ds hs
     obtain ⟨it,la,vs,k,t,rfl,hg,dT,_⟩:=I.bj r hC hs
     exact ⟨it,rfl,_,dT,rfl⟩
    ·(first|exact cF ho|exact B7 ho)
   ·(first|exact cF ho|exact B7 ho)
  obtain ⟨it,rfl,hT⟩:=hT
  rw [<-ho]
  refine (FI (A:=A.in1.in1) hf hh I r).wp λQ E x=>?_
  refine Calls.call_function_entry (by decide +kernel) (by decide +kernel) W.kdk_entry_next (W.kdk_args_next _) ?_
  unfold Builtin.«next»
  refine wpAny_bind (m:=someArgs "next" 1 2 _) (wpAny_of_eq (a:=[Value.ref it]) (by first|rfl|kernel_rfl) ?_)
  dsimp only
  generalize kE C i=d at hT x
  have key:(s.TypeIs (.ref it) "list_iterator"/\l7 V.M A.in1.in1 Builtin.«list_iterator.__next__» ⟨[.ref it],[]⟩ Q E s)\/(s.TypeIs (.ref it) "tuple_iterator"/\l7 V.M A.in1.in1 Builtin.«tuple_iterator.__next__» ⟨[.ref it],[]⟩ Q E s):=by
   induction d using D.casesOn<;>first|exact .inl ⟨hT,x⟩|exact .inr ⟨hT,x⟩
  clear hT x
  rcases key with ⟨hT,x⟩|⟨hT,x⟩
  ·refine wpAny_bind (wpAny_specialOf (name:=Str.ofString "__next__") hT slot_listiter_next.lookup ?_)
   refine wpAny_ite_split (λeF=>absurd eF (by decide)) (λu'=>?_)
   refine wpAny_bind (wpAny_callSpecial?_slot (name:=Str.ofString "__next__") hT slot_listiter_next (Of hT ?_))
   exact wpAny_mono (show wpAny _ _ _ _ _ _ from x) (λfin s' ⟨v,e,hq⟩=>⟨v,e,wpAny_pure ⟨_,rfl,hq⟩⟩) λu' u' e=>e
  ·refine wpAny_bind (wpAny_specialOf (name:=Str.ofString "__next__") hT slot_tupleiter_next.lookup ?_)
   refine wpAny_ite_split (λeF=>absurd eF (by decide)) (λu'=>?_)
   refine wpAny_bind (wpAny_callSpecial?_slot (name:=Str.ofString "__next__") hT slot_tupleiter_next (Og hT ?_))
   exact wpAny_mono (show wpAny _ _ _ _ _ _ from x) (λfin s' ⟨v,e,hq⟩=>⟨v,e,wpAny_pure ⟨_,rfl,hq⟩⟩) λu' u' e=>e
theorem GH {prog:Program} {w:World} {a:Addr} {id:String} {self:Value} {args:List Value} {b:Builtin} {Q:Value->Shared->Prop} {E:Value->Shared->Prop}
  (ho:s.heap.get? a=some {cls:=.type "method-wrapper",dict:=none,data:=.fields #[.builtin id,self],slots := #[]}) (hc:checkBoundCall id ⟨self::args,[]⟩=pure ()) (hq:plainId id=true)
  (he:entryFor table id=some b) (h:wpAny (model prog w) A.in1 (b ⟨self::args,[]⟩) (λfin s'=>match fin with|.done f=>wants Q E (.ok f) s'|.again c'=>c'.quiet=true/\codeAny (model prog w) A c' (wants Q E) s') (λe s'=>wants Q E (.error e) s') s):wpAny (model prog w) A (call (.ref a) args) Q E s:=by
 refine wpAny_call (codeAny_of_tree ?_)
 show wpAny _ A.in1 (callAny (.ref a) ⟨args,[]⟩) _ _ s
 delta callAny; dsimp only
 refine wpAny_bind (wpAny_load ho ?_)
 simp only [show (Value.type "method-wrapper"==Value.type "method"||Value.type "method-wrapper"==Value.type "builtin_function_or_method"||Value.type "method-wrapper"==Value.type "method-wrapper")=true by decide,if_true]
 refine W.KFB.if_so (by decide) ?_
 refine wpAny_bind (wpAny_of_eq (a:=()) hc ?_)
 refine wpAny_bind (wpAny_pure (wpAny_pure ?_))
 refine ⟨plainId_quiet hq _,codeAny_builtin he ?_⟩
 rw [Around.under_plainId hq _]
 exact h
theorem H7 {a b:Value}:checkBoundCall "list.__contains__" ⟨[a,b],[]⟩=pure ():=by first|kernel_rfl|rfl
theorem H8 {a:Value}:checkBoundCall "list_iterator.__next__" ⟨[a],[]⟩=pure ():=by first|kernel_rfl|rfl
theorem OV:plainId "list.__contains__"=true:=by decide +kernel
theorem OW:plainId "list_iterator.__next__"=true:=by decide +kernel
theorem PE (I:ah V F m C g s) {src x:D} {v u:Value} (r:ab V g (.bm .bg src) v) (rx:ab V g x u) {ds:List D} {b:Bool} (hl:aU C src=some ds) (hb:gP x ds=some b) :
  aF V F A (ab V) (call v [u]) g s (.ok (.bool b) ⟨m,C⟩):=by
 obtain ⟨u',a,h1,h3,rfl⟩:=r.DC
 obtain ⟨la,vs,k,rfl,LL,hz,rs⟩:=I.list h3 hl
 obtain ⟨i,t,rfl,e1,e2⟩:=xq rx rs hb
 refine λQ E q=>GH (I.ay _ _ h1) H7 OV PySem.F.entry_list_contains ?_
 refine MeetsSeq.list_contains la vs.toArray k _ _ e1 V.prog V.w A (wants Q E) s ⟨LL,?_⟩
 rw [e2]
 exact q g _ _ (.refl g) I (.bool _)
set_option tactic.hygienic true in
theorem PF {L:Addr} (hf:F.env.frame=some L) (hh:A.handled=none) (I:ah V F m C g s) {i:Nat} {v:Value} (r:ab V g (.bm .b9 (.loc i)) v) (hs:(nH C i).isSome=true) :
  aF V F A (ab V) (call v []) g s (fo C m i):=by
 obtain ⟨u',a,h1,h3,rfl⟩:=r.DD
 obtain ⟨it,h5,rfl⟩:=h3.gd
 refine (FI (A:=A.in1) hf hh I h3).wp λQ E x=>?_
 refine GH (I.ay _ _ h1) H8 OW entry_listiter_next ?_
 have e:oS (kE C i)=Builtin.«list_iterator.__next__» := by
  unfold nH at hs
  unfold kE
  induction hC:C[i]? with
  |none=>rw [hC] at hs; exact bA hs
  |some ch=>
   rw [hC] at hs
   induction ch using Ch.casesOn<;>first|exact bA hs|skip
   rename_i src p
   induction src using D.casesOn<;>first|rfl|exact bA hs
 rw [e] at x
 exact wpAny_mono (show wpAny _ _ _ _ _ _ from x) (λfin s' ⟨v,e,hq⟩=>by subst e; exact hq) λu' u' e=>e
theorem D0 {M:Model} {h:Heap} {a:Addr} {f self:Value} (ho:h.get? a=some {cls:=.type "method-wrapper",dict:=none,data:=.fields #[f,self],slots := #[]}) : ∃ k,W.Looks M h (keeperOf (.ref a)) k:=by
 refine ⟨.machine,?_⟩
 unfold keeperOf
 refine (W.Looks.ld (part:=none) ho).andThen ?_
 exact W.Looks.now
end
structure Gh.bV (S:Addr) (g g':Gh):Prop where
 ay : ∀ a o,a≠S->g a=some (.ay o)->g' a=some (.ay o)
 cell : ∀ a i,a≠S->g a=some (.cell i)->g' a=some (.cell i)
 aw : ∀ a o,a≠S->(g a=some (.aw o)↔g' a=some (.aw o))
theorem Gh.bV.trans {S:Addr} {g₁ g₂ g₃:Gh} (x:Gh.bV S g₁ g₂) (y:Gh.bV S g₂ g₃):Gh.bV S g₁ g₃:=
 ⟨λa o n h=>y.ay a o n (x.ay a o n h),λa i n h=>y.cell a i n (x.cell a i n h),λa o n=>(x.aw a o n).trans (y.aw a o n)⟩
theorem Gh.Step.but {g g':Gh} (x:g.Step g') (S:Addr):Gh.bV S g g':=⟨λa o u' h=>x.ay a o h,λa i u' h=>x.cell a i h,λa o u'=>x.aw a o⟩
theorem Gh.bV.put (S:Addr) (g:Gh) (x:Option GO):Gh.bV S g (g.put S x):=
 ⟨λa o n h=>by rw [Gh.aX _ _ n]; exact h,λa i n h=>by rw [Gh.aX _ _ n]; exact h,λa o n=>by rw [Gh.aX _ _ n]⟩
theorem Gh.bV.le {S:Addr} {g g':Gh} (x:Gh.bV S g g') {o:Obj} (h:g S=some (.aw o)):g.Le g':=
 ⟨λa o' e=>x.ay a o' (λq=>by subst q; rw [h] at e; cases e) e,λa i e=>x.cell a i (λq=>by subst q; rw [h] at e; cases e) e⟩
theorem Gh.yb (g:Gh) (a:Addr) (x y:Option GO):(g.put a x).put a y=g.put a y:=by
 funext b
 by_cases e:b=a
 ·subst e; rw [Gh.bu,Gh.bu]
 ·rw [Gh.aX _ _ e,Gh.aX _ _ e,Gh.aX _ _ e]
section
variable {V:aq} {G:aV} {F:aB} {A:Around} {cl:Calls} {m:List (Option D)} {C:af} {g:Gh} {s:Shared} {n l:Nat}
theorem ah.Co (I:ah V F m C g s) : ∃ M,Fr V.h₀ F.env.locals s.heap M:=
 let ⟨M,h,_⟩:=I.fr.loc; ⟨M,h,I.keep,I.fr.above⟩
theorem ah.adopt (I:ah V F m C g s) {a:Addr} {o:Obj} (hg:g a=none) (hn:V.h₀.get? a=none) (ho:s.heap.get? a=some o):ah V F m C (g.put a (some (.ay o))) s:=by
 have L:g.Le (g.put a (some (.ay o))):=Gh.gm _ hg
 have other : ∀ {b y},g b=some y->g.put a (some (.ay o)) b=some y:=λ{b y} e=>by
  rw [Gh.aX]; exact e; intro q; subst q; rw [hg] at e; exact ao e
 refine ⟨I.keep,λb y e=>?_,λb y e=>?_,λb o' e=>?_,λb o' e=>?_,λi c e=>?_,λb c i e e'=>?_,λb i e=>?_,?_,I.gens,I.os⟩
 ·rcases Gh.bE e with ⟨rfl,_⟩|⟨_,q⟩
  ·exact hn
  ·exact I.new b y q
 ·rcases Gh.bE e with ⟨rfl,_⟩|⟨_,q⟩
  ·exact ⟨o,ho⟩
  ·exact I.live b y q
 ·rcases Gh.bE e with ⟨rfl,q⟩|⟨_,q⟩
  ·cases q; exact ho
  ·exact I.ay b o' q
 ·rcases Gh.bE e with ⟨rfl,q⟩|⟨_,q⟩
  ·cases q
  ·exact I.aw b o' q
 ·obtain ⟨b,o',h1,h2,h3⟩:=I.cell i c e
  exact ⟨b,o',other h1,h2,h3.mono L⟩
 ·rcases Gh.bE e with ⟨rfl,q⟩|⟨_,q⟩
  ·cases q
  ·rcases Gh.bE e' with ⟨rfl,q'⟩|⟨_,q'⟩
   ·cases q'
   ·exact I.uniq b c i q q'
 ·rcases Gh.bE e with ⟨rfl,q⟩|⟨_,q⟩
  ·cases q
  ·exact I.dB b i q
 ·exact I.fr.mono L (λc e=>other e) (λc y e=>other e) (λc o e=>other e)
theorem ah.lN (I:ah V F m C g s) {a:Addr} {o:Obj} (hg:g a=some (.aw o)) (ht:jS o):s.heap.get? a=some o:=by
 obtain ⟨sl,h,e⟩:=I.aw a o hg
 rw [e ht] at h; exact h
theorem ah.give (I:ah V F m C g s) {a:Addr} {o:Obj} (hg:g a=some (.aw o)) (ht:jS o):ah V F m C (g.put a (some (.ay o))) s:=by
 have h1:=I.qR hg ht
 have h2:=h1.adopt (Gh.bu ..) (I.new _ _ hg) (I.lN hg ht)
 rwa [Gh.yb] at h2
noncomputable def bO (vs:List Value) (k:Nat):Obj:={cls:=.type "list",dict:=none,data:=.seq vs.toArray k,slots := #[]}
theorem jc {vs:List Value} {k:Nat}:jS (bO vs k):=⟨λv h=>(by cases h),λes n h=>(by cases h)⟩
theorem Fc {h:Heap} {S:Addr} {vs:List Value} {k:Nat} (e:h.get? S=some (bO vs k)) (v:Value) : ∃ k',(h.update S (Obj.mapSeq (·.push v))).get? S=some (bO (vs++[v]) k'):=by
 have:=IsL.update (l:=S) (items:=vs.toArray) (n:=k) e (·.push v)
 have e2:vs.toArray.push v=(vs++[v]).toArray:=by simp
 rw [e2] at this
 exact ⟨_,this⟩
set_option tactic.hygienic true in
theorem Fx (B:V.Base) (au:V.c7) (hC:fV V cl n) (K:F.Ok) (hA:pf F A.in1 n) {k nx i:Nat} {c:gZ} (hc:V.P.dy k=some c) (lA:c.meths.lookup .b9=some nx) {x S:Addr} {res:Value} :
  ∀ (fuel:Nat) (C:af) (acc:List D) (vs:List Value) (k₀:Nat) (g:Gh) (s:Shared),ah V F m C g s->ab V g (.loc i) (.ref x)->g S=some (.aw (bO vs k₀))->aE V g acc vs->vs.length<=aD->
  ∀ ds st,iO cl k nx i fuel C acc=.ok (.lst ds) st->∀ (R:Result->Shared->Prop),(∀ g' s' iH k',Gh.bV S g g'->ah V F m st.C g' s'->g' S=some (.aw (bO iH k'))->aE V g' ds iH->iH.length<=aD->R (.ok (.ret res)) s')->
   codeAny V.M A (.builtin "list.extend.loop" ⟨[.ref S,.ref x,res],[]⟩) R s
 |0,_,_,_,_,_,_,_,_,_,_,_,_,_,h,_,_=>by exact cF h
 |fuel+1,C,acc,vs,k₀,g,s,I,rx,hS,ra,hz,ds,st,h,R,hR=>by
  unfold iO at h
  split at h
  ·rename_i k' fs iR
   split at h
   ·rename_i hk
    have hk:=eq_of_beq hk
    subst hk
    have ok:=au _ c hc
    obtain ⟨x',ox,e,hI,sU,qr,_⟩:=I.o4 rx iR
    cases e
    obtain ⟨m1,m2,_⟩:=ok.meths .b9 nx lA
    refine codeAny_builtin PySem.F.entry_extend_loop ?_
    rw [Around.under_plainId PySem.F.plain_extend_loop _]
    show wpAny _ A.in1 (pyNext (.ref x) >>= _) _ _ s
    have fI:=hC.some (F:=F) (A:=A.in1) nx K hA I (.cons rx .nil) (ks:=[]) (ax:=[]) trivial
    split at h
    ·rename_i d aC hr
     rw [hr] at fI
     split at h
     ·rename_i lj
      refine wpAny_bind ?_
      unfold pyNext
      refine wpAny_bind (wpAny_attempt (W.special_fn (name:="__next__") (args:=[]) (I.cZ B) hI m1 m2 (wpAny_call (fI _ _ λg' a s' dP I' r'=>?_))))
      refine wpAny_pure ?_
      show wpAny _ A.in1 (updateSeq S (·.push a) >>= _) _ _ _
      have fH:g' S=some (.aw (bO vs k₀)):=(dP.aw S _).mp hS
      have kc:=I'.lN fH jc
      refine wpAny_bind (wpAny_updateSeq (hz:=d4 (by simpa using hz)) kc rfl ?_ (_hz':=by
       have h1:=d4 hz
       simp only [Array.size_push,size_toArray]; omega))
      obtain ⟨k₁,eJ⟩:=Fc kc a
      have I2:=I'.oV (t:=s'.toks) fH jc ((Heap.SameBut.update s'.heap S (Obj.mapSeq (·.push a))).extBut) eJ
      refine wpAny_pure ⟨plainId_quiet PySem.F.plain_extend_loop _,?_⟩
      have lq:Gh.bV S g (g'.put S (some (.aw (bO (vs++[a]) k₁)))):=(dP.but S).trans (Gh.bV.put S g' _)
      have L:=lq.le hS
      have L':g'.Le (g'.put S (some (.aw (bO (vs++[a]) k₁)))):=(Gh.bV.put S g' _).le fH
      refine Fx B au hC K hA hc lA fuel aC.C (acc++[d]) (vs++[a]) k₁ _ _ I2 (rx.mono L) (Gh.bu ..) ((ra.mono L).append (.cons (r'.mono L') .nil)) ?_ ds st h R λdS du Sz Nd b GU e1 e2 e3=>hR dS du Sz Nd (lq.trans b) GU e1 e2 e3
      have:=ra.length
      simp; omega
     ·exact cF h
    ·rename_i aC hr
     cases h
     rw [hr] at fI
     refine wpAny_bind ?_
     unfold pyNext
     refine wpAny_bind (wpAny_attempt (W.special_fn (name:="__next__") (args:=[]) (I.cZ B) hI m1 m2 (wpAny_call (fI _ _ λg' e s' dP hx=>?_))))
     obtain ⟨I',ea,cls,args,L,rfl,hL,⟨rfl,rfl⟩,ht⟩:=hx
     obtain ⟨oe,ws,t,h1,h2,h3,h4,h5,h6,h7⟩:=ht.there
     refine wpAny_bind (wpAny_isInstance (T:="StopIteration") (b:=true) ⟨oe,h1,h2⟩ isSubtype_stop ?_)
     refine wpAny_pure ?_
     have fH:g' S=some (.aw (bO vs k₀)):=(dP.aw S _).mp hS
     exact wpAny_pure (hR g' s' vs k₀ (dP.but S) I' fH (ra.mono dP.toLe) hz)
    ·exact cF h
   ·exact cF h
  ·exact cF h
end
section
variable {V:aq} {G:aV} {F:aB} {A:Around} {cl:Calls} {m:List (Option D)} {C:af} {g:Gh} {s:Shared} {n l:Nat}
theorem Gh.bV.fin {S:Addr} {g g':Gh} {o:Obj} (h:Gh.bV S g g') (hg:g S=none):g.Step (g'.put S (some (.ay o))):=by
 have ne : ∀ {a x},g a=some x->a≠S:=λ{a x} e q=>by subst q; rw [hg] at e; exact ao e
 refine ⟨⟨λa o' e=>?_,λa i e=>?_⟩,λa o'=>⟨λe=>?_,λe=>?_⟩⟩
 ·rw [Gh.aX _ _ (ne e)]; exact h.ay a o' (ne e) e
 ·rw [Gh.aX _ _ (ne e)]; exact h.cell a i (ne e) e
 ·rw [Gh.aX _ _ (ne e)]; exact (h.aw a o' (ne e)).mp e
 ·rcases Gh.bE e with ⟨_,q⟩|⟨z,q⟩
  ·cases q
  ·exact (h.aw a o' z).mpr q
theorem yM {h:Heap} {S:Addr} {vs ws:List Value} {k:Nat} {f:Array Value->Array Value} (e:h.get? S=some (bO vs k)) (hf:f vs.toArray=ws.toArray) : ∃ k',(h.update S (Obj.mapSeq f)).get? S=some (bO ws k'):=by
 have:=IsL.update (l:=S) (items:=vs.toArray) (n:=k) e f
 rw [hf] at this
 exact ⟨_,this⟩
set_option maxRecDepth 100000 in
theorem Ls {prog:Program} {w:World} {K:W.Frag} {x Cc:Addr} {ox:Obj} {od:Option Obj} {Q:Bool->Shared->Prop} {E:Value->Shared->Prop} (X:K.In s.heap) (I:W.InstAt s.heap x ox Cc od) (h1:W.findIn K (.ref Cc) "__len__"=some none)
  (h2:W.findIn K (.ref Cc) "__length_hint__"=some none) (h:Q true s):wpAny (model prog w) A (Builtin.List.listLengthHint (.ref x)) Q E s:=by
 unfold Builtin.List.listLengthHint
 refine wpAny_bind (wpAny_bind (I.type.here ((W.looks_findIn X h1).here ?_)))
 refine wpAny_bind (wpAny_bind (I.type.here ((W.looks_findIn X h2).here ?_)))
 exact wpAny_pure h
set_option tactic.hygienic true in
set_option maxRecDepth 100000 in
set_option maxHeartbeats 1000000 in
theorem P6 (B:V.Base) (au:V.c7) (hC:fV V cl n) (K:F.Ok) (hA:pf F A.in1.in1 n) (I:ah V F m C g s) {k ni nx i:Nat} {c:gZ} {fs:List (Option D)} {v:Value} (hc:V.P.dy k=some c) (w3:c.meths.lookup .iN=some ni) (lA:c.meths.lookup .b9=some nx)
  (rx:ab V g (.loc i) v) (iR:C[i]?=some (.slots k fs)) {aa ae:St} {ds:List D} (hit:cl.call ni [.loc i] [] C=.ok (.loc i) aa) (gb:iO cl k nx i cl.fuel aa.C []=.ok (.lst ds) ae) :
  ai V F (ab V) (cn V A .list [v]) g s (.ok (.lst ds) ⟨m,ae.C⟩):=by
 intro Q E q
 have ok:=au _ c hc
 obtain ⟨x,ox,rfl,hI,sU,qr,_⟩:=I.o4 rx iR
 obtain ⟨LP,LQ⟩:=ok.Om (by rw [lA]; rfl)
 obtain ⟨i1,i2,_⟩:=ok.meths .iN ni w3
 obtain ⟨j1,j2,_⟩:=ok.meths .b9 nx lA
 have xg:x≠s.heap.objs.size:=λe=>by rw [e,I.fw] at sU; exact ao sU
 show wpAny V.M A (call (.type "list") [.ref x]) Q E s
 refine callType_codes (Q₁:=λobj s₁=>obj=.ref s.heap.objs.size/\s₁={s with heap:=s.heap.push {cls:=.type "list",data:=.seq #[]}}) PySem.F.called_list (PySem.F.typeCall_list_1 _) PySem.F.entry_list_init
  (code_list_new _ ⟨rfl,rfl⟩) λobj s₁ h₁=>?_
 obtain ⟨rfl,rfl⟩:=h₁
 have hS:(s.heap.push {cls:=.type "list",data:=.seq #[]}).get? s.heap.objs.size=some (bO [] 0):=Heap.get?_push_size _ rfl
 have I1:=I.more (h':=s.heap.push {cls:=.type "list",data:=.seq #[]}) (t:=s.toks) (x:=.aw (bO [] 0)) (λu' u' h=>Heap.get?_push_of_some _ h) (Heap.get?_none_of_le (le_refl _)) hS (.inr rfl)
 refine ⟨⟨_,hS,rfl⟩,PySem.F.args_list_init_2 _ _,?_⟩
 show wpAny _ _ (do let old <-Builtin.List.listItems (.ref s.heap.objs.size); Builtin.List.listUpdate (.ref s.heap.objs.size) (λu' => #[]); letGo old.toList.reverse; Builtin.List.listExtendWith (.ref s.heap.objs.size) (.ref x) .none) _ _ _
 refine wpAny_bind ?_
 unfold Builtin.List.listItems
 refine wpAny_bind (wpAny_seqItems hS rfl (wpAny_pure ?_))
 show wpAny _ _ (updateSeq s.heap.objs.size (λu' => #[]) >>= λu'=>letGo (#[]:Array Value).toList.reverse >>= λu'=>Builtin.List.listExtendWith (.ref s.heap.objs.size) (.ref x) .none) _ _ _
 refine wpAny_bind (wpAny_updateSeq hS rfl ?_)
 obtain ⟨k₂,wq⟩:=yM (ws:=[]) (f:=λu' => #[]) hS rfl
 have I2:=I1.oV (t:=s.toks) (Gh.bu ..) jc (Heap.SameBut.update (s.heap.push {cls:=.type "list",data:=.seq #[]}) s.heap.objs.size (Obj.mapSeq λu'=>(#[]:Array Value))).extBut wq
 rw [Gh.yb] at I2
 refine wpAny_bind (wpAny_letGo ?_)
 have yk:ab V (g.put s.heap.objs.size (some (.aw (bO [] k₂)))) (.loc i) (.ref x):=.loc (by rw [Gh.aX _ _ xg]; exact sU)
 obtain ⟨x2,Tq,e2,CJ,SW,S8,_⟩:=I2.o4 yk iR
 cases e2
 unfold Builtin.List.listExtendWith
 refine wpAny_bind (CJ.type.here ?_)
 have h1:Builtin.List.listSameRef (.ref s.heap.objs.size) (.ref x)=false:=by simp [Builtin.List.listSameRef,Ne.symm xg]
 have h2:(Value.ref (V.bw k)==Value.type "list")=false:=rfl
 have h3:(Value.ref (V.bw k)==Value.type "tuple")=false:=rfl
 simp only [h1,h2,h3,Bool.or_false,false_eq_true,if_false]
 obtain ⟨M2,F2⟩:=I2.Co
 refine wpAny_bind (W.owit_iter F2 B.cZ CJ i1 (beq_iff_eq.mpr i2) ?_)
 have fI:=hC.some (F:=F) (A:=A.in1.in1) ni K hA I2 (.cons yk .nil) (ks:=[]) (ax:=[]) trivial
 rw [hit] at fI
 refine wpAny_call (fI _ _ λg3 a s3 aG I3 ra=>?_)
 have Ft:ab V g3 (.loc i) (.ref x):=yk.mono aG.toLe
 have ea:a=.ref x:=by
  cases ra with
  |loc ha=>
   cases Ft with
   |loc gK=>rw [I3.uniq _ _ _ ha gK]
 subst ea
 have CN:g3 s.heap.objs.size=some (.aw (bO [] k₂)):=(aG.aw _ _).mp (Gh.bu ..)
 induction il:cl.fuel using Nat.casesOn with
 |zero=>rw [il] at gb; exact cF gb
 |succ fu=>
 have i8 : ∃ v9,aa.C[i]?=some (.slots k v9):=by
  rw [il] at gb
  unfold iO at gb
  split at gb
  ·rename_i k' v9 hq
   split at gb
   ·rename_i hk; rw [eq_of_beq hk] at hq; exact ⟨_,hq⟩
   ·exact cF gb
  ·exact cF gb
 obtain ⟨v9,Kq⟩:=i8
 obtain ⟨x3,Ts,e3,CK,Lk,S9,_⟩:=I3.o4 Ft Kq
 cases e3
 obtain ⟨M3,F3⟩:=I3.Co
 refine W.owit_it F3 B.cZ CK j1 ?_
 refine wpAny_bind (wpAny_holding (Ls (I3.cZ B) CK LP LQ ?_))
 refine wpAny_ite_split (λu'=>?_) (λeF=>absurd (by simp) eF)
 refine wpAny_bind (wpAny_rule ?_)
 have Dq:=I3.lN CN jc
 refine wpAny_bind ?_
 show wpAny _ _ (updateSeq s.heap.objs.size (·.push .none) >>= λu'=>updateSeq s.heap.objs.size (·.pop)) _ _ _
 refine wpAny_bind (wpAny_updateSeq Dq rfl ?_)
 obtain ⟨k₄,wt⟩:=yM (ws:=[Value.none]) (f:=(·.push Value.none)) Dq rfl
 have I4:=I3.oV (t:=s3.toks) CN jc (Heap.SameBut.update s3.heap s.heap.objs.size (Obj.mapSeq (·.push Value.none))).extBut wt
 refine wpAny_updateSeq (hz:=by seq_fits) wt rfl ?_
 obtain ⟨k₅,KR⟩:=yM (ws:=[]) (f:=(·.pop)) wt rfl
 have I5:=I4.oV (t:=s3.toks) (Gh.bu ..) jc (Heap.SameBut.update (s3.heap.update s.heap.objs.size (Obj.mapSeq (·.push Value.none))) s.heap.objs.size (Obj.mapSeq (·.pop))).extBut KR
 rw [Gh.yb] at I5
 refine wpAny_pure ⟨plainId_quiet PySem.F.plain_extend_loop _,?_⟩
 have lq:Gh.bV s.heap.objs.size g (g3.put s.heap.objs.size (some (.aw (bO [] k₅)))):=
  ((Gh.bV.put s.heap.objs.size g (some (.aw (bO [] k₂)))).trans (aG.but _)).trans (Gh.bV.put _ g3 _)
 have Pq:ab V (g3.put s.heap.objs.size (some (.aw (bO [] k₅)))) (.loc i) (.ref x):=.loc (by rw [Gh.aX _ _ xg]; exact Lk)
 refine Fx B au hC K hA hc lA cl.fuel aa.C [] [] k₅ _ _ I5 Pq (Gh.bu ..) .nil (zero_le _) ds ae gb _ λg' s' iH k' b' I' e1 Ja vI=>?_
 refine ⟨rfl,?_⟩
 have I6:=I'.give e1 jc
 have Lf:=(lq.trans b').fin (o:=bO iH k') I.fw
 refine q _ _ _ Lf I6 (.lst (Gh.bu ..) (vs:=iH) ⟨vI,k',rfl⟩ (Ja.mono ?_))
 exact (Gh.bV.put s.heap.objs.size g' _).le e1
end
section
variable {V:aq} {G:aV} {F:aB} {A:Around} {cl:Calls} {m:List (Option D)} {C:af} {g:Gh} {s:Shared} {n l:Nat}
theorem NR {α:Type} (x:List UInt8) (f:UInt8->α):x.map f=(List.range x.length).map λj=>f (x.getD j 0):=by
 apply List.ext_getElem
 ·simp
 ·intro i h1 h2
  simp at h1 h2
  simp [getD_eq_getElem?_getD,h1]
theorem P5 (hh:A.handled=none) (I:ah V F m C g s) {x:List UInt8} {v:Value} (r:ab V g (.bytes x) v) :
  ai V F (ab V) (cn V A .list [v]) g s (.ok (.lst (x.map λc=>.int c.toNat)) ⟨m,C⟩):=by
 obtain ⟨t,hz,rfl⟩:=r.mI
 ·have hl:aD=100000:=rfl
  intro Q E q
  refine LB.HY hh (by simp only [size_toArray]; omega) λh' tk acc c' hk ho lj=>?_
  obtain ⟨st,I'⟩:=I.wc (t:=tk) hk ho
  obtain ⟨h3,h4⟩:=lj
  have h5:acc.size=x.length:=by simpa using h3
  refine q _ _ _ st I' (.lst (Gh.bu ..) (vs:=acc.toList) ⟨by rw [Array.length_toList,h5]; exact hz,_,by simp; rfl⟩ ?_)
  rw [NR]
  exact aE.ofInts (f:=λj=>((x.getD j 0).toNat:Int)) (by simpa using h5) λj v e=>by
   obtain ⟨c,u,h5,rfl⟩:=h4 j v (by simpa using e)
   refine ⟨u,?_⟩
   have:x[j]?=some c:=by simpa using h5
   rw [getD_eq_getElem?_getD,this]; rfl
theorem Bv {k nx i:Nat} : ∀ {fu:Nat} {C:af} {acc:List D} {d:D} {st:St},iO cl k nx i fu C acc=.ok d st->∃ ds,d=.lst ds
 |0,_,_,_,_,h=>by exact cF h
 |fu+1,C,acc,d,st,h=>by
  unfold iO at h
  split at h
  ·split at h
   ·split at h
    ·split at h
     ·exact Bv h
     ·exact cF h
    ·obtain ⟨rfl,rfl⟩:=aj.ok.inj h; exact ⟨_,rfl⟩
    ·exact cF h
   ·exact cF h
  ·exact cF h
theorem tx {a:D} {xs:List Int} (h:jb C a=some xs):uM (aU C a) eh xs:=aS h
theorem P4 (B:V.Base) (au:V.c7) (hC:fV V cl n) (K:F.Ok) (hA:fA F A cl n l) (hl:1<=l) (I:ah V F m C g s) {i k:Nat} {fs:List (Option D)} {v:Value} (r:ab V g (.loc i) v) (iR:C[i]?=some (.slots k fs)) :
  ai V F (ab V) (cn V A .list [v]) g s (rS V.P cl i k ⟨m,C⟩):=by
 unfold rS
 induction hc:V.P.dy k with
 |none=>trivial
 |some c=>
  refine ai.aI λni w3=>ai.aI λnx lA=>?_
  induction hit:cl.call ni [.loc i] [] C with
  |fail=>trivial
  |exc _ _=>trivial
  |ok d aa=>
   induction d using D.casesOn<;>first|trivial|skip
   refine ai.bo λhj=>?_
   obtain rfl:=of_decide_eq_true hj
   induction gb:iO cl k nx _ cl.fuel aa.C [] with
   |fail=>trivial
   |exc _ _=>trivial
   |ok d ae=>
    obtain ⟨es,rfl⟩:=Bv gb
    by_cases eZ:cl.fuel=0
    ·rw [eZ] at gb; exact cF gb
    ·exact P6 B au hC K ⟨hA.frames,by have:=hA.depth; simp only [Around.in1_depth]; omega,by have:=hA.units; simp only [Around.in1_units]; omega,hA.calm eZ⟩ I hc w3 lA r iR hit gb
theorem PH (B:V.Base) (au:V.c7) (hC:fV V cl n) (K:F.Ok) (hA:fA F A cl n l) (hl:1<=l) (hh:A.handled=none) (I:ah V F m C g s) {a:D} {v:Value} (r:ab V g a v) :
  ai V F (ab V) (cn V A .list [v]) g s (Ac V.P cl a ⟨m,C⟩):=by
 induction a using D.casesOn<;>first|trivial|skip
 ·exact P5 hh I r
 ·exact yp I r rfl
 ·exact yp I r rfl
 ·exact ai.bo λhz=>let ⟨h1,h2⟩:=Fm hz; P7 hh I r h2 h1
 ·exact ai.aI λch iR=>by
   induction ch using Ch.casesOn<;>first|trivial|skip
   ·exact yp I r (Hl iR)
   ·exact P4 B au hC K hA hl I r iR
theorem PK (I:ah V F m C g s) {ds:List D} {vs:List Value} (rd:aE V g ds vs):ai V F (ab V) (cn V A .range vs) g s (Af ds ⟨m,C⟩):=by
 match ds with
 |[]=>trivial
 |[d]=>
  obtain ⟨v,rfl,r⟩:=rd.one
  exact ai.aI λk hk=>let ⟨t,e⟩:=r.fE hk; ai.bo λu'=>e ▸ Qc I
 |[d,e]=>
  obtain ⟨v,ws,r,r1,rfl⟩:=rd.gc
  obtain ⟨u,rfl,r'⟩:=r1.one
  exact ai.aI λk hk=>ai.aI λj hj=>let ⟨t,e⟩:=r.fE hk; let ⟨t',e'⟩:=r'.fE hj; ai.bo λu'=>e ▸ e' ▸ Qd I
 |_::_::_::_=>trivial
theorem PM (hu:A.units+2<cLine) (I:ah V F m C g s) {a:D} {v:Value} (r:ab V g a v):ai V F (ab V) (cn V A .str [v]) g s (Ah a ⟨m,C⟩):=by
 induction a using D.casesOn<;>first|trivial|skip
 ·exact ai.bo λhs=>let ⟨t,e⟩:=r.ja; e ▸ Ql I hs
 ·exact Qk hu I r
theorem PL (hh:A.handled=none) (I:ah V F m C g s) {ds:List D} {vs:List Value} (rd:aE V g ds vs):ai V F (ab V) (cn V A .set vs) g s (Ag ds ⟨m,C⟩):=ai.one (T:=cn V A .set) rd λa v r=>by
 have go:ai V F (ab V) (cn V A .set [v]) g s (aI (jb C a) λxs=>Eu xs ⟨m,C⟩):=ai.aI λxs hx=>let ⟨_,h1,h2⟩:=tx hx; ai.bo λhz=>Qg hh I r h1 h2 (of_decide_eq_true hz)
 induction a using D.casesOn<;>first|exact go|skip
 exact ai.bo λhz=>Qf hh I r (of_decide_eq_true hz)
theorem PJ {L:Addr} (hf:F.env.frame=some L) (hh:A.handled=none) (I:ah V F m C g s) {a:D} {v:Value} (r:ab V g a v):ai V F (ab V) (cn V A .next [v]) g s (Ae a ⟨m,C⟩):=by
 induction a using D.casesOn<;>first|trivial|exact Qb hf hh I r
theorem PG (B:V.Base) (au:V.c7) (hC:fV V cl n) (K:F.Ok) {L:Addr} (hf:F.env.frame=some L) (hA:fA F A cl n l) (hl:1<=l) (I:ah V F m C g s) (b:Bn) {ds:List D} {vs:List Value} (rd:aE V g ds vs) :
  ai V F (ab V) (cn V A b vs) g s (jt V.P cl b ds ⟨m,C⟩):=by
 unfold jt
 by_cases hb:(cl.fuel==0&&b != .str)=true
 ·rw [if_pos hb]; trivial
 ·rw [if_neg hb]
  have hu:A.units+2<cLine:=by rw [HU]; have:=hA.units; omega
  have hh:b≠.str->A.handled=none:=λh=>hA.calm λe=>by
   apply hb
   rw [e]
   simpa using h
  clear hb
  induction b using Bn.casesOn with
  |len=>exact ai.one rd λa v r=>P1 I r
  |list=>exact ai.one rd λa v r=>PH B au hC K hA hl (hh nofun) I r
  |tuple=>exact ai.one rd λa v r=>ai.aI λds h=>Qo I r h
  |range=>exact PK I rd
  |sum=>
   exact ai.one rd λa v r=>ai.aI λxs hx=>let ⟨_,h1,h2⟩:=tx hx; ai.bo λhc=>by
    rw [and_eq_true,all_eq_true,decide_eq_true_eq] at hc
    exact Qm (hh nofun) I r h1 h2 (λx hx=>of_decide_eq_true (hc.1 x hx)) hc.2
  |sorted=>exact ai.one rd λa v r=>ai.aI λxs hx=>let ⟨_,h1,h2⟩:=tx hx; ai.bo λhz=>Qi I r h1 h2 (of_decide_eq_true hz)
  |isinstance=>exact ai.two rd λa t v u r r'=>PZ I r r'
  |bool=>exact ai.one rd λa v r=>ai.aI λds h=>PN I r h
  |bytes=>exact ai.one rd λa v r=>ai.aI λb hb=>let ⟨_,hx,h3⟩:=aS hb; let ⟨_,h1,h2⟩:=tx hx; ai.bo λhz=>PO (hh nofun) I r h1 h2 h3 (of_decide_eq_true hz)
  |str=>exact ai.one rd λa v r=>PM hu I r
  |type=>exact ai.one rd λa v r=>Qp I r
  |set=>
   induction ds using List.casesOn with
   |nil=>obtain rfl:=rd.gf; exact Qe I
   |cons _ _=>exact PL (hh nofun) I rd
  |iter=>exact ai.one rd λa v r=>ai.aI λds h=>P0 I r h
  |next=>exact ai.one rd λa v r=>PJ hf (hh nofun) I r
  |_=>trivial
theorem NF (B:V.Base) (I:ah V F m C g s) {k:Nat} (h:W.makesIn V.K (V.bw k)=true) : ∃ kk,W.Looks V.M s.heap (keeperOf (.ref (V.bw k))) kk:=by
 have Y:=W.makes_of (M:=V.M) (I.cZ B) h
 obtain ⟨oc,od,cd,sl,ho,_⟩:=Y.obj
 refine ⟨.machine,?_⟩
 unfold keeperOf
 refine (W.Looks.ld (part:=none) ho).andThen ?_
 refine Y.call.andThen ?_
 exact W.Looks.now
theorem HO (b:Bn) {M:Model} {h:Heap} : ∃ kk,W.Looks M h (keeperOf b.val) kk:=by
 induction b using Bn.casesOn<;>exact ⟨.machine,W.Looks.now⟩
theorem xk {W:Tr Value} {b:Bool} {o:aj D} (h:b=true->ai V F (ab V) W g s o):ai V F (ab V) W g s (if b then o else .fail):=by
 induction b with
 |false=>trivial
 |true=>exact h rfl
theorem QU (B:V.Base) (au:V.c7) (dE:V.l0) (hC:fV V cl n) (K:F.Ok) {L:Addr} (hf:F.env.frame=some L) (hA:fA F A cl n l) (hl:1<=l):rK V F A cl:=by
 intro m C g s f v ds vs ks ax I rf rd rk
 have kz:ks.isEmpty=true->ax=[]:=λh=>by
  induction ks using List.casesOn with
  |nil=>induction ax using List.casesOn with|nil=>rfl|cons _ _=>exact rk.elim
  |cons _ _=>exact bA h
 have fJ:cl.fuel≠0->A.handled=none:=hA.calm
 induction f using D.casesOn with
 |fn k=>
  obtain rfl:=rf.MD
  obtain ⟨kk,_,L⟩:=W.looks_keep (M:=V.M) (dE.keep k) (I.cZ B)
  exact ai.wp (W₂:=dv V.M A (.ref (V.ba k)) vs ax) (Fz (A:=A) hC K hA I k rd rk) λQ E x=>And.intro ⟨kk,L⟩ x
 |cls k=>
  refine xk λhk=>?_
  obtain rfl:=kz hk
  obtain rfl:=rf.MC
  induction hc:V.P.dy k with
  |none=>unfold nU; rw [hc]; trivial
  |some c=>exact ai.wp (W₂:=dv V.M A (.ref (V.bw k)) vs []) (PQ B au hC K hA I k rd) λQ E x=>And.intro (NF B I (au k c hc).makes) (wpAny_call x)
 |bn b=>
  refine xk λhk=>?_
  obtain rfl:=kz hk
  obtain rfl:=rf.xh
  exact ai.wp (W₂:=dv V.M A b.val vs []) (PG B au hC K hf hA hl I b rd) λQ E x=>And.intro (HO b) x
 |bm nn src=>
  refine xk λhk=>?_
  obtain rfl:=kz hk
  induction nn using Nm.casesOn<;>first|trivial|skip
  ·exact ai.one (T:=λvs=>dv V.M A v vs []) rd λx u ru=>ai.aI λb hb=>by
    obtain ⟨es,h1,h2⟩:=aS hb
    exact ai.wp (W₂:=dv V.M A v [u] []) (PE (A:=A) I rf ru h1 h2) λQ E x=>And.intro (let ⟨_,_,g1,_,e⟩:=rf.DC; e ▸ D0 (I.ay _ _ g1)) x
  ·exact ai.aI λi hi=>ai.bo λhz=>by
    obtain rfl:=jF hi
    rw [and_eq_true] at hz
    obtain rfl:=isEmpty_iff.mp hz.1
    obtain rfl:=rd.gf
    unfold jt
    by_cases hb:(cl.fuel==0&&Bn.next != .str)=true
    ·rw [if_pos hb]; trivial
    ·rw [if_neg hb]
     have hh:A.handled=none:=fJ λe=>by apply hb; rw [e]; decide
     exact ai.wp (W₂:=dv V.M A v [] []) (PF (A:=A) hf hh I rf hz.2) λQ E x=>And.intro (let ⟨_,_,g1,_,e⟩:=rf.DD; e ▸ D0 (I.ay _ _ g1)) x
 |_=>trivial
end
inductive d5 (V:aq) (g:Gh):Fl->Flow->Prop where
 |next:d5 V g .next .next
 |brk:d5 V g .brk .brk
 |cont:d5 V g .cont .cont
 |ret {d:D} {v:Value}:ab V g d v->d5 V g (.ret d) (.ret v)
noncomputable def aM (V:aq) (F:aB) (A:Around) (cl:Calls) (c:S) (t:Stmt):Prop:=
 ∀ m C g s,ah V F m C g s->aF V F A (d5 V) (exec t F.env) g s (ex V.P cl c ⟨m,C⟩)
noncomputable def cT (V:aq) (F:aB) (A:Around) (cl:Calls) (c:Ss) (ts:List Stmt):Prop:=
 ∀ m C g s,ah V F m C g s->aF V F A (d5 V) (execs ts F.env) g s (av V.P cl c ⟨m,C⟩)
noncomputable def dI (V:aq) (F:aB) (A:Around) (cl:Calls) (c:E) (e:Expr):Prop:=
 ∀ m C g s,ah V F m C g s->aF V F A (ab V) (eval e F.env) g s ((ev V.P cl c ⟨m,C⟩).bind λx st=>fZ (cO c) x st)
section
variable {V:aq} {G:aV} {F:aB} {A:Around} {cl:Calls}
theorem aM.bad {t:Stmt}:aM V F A cl .bad t:=λu' u' u' u' u'=>trivial
theorem RB {p:Pos}:aM V F A cl .pass (.Pass p):=λm C g s I Q E q=>wpAny_Pass (q g _ _ (.refl g) I .next)
theorem Rb {p:Pos}:aM V F A cl .brk (.Break p):=λm C g s I Q E q=>wpAny_Break (q g _ _ (.refl g) I .brk)
theorem Rj {p:Pos}:aM V F A cl .cont (.Continue p):=λm C g s I Q E q=>wpAny_Continue (q g _ _ (.refl g) I .cont)
theorem aB.Ok.quiet (K:F.Ok):interactive F.env=false:=by unfold interactive; rw [K.fn]; rfl
theorem Rm (K:F.Ok) {a:E} {e:Expr} {p:Pos} (hc:ki e=false) (h:az V F A cl a e):aM V F A cl (.expr a) (.Expr e p):=λm C g s I=>by
 refine ai.seq (h m C g s I).1 (λQ E x=>wpAny_Expr_any x K.quiet ?_) (K:=λv Q E s=>Q .next s) λu' u' g₁ s₁ u' u' u' I₁ u'=>λQ E q=>q _ _ _ (.refl _) I₁ .next
 induction e using Expr.casesOn<;>first|rfl|exact fT hc
theorem RD {a:E} {e:Expr} {p:Pos} (h:az V F A cl a e):aM V F A cl (.ret a) (.Return (some e) p):=λm C g s I=>
 ai.seq (h m C g s I).1 (λQ E x=>wpAny_Return_some x) (K:=λv Q E s=>Q (.ret v) s) λu' u' g₁ s₁ u' u' u' I₁ r=>λQ E q=>q _ _ _ (.refl _) I₁ (.ret r)
theorem Ry:cT V F A cl .nil []:=λm C g s I Q E q=>wpAny_execs_nil (q g _ _ (.refl g) I .next)
theorem Rh {c:S} {cs:Ss} {t:Stmt} {ts:List Stmt} (h:aM V F A cl c t) (hs:cT V F A cl cs ts):cT V F A cl (.cons c cs) (t::ts):=λm C g s I=>by
 have e:av V.P cl (.cons c cs) ⟨m,C⟩=(ex V.P cl c ⟨m,C⟩).bind λf st=>match f with|.next=>av V.P cl cs st|f=>.ok f st:=by
  show (match ex V.P cl c ⟨m,C⟩ with|.ok .next aa=>av V.P cl cs aa|o=>o)=_
  induction ex V.P cl c ⟨m,C⟩ with
  |ok f st=>induction f<;>rfl
  |_=>rfl
 rw [e]
 refine ai.seq (h m C g s I) (λQ E x=>wpAny_execs_cons x) (K:=λf Q E s'=>match f with|.next=>wpAny V.M A (execs ts F.env) Q E s'|f=>Q f s') λf st g₁ s₁ v u' u' I₁ r=>?_
 induction r using d5.casesOn with
 |next=>exact hs _ _ _ _ I₁
 |brk=>exact λQ E q=>q _ _ _ (.refl _) I₁ .brk
 |cont=>exact λQ E q=>q _ _ _ (.refl _) I₁ .cont
 |ret r=>exact λQ E q=>q _ _ _ (.refl _) I₁ (.ret r)
theorem Rp {a:E} {t:Expr} {x y:Ss} {b o:List Stmt} {p:Pos} (h:az V F A cl a t) (hb:cT V F A cl x b) (ho:cT V F A cl y o):aM V F A cl (.ifs a x y) (.If t b o p):=λm C g s I=>by
 have e:ex V.P cl (.ifs a x y) ⟨m,C⟩=(cM (ev V.P cl a ⟨m,C⟩)).bind λb st=>match b with|true=>av V.P cl x st|false=>av V.P cl y st:=by
  show (ev V.P cl a ⟨m,C⟩).bind _=_
  unfold cM
  rw [aj.bind_assoc]
  congr 1; funext d st
  unfold jr
  induction bI st.C d with
  |none=>rfl
  |some b=>induction b<;>rfl
 rw [e]
 refine ai.seq (h m C g s I).2 (λQ E x=>wpAny_If x) (K:=λq Q E s₂=>if q then wpAny V.M A (execs b F.env) Q E s₂ else wpAny V.M A (execs o F.env) Q E s₂) λq st g₁ s₁ v u' u' I₁ r=>?_
 cases r
 induction q
 ·exact (ho _ _ _ _ I₁).wp λQ E x=>x
 ·exact (hb _ _ _ _ I₁).wp λQ E x=>x
theorem dI.of {c:E} {e:Expr} (hf:cO c=false) (h:az V F A cl c e):dI V F A cl c e:=λm C g s I=>by
 rw [hf]
 have e:((ev V.P cl c ⟨m,C⟩).bind λx st=>fZ false x st)=ev V.P cl c ⟨m,C⟩:=by
  induction ev V.P cl c ⟨m,C⟩<;>rfl
 rw [e]
 exact (h m C g s I).1
theorem yq {mu:Bool} {c:E} {e:Expr} (h:az V F A cl c e) (hC:dI V F A cl c e) {m:List (Option D)} {C:af} {g:Gh} {s:Shared} (I:ah V F m C g s) :
  aF V F A (ab V) (eval e F.env) g s ((ev V.P cl c ⟨m,C⟩).bind λx st=>fZ (mu&&cO c) x st):=by
 induction mu
 ·have e:((ev V.P cl c ⟨m,C⟩).bind λx st=>fZ (false&&cO c) x st)=ev V.P cl c ⟨m,C⟩:=by
   induction ev V.P cl c ⟨m,C⟩<;>rfl
  rw [e]
  exact (h m C g s I).1
 ·exact hC m C g s I
theorem xP {e:Expr} {t:Expr} {n:Nat} {env:Env} (h:ki e=false):swapsWith e (some t) n env=pure false:=by
 induction e using Expr.casesOn<;>first|rfl|exact fT h
theorem QW (K:F.Ok) {c:aJ} (hc:F.ctx c) {x:Str} {xp p:Pos} {k:Nat} (hk:dz c x=some k) {mu:Bool} {a:E} {e:Expr} (hn:ki e=false) (h:az V F A cl a e) (hC:dI V F A cl a e) :
  aM V F A cl (.aN k mu a) (.Assign [.Name x xp] e p):=λm C g s I=>by
 refine ai.seq (yq (mu:=mu) h hC I) (λQ E x=>wpAny_Assign_Name x (xP hn)) λd st g₁ s₁ v u' u' I₁ r=>?_
 exact ai.seq (nj (A:=A) K I₁ hc hk r) (λu' u' x=>x) (K:=λu' Q E s=>Q .next s) λu' u' g₂ s₂ u' u' u' I₂ u'=>λQ E q=>q _ _ _ (.refl _) I₂ .next
theorem PB {op:Operator} {o:Op} (ho:jh op=some o) {m:List (Option D)} {C:af} {g:Gh} {s:Shared} (I:ah V F m C g s) {x y:D} {a b:Value} (rx:ab V g x a) (ry:ab V g y b) :
  aF V F A (ab V) (inplaceOp op a b) g s (match kT o x y with|some d=>.ok d ⟨m,C⟩|none=>.fail):=by
 induction h:kT o x y with
 |none=>trivial
 |some d=>
  obtain ⟨i,e1,h⟩:=aS h
  obtain ⟨j,e2,h⟩:=aS h
  obtain ⟨_,rfl⟩:=rx.fE e1
  obtain ⟨_,rfl⟩:=ry.fE e2
  induction o using Op.casesOn<;>first|exact ao h|(obtain rfl:=Option.some.inj h)
  all_goals
   induction op using Operator.casesOn<;>first|((first|exact ao ho|cases ho); done)|skip
  ·exact λQ E q=>AutoIntOps.iadd_0 (q g _ _ (.refl g) (I.tok _) (.int _ _))
  ·exact λQ E q=>AutoIntOps.isub_0 (q g _ _ (.refl g) (I.tok _) (.int _ _))
theorem Q9 (B:V.Base) (au:V.c7) {o e:Expr} {attr:Str} {n:Nm} {ap p:Pos} (hn:c6 attr=some n) {op:Operator} {po:Op} (LW:jh op=some po) {a b:E} (ho:az V F A cl b o) (h:az V F A cl a e) :
  aM V F A cl (.kS b n po a) (.AugAssign (.Attribute o attr ap) op e p):=λm C g s I=>by
 have e1:=mZ hn
 subst e1
 refine ai.seq (ho m C g s I).1 (λQ E x=>wpAny_AugAssign_AttributeAny x) λy st g₁ s₁ ov u' q₁ I₁ ry=>?_
 refine ai.seq (FA (A:=A) B au I₁ ry) (λu' u' x=>x) λold bP g₂ s₂ ow u' q₂ I₂ Ph=>?_
 refine ai.seq (h _ _ _ _ I₂).1 (λu' u' x=>x) λx gq g₃ s₃ v u' q₃ I₃ rx=>?_
 have e2:(match kT po old x with|some d=>(gS (fq V.P y n d gq.C) gq.m).bind λu' fx=>(.ok .next fx:aj Fl)|none=>.fail) =
   (match kT po old x with|some d=>(.ok d ⟨gq.m,gq.C⟩:aj D)|none=>.fail).bind λd st=>(gS (fq V.P y n d st.C) st.m).bind λu' fx=>.ok .next fx:=by
  induction kT po old x<;>rfl
 show ai _ _ _ _ _ _ (match kT po old x with|some d=>(gS (fq V.P y n d gq.C) gq.m).bind λu' fx=>(.ok .next fx:aj Fl)|none=>.fail)
 rw [e2]
 refine ai.seq (PB (A:=A) LW I₃ (Ph.mono q₃.toLe) rx) (λu' u' x=>x) λd RW g₄ s₄ w u' q₄ I₄ rd=>?_
 exact ai.seq (FL (A:=A) B au I₄ (((ry.mono q₂.toLe).mono q₃.toLe).mono q₄.toLe) rd) (λu' u' x=>x) (K:=λu' Q E s=>Q .next s) λu' u' g₅ s₅ u' u' u' I₅ u'=>λQ E q=>q _ _ _ (.refl _) I₅ .next
end
section
variable {prog:Program} {w:World} {A:Around} {E:Value->Shared->Prop} {s:Shared}
theorem QA {l:Addr} {items:Array Value} {n:Nat} {k:Int} {t:Tok} {v:Value} {Q:Unit->Shared->Prop} (hl:IsL s.heap l items n) (h0:0<=k) (wL:k<2 ^ 63) (hn:k<items.size)
  (hQ:Q () {s with heap:=s.heap.update l (Obj.mapSeq (·.setIfInBounds k.toNat v))}):wpAny (model prog w) A (setItem (.ref l) (.int k t) v) Q E s:=by
 have ho:s.heap.get? l=some _:=hl
 have eI:s.heap.IsList l items:=hl.isList
 unfold setItem
 try with_reducible refine wpAny_holding ?_
 first|refine wpAny_bind (wpAny_pure ?_)|skip
 refine wpAny_bind (wpAny_sequenceKey eI.typeIs (by decide) ?_)
 refine wpAny_bind (wpAny_callSpecial?_slot (name:=Str.ofString "__setitem__") eI.typeIs PySem.F.slot_list_setitem
  (wpAny_call_entry PySem.F.slot_list_setitem eI.typeIs PySem.F.entry_list_setitem ?_ (PySem.F.args_list_setitem_3 _ _ _)))
 show wpAny _ _ (Builtin.List.listSubscript? (.int k t) >>= _) _ _ s
 refine wpAny_bind (wpAny_listSubscript_int (fitsIndex_of h0 wL) ?_)
 obtain ⟨j,rfl⟩:=Int.eq_ofNat_of_zero_le h0
 have hj:j<items.size:=by omega
 have xe:items[j]?=some items[j]:=Array.getElem?_eq_getElem hj
 show wpAny _ _ ((seqItemAt l j >>= λr=>pure (r.map (j,·))) >>= _) _ _ s
 refine wpAny_bind (wpAny_bind (wpAny_seqItemAt ho rfl (wpAny_pure ?_)))
 rw [xe]
 show wpAny _ _ (setSeqItemAt l j v >>= _) _ _ s
 refine wpAny_bind (wpAny_setSeqItemAt ho rfl ?_)
 first
  |exact wpAny_bind (wpAny_pure (wpAny_pure ⟨.none,rfl,wpAny_pure hQ⟩))
  |exact wpAny_pure ⟨.none,rfl,wpAny_pure hQ⟩
end
theorem Fd {α β:Type} [DecidableEq α] (k:α) (v:β) : ∀ (l:List (α × β)),(l.map (·.1)).Nodup->putL k v l=if l.any (λkv=>kv.1=k) then l.map (λkv=>if kv.1=k then (kv.1,v) else kv) else l++[(k,v)]
 |[],_=>rfl
 |e::r,h=>by
  rw [map_cons,nodup_cons] at h
  unfold putL
  by_cases q:e.1=k
  ·have hn : ∀ x∈r,¬ x.1=k:=λx hx z=>h.1 (by rw [q,<-z]; exact mem_map_of_mem hx)
   have e1:r.map (λkv=>if kv.1=k then (kv.1,v) else kv)=r:=by
    conv=>rhs; rw [<-map_id r]
    exact map_congr_left λx hx=>by rw [if_neg (hn x hx)]; rfl
   simp [q,e1]
  ·have q':(e.1==k)=false:=by simpa using q
   rw [q',if_neg (by decide),Fd k v r h.2]
   by_cases hr:r.any (λkv=>decide (kv.1=k))=true
   ·simp [q,hr]
   ·simp [q,hr]
theorem Bl {α β:Type} [DecidableEq α] (k:α) : ∀ (l:List (α × β)),(l.map (·.1)).Nodup->eY k l=l.filter λkv=>decide (kv.1≠k)
 |[],_=>rfl
 |e::r,h=>by
  rw [map_cons,nodup_cons] at h
  unfold eY
  by_cases q:e.1=k
  ·have hn : ∀ x∈r,¬ x.1=k:=λx hx z=>h.1 (by rw [q,<-z]; exact mem_map_of_mem hx)
   have e1:r.filter (λkv=>decide (kv.1≠k))=r:=filter_eq_self.mpr λx hx=>by simpa using hn x hx
   simp only [filter_cons,q,beq_self_eq_true,if_true,ne_eq,not_true_eq_false,decide_false,false_eq_true,if_false]
   simpa [q] using e1.symm
  ·have q':(e.1==k)=false:=by simpa using q
   rw [q',if_neg (by decide),Bl k r h.2]
   simp [filter_cons,q]
theorem aZ.DS {V:aq} {g:Gh} : ∀ {es:List (Int × D)} {ax:List (Int × Value)},aZ (gu V g) es ax->es.map (·.1)=ax.map (·.1)
 |[],[],_=>rfl
 |_::_,_::_,h=>by rw [map_cons,map_cons,h.1.1,h.2.DS]
 |[],_::_,h=>h.elim
 |_::_,[],h=>h.elim
theorem yc {V:aq} {g:Gh} {k:Int} {d:D} {v:Value} (r:ab V g d v) : ∀ {es:List (Int × D)} {ax:List (Int × Value)},aZ (gu V g) es ax->aZ (gu V g) (putL k d es) (putL k v ax)
 |[],[],_=>⟨⟨rfl,r⟩,trivial⟩
 |e::es,f::ax,h=>by
  unfold putL
  rw [h.1.1]
  induction f.1==k
  ·exact ⟨h.1,yc r h.2⟩
  ·exact ⟨⟨rfl,r⟩,h.2⟩
 |[],_::_,h=>h.elim
 |_::_,[],h=>h.elim
theorem Bp {V:aq} {g:Gh} {k:Int} : ∀ {es:List (Int × D)} {ax:List (Int × Value)},aZ (gu V g) es ax->aZ (gu V g) (eY k es) (eY k ax)
 |[],[],_=>trivial
 |e::es,f::ax,h=>by
  unfold eY
  rw [h.1.1]
  induction f.1==k
  ·exact ⟨h.1,Bp h.2⟩
  ·exact h.2
 |[],_::_,h=>h.elim
 |_::_,[],h=>h.elim
theorem Fe {α β:Type} [BEq α] (k:α) (v:β) : ∀ l:List (α × β),(putL k v l).length<=l.length+1
 |[]=>by simp [putL]
 |e::r=>by
  unfold putL
  have:=Fe k v r
  split<;>simp<;>omega
theorem Bo {α β:Type} [BEq α] (k:α) : ∀ l:List (α × β),(eY k l).length<=l.length
 |[]=>by simp [eY]
 |e::r=>by
  unfold eY
  have:=Bo k r
  split<;>simp<;>omega
theorem aE.set {V:aq} {g:Gh} {d:D} {v:Value} (r:ab V g d v) : ∀ {ds:List D} {vs:List Value} (n:Nat),aE V g ds vs->aE V g (ds.set n d) (vs.set n v)
 |_,_,_,.nil=>.nil
 |_,_,0,.cons _ b=>.cons r b
 |_,_,n+1,.cons a b=>.cons a (aE.set r n b)
section
variable {prog:Program} {w:World} {K:Type} [DecidableEq K] {knd:KeyKind prog w K} {A:Around} {E:Value->Shared->Prop} {s:Shared}
theorem Qz {d:Addr} {ax:List (K × Value)} {ep:Nat} {k:K} {key v:Value} {Q:Unit->Shared->Prop} (sY:knd.is k key=true) (hm:s.heap.DictAt knd d ax ep) (bT:ax.length<=sizeLine)
  (hQ : ∀ h',h'.DictAt knd d (stored ax k v) (if (ax.any λkv=>decide (kv.1=k))=true then ep else ep+1)->Heap.SameBut d s.heap h'->Q () {s with heap:=h',toks:=s.toks+1}) :
  wpAny (model prog w) A (setItem (.ref d) key v) Q E s:=by
 have hT:s.TypeIs (.ref d) "dict":=hm.dictOf.typeIs
 obtain ⟨o,es,ho,hc,hd,hk,hp,hn⟩:=hm
 have hlen:es.toList.length=ax.length:=hp.length
 have Ta:es.toList.length=es.size:=by simp
 have same:(es.findIdx? λe=>knd.is k e.key)=ax.findIdx? λkv=>decide (kv.1=k):=by
  rw [<-hp.findIdx k]; obtain ⟨l⟩:=es; simp
 unfold setItem
 try with_reducible refine wpAny_holding ?_
 refine wpAny_bind (wpAny_sequenceKey hT (by decide) ?_)
 refine wpAny_bind (wpAny_callSpecial?_slot (name:=Str.ofString "__setitem__") hT slot_dict_setitem
  (wpAny_call_entry slot_dict_setitem hT entry_dict_setitem ?_ (args_dict_setitem _ _ _)))
 show wpAny _ _ (Builtin.Dict.notOrdered "__setitem__" ⟨[.ref d,key,v],[]⟩ >>= _) _ _ s
 refine wpAny_bind (wpAny_notOrdered_dict hT ?_)
 show wpAny _ _ (dictSet d key v >>= _) _ _ s
 refine wpAny_bind ?_
 unfold dictSet
 try with_reducible refine wpAny_holding ?_
 refine wpAny_bind (knd.pyHash sY ?_)
 unfold dictSetHashed
 try with_reducible refine wpAny_holding ?_
 refine wpAny_bind (wpAny_dictFind_of (s:={s with toks:=s.toks+1}) sY ho hd hk ?_)
 have fin : ∀ h',h'.DictAt knd d (stored ax k v) (if (ax.any λkv=>decide (kv.1=k))=true then ep else ep+1)->Heap.SameBut d s.heap h'->
   ∃ v_1,Fin.done (Flow.ret Value.none)=Fin.done (Flow.ret v_1)/\wpAny (model prog w) A (pure ()) Q E {s with heap:=h',toks:=s.toks+1}:=λh' x y=>⟨.none,rfl,wpAny_pure (hQ h' x y)⟩
 induction hi:es.findIdx? λe=>knd.is k e.key with
 |some i=>
  have my:(ax.any λkv=>decide (kv.1=k))=true:=any_of_findIdx_some (same ▸ hi)
  rw [my] at fin
  refine wpAny_bind (wpAny_rule (wpAny_bind (wpAny_updateDict (s:={s with toks:=s.toks+1}) ho hd (wpAny_point (wpAny_pure (fin _ ⟨_,_,Heap.get?_update_self _ ho (Obj.isFreed_of_dict (Obj.data_mapDict hd _)),
   hc.mapDict _,Obj.data_mapDict hd _,hk.modify _ _,?_,?_⟩ (Heap.SameBut.update ..)))))))
  ·have hl:(es.toList.findIdx? λe=>knd.is k e.key)=some i:=by rw [<-hi]; obtain ⟨l⟩:=es; simp
   have:=hp.modify hn hl v
   rw [stored,if_pos my]
   obtain ⟨l⟩:=es
   simpa using this
  ·rw [stored,if_pos my,keys_map_store]; exact hn
 |none=>
  have Dn:k ∉ ax.map (·.1):=not_mem_of_findIdx_none (same ▸ hi)
  have my : ¬ (ax.any λkv=>decide (kv.1=k))=true:=λz=>by
   obtain ⟨kv,h1,h2⟩:=any_eq_true.mp z
   exact Dn (mem_map.mpr ⟨kv,h1,of_decide_eq_true h2⟩)
  rw [if_neg my] at fin
  refine wpAny_bind (wpAny_rule (wpAny_updateDictKeys (hz:=by omega) (s:={s with toks:=s.toks+1}) ho hd (wpAny_pure (fin _ ⟨_,_,Heap.get?_update_self _ ho (Obj.isFreed_of_dict (Obj.data_mapDictKeys hd _)),
   hc.mapDictKeys _,Obj.data_mapDictKeys hd _,hk.push sY _,?_,?_⟩ (Heap.SameBut.update ..)))))
  ·have:=hp.append sY (knd.hash k) v
   rw [stored,if_neg my]
   obtain ⟨l⟩:=es
   simpa using this
  ·rw [stored,if_neg my,map_append,nodup_append]
   refine ⟨hn,by simp,λa ha b hb=>?_⟩
   rw [map_cons,map_nil,mem_singleton] at hb
   exact λe=>Dn (by rw [e,hb] at ha; exact ha)
end
section
variable {V:aq} {G:aV} {F:aB} {A:Around} {m:List (Option D)} {C:af} {g:Gh} {s:Shared} {n l:Nat} {cl:Calls}
theorem Qw (I:ah V F m C g s) {j:Nat} {k:Int} {t:Tok} {d:D} {a v:Value} {ds:List D} (ro:ab V g (.loc j) a) (rd:ab V g d v) (hC:C[j]?=some (.list ds)) (hk:0<=k/\k<ds.length) :
  aF V F A dQ (setItem a (.int k t) v) g s (.ok () ⟨m,C.set j (.list (ds.set k.toNat d))⟩):=λQ E q=>by
 obtain ⟨la,vs,k',rfl,hg,hl,hz,rs⟩:=I.lH ro hC
 have hlen:=rs.length
 have oy:=tO hz
 exact QA hl hk.1 (by omega) (by simp only [size_toArray]; omega) (q g _ _ (.refl g) (I.tP (t:=s.toks) (ws:=vs.set k.toNat v) hg hl (by simp) (rs.set rd _) (by simpa using hz)) trivial)
theorem Qv (I:ah V F m C g s) {j:Nat} {k:Int} {t:Tok} {d:D} {a v:Value} {fl:Bool} {es:List (Int × D)} (ro:ab V g (.loc j) a) (rd:ab V g d v) (hC:C[j]?=some (.dict fl es)) (hk:es.length<64) :
  aF V F A dQ (setItem a (.int k t) v) g s (.ok () ⟨m,C.set j (.dict fl (putL k d es))⟩):=λQ E q=>by
 obtain ⟨_,h1,rfl⟩:=ro.gd
 obtain ⟨Ko,ax,ep,hm,hA,j6⟩:=I.dictAt h1 hC
 have hlen:es.length=ax.length:=hA.length
 refine Qz (knd:=intKind V.prog V.w) (k:=k) (intKind_is _ _ _ _) hm (by rw [sizeLine_eq]; omega) λh' wZ fL=>?_
 obtain ⟨o',pN,g2,wh,iS,wk,pX,pW⟩:=wZ
 have n0:stored ax k v=putL k v ax:=(Fd k v ax hm.nodup).symm
 rw [n0] at pX pW
 refine q g _ _ (.refl g) (I.cellSet (t:=s.toks+1) h1 fL g2 ⟨le_trans (Fe k d es) hk,pN,_,putL k v ax,wh,iS,wk,pX,pW,yc rd hA,λhf=>?_⟩) trivial
 have e1:(putL k d es).length=(putL k v ax).length:=(yc rd hA).length
 rw [e1,<-n0,stored,j6 hf,hlen]
 split
 ·rw [length_map]
 ·rw [length_append]; rfl
theorem FK (I:ah V F m C g s) {o i d:D} {a b v:Value} (ro:ab V g o a) (ri:ab V g i b) (rd:ab V g d v) :
  aF V F A dQ (setItem a b v) g s (gS (kC o i d C) m):=by
 induction ho:kC o i d C with
 |none=>trivial
 |some C'=>
  show aF V F A dQ (setItem a b v) g s (.ok () ⟨m,C'⟩)
  obtain ⟨j,e1,p1⟩:=aS ho
  obtain ⟨k,e2,p2⟩:=aS p1
  obtain ⟨ch,hC,p3⟩:=aS p2
  clear p1 p2 ho
  obtain rfl:=jF e1
  obtain ⟨t,rfl⟩:=ri.fE e2
  induction ch using Ch.casesOn<;>first|exact ao p3|skip
  ·obtain ⟨hk,p4⟩:=gk p3
   obtain rfl:=Option.some.inj p4
   exact Qw I ro rd hC hk
  ·obtain ⟨hk,p4⟩:=gk p3
   obtain rfl:=Option.some.inj p4
   exact Qv I ro rd hC hk.1
end
section
variable {V:aq} {G:aV} {F:aB} {A:Around} {cl:Calls}
theorem Q2 {o i e:Expr} {ap p:Pos} {a b c:E} (td:ki e=false) (h:az V F A cl a e) (ho:az V F A cl b o) (hi:az V F A cl c i) :
  aM V F A cl (.kP b c a) (.Assign [.Subscript o i ap] e p):=λm C g s I=>by
 refine ai.seq (h m C g s I).1 (λQ E x=>wpAny_Assign_Subscript x (xP td)) λd st g₁ s₁ v u' u' I₁ r=>?_
 refine ai.seq (ho _ _ _ _ I₁).1 (λu' u' x=>x) λy bP g₂ s₂ ov u' q₂ I₂ ry=>?_
 refine ai.seq (hi _ _ _ _ I₂).1 (λu' u' x=>x) λz gq g₃ s₃ iv u' q₃ I₃ rz=>?_
 exact ai.seq (FK (A:=A) I₃ (ry.mono q₃.toLe) rz ((r.mono q₂.toLe).mono q₃.toLe)) (λu' u' x=>x) (K:=λu' Q E s=>Q .next s) λu' u' g₄ s₄ u' u' u' I₄ u'=>λQ E q=>q _ _ _ (.refl _) I₄ .next
theorem Q4 (K:F.Ok) {c:aJ} (hc:F.ctx c) {x:Str} {xp:Pos} {k:Nat} (hk:dz c x=some k) {o i e:Expr} {ap p:Pos} {a b ci:E} (h:az V F A cl a e) (ho:az V F A cl b o) (hi:az V F A cl ci i) :
  aM V F A cl (.pB b ci k a) (.Assign [.Subscript o i ap,.Name x xp] e p):=λm C g s I=>by
 refine ai.seq (h m C g s I).1 (λQ E x=>wpAny_Assign_two x) λd st g₁ s₁ v u' u' I₁ r=>?_
 refine ai.seq (R:=dQ) (W:=wpAny V.M A (assign (.Subscript o i ap) F.env v)) (K:=λu' Q E s₂=>wpAny V.M A (assign (.Name x xp) F.env v) (λu'=>Q .next) E s₂) ?_ (λu' u' x=>x) λu' RW g₄ s₄ u' u' q₄ I₄ u'=>?_
 ·have key:ai V F dQ (λ(Q:Unit->Shared->Prop) E s=>wpAny V.M A (eval o F.env) (λov s₂=>wpAny V.M A (eval i F.env) (λiv s₃=>wpAny V.M A (setItem ov iv v) Q E s₃) E s₂) E s) g₁ s₁
    ((ev V.P cl b st).bind λy ae=>(ev V.P cl ci ae).bind λz aG=>gS (kC y z d aG.C) aG.m):=by
   refine ai.seq (ho _ _ _ _ I₁).1 (λu' u' x=>x) λy bP g₂ s₂ ov u' q₂ I₂ ry=>?_
   refine ai.seq (hi _ _ _ _ I₂).1 (λu' u' x=>x) λz gq g₃ s₃ iv u' q₃ I₃ rz=>?_
   exact FK (A:=A) I₃ (ry.mono q₃.toLe) rz ((r.mono q₂.toLe).mono q₃.toLe)
  refine key.wp λQ E x=>?_
  rw [assign_Subscript]
  refine wpAny_bind (wpAny_holding (wpAny_mono x (λov s₂ h₂=>?_) λu' u' e=>e))
  refine wpAny_bind (wpAny_holding (wpAny_mono h₂ (λiv s₃ h₃=>?_) λu' u' e=>e))
  exact wpAny_bind (wpAny_standAt (wpAny_bind (wpAny_holding (wpAny_mono h₃ (λu' s₄ h₄=>wpAny_release h₄) λu' u' e=>e))))
 ·exact ai.seq (nj (A:=A) K I₄ hc hk (r.mono q₄.toLe)) (λu' u' x=>wpAny_assign_Name x) (K:=λu' Q E s=>Q .next s) λu' u' g₂ s₂ u' u' u' I₂ u'=>λQ E q=>q _ _ _ (.refl _) I₂ .next
theorem IQ {m:List (Option D)} {C:af} {g:Gh} {s:Shared} (I:ah V F m C g s) {j:Nat} {k:Int} {t:Tok} {a:Value} {fl:Bool} {es:List (Int × D)} (ro:ab V g (.loc j) a) (hC:C[j]?=some (.dict fl es)) (hk:(es.lookup k).isSome=true) :
  aF V F A dQ (delItem a (.int k t)) g s (.ok () ⟨m,C.set j (.dict false (eY k es))⟩):=λQ E q=>by
 obtain ⟨_,h1,rfl⟩:=ro.gd
 obtain ⟨bb,ob,e1,e2,Ko,ents,ep,ax,hE,hD,hK,hP,hN,hA,_⟩:=I.cell _ _ hC
 cases I.uniq _ _ _ h1 e1
 have hlen:es.length=ax.length:=hA.length
 have hm:s.heap.DictOf (intKind V.prog V.w) _ ax:=⟨ob,ents,ep,e2,hE,hD,hK,hP,hN⟩
 have Mn:(valueAt ax k).isSome=true:=by
  have:=aZ.lookupI (V:=V) (g:=g) k hA
  induction hv:valueAt ax k with
  |some v=>rfl
  |none=>
   induction hl:es.lookup k with
   |none=>rw [hl] at hk; cases hk
   |some d=>rw [hv,hl] at this; exact this.elim
 unfold delItem
 refine wpAny_holding ?_
 refine wpAny_bind (wpAny_sequenceKey hm.typeIs (by decide) ?_)
 refine wpAny_bind (wpAny_callSpecial?_slot (name:=Str.ofString "__delitem__") hm.typeIs PySem.F.slot_dict_delitem
  (call_meetsIn PySem.F.slot_dict_delitem hm.typeIs PySem.F.entry_dict_delitem (PySem.F.args_dict_delitem_2 _ _) (meets_dict_delitem_pairs (intKind V.prog V.w) _ (k:=k) (intKind_is _ _ _ _)) ⟨ax,hm,by rw [sizeLine_eq]; omega,Mn,λh' wZ fL=>?_⟩))
 obtain ⟨o',pN,vK,g2,wh,iS,wk,pX,pW⟩:=wZ
 have n0:without ax k=eY k ax:=(Bl k ax hN).symm
 rw [n0] at pX pW
 exact wpAny_pure (q g _ _ (.refl g) (I.cellSet (t:=s.toks+1) h1 fL g2 ⟨by have:=Bo k es; omega,pN,vK,eY k ax,wh,iS,wk,pX,pW,Bp hA,(λz=>by cases z)⟩) trivial)
theorem PS {m:List (Option D)} {C:af} {g:Gh} {s:Shared} (I:ah V F m C g s) {o i:D} {a b:Value} (ro:ab V g o a) (ri:ab V g i b) :
  aF V F A dQ (delItem a b) g s (gS (nY o i C) m):=by
 induction ho:nY o i C with
 |none=>trivial
 |some C'=>
  show aF V F A dQ (delItem a b) g s (.ok () ⟨m,C'⟩)
  obtain ⟨j,e1,p1⟩:=aS ho
  obtain ⟨k,e2,p2⟩:=aS p1
  obtain ⟨ch,hC,p3⟩:=aS p2
  clear p1 p2 ho
  obtain rfl:=jF e1
  obtain ⟨t,rfl⟩:=ri.fE e2
  induction ch using Ch.casesOn<;>first|exact ao p3|skip
  obtain ⟨hk,p4⟩:=gk p3
  obtain rfl:=Option.some.inj p4
  exact IQ I ro hC hk
theorem Rk {o i:Expr} {ap p:Pos} {b c:E} (ho:az V F A cl b o) (hi:az V F A cl c i) :
  aM V F A cl (.pK b c) (.Delete [.Subscript o i ap] p):=λm C g s I=>by
 refine ai.seq (ho m C g s I).1 (λQ E x=>wpAny_Delete (wpAny_deleteEach_cons (wpAny_delete_Subscript (wpAny_mono x (λov s₁ h₁=>wpAny_mono h₁ (λiv s₂ h₂=>wpAny_mono h₂ (λu' s₃ h₃=>wpAny_deleteEach_nil h₃) λu' u' e=>e) λu' u' e=>e) λu' u' e=>e))))
  (K:=λov Q E s₁=>wpAny V.M A (eval i F.env) (λiv s₂=>wpAny V.M A (delItem ov iv) (λu'=>Q .next) E s₂) E s₁) λy st g₁ s₁ ov u' u' I₁ ry=>?_
 refine ai.seq (hi _ _ _ _ I₁).1 (λu' u' x=>x) λz gq g₃ s₃ iv u' q₃ I₃ rz=>?_
 exact ai.seq (PS (A:=A) I₃ (ry.mono q₃.toLe) rz) (λu' u' x=>x) (K:=λu' Q E s=>Q .next s) λu' u' g₄ s₄ u' u' u' I₄ u'=>λQ E q=>q _ _ _ (.refl _) I₄ .next
end
section
variable {V:aq} {G:aV} {F:aB} {A:Around} {cl:Calls}
noncomputable def rM (c:aJ) (e:Expr) (n:Nat):Prop := ∃ x p,e=.Name x p/\dz c x=some n
theorem Gm {e:Expr} {x:Str} (h:fS e=some x) : ∃ p,e=.Name x p:=by
 induction e using Expr.casesOn<;>first|((first|exact ao h|obtain rfl:=Option.some.inj h); exact ⟨_,rfl⟩)|exact ao h
theorem Gq {c:aJ} : ∀ {es:List Expr} {ns:List Nat},((es.mapM fS).bind λxs=>xs.mapM (dz c))=some ns->aZ (rM c) es ns
 |[],ns,h=>by
  simp at h; subst h; trivial
 |e::es,ns,h=>by
  rw [mapM_cons] at h
  obtain ⟨xs,h1,h2⟩:=aS h
  obtain ⟨x,h0,h9⟩:=aS h1
  obtain ⟨p,rfl⟩:=Gm h0
  obtain ⟨ys,h3,h4⟩:=aS h9
  obtain rfl:=Option.some.inj h4
  rw [mapM_cons] at h2
  obtain ⟨n,h5,h6⟩:=aS h2
  obtain ⟨ms,h7,h8⟩:=aS h6
  obtain rfl:=Option.some.inj h8
  exact ⟨⟨x,p,rfl,h5⟩,Gq (by rw [h3]; exact h7)⟩
theorem yH {c:aJ} {env:Env} : ∀ {es:List Expr} {ns:List Nat},aZ (rM c) es ns->(assignEach es env).findIdx? (·.1)=none/\(assignEach es env).length=ns.length
 |[],[],_=>⟨rfl,rfl⟩
 |e::es,n::ns,h=>by
  obtain ⟨⟨x,p,rfl,_⟩,hr⟩:=h
  obtain ⟨h1,h2⟩:=yH (env:=env) hr
  show ((false,assign (.Name x p) env)::assignEach es env).findIdx? (·.1)=none/\((false,assign (.Name x p) env)::assignEach es env).length=_
  rw [List.findIdx?_cons,h1]
  exact ⟨rfl,by simp [h2]⟩
 |[],_::_,h=>h.elim
 |_::_,[],h=>h.elim
theorem yt (K:F.Ok) {c:aJ} (hc:F.ctx c) : ∀ {es:List Expr} {ns:List Nat} {ds:List D} {vs:List Value} {m:List (Option D)} {C:af} {g:Gh} {s:Shared},aZ (rM c) es ns->aE V g ds vs->ns.length=ds.length->ah V F m C g s->
  aF V F A dQ (assignInOrder ((assignEach es F.env).map (·.2)) vs) g s (lR ns ds ⟨m,C⟩)
 |[],[],[],_,m,C,g,s,_,.nil,_,I=>λQ E q=>wpAny_pure (q g _ _ (.refl g) I trivial)
 |e::es,n::ns,d::ds,_,m,C,g,s,h,.cons (v:=v) (vs:=vs) r rs,hl,I=>by
  obtain ⟨⟨x,p,rfl,hk⟩,hr⟩:=h
  refine ai.seq (nj (A:=A) K I hc hk r) (λQ E x=>wpAny_bind (wpAny_holding (wpAny_assign_Name x))) (K:=λu' Q E s=>wpAny V.M A (assignInOrder ((assignEach es F.env).map (·.2)) vs) Q E s) λu' st g₁ s₁ u' u' q₁ I₁ u'=>?_
  exact yt K hc hr (rs.mono q₁.toLe) (by simpa using hl) I₁
 |[],_::_,_,_,_,_,_,_,h,_,_,_=>h.elim
 |_::_,[],_,_,_,_,_,_,h,_,_,_=>h.elim
 |_,_::_,[],_,_,_,_,_,_,_,h,_=>by simp at h
 |_,[],_::_,_,_,_,_,_,_,_,h,_=>by simp at h
theorem Ou {es:List Expr} {cx:Nat} {tp:Pos} {e:Expr} {env:Env} (ht:xt e=false):swappedStores [.Tuple es cx tp] e env=pure none:=by
 induction e using Expr.casesOn<;>first|rfl|exact fT ht
set_option tactic.hygienic true in
theorem Q7 (K:F.Ok) (fJ:cl.fuel≠0->A.handled=none) {c:aJ} (hc:F.ctx c) {es:List Expr} {ns:List Nat} (kb:((es.mapM fS).bind λxs=>xs.mapM (dz c))=some ns) {cx:Nat} {tp p:Pos} {a:E} {e:Expr}
  (hn:ki e=false) (ht:xt e=false) (h:az V F A cl a e):aM V F A cl (.vc ns a) (.Assign [.Tuple es cx tp] e p):=λm C g s I=>by
 show ai _ _ _ _ _ _ (if cl.fuel==0 then _ else _)
 split
 ·trivial
 ·rename_i hf
  have hh:A.handled=none:=fJ λz=>hf (by rw [z]; rfl)
  refine ai.seq (h m C g s I).1 (λQ E x=>wpAny_Assign_stores x (by unfold swapsWithSole; exact xP hn) (Ou ht)) λd st g₁ s₁ v u' u' I₁ r=>?_
  induction d using D.casesOn with
  |tup ds=>
   show ai _ _ _ _ _ _ (if ns.length==ds.length then _ else _)
   split
   ·rename_i hl
    have hl:=eq_of_beq hl
    obtain ⟨la,vs,k,rfl,qp,hz,rs⟩:=I₁.tup r
    have hT:=Gq kb
    have K5:(assignEach [.Tuple es cx tp] F.env).map (·.2)=[assign (.Tuple es cx tp) F.env]:=by rfl
    obtain ⟨qt,qu⟩:=yH (env:=F.env) hT
    refine ai.seq (R:=dQ) (W:=wpAny V.M A (assign (.Tuple es cx tp) F.env (.ref la))) (K:=λu' Q E s=>Q .next s) ?_ (λQ E x=>by rw [K5]; exact x) λu' bP g₂ s₂ u' u' u' I₂ u'=>λQ E q=>q _ _ _ (.refl _) I₂ .next
    have I₃ : ∀ h',Heap.ExtBut s₁.heap.objs.size s₁.heap h'->ah V F st.m st.C g₁ {s₁ with heap:=h'}:=λh' he=>I₁.heap λb o e=>he b o (ne_of_lt (Heap.lt_size e)) e
    have key : ∀ h',Heap.ExtBut s₁.heap.objs.size s₁.heap h'->aF V F A dQ (assignInOrder ((assignEach es F.env).map (·.2)) vs) g₁ {s₁ with heap:=h'} (lR ns ds st):=λh' he=>yt K hc hT rs hl (I₃ h' he)
    induction ho:lR ns ds st with
    |fail=>trivial
    |ok b aC=>
     intro Q E q
     refine wpAny_assign_Tuple hh ⟨_,qp,rfl,_,rfl⟩ (by rw [qu,hl,rs.length]; simp) qt λh' he=>?_
     have:=key h' he
     rw [ho] at this
     exact this Q E q
    |exc b aC=>
     intro Q E q
     refine wpAny_assign_Tuple hh ⟨_,qp,rfl,_,rfl⟩ (by rw [qu,hl,rs.length]; simp) qt λh' he=>?_
     have:=key h' he
     rw [ho] at this
     exact this Q E q
   ·trivial
  |_=>trivial
end
section
variable {V:aq} {G:aV} {F:aB} {A:Around} {cl:Calls}
theorem FH {m:List (Option D)} {C:af} {g:Gh} {s:Shared} (I:ah V F m C g s) {ds:List D} {vs:List Value} (rs:aE V g ds vs) (hz:ds.length<=aD) {n t:Nat} {Q:Value->Shared->Prop}
  (q : ∀ g' a s',g.Step g'->ah V F m (C++[.list ds]) g' s'->ab V g' (.loc C.length) a->Q a s') :
  Q (.ref s.heap.objs.size) {s with heap:=s.heap.push {cls:=.type "list",data:=.seq vs.toArray n},toks:=t}:=by
 have hl:=rs.length
 obtain ⟨st,I',r'⟩:=I.oR (c:=.list ds) (t:=t) (λu' u' h=>Heap.get?_push_of_some _ h) (Heap.get?_push_size s.heap (o:={cls:=.type "list",data:=.seq vs.toArray n}) rfl)
  ⟨vs,⟨by omega,n,rfl⟩,rs.mono (Gh.rj (i:=C.length) I.fw).toLe⟩
 exact q _ _ _ st I' r'
set_option tactic.hygienic true in
theorem QT {f:Expr->E} {es:List Expr} {p:Pos} (h : ∀ e∈es,az V F A cl (f e) e):dI V F A cl (.list (kU f es)) (.List es p):=λm C g s I=>by
 unfold kU
 induction hs:es.any dW with
 |true=>trivial
 |false=>
  rw [if_neg (by decide)]
  have e:((ev V.P cl (.list (bX f es)) ⟨m,C⟩).bind λx st=>fZ (cO (.list (bX f es))) x st)=(bG V.P cl (bX f es) ⟨m,C⟩).bind λd st=>match d with
    |.lst ds=>if ds.length<=aD then .ok (.loc st.C.length) ⟨st.m,st.C++[.list ds]⟩ else .fail
    |_=>.fail:=by
   show (match bG V.P cl (bX f es) ⟨m,C⟩ with|.ok (.lst ds) aa=>(if ds.length<=aD then .ok (.lst ds) aa else .fail:aj D)|.exc x aa=>.exc x aa|_=>.fail).bind _=_
   induction bG V.P cl (bX f es) ⟨m,C⟩ with
   |ok d ae=>
    induction d using D.casesOn<;>try rfl
    rename_i ds
    show (if ds.length<=aD then (.ok (.lst ds) ae:aj D) else .fail).bind _=(if ds.length<=aD then _ else _)
    split<;>rfl
   |exc x ae=>rfl
   |fail=>rfl
  rw [e]
  refine ai.seq (uv (p:=p) es hs h m C g s I) (λu' u' x=>wpAny_List_spliced x) λd st g₁ s₁ vs u' u' I₁ rd=>?_
  obtain ⟨ds,rfl,rs⟩:=rd
  dsimp only
  split
  ·rename_i hz
   have fM:vs.length<=aD:=by rw [<-rs.length]; exact hz
   exact λQ E k=>⟨d4 fM,FH (n:=0) (t:=s₁.toks) I₁ rs hz k⟩
  ·trivial
theorem Px {m:List (Option D)} {C:af} {g:Gh} {s:Shared} (I:ah V F m C g s) {x y:D} {a b:Value} (hx:ab V g x a) (hy:ab V g y b) :
  aF V F A (ab V) (binaryOp .Add a b) g s ((dq (d6 C .add x y) ⟨m,C⟩).bind λx st=>fZ true x st):=by
 induction h:d6 C .add x y with
 |none=>trivial
 |some d=>
  rcases zY h with ⟨i,j,_,_,e⟩|⟨_,⟨i,j,_,_,e⟩|e⟩
  ·obtain ⟨z,_,rfl⟩:=cB e
   trivial
  ·obtain ⟨_,e⟩:=gk e
   obtain rfl:=Option.some.inj e
   trivial
  ·obtain ⟨xs,ex,e⟩:=aS e
   obtain ⟨ys,ey,e⟩:=aS e
   obtain ⟨hz,e⟩:=gk e
   obtain rfl:=Option.some.inj e
   obtain ⟨l,vs,n,rfl,hl,mH,r1⟩:=I.list hx ex
   obtain ⟨l',ws,n',rfl,eI,My,r2⟩:=I.list hy ey
   intro Q E k
   have e1:=r1.length
   have e2:=r2.length
   refine P.add_list hl eI ?_ (d4 (by simpa [<-e1,<-e2] using hz))
   rw [show vs.toArray++ws.toArray=(vs++ws).toArray from by simp]
   exact FH (n:=0) (t:=s.toks) I (r1.append r2) (by simpa using hz) k
theorem QS {a b:E} {l r:Expr} {p:Pos} (hl:az V F A cl a l) (hr:az V F A cl b r):dI V F A cl (.bin .add a b) (.BinOp l .Add r p):=λm C g s I=>by
 have e:((ev V.P cl (.bin .add a b) ⟨m,C⟩).bind λx st=>fZ (cO (.bin .add a b)) x st)=(ev V.P cl a ⟨m,C⟩).bind λx aa=>(ev V.P cl b aa).bind λy ae=>(dq (d6 ae.C .add x y) ae).bind λx st=>fZ true x st:=by
  show ((ev V.P cl a ⟨m,C⟩).bind λx aa=>(ev V.P cl b aa).bind λy ae=>dq (d6 ae.C .add x y) ae).bind _=_
  rw [aj.bind_assoc]
  congr 1; funext x aa
  rw [aj.bind_assoc]
  rfl
 rw [e]
 exact ai.seq (hl m C g s I).1 (λu' u' x=>wpAny_BinOp x) λu' u' u' u' u' u' u' I₁ rx=>
  ai.seq (hr _ _ _ _ I₁).1 (λu' u' x=>x) λu' u' u' u' u' u' bP I₂ ry=>Px I₂ (rx.mono bP.toLe) ry
theorem Rl {p:Pos}:az V F A cl .mi (.Dict [] [] p):=.of rfl λm C g s I Q E q=>by
 refine wpAny_Dict_empty ?_
 obtain ⟨st,I',r'⟩:=I.oR (c:=.dict true []) (t:=s.toks) (λu' u' h=>Heap.get?_push_of_some _ h) (Heap.get?_push_size s.heap (o:={cls:=.type "dict",data:=.dict #[]}) rfl)
  ⟨by decide,#[],_,[],⟨rfl,rfl,rfl⟩,rfl,(by intro e h; simp at h),.nil,nodup_nil,trivial,λu'=>rfl⟩
 exact q _ _ _ st I' r'
end
section
variable {V:aq} {G:aV} {F:aB} {A:Around} {cl:Calls}
theorem GB {a:E} {t:Expr} {x y:Ss} {b o:List Stmt} (h:az V F A cl a t) (hb:cT V F A cl x b) (ho:cT V F A cl y o) {oc:aj Fl} (ke:oc≠.fail) {R:Result->Shared->Prop}
  {g:Gh} {m:List (Option D)} {C:af} {s:Shared} (I:ah V F m C g s) {n:Nat} (e:whileLoop (λaa=>ev V.P cl a aa) (λaa=>av V.P cl x aa) (λaa=>av V.P cl y aa) n ⟨m,C⟩=oc)
  (fK : ∀ fl aC,oc=.ok fl aC->∀ g' f s',g.Step g'->ah V F aC.m aC.C g' s'->d5 V g' fl f->R (.ok f) s')
  (hex : ∀ xx aC,oc=.exc xx aC->∀ g' e s',g.Step g'->gv V F xx aC g' e s'->notedBy V.M A F.env (λe s'=>R (.error e) s') e s') :
  codeAny V.M A (.whileLoop t b o F.env) R s:=by
 refine codeAny_whileLoop (λn s => ∃ g1 m1 C1,g.Step g1/\ah V F m1 C1 g1 s/\whileLoop (λaa=>ev V.P cl a aa) (λaa=>av V.P cl x aa) (λaa=>av V.P cl y aa) n ⟨m1,C1⟩=oc) (λn s hI=>?_) n ⟨g,m,C,.refl g,I,e⟩
 obtain ⟨g1,m1,C1,aa,I1,e1⟩:=hI
 induction n using Nat.casesOn with
 |zero=>exact absurd e1.symm ke
 |succ n=>
  have ht:=(h m1 C1 g1 s I1).2
  unfold whileLoop at e1
  induction hc:ev V.P cl a ⟨m1,C1⟩ with
  |fail=>rw [hc] at e1; exact absurd e1.symm ke
  |exc xx st=>
   rw [hc] at e1 ht
   exact ht _ _ λg' e s' q1 hx=>hex xx st e1.symm g' e s' (aa.trans q1) hx
  |ok d st=>
   rw [hc] at e1 ht
   have Dy:aF V F A jR (isTrue t F.env (eval t F.env)) g1 s (jr (bI st.C d) st):=ht
   dsimp only at e1
   induction hd:bI st.C d with
   |none=>rw [hd] at e1; exact absurd e1.symm ke
   |some bb=>
    rw [hd] at e1 Dy
    refine Dy _ _ λg2 b2 s2 q1 I2 r=>?_
    subst r
    induction bb with
    |false=>
     dsimp only at e1
     rw [if_neg (by decide)]
     have hs:=ho _ _ _ _ I2
     rw [e1] at hs
     induction oc with
     |fail=>exact absurd rfl ke
     |ok fl aC=>exact hs _ _ λg' f s' q2 I' r'=>fK fl aC rfl g' f s' ((aa.trans q1).trans q2) I' r'
     |exc xx aC=>exact hs _ _ λg' e s' q2 hx=>hex xx aC rfl g' e s' ((aa.trans q1).trans q2) hx
    |true=>
     dsimp only at e1
     rw [if_pos rfl]
     have hs:=hb _ _ _ _ I2
     induction hx:av V.P cl x st with
     |fail=>rw [hx] at e1; exact absurd e1.symm ke
     |exc xx aC=>
      rw [hx] at e1 hs
      exact hs _ _ λg' e s' q2 hx=>hex xx aC e1.symm g' e s' ((aa.trans q1).trans q2) hx
     |ok fl aC=>
      rw [hx] at e1 hs
      refine hs _ _ λg' f s' q2 I' r'=>?_
      induction r' using d5.casesOn with
      |next=>exact ⟨n,lt_succ_self _,g',aC.m,aC.C,(aa.trans q1).trans q2,I',e1⟩
      |cont=>exact ⟨n,lt_succ_self _,g',aC.m,aC.C,(aa.trans q1).trans q2,I',e1⟩
      |brk=>exact fK .next aC e1.symm g' .next s' ((aa.trans q1).trans q2) I' .next
      |ret r=>exact fK _ aC e1.symm g' _ s' ((aa.trans q1).trans q2) I' (.ret r)
noncomputable def lZ (V:aq) (F:aB) (x:X) (st:St) (g:Gh) (e:Value) (s:Shared):Prop:=
 gv V F x st g e s/\∃ a oe vs T,e=.ref a/\s.heap.get? a=some oe/\oe.data=.fields vs/\vs[1]?=some (.ref T)
noncomputable def rH (V:aq) (F:aB) (A:Around):Prop := ∀ (x:X) (st:St) (g:Gh) (e:Value) (s:Shared) (E:Value->Shared->Prop),gv V F x st g e s->
 (∀ g' s',g.Step g'->lZ V F x st g' e s'->E e s')->notedBy V.M A F.env E e s
noncomputable def rD (V:aq) (F:aB) (A:Around):Prop := ∀ (x:X) (st:St) (g:Gh) (e:Value) (s:Shared) (E:Value->Shared->Prop),lZ V F x st g e s->
 (∀ g' s',g.Step g'->gv V F x st g' e s'->E e s')->cameBackBy V.M A F.env E e s
theorem RL (hN:rH V F A) (hB:rD V F A) {a:E} {t:Expr} {x y:Ss} {b o:List Stmt} {p:Pos} (h:az V F A cl a t) (hb:cT V F A cl x b) (ho:cT V F A cl y o) :
  aM V F A cl (.kG a x y) (.While t b o p):=λm C g s I=>by
 show ai _ _ _ _ _ _ (whileLoop (λaa=>ev V.P cl a aa) (λaa=>av V.P cl x aa) (λaa=>av V.P cl y aa) cl.fuel ⟨m,C⟩)
 induction hw:whileLoop (λaa=>ev V.P cl a aa) (λaa=>av V.P cl x aa) (λaa=>av V.P cl y aa) cl.fuel ⟨m,C⟩ with
 |fail=>trivial
 |ok fl aC=>
  intro Q E q
  refine wpAny_While (GB h hb ho (oc:=.ok fl aC) (by intro z; exact EP z) I hw (λvV fR e g' f s' q1 I' r=>?_) (λxx fR e=>by cases e))
  obtain ⟨rfl,rfl⟩:=aj.ok.inj e
  exact q g' f s' q1 I' r
 |exc xx aC=>
  intro Q E q
  refine wpAny_While (GB h hb ho (oc:=.exc xx aC) (by intro z; exact BY z) I hw (λvV fR e=>by exact vQ e) (λSH fR e g' e' s' q1 hx=>?_))
  cases e
  refine hN _ _ _ _ _ _ hx λg2 s2 q2 mG=>?_
  exact hB _ _ _ _ _ _ mG λg3 s3 q3 gK=>q g3 e' s3 ((q1.trans q2).trans q3) gK
end
section
variable {V:aq} {F:aB} {m:List (Option D)} {C:af} {g:Gh} {s:Shared}
theorem ah.away (I:ah V F m C g s) {h':Heap} {t:Nat} {T:Addr} (hT:g T=none) (h0:V.h₀.get? T=none) (hs:Heap.SameBut T s.heap h'):ah V F m C g {s with heap:=h',toks:=t}:=by
 have ne : ∀ {b y},g b=some y->b≠T:=λ{b y} e z=>by subst z; rw [hT] at e; exact ao e
 have nk : ∀ {b o},V.h₀.get? b=some o->b≠T:=λ{b o} e z=>by subst z; rw [h0] at e; exact ao e
 refine ⟨λb o e=>(hs.2 b (nk e)).trans (I.keep b o e),I.new,λb y e=>?_,λb o e=>(hs.2 b (ne e)).trans (I.ay b o e),λb o e=>?_,λj c e=>?_,I.uniq,I.dB,?_,I.gens,I.os⟩
 ·obtain ⟨o,ho⟩:=I.live b y e
  exact ⟨o,(hs.2 b (ne e)).trans ho⟩
 ·obtain ⟨sl,q,q'⟩:=I.aw b o e
  exact ⟨sl,(hs.2 b (ne e)).trans q,q'⟩
 ·obtain ⟨b,o,h1,h2,h3⟩:=I.cell j c e
  exact ⟨b,o,h1,(hs.2 b (ne h1)).trans h2,h3⟩
 ·have x:=I.fr
  refine ⟨x.len,x.above,x.out,x.here,?_,λy hy=>?_,x.free⟩
  ·obtain ⟨M,a,b⟩:=x.loc
   exact ⟨M,a.sameBut hs (ne x.here),b⟩
  ·obtain ⟨c,v,a,b,d,e⟩:=x.cell y hy
   exact ⟨c,v,a,b,d.sameBut hs (ne b),e⟩
end
section
variable {V:aq} {F:aB} {A:Around}
theorem Hv:rD V F A:=λx st g e s E hx k=>by
 obtain ⟨⟨I,a,cls,args,L,rfl,hL,hr,hT⟩,a',oe,vs,T,ha,iA,hd,h1⟩:=hx
 cases ha
 obtain ⟨i9,eJ,qM,iH,t,h2,h3,h4,h5,h6,h7,h8⟩:=hT
 rw [iA] at h2; obtain rfl:=Option.some.inj h2
 rw [hd] at h4; cases h4
 rcases h8 with h8|⟨T',oT,ts,e1,e2,e3,e4,e5,e6,e7⟩
 ·rw [h1] at h8; cases h8
 rw [h1] at e1; cases e1
 have bT:3<ts.size:=by
  rcases e7 with e7|e7<;>exact (Array.getElem?_eq_some_iff.mp e7).1
 unfold cameBackBy
 refine wpAny_bind (wpAny_field iA hd h1 ?_)
 rw [if_neg (by simp)]
 unfold setFlight
 refine wpAny_bind (wpAny_field iA hd h1 ?_)
 rw [if_pos (show (Value.ref T != Value.none)=true from by simp)]
 refine wpAny_setField e5 e6 bT ?_
 rw [hL]
 have hs:Heap.SameBut T s.heap (s.heap.update T (Obj.mapFields (·.setIfInBounds 3 (rawInt L)))):=Heap.SameBut.update ..
 have pZ:a≠T:=λz=>e2 z.symm
 have f9:=Obj.data_mapFields e6 (·.setIfInBounds 3 (rawInt L))
 have qv:=Heap.get?_update_self (Obj.mapFields (·.setIfInBounds 3 (rawInt L))) e5 (Obj.isFreed_of_fields f9)
 refine k g _ (.refl g) ⟨I.away (t:=s.toks) e3 e4 hs,a,cls,args,L,rfl,hL,hr,i9,eJ,oe,vs,t,(hs.2 a pZ).trans iA,h3,hd,h5,?_,h7,.inr ⟨T,_,_,h1,e2,e3,e4,qv,f9,.inr ?_⟩⟩
 ·obtain ⟨o,n,q1,q2,q3⟩:=h6
  refine ⟨o,n,(hs.2 t λz=>?_).trans q1,q2,q3⟩
  rw [z,e5] at q1; obtain rfl:=Option.some.inj q1
  rw [e6] at q3; cases q3
 ·simp [bT]
end
section
variable {V:aq} {F:aB} {m:List (Option D)} {C:af} {g:Gh} {s:Shared}
end
open Classical in
noncomputable def e8 (h:Heap) (P:Addr->Prop):Heap:=⟨h.objs.mapIdx λi o=>if P i then {cls:=.none,data:=.freed} else o,h.life⟩
theorem qj {h:Heap} {P:Addr->Prop} {a:Addr} (q:P a):(e8 h P).get? a=none:=by
 unfold e8 Heap.get?
 simp only [Array.getElem?_mapIdx]
 induction h.objs[a]? with
 |none=>rfl
 |some o=>simp [q]
theorem oj {h:Heap} {P:Addr->Prop} {a:Addr} (q : ¬ P a):(e8 h P).get? a=h.get? a:=by
 unfold e8 Heap.get?
 simp only [Array.getElem?_mapIdx]
 induction h.objs[a]? with
 |none=>rfl
 |some o=>simp [q]
theorem sW {h:Heap} {P:Addr->Prop}:(e8 h P).StaysIn h:=λb o e=>by
 by_cases q:P b
 ·rw [qj q] at e; exact ao e
 ·rwa [oj q] at e
section
variable {V:aq} {F:aB} {m:List (Option D)} {C:af} {g:Gh} {s:Shared}
theorem sG (I:ah V F m C g s) {L:Addr} (h:eA F g L) : ∃ o,s.heap.get? L=some o/\(∀ vs,o.data≠.fields vs):=by
 rcases h with rfl|⟨o,es,n,h,hd⟩
 ·obtain ⟨M,hM,_⟩:=I.fr.loc
  obtain ⟨o,es,n,ho,hd,_⟩:=hM
  exact ⟨o,ho,λvs=>by rw [hd]; intro z; cases z⟩
 ·obtain ⟨sl,ho,_⟩:=I.aw _ _ h
  exact ⟨_,ho,λvs=>by rw [hd]; intro z; cases z⟩
theorem Cp (I:ah V F m C g s) {L:Addr} (h:eA F g L):GS g L:=by
 rcases h with rfl|h
 ·exact .inl I.fr.here
 ·exact .inr h
theorem Ct (I:ah V F m C g s) {P:Addr->Prop} (hP : ∀ L,eA F g L->P L) : ∀ {l:List Env},(∀ e∈l,e∈F.stack)->s.heap.FunFrames (e8 s.heap P) l
 |[],_=>trivial
 |e::l,h=>by
  obtain ⟨k,L,q,r⟩:=I.fr.out e (h e (.head _))
  obtain ⟨o,ho,hf⟩:=sG I r
  exact ⟨k,⟨L,o,q,qj (hP L r),ho,hf⟩,Ct I hP λe' he=>h e' (.tail _ he)⟩
end
section
variable {V:aq} {F:aB} {m:List (Option D)} {C:af} {g:Gh} {s:Shared}
theorem ah.JP (I:ah V F m C g s) {h':Heap} {t:Nat} (up:s.heap.UpToSlots h') (k : ∀ b o,¬ eA F g b->(g b≠none\/V.h₀.get? b≠none)->s.heap.get? b=some o->h'.get? b=some o) :
  ah V F m C g {s with heap:=h',toks:=t}:=by
 have nP : ∀ {b y},g b=some y->(y≠.locals)->(∀ o,y≠.aw o)->¬ eA F g b:=λ{b y} e h1 h2 q=>by
  rcases q with z|⟨o,es,n,z,_⟩
  ·have:=I.fr.here; rw [<-z,e] at this; obtain rfl:=Option.some.inj this; exact h1 rfl
  ·rw [e] at z; obtain rfl:=Option.some.inj z; exact h2 _ rfl
 have kk : ∀ {b y o},g b=some y->¬ eA F g b->s.heap.get? b=some o->h'.get? b=some o:=λ{b y o} e q=>k b o q (.inl (by rw [e]; intro z; exact kD z))
 refine ⟨λb o e=>k b o (λq=>?_) (.inr (by rw [e]; intro z; exact kD z)) (I.keep b o e),I.new,λb y e=>?_,λb o e=>kk e (nP e (by intro z; cases z) (by intro o z; cases z)) (I.ay b o e),λb o e=>?_,λj c e=>?_,I.uniq,I.dB,?_,I.gens,I.os⟩
 ·rcases Cp I q with z|⟨o',es,n,z,_⟩<;>(have:=I.new _ _ z; rw [e] at this; exact kD this)
 ·by_cases q:eA F g b
  ·obtain ⟨o,ho,hf⟩:=sG I q
   obtain ⟨sl,h⟩:=up b o ho hf
   exact ⟨_,h⟩
  ·obtain ⟨o,ho⟩:=I.live b y e
   exact ⟨o,kk e q ho⟩
 ·obtain ⟨sl,q,q'⟩:=I.aw b o e
  by_cases z:eA F g b
  ·obtain ⟨o1,gH,qg⟩:=sG I z
   rw [q] at gH; obtain rfl:=Option.some.inj gH
   obtain ⟨QJ,h⟩:=up b _ q qg
   refine ⟨QJ,h,λhT=>?_⟩
   rcases Cp I z with z|⟨o',es,n,z,zd⟩
   ·rw [e] at z; cases z
   ·rw [e] at z; cases z; exact absurd zd (hT.2 es n)
  ·exact ⟨sl,kk e z q,q'⟩
 ·obtain ⟨b,o,h1,h2,h3⟩:=I.cell j c e
  exact ⟨b,o,h1,kk h1 (nP h1 (by intro z; cases z) (by intro o z; cases z)) h2,h3⟩
 ·have x:=I.fr
  refine ⟨x.len,x.above,x.out,x.here,?_,λy hy=>?_,x.free⟩
  ·obtain ⟨M,a,b⟩:=x.loc
   exact ⟨M,up.ns a,b⟩
  ·obtain ⟨c,v,a,b,d,e⟩:=x.cell y hy
   obtain ⟨o,ho,hr⟩:=d
   exact ⟨c,v,a,b,⟨o,kk b (nP b (by intro z; cases z) (by intro o z; cases z)) ho,hr⟩,e⟩
end
section
variable {V:aq} {F:aB} {A:Around}
theorem xS {outer:List Env} (eG:A.frames=some F.stack) (aO:F.stack=F.env::outer) {x:X} {st:St} {g:Gh} {e:Value} {s:Shared} {Q:Shared->Prop} {E:Value->Shared->Prop} (hx:gv V F x st g e s)
  (k : ∀ g' s',g.Step g'->lZ V F x st g' e s'->Q s'):wpAny V.M A (noteFrame e F.env) (λu' s'=>Q s') E s:=by
 obtain ⟨I,a,cls,args,L,rfl,hL,hr,hT⟩:=id hx
 obtain ⟨i9,eJ,oe,vs,t,h2,h3,h4,h5,h6,h7,h8⟩:=hT
 have hP : ∀ L,eA F g L->(λb=>eA F g b\/(g b=none/\V.h₀.get? b=none)) L:=λu' h=>.inl h
 have hl:s.heap.FunFrames (e8 s.heap λb=>eA F g b\/(g b=none/\V.h₀.get? b=none)) (F.env::outer):=Ct I hP (λe he=>by rw [aO]; exact he)
 rw [aO] at eG
 have CW:(e8 s.heap λb=>eA F g b\/(g b=none/\V.h₀.get? b=none)).get? a=none:=qj (.inr ⟨i9,eJ⟩)
 have fin : ∀ h',Heap.NotedW (e8 s.heap λb=>eA F g b\/(g b=none/\V.h₀.get? b=none)) (F.env::outer) a oe.cls (.ref t) (rawInt L) s.heap h'->Q {s with heap:=h'}:=by
  intro h' hz
  obtain ⟨x1,x2,⟨qM,iH,T,oT,ts,q1,⟨q2,q3⟩,q4,q5,q6,q7,q8,q9,uj⟩,x4⟩:=hz
  have CP:g T=none/\V.h₀.get? T=none:=by
   by_cases z:eA F g T
   ·obtain ⟨o,ho,hf⟩:=sG I z
    obtain ⟨sl,q⟩:=x4 T o ho hf
    rw [q8] at q; obtain rfl:=Option.some.inj q
    exact absurd q9 (hf ts)
   ·by_cases w:g T=none/\V.h₀.get? T=none
    ·exact w
    ·rw [oj (by intro y; rcases y with y|y; exact z y; exact w y)] at q6
     refine ⟨I.apart q6,?_⟩
     induction y:V.h₀.get? T with
     |none=>rfl
     |some o=>rw [I.keep _ _ y] at q6; exact kD q6
  refine k g _ (.refl g) ⟨⟨I.JP (t:=s.toks) x4 (λb o nf tr e=>x1 b o ?_),a,cls,args,L,rfl,hL,hr,i9,eJ,qM,iH,t,q1,q2.trans h3,q4,q3,h6.of_slots x4,h7,.inr ⟨T,oT,ts,q5,q7,CP.1,CP.2,q8,q9,.inr uj⟩⟩,a,qM,iH,T,rfl,q1,q4,q5⟩
  rw [oj (by
   intro y; rcases y with y|y
   ·exact nf y
   ·rcases tr with tr|tr
    ·exact tr y.1
    ·exact tr y.2)]
  exact e
 rcases h8 with h8|⟨T,oT,ts,e1,e2,e3,e4,e5,e6,e7⟩
 ·unfold noteFrame
  simp only [hL]
  refine wpAny_bind (wpAny_field h2 h4 h8 ?_)
  rw [if_neg (by decide)]
  exact wpAny_entryW eG hl hL h2 sW CW h4 (Array.getElem?_eq_some_iff.mp h8).1 h5 fin
 ·rcases e7 with e7|e7
  ·exact wpAny_noteFrame_onW eG hl hL ⟨oe,vs,T,oT,ts,h2,⟨rfl,h5⟩,h4,e1,qj (.inr ⟨e3,e4⟩),e2,e5,e6,e7⟩ sW CW fin
  ·exact wpAny_noteFrame_inFlight hL h2 h4 e1 e5 e6 e7 (k g _ (.refl g) ⟨hx,a,oe,vs,T,rfl,h2,h4,e1⟩)
theorem OA {outer:List Env} (eG:A.frames=some F.stack) (aO:F.stack=F.env::outer):rH V F A:=λx st g e s E hx k=>xS eG aO hx k
end
theorem M1 {x:D} {p:Nat × Nat} (h:DN x=some p):x=.inst p.1 p.2:=by induction x using D.casesOn<;>first|exact ao h|(obtain rfl:=Option.some.inj h; rfl)
mutual
theorem zT : ∀ {a b:D},D.beq a b=true->a=b
 |.int x,b,h=>(qB (eq_of_beq h)).symm
 |.bool x,b,h=>(DM (eq_of_beq h)).symm
 |.str x,b,h=>(tA (eq_of_beq h)).symm
 |.loc x,b,h=>(jF (eq_of_beq h)).symm
 |.inst x y,b,h=>(M1 (eq_of_beq h)).symm
 |.lst x,b,h=>by
  induction b using D.casesOn<;>first|exact bA h|exact congrArg D.lst (vg h)
 |.none,b,h=>bA h
 |.bytes _,b,h=>bA h
 |.bn _,b,h=>bA h
 |.fn _,b,h=>bA h
 |.cls _,b,h=>bA h
 |.tup _,b,h=>bA h
 |.ck _ _,b,h=>bA h
 |.bm _ _,b,h=>bA h
 |.dC _,b,h=>bA h
 |.jO _,b,h=>bA h
theorem vg : ∀ {a b:List D},D.gA a b=true->a=b
 |[],b,h=>(isEmpty_iff.mp h).symm
 |x::a,b,h=>by
  induction b using List.casesOn with
  |nil=>exact bA h
  |cons y b=>
   obtain ⟨h1,h2⟩:=and_eq_true_iff.mp (show (D.beq x y&&D.gA a b)=true from h)
   rw [zT h1,vg h2]
end
theorem zR : ∀ {a b:List (Int × D)},nK a b=true->a=b
 |[],b,h=>(isEmpty_iff.mp h).symm
 |x::a,b,h=>by
  induction b using List.casesOn with
  |nil=>exact bA h
  |cons y b=>
   obtain ⟨h1,h2⟩:=and_eq_true_iff.mp (show (x.1==y.1&&D.beq x.2 y.2&&nK a b)=true from h)
   obtain ⟨h3,h4⟩:=and_eq_true_iff.mp h1
   rw [show x=y from Prod.ext (eq_of_beq h3) (zT h4),zR h2]
set_option tactic.hygienic true in
theorem Pw {c c':Ch} (h:Fv c c'=true):c=c':=by
 induction c using Ch.casesOn<;>first|exact bA h|skip
 ·induction c' using Ch.casesOn<;>first|exact bA h|exact congrArg Ch.list (vg h)
 ·rename_i b es
  induction b<;>first|exact bA h|skip
  induction c' using Ch.casesOn<;>first|exact bA h|skip
  rename_i b n0
  induction b<;>first|exact bA h|exact congrArg (Ch.dict true) (zR h)
theorem yE {C C':af} {i:Nat} (h:iF C C' i=true):C'[i]?=C[i]?:=by
 unfold iF at h
 induction h1:C[i]? with
 |none=>rw [h1] at h; exact bA h
 |some c=>
  induction h2:C'[i]? with
  |none=>rw [h1,h2] at h; exact bA h
  |some c'=>rw [h1,h2] at h; rw [Pw h]
theorem Gd {C C':af} {y:D} (h:aW C C' y=true) {items:List D} (e:bU C y=some items):bU C' y=some items:=by
 induction y using D.casesOn<;>first|exact ao e|exact e|skip
 ·exact (congrArg (·.bind mR) (yE h)).trans e
 ·exact (congrArg (·.bind yR) (yE h)).trans e
noncomputable def fG (C:af):D->Bool
 |.loc i=>match C[i]? with
  |some (.dict _ _)=>true
  |_=>false
 |_=>false
theorem Ao {C:af} {i:Nat} {ds:List D} (h:C[i]?=some (.list ds)):fG C (.loc i)=false:=by unfold fG; dsimp only; rw [h]
theorem An {C:af} {i:Nat} {b:Bool} {es:List (Int × D)} (h:C[i]?=some (.dict b es)):fG C (.loc i)=true:=by unfold fG; dsimp only; rw [h]
set_option tactic.hygienic true in
theorem Gb {C C':af} {y:D} (h:aW C C' y=true):fG C' y=fG C y:=by
 induction y using D.casesOn<;>first|rfl|skip
 rename_i i
 unfold fG
 dsimp only
 rw [yE h]
noncomputable def cR (V:aq) (g:Gh) (k:Bool) (items:List D) (i:Nat) (y:D) (o:Obj):Prop:=match y with
 |.lst _ => ∃ l,ab V g y (.ref l)/\o.cls=.type "list_iterator"/\o.data=.fields #[.ref l,.int i 0]
 |.tup _ => ∃ l,ab V g y (.ref l)/\o.cls=.type "tuple_iterator"/\o.data=.fields #[.ref l,.int i 0]
 |.ck a _=>o={cls:=.type "range_iterator",dict:=none,data:=.fields #[rawInt (a+(i:Int)),rawInt ((items.length:Int) - (i:Int)),rawInt 1],slots := #[]}
 |.bytes b => ∃ t,b.length<=aD/\o.cls=.type "bytes_iterator"/\o.data=.fields #[.bytes b.toArray t,.int i 0]
 |.loc _ => ∃ l,ab V g y (.ref l)/\((k=false/\o.cls=.type "list_iterator"/\o.data=.fields #[.ref l,.int i 0])\/(k=true/\o.cls=.type "dict_keyiterator"/\o.data=.fields #[.ref l,.int i 0,.int items.length 0,.int items.length 0]))
 |.dC j => ∃ d,g d=some (.cell j)/\o.cls=.type "dict_valueiterator"/\o.data=.fields #[.ref d,.int i 0,.int items.length 0,.int items.length 0]
 |_=>False
theorem cR.mono {V:aq} {g g':Gh} (L:g.Le g') {k:Bool} {items:List D} {i:Nat} {y:D} {o:Obj} (h:cR V g k items i y o):cR V g' k items i y o:=by
 induction y using D.casesOn<;>first|exact h|skip
 ·obtain ⟨l,a,b⟩:=h; exact ⟨l,a.mono L,b⟩
 ·obtain ⟨l,a,b⟩:=h; exact ⟨l,a.mono L,b⟩
 ·obtain ⟨l,a,b⟩:=h; exact ⟨l,a.mono L,b⟩
 ·obtain ⟨l,a,b⟩:=h; exact ⟨l,L.cell _ _ a,b⟩
theorem cR.uE {V:aq} {g:Gh} {k:Bool} {items:List D} {i:Nat} {y:D} {o:Obj} (h:cR V g k items i y o):jS o:=by
 have key : ∀ {vs},o.data=.fields vs->jS o:=λe=>⟨λv z=>(by rw [e] at z; cases z),λes n z=>(by rw [e] at z; cases z)⟩
 induction y using D.casesOn<;>first|(exact h.elim)|skip
 ·obtain ⟨t,_,_,e⟩:=h; exact key e
 ·obtain ⟨l,_,_,e⟩:=h; exact key e
 ·obtain ⟨l,_,_,e⟩:=h; exact key e
 ·have h:o=_:=h; subst h; exact key rfl
 ·obtain ⟨l,_,⟨_,_,e⟩|⟨_,_,e⟩⟩:=h<;>exact key e
 ·obtain ⟨d,_,_,e⟩:=h; exact key e
section
variable {V:aq} {F:aB} {A:Around} {m:List (Option D)} {C:af} {g:Gh} {s:Shared}
theorem ah.Hs (I:ah V F m C g s) {h':Heap} {t:Nat} {T:Addr} (hT:g T=none) (h0:V.h₀.get? T=none) (hs:Heap.ExtBut T s.heap h'):ah V F m C g {s with heap:=h',toks:=t}:=by
 have ne : ∀ {b y},g b=some y->b≠T:=λ{b y} e z=>by subst z; rw [hT] at e; exact ao e
 have nk : ∀ {b o},V.h₀.get? b=some o->b≠T:=λ{b o} e z=>by subst z; rw [h0] at e; exact ao e
 refine ⟨λb o e=>hs b o (nk e) (I.keep b o e),I.new,λb y e=>?_,λb o e=>hs b o (ne e) (I.ay b o e),λb o e=>?_,λj c e=>?_,I.uniq,I.dB,?_,I.gens,I.os⟩
 ·obtain ⟨o,ho⟩:=I.live b y e
  exact ⟨o,hs b o (ne e) ho⟩
 ·obtain ⟨sl,q,q'⟩:=I.aw b o e
  exact ⟨sl,hs b _ (ne e) q,q'⟩
 ·obtain ⟨b,o,h1,h2,h3⟩:=I.cell j c e
  exact ⟨b,o,h1,hs b o (ne h1) h2,h3⟩
 ·have x:=I.fr
  refine ⟨x.len,x.above,x.out,x.here,?_,λy hy=>?_,x.free⟩
  ·obtain ⟨M,a,b⟩:=x.loc
   exact ⟨M,a.extBut hs (ne x.here),b⟩
  ·obtain ⟨c,v,a,b,⟨oc,d,d'⟩,e⟩:=x.cell y hy
   exact ⟨c,v,a,b,⟨oc,hs c oc (ne b) d,d'⟩,e⟩
theorem O5 {a b:Int} {i:Nat} {d:D} (h:(eN a b)[i]?=some d):d=.int (a+(i:Int))/\i<(eN a b).length:=by
 have hl:i<(eN a b).length:=(List.getElem?_eq_some_iff.mp h).1
 unfold eN at h
 rw [getElem?_map] at h
 obtain ⟨j,h1,h2⟩:=cB h
 have:i<(b - a).toNat:=by simpa [eN] using hl
 rw [getElem?_range this] at h1
 obtain rfl:=Option.some.inj h1
 exact ⟨h2.symm,hl⟩
theorem O6 {a b:Int}:Builtin.Range.rangeSize a b 1=((eN a b).length:Int):=by
 unfold Builtin.Range.rangeSize eN
 simp
 split<;>omega
set_option tactic.hygienic true in
theorem uu (B:V.Base) (I:ah V F m C g s) {y:D} {v:Value} (r:ab V g y v) {items:List D} (h:bU C y=some items) {Q:Value->Shared->Prop} {E:Value->Shared->Prop}
  (q : ∀ o h',cR V g (fG C y) items 0 y o->(∀ b o,s.heap.get? b=some o->h'.get? b=some o)->ah V F m C (g.put s.heap.objs.size (some (.aw o))) {s with heap:=h'}->Q (.ref s.heap.objs.size) {s with heap:=h'}):wpAny V.M A (pyIter v) Q E s:=by
 have new : ∀ o:Obj,o.isFreed=false->ah V F m C (g.put s.heap.objs.size (some (.aw o))) {s with heap:=s.heap.push o}:=λo hf=>
  I.more (t:=s.toks) (λu' u' h=>Heap.get?_push_of_some _ h) (Heap.get?_none_of_le (le_refl _)) (Heap.get?_push_size _ hf) (.inr rfl)
 induction y using D.casesOn<;>first|exact ao h|skip
 ·obtain rfl:=Option.some.inj h
  obtain ⟨t,hz,rfl⟩:=r.mI
  exact W.KBw.pyIter_bytes (q _ _ ⟨t,hz,rfl,rfl⟩ (λu' u' h=>Heap.get?_push_of_some _ h) (new _ rfl))
 ·obtain rfl:=Option.some.inj h
  obtain ⟨l,vs,n,rfl,hl,hz,rs⟩:=I.tup r
  exact wpAny_pyIter_tuple ⟨_,hl,rfl,_,rfl⟩ (q _ _ ⟨l,r,rfl,rfl⟩ (λu' u' h=>Heap.get?_push_of_some _ h) (new _ rfl))
 ·obtain rfl:=Option.some.inj h
  obtain ⟨l,vs,n,rfl,hl,hz,rs⟩:=I.list r (ds:=_) rfl
  exact wpAny_pyIter_list hl.isList (q _ _ ⟨l,r,rfl,rfl⟩ (λu' u' h=>Heap.get?_push_of_some _ h) (new _ rfl))
 ·rename_i a b
  obtain ⟨hr,h⟩:=gk h
  obtain rfl:=Option.some.inj h
  obtain ⟨ra,o,t₁,t₂,t₃,h1,h2,rfl⟩:=r.MG
  have L5:IsRange s.heap ra a b 1 t₁ t₂ t₃:=by rw [eQ] at h2; subst h2; exact I.ay _ _ h1
  refine wpAny_pyIter_range L5 (Fm hr).1 (q _ _ ?_ (λu' u' h=>Heap.get?_push_of_some _ h) (new _ rfl))
  rw [O6]
  show _=_
  simp
 ·obtain ⟨ch,hC,h⟩:=aS h
  obtain ⟨l,hg,rfl⟩:=r.gd
  induction ch using Ch.casesOn<;>first|exact ao h|skip
  ·obtain rfl:=Option.some.inj h
   obtain ⟨l',vs,n,e,_,hl,hz,rs⟩:=I.lH (.loc hg) hC
   cases e
   exact wpAny_pyIter_list hl.isList (q _ _ ⟨l,.loc hg,.inl ⟨Ao hC,rfl,rfl⟩⟩ (λu' u' h=>Heap.get?_push_of_some _ h) (new _ rfl))
  ·rename_i b es
   induction b<;>first|exact ao h|skip
   obtain rfl:=Option.some.inj h
   obtain ⟨hz,ax,ep,hd,hA,j6⟩:=I.dictAt hg hC
   have e1:ax.length=es.length:=hA.length.symm
   refine wpAny_pyIter_dict (knd:=intKind V.prog V.w) (rp I hg B.mods) hd (q _ _ ⟨l,.loc hg,.inr ⟨An hC,rfl,?_⟩⟩ (λu' u' h=>Heap.get?_push_of_some _ h) (new _ rfl))
   rw [j6 rfl,e1,length_map]; rfl
 ·obtain ⟨ch,hC,h⟩:=aS h
  induction ch using Ch.casesOn<;>first|exact ao h|skip
  rename_i b es
  induction b<;>first|exact ao h|skip
  obtain rfl:=Option.some.inj h
  obtain ⟨a,d,o,h1,h2,h3,rfl⟩:=r.MI
  obtain ⟨hz,ax,ep,hd,hA,j6⟩:=I.dictAt h3 hC
  have e1:ax.length=es.length:=hA.length.symm
  have hv:s.heap.IsValuesView a d:=by
   have:=I.ay _ _ h1
   rw [eQ] at h2; subst h2
   exact ⟨_,this,rfl,rfl⟩
  refine wpAny_pyIter_values (knd:=intKind V.prog V.w) hv hd (q _ _ ⟨d,h3,rfl,?_⟩ (λu' u' h=>Heap.get?_push_of_some _ h) (new _ rfl))
  rw [j6 rfl,e1,length_map]; rfl
end
noncomputable def SM (M:Model) (A:Around) (it:Addr) (Q:Option Value->Shared->Prop) (E:Value->Shared->Prop) (s:Shared):Prop:=wpAny M A (pyNext (.ref it)) Q E s
section
variable {V:aq} {F:aB} {A:Around} {m:List (Option D)} {C:af} {g:Gh} {s:Shared}
theorem aZ.get {α β:Type} {R:α->β->Prop} : ∀ {as:List α} {bs:List β} {i:Nat} {a:α} {b:β},aZ R as bs->as[i]?=some a->bs[i]?=some b->R a b
 |_::_,_::_,0,_,_,h,h1,h2=>by obtain rfl:=Option.some.inj h1; obtain rfl:=Option.some.inj h2; exact h.1
 |_::_,_::_,_+1,_,_,h,h1,h2=>aZ.get h.2 h1 h2
 |[],_,_,_,_,_,h1,_=>by exact ao h1
 |_::_,[],_,_,_,_,_,h2=>by exact ao h2
structure lY (V:aq) (g:Gh) (s:Shared) (it:Addr) (k:Bool) (items:List D) (i:Nat) (y:D) (Q:Option Value->Shared->Prop):Prop where
 stop:items[i]?=none->∀ h',Heap.ExtBut it s.heap h'->Q none {s with heap:=h'}
 go : ∀ {d v o'} {h':Heap} (t:Nat),items[i]?=some d->ab V g d v->h'.get? it=some o'->Heap.SameBut it s.heap h'->cR V g k items (i+1) y o'->Q (some v) {s with heap:=h',toks:=t}
section
variable {items:List D} {i:Nat} {it:Addr} {o:Obj} {k:Bool} {Q:Option Value->Shared->Prop} {E:Value->Shared->Prop}
theorem IX (hh:A.handled=none) {b:List UInt8} (ho:s.heap.get? it=some o) (hi:cR V g k items i (.bytes b) o) (h:bU C (.bytes b)=some items) (N:lY V g s it k items i (.bytes b) Q):wpAny V.M A (pyNext (.ref it)) Q E s:=by
 obtain ⟨t,hz,hc,hd⟩:=hi
 obtain rfl:=Option.some.inj h
 have hit:W.KBw.IsBytesIter s.heap it b.toArray t i:=⟨o,ho,hc,hd⟩
 induction hb:b[i]? with
 |none=>exact W.KBw.next_end hh hit (by simpa using hb) (N.stop (by rw [getElem?_map,hb]; rfl))
 |some c=>
  refine W.KBw.next_item hit (c:=c) (by simpa using hb) λh' ⟨o',h1,h2,h3⟩ hs=>N.go (s.toks+1) (d:=.int c.toNat) (by rw [getElem?_map,hb]; rfl) (.int _ _) h1 hs ⟨t,hz,h2,h3⟩
theorem I8 (hh:A.handled=none) (I:ah V F m C g s) {ds:List D} (ho:s.heap.get? it=some o) (hi:cR V g k items i (.tup ds) o) (h:bU C (.tup ds)=some items) (N:lY V g s it k items i (.tup ds) Q):wpAny V.M A (pyNext (.ref it)) Q E s:=by
 obtain ⟨l,r,hc,hd⟩:=hi
 cases h
 obtain ⟨l',vs,n,ev,hl,hz,rs⟩:=I.tup r
 cases ev
 have hit:s.heap.IsTupleIter it l i:=⟨o,ho,hc,hd⟩
 have DA:s.heap.IsTuple l vs.toArray:=⟨_,hl,rfl,_,rfl⟩
 induction hx:items[i]? with
 |none=>
  refine wpAny_pyNext_tuple_end hh hit DA ?_ (N.stop hx)
  have:=rs.length
  rw [List.getElem?_eq_none_iff] at hx
  simp; omega
 |some d=>
  obtain ⟨v,hv,rv⟩:=rs.get hx
  exact wpAny_pyNext_tuple_item hit DA (x:=v) (by simpa using hv) λh' ⟨o',h1,h2,h3⟩ hs=>N.go s.toks hx rv h1 hs ⟨l,r,h2,h3⟩
theorem IZ (hh:A.handled=none) (I:ah V F m C g s) {ds:List D} (ho:s.heap.get? it=some o) (hi:cR V g k items i (.lst ds) o) (h:bU C (.lst ds)=some items) (N:lY V g s it k items i (.lst ds) Q):wpAny V.M A (pyNext (.ref it)) Q E s:=by
 obtain ⟨l,r,hc,hd⟩:=hi
 cases h
 obtain ⟨l',vs,n,ev,hl,hz,rs⟩:=I.list r (ds:=items) rfl
 cases ev
 have hit:s.heap.IsListIter it l i:=⟨o,ho,hc,hd⟩
 induction hx:items[i]? with
 |none=>
  refine wpAny_pyNext_list_end hh hit hl.isList ?_ (N.stop hx)
  have:=rs.length
  rw [List.getElem?_eq_none_iff] at hx
  simp; omega
 |some d=>
  obtain ⟨v,hv,rv⟩:=rs.get hx
  exact wpAny_pyNext_list_item hit hl.isList (x:=v) (by simpa using hv) λh' ⟨o',h1,h2,h3⟩ hs=>N.go s.toks hx rv h1 hs ⟨l,r,h2,h3⟩
theorem I0 (hh:A.handled=none) {a b:Int} (ho:s.heap.get? it=some o) (hi:cR V g k items i (.ck a b) o) (h:bU C (.ck a b)=some items) (N:lY V g s it k items i (.ck a b) Q):wpAny V.M A (pyNext (.ref it)) Q E s:=by
 have hi:o=_:=hi
 subst hi
 obtain ⟨_,h⟩:=gk h
 ·obtain rfl:=Option.some.inj h
  have hit:IsRangeIter s.heap it (a+(i:Int)) (((eN a b).length:Int) - (i:Int)) 1:=ho
  induction hx:(eN a b)[i]? with
  |none=>
   rw [List.getElem?_eq_none_iff] at hx
   exact wpAny_pyNext_range_end hh hit (by omega) (N.stop (List.getElem?_eq_none_iff.mpr hx))
  |some d=>
   obtain ⟨rfl,b7⟩:=O5 hx
   refine wpAny_pyNext_range_item hit (by omega) λh' h1 hs=>N.go (s.toks+1) hx (.int _ _) h1 hs ?_
   show _=_
   have e1:a+(i:Int)+1=a+((i+1:Nat):Int):=by omega
   have e2:((eN a b).length:Int) - (i:Int) - 1=((eN a b).length:Int) - ((i+1:Nat):Int):=by omega
   rw [e1,e2]
set_option tactic.hygienic true in
theorem IY (hh:A.handled=none) (I:ah V F m C g s) {j:Nat} (ho:s.heap.get? it=some o) (hi:cR V g k items i (.loc j) o) (h:bU C (.loc j)=some items) (hk:fG C (.loc j)=k) (N:lY V g s it k items i (.loc j) Q):wpAny V.M A (pyNext (.ref it)) Q E s:=by
 obtain ⟨l,r,hs⟩:=hi
 obtain ⟨ch,hC,h⟩:=aS h
 induction ch using Ch.casesOn<;>first|exact ao h|skip
 ·cases h
  have ir:k=false:=hk.symm.trans (Ao hC)
  obtain ⟨l',vs,n,ev,_,hl,hz,rs⟩:=I.lH r hC
  cases ev
  rcases hs with ⟨_,hc,hd⟩|⟨z,_⟩
  ·have hit:s.heap.IsListIter it l i:=⟨o,ho,hc,hd⟩
   induction hx:items[i]? with
   |none=>
    refine wpAny_pyNext_list_end hh hit hl.isList ?_ (N.stop hx)
    have:=rs.length
    rw [List.getElem?_eq_none_iff] at hx
    simp; omega
   |some d=>
    obtain ⟨v,hv,rv⟩:=rs.get hx
    exact wpAny_pyNext_list_item hit hl.isList (x:=v) (by simpa using hv) λh' ⟨o',h1,h2,h3⟩ hs=>N.go s.toks hx rv h1 hs ⟨l,r,.inl ⟨ir,h2,h3⟩⟩
  ·rw [ir] at z; exact bA z
 ·rename_i b es
  induction b<;>first|exact ao h|skip
  obtain rfl:=Option.some.inj h
  have ir:k=true:=hk.symm.trans (An hC)
  rcases hs with ⟨z,_⟩|⟨_,hc,hd⟩
  ·rw [ir] at z; exact fT z
  ·cases r with
   |loc C9=>
    obtain ⟨hz,ax,ep,qe,hA,j6⟩:=I.dictAt C9 hC
    have e1:ax.length=es.length:=hA.length.symm
    have e2:(es.map λe=>D.int e.1).length=ax.length:=by rw [length_map,e1]
    have e3:ax.length=ep:=by rw [e1,j6 rfl]
    rw [e2] at hd
    have hit:s.heap.IsKeyIter it l i ax.length ep:=⟨o,ho,hc,by rw [hd,e3]⟩
    induction hx:ax[i]? with
    |none=>
     refine wpAny_pyNext_dict_end (knd:=intKind V.prog V.w) hh hit qe hx (N.stop ?_)
     rw [List.getElem?_eq_none_iff] at hx ⊢
     omega
    |some kv=>
     obtain ⟨key,v⟩:=kv
     refine wpAny_pyNext_dict_item (knd:=intKind V.prog V.w) hit qe hx λkk h' LD ⟨o',h1,h2,h3⟩ hs=>?_
     have b7:i<es.length:=by rw [<-e1]; exact (List.getElem?_eq_some_iff.mp hx).1
     have LC:=aZ.DS hA
     have LA:es[i].1=key:=by
      have h5:(es.map (·.1))[i]?=(ax.map (·.1))[i]?:=by rw [LC]
      rw [getElem?_map,getElem?_map,hx,getElem?_eq_getElem b7] at h5
      simpa using h5
     obtain ⟨t,rfl⟩:=Value.isInt_shape LD
     refine N.go s.toks (d:=.int key) ?_ (.int _ _) h1 hs ⟨l,.loc C9,.inr ⟨ir,h2,by rw [h3,e2,e3]⟩⟩
     rw [getElem?_map,getElem?_eq_getElem b7]
     show some (D.int es[i].1)=_
     rw [LA]
set_option tactic.hygienic true in
theorem I9 (hh:A.handled=none) (I:ah V F m C g s) {j:Nat} (ho:s.heap.get? it=some o) (hi:cR V g k items i (.dC j) o) (h:bU C (.dC j)=some items) (N:lY V g s it k items i (.dC j) Q):wpAny V.M A (pyNext (.ref it)) Q E s:=by
 obtain ⟨dd,C7,hc,hd⟩:=hi
 obtain ⟨ch,hC,h⟩:=aS h
 induction ch using Ch.casesOn<;>first|exact ao h|skip
 ·rename_i b es
  induction b<;>first|exact ao h|skip
  obtain rfl:=Option.some.inj h
  obtain ⟨hz,ax,ep,qe,hA,j6⟩:=I.dictAt C7 hC
  have e1:ax.length=es.length:=hA.length.symm
  have e2:(es.map λe=>e.2).length=ax.length:=by rw [length_map,e1]
  have e3:ax.length=ep:=by rw [e1,j6 rfl]
  rw [e2] at hd
  have hit:s.heap.IsValIter it dd i ax.length ep:=⟨o,ho,hc,by rw [hd,e3]⟩
  induction hx:ax[i]? with
  |none=>
   refine wpAny_pyNext_values_end (knd:=intKind V.prog V.w) hh hit qe hx (N.stop ?_)
   rw [List.getElem?_eq_none_iff] at hx ⊢
   omega
  |some kv=>
   obtain ⟨key,v⟩:=kv
   refine wpAny_pyNext_values_item (knd:=intKind V.prog V.w) hit qe hx λh' ⟨o',h1,h2,h3⟩ hs=>?_
   have b7:i<es.length:=by rw [<-e1]; exact (List.getElem?_eq_some_iff.mp hx).1
   have hv:gu V g es[i] (key,v):=aZ.get hA (getElem?_eq_getElem b7) hx
   refine N.go s.toks (d:=es[i].2) ?_ hv.2 h1 hs ⟨dd,C7,h2,by rw [h3,e2,e3]⟩
   rw [getElem?_map,getElem?_eq_getElem b7]; rfl
end
theorem FE (hh:A.handled=none) (I:ah V F m C g s) {y:D} {items:List D} {i:Nat} {it:Addr} {o:Obj} (hg:g it=some (.aw o)) {k:Bool} (hi:cR V g k items i y o) (h:bU C y=some items) (hk:fG C y=k)
  {Q:Option Value->Shared->Prop} {E:Value->Shared->Prop}
  (q : ∀ d,items[i]?=some d->∀ v o' h' t,ab V (g.put it (some (.aw o'))) d v->cR V (g.put it (some (.aw o'))) k items (i+1) y o'->ah V F m C (g.put it (some (.aw o'))) {s with heap:=h',toks:=t}->Q (some v) {s with heap:=h',toks:=t})
  (e:items[i]?=none->∀ h',ah V F m C (g.put it none) {s with heap:=h'}->Q none {s with heap:=h'}):wpAny V.M A (pyNext (.ref it)) Q E s:=by
 have ht:=hi.uE
 have ho:=I.lN hg ht
 have Lp : ∀ x,g.Le (g.put it x):=λx=>⟨λb o' e'=>by rw [Gh.aX _ _ (λz=>by subst z; rw [hg] at e'; cases e')]; exact e',λb o' e'=>by rw [Gh.aX _ _ (λz=>by subst z; rw [hg] at e'; cases e')]; exact e'⟩
 have stop:items[i]?=none->∀ h',Heap.ExtBut it s.heap h'->Q none {s with heap:=h'}:=λhn h' he=>
  e hn h' ((I.qR hg ht).Hs (t:=s.toks) (Gh.bu ..) (I.new _ _ hg) he)
 have go : ∀ {d v o'} {h':Heap} (t:Nat),items[i]?=some d->ab V g d v->h'.get? it=some o'->Heap.SameBut it s.heap h'->cR V g k items (i+1) y o'->Q (some v) {s with heap:=h',toks:=t}:=λ{d v o' h'} t hd r cK hs iq=>
  q d hd v o' h' t (r.mono (Lp _)) (iq.mono (Lp _)) (I.oV hg ht hs.extBut cK)
 have N:lY V g s it k items i y Q:=⟨stop,go⟩
 induction y using D.casesOn<;>first|exact ao h|skip
 ·exact IX hh ho hi h N
 ·exact I8 hh I ho hi h N
 ·exact IZ hh I ho hi h N
 ·exact I0 hh ho hi h N
 ·exact IY hh I ho hi h hk N
 ·exact I9 hh I ho hi h N
end
theorem Gh.bV.drop {S:Addr} {g g':Gh} (h:Gh.bV S g g') (hg:g S=none):g.Step (g'.put S none):=by
 refine ⟨⟨λa o e=>?_,λa i e=>?_⟩,λa o=>?_⟩
 ·have ne:a≠S:=λz=>by subst z; rw [hg] at e; exact ao e
  rw [Gh.aX _ _ ne]; exact h.ay a o ne e
 ·have ne:a≠S:=λz=>by subst z; rw [hg] at e; exact ao e
  rw [Gh.aX _ _ ne]; exact h.cell a i ne e
 ·by_cases ne:a=S
  ·subst ne; rw [Gh.bu,hg]
  ·rw [Gh.aX _ _ ne]; exact h.aw a o ne
section
variable {V:aq} {G:aV} {F:aB} {A:Around} {cl:Calls} {m:List (Option D)} {C:af} {g:Gh} {s:Shared}
theorem tK {it:Addr} {o:Obj} (hg:g it=some (.aw o)) (x:Option GO):g.Le (g.put it x):=
 ⟨λb o' e'=>by rw [Gh.aX _ _ (λz=>by subst z; rw [hg] at e'; cases e')]; exact e',λb o' e'=>by rw [Gh.aX _ _ (λz=>by subst z; rw [hg] at e'; cases e')]; exact e'⟩
theorem gv.drop {x:X} {st:St} {e:Value} (h:gv V F x st g e s) {it:Addr} {o:Obj} (hg:g it=some (.aw o)) (ht:jS o):gv V F x st (g.put it none) e s:=by
 obtain ⟨I,a,cls,args,L,rfl,hL,hr,⟨i9,eJ,oe,vs,t,h2,h3,h4,h5,h6,h7,h8⟩⟩:=h
 have dn : ∀ {b},g b=none->g.put it none b=none:=λ{b} e=>by
  by_cases z:b=it
  ·subst z; exact Gh.bu ..
  ·rw [Gh.aX _ _ z]; exact e
 refine ⟨I.qR hg ht,a,cls,args,L,rfl,hL,hr,⟨dn i9,eJ,oe,vs,t,h2,h3,h4,h5,h6,⟨h7.1,dn h7.2⟩,?_⟩⟩
 rcases h8 with h8|⟨T,oT,ts,e1,e2,e3,e4⟩
 ·exact .inl h8
 ·exact .inr ⟨T,oT,ts,e1,e2,dn e3,e4⟩
inductive uR (V:aq) (F:aB) (it:Addr) (g₀:Gh) (y:D) (items:List D) (loop:List D->St->aj Fl) (oc:aj Fl) (n:Nat) (s:Shared):Prop
 |mk (g1:Gh) (m1:List (Option D)) (C1:af) (i:Nat) (o:Obj) (b1:Gh.bV it g₀ g1) (i4:g1 it=some (.aw o)) (qi:cR V g1 (fG C1 y) items i y o) (mE:bU C1 y=some items) (I1:ah V F m1 C1 g1 s)
   (hn:n=items.length+1 - i) (hle:i<=items.length) (e1:loop (items.drop i) ⟨m1,C1⟩=oc):uR V F it g₀ y items loop oc n s
set_option tactic.hygienic true in
theorem Cn (hh:A.handled=none) (K:F.Ok) {c:aJ} (hc:F.ctx c) {x:Str} {px:Pos} {k:Nat} (hk:dz c x=some k) {body:Ss} {b:List Stmt} (hb:cT V F A cl body b) {y:D} {items:List D} {it:Addr}
  {oc:aj Fl} (ke:oc≠.fail) {R:Result->Shared->Prop} {g₀:Gh} (mB:g₀ it=none)
  {g:Gh} {m:List (Option D)} {C:af} {s:Shared} {o:Obj} (lq:Gh.bV it g₀ g) (hg:g it=some (.aw o)) (hi:cR V g (fG C y) items 0 y o) (hit:bU C y=some items) (I:ah V F m C g s)
  (e:forLoop (λC C'=>aW C C' y) (.one k) (λae=>av V.P cl body ae) items ⟨m,C⟩=oc)
  (fK : ∀ fl aC,oc=.ok fl aC->∀ g' f s',g₀.Step g'->ah V F aC.m aC.C g' s'->d5 V g' fl f->R (.ok f) s')
  (hex : ∀ xx aC,oc=.exc xx aC->∀ g' e s',g₀.Step g'->gv V F xx aC g' e s'->notedBy V.M A F.env (λe s'=>R (.error e) s') e s') :
  codeAny V.M A (.forLoop (.Name x px) (.ref it) b [] F.env) R s:=by
 refine codeAny_forLoop (uR V F it g₀ y items (forLoop (λC C'=>aW C C' y) (.one k) (λae=>av V.P cl body ae)) oc) (λn s hI=>?_) (items.length+1) ⟨g,m,C,0,o,lq,hg,hi,hit,I,rfl,zero_le _,e⟩
 obtain ⟨g1,m1,C1,i,o1,b1,i4,qi,mE,I1,rfl,hle,e1⟩:=hI
 refine FE hh I1 i4 qi mE rfl (λd hd v o2 h2 t2 rd mD I2=>?_) λhn h2 I2=>?_
 ·have b7:i<items.length:=(List.getElem?_eq_some_iff.mp hd).1
  have wJ:items.drop i=d::items.drop (i+1):=by
   rw [List.drop_eq_getElem_cons b7]
   rw [getElem?_eq_getElem b7] at hd
   obtain rfl:=Option.some.inj hd; rfl
  rw [wJ] at e1
  unfold forLoop at e1
  dsimp only
  refine wpAny_assign_Name ?_
  have aO:=nj (A:=A) K I2 hc hk rd
  unfold ft at aO
  unfold fY at e1
  dsimp only at e1 aO
  by_cases sZ:k<m1.length
  ·rw [if_pos sZ] at e1 aO
   dsimp only at e1
   refine aO _ _ λg3 u' s3 q3 I3 u'=>?_
   have b3:Gh.bV it g₀ g3:=(b1.trans (Gh.bV.put it g1 _)).trans (q3.but it)
   have wN:g3 it=some (.aw o2):=(q3.aw _ _).mp (Gh.bu ..)
   have hs:=hb _ _ _ _ I3
   have jC:=mD.mono q3.toLe
   have ht:=mD.uE
   have turn : ∀ aa g4 s4,av V.P cl body ⟨m1.set k (some d),C1⟩=.ok .next aa\/av V.P cl body ⟨m1.set k (some d),C1⟩=.ok .cont aa->g3.Step g4->ah V F aa.m aa.C g4 s4->
     (if aW C1 aa.C y then forLoop (λC C'=>aW C C' y) (.one k) (λae=>av V.P cl body ae) (items.drop (i+1)) aa else .fail)=oc->
     ∃ mm,mm<items.length+1 - i/\uR V F it g₀ y items (forLoop (λC C'=>aW C C' y) (.one k) (λae=>av V.P cl body ae)) oc mm s4:=by
    intro aa g4 s4 _ q4 I4 e4
    split at e4
    ·rename_i aO
     refine ⟨items.length+1 - (i+1),sub_lt_sub_left (lt_succ_of_lt b7) (lt_succ_self i),g4,aa.m,aa.C,i+1,o2,b3.trans (q4.but it),(q4.aw _ _).mp wN,?_,Gd aO mE,I4,rfl,b7,e4⟩
     rw [Gb aO]
     exact jC.mono q4.toLe
    ·exact absurd e4.symm ke
   induction hx:av V.P cl body ⟨m1.set k (some d),C1⟩ with
   |fail=>rw [hx] at e1; exact absurd e1.symm ke
   |exc xx aC=>
    rw [hx] at e1 hs
    refine hs _ _ λg4 e4 s4 q4 xf=>hex xx aC e1.symm _ _ _ ((b3.trans (q4.but it)).drop mB) (xf.drop ((q4.aw _ _).mp wN) ht)
   |ok fl aC=>
    rw [hx] at e1 hs
    refine hs _ _ λg4 f s4 q4 I4 r4=>?_
    have sS:=(q4.aw _ _).mp wN
    have L4:=tK sS none
    have fx:g₀.Step (g4.put it none):=(b3.trans (q4.but it)).drop mB
    have I5:=I4.qR sS ht
    induction r4 using d5.casesOn with
    |next=>exact turn aC g4 s4 (.inl hx) q4 I4 e1
    |cont=>exact turn aC g4 s4 (.inr hx) q4 I4 e1
    |brk=>exact fK .next aC e1.symm _ .next s4 fx I5 .next
    |ret r=>exact fK _ aC e1.symm _ _ s4 fx I5 (.ret (r.mono L4))
  ·rw [if_neg sZ] at e1; exact absurd e1.symm ke
 ·have w5:items.drop i=[]:=by rw [List.getElem?_eq_none_iff] at hn; exact List.drop_eq_nil_of_le hn
  rw [w5] at e1
  refine wpAny_execs_nil ?_
  exact fK .next ⟨m1,C1⟩ e1.symm _ .next _ (b1.drop mB) I2 .next
set_option tactic.hygienic true in
theorem Rn (B:V.Base) (hN:rH V F A) (hB:rD V F A) (fJ:cl.fuel≠0->A.handled=none) (K:F.Ok) {c:aJ} (hc:F.ctx c) {x:Str} {px:Pos} {k:Nat} (hk:dz c x=some k)
  {a:E} {t:Expr} {body:Ss} {b:List Stmt} {p:Pos} (h:az V F A cl a t) (hb:cT V F A cl body b) (hs : ∀ x,foldedSetIterable t F.env x=pure x) :
  aM V F A cl (.dR (.one k) a body) (.For (.Name x px) t b [] p):=λm C g s I=>by
 show ai V F (d5 V) _ g s (if cl.fuel==0 then .fail else (ev V.P cl a ⟨m,C⟩).bind λy aa=>match bU aa.C y with
  |some items=>forLoop (λC C'=>aW C C' y) (.one k) (λae=>av V.P cl body ae) items aa
  |none=>.fail)
 split
 ·trivial
 rename_i hf
 have hh:A.handled=none:=fJ λz=>hf (by rw [z]; rfl)
 refine ai.seq (K:=λv Q E s₁=>wpAny V.M A (pyIter v) (λit s₂=>codeAny V.M A (.forLoop (.Name x px) it b [] F.env) (λr s'=>match r with|.ok f=>Q f s'|.error e=>cameBackBy V.M A F.env E e s') s₂) E s₁)
  (h m C g s I).1 (λQ E z=>wpAny_For z hs) λy st g₁ s₁ v u' q₁ I₁ r=>?_
 induction hi:bU st.C y with
 |none=>trivial
 |some items=>
  dsimp only
  have bT:=I₁.fw
  induction hw:forLoop (λC C'=>aW C C' y) (.one k) (λae=>av V.P cl body ae) items st with
  |fail=>trivial
  |ok fl aC=>
   intro Q E q
   refine uu B I₁ r hi λo h' ho u' I₂=>?_
   refine Cn hh K hc hk hb (oc:=.ok fl aC) (by intro z; exact EP z) bT (Gh.bV.put _ g₁ _) (Gh.bu ..) (ho.mono (Gh.gm _ bT)) hi I₂ hw (λvV fR e g' f s' q1 I' r=>?_) (λxx fR e=>by cases e)
   obtain ⟨rfl,rfl⟩:=aj.ok.inj e
   exact q g' f s' q1 I' r
  |exc xx aC=>
   intro Q E q
   refine uu B I₁ r hi λo h' ho u' I₂=>?_
   refine Cn hh K hc hk hb (oc:=.exc xx aC) (by intro z; exact BY z) bT (Gh.bV.put _ g₁ _) (Gh.bu ..) (ho.mono (Gh.gm _ bT)) hi I₂ hw (λvV fR e=>by exact vQ e) (λSH fR e g' e' s' q1 hx=>?_)
   cases e
   refine hN _ _ _ _ _ _ hx λg2 s2 q2 mG=>?_
   exact hB _ _ _ _ _ _ mG λg3 s3 q3 gK=>q g3 e' s3 ((q1.trans q2).trans q3) gK
end
structure aV.Exc (G:aV):Prop where
 value:G.glob.lookup ("ValueError":Str)=some (.bn .uJ)
 stop:G.glob.lookup ("StopIteration":Str)=some (.bn .stopIteration)
 r9:G.glob.lookup ("CycleError":Str)=some (.cls 1)
noncomputable def lX (_:aq):Prop:=True
section
variable {V:aq} {G:aV} {F:aB} {A:Around} {cl:Calls} {m:List (Option D)} {C:af} {g:Gh} {s:Shared}
theorem ah.CE (I:ah V F m C g s) {a:Addr} (h:s.heap.get? a=none):V.h₀.get? a=none:=by
 induction q:V.h₀.get? a with
 |none=>rfl
 |some o=>rw [I.keep _ _ q] at h; exact kD h
end
section
variable {V:aq} {G:aV} {F:aB} {A:Around} {cl:Calls} {m:List (Option D)} {C:af} {g:Gh} {s:Shared}
theorem Cg {x:X} {st:St} {e:Value} {Q:Shared->Prop} {E:Value->Shared->Prop} (hx:lZ V F x st g e s) (k : ∀ s',lZ V F x st g e s'->Q s'):wpAny V.M A (setFlight e none) (λu' s'=>Q s') E s:=by
 obtain ⟨⟨I,a,cls,args,L,rfl,hL,hr,hT⟩,a',oe,vs,T,ha,iA,hd,h1⟩:=hx
 cases ha
 obtain ⟨i9,eJ,qM,iH,t,h2,h3,h4,h5,h6,h7,h8⟩:=hT
 rw [iA] at h2; obtain rfl:=Option.some.inj h2
 rw [hd] at h4; cases h4
 rcases h8 with h8|⟨T',oT,ts,e1,e2,e3,e4,e5,e6,e7⟩
 ·rw [h1] at h8; cases h8
 rw [h1] at e1; cases e1
 have bT:3<ts.size:=by
  rcases e7 with e7|e7<;>exact (Array.getElem?_eq_some_iff.mp e7).1
 refine wpAny_setFlight_none iA hd h1 e5 e6 bT ?_
 have hs:Heap.SameBut T s.heap (s.heap.update T (Obj.mapFields (·.setIfInBounds 3 Value.none))):=Heap.SameBut.update ..
 have pZ:a≠T:=λz=>e2 z.symm
 have f9:=Obj.data_mapFields e6 (·.setIfInBounds 3 Value.none)
 have qv:=Heap.get?_update_self (Obj.mapFields (·.setIfInBounds 3 Value.none)) e5 (Obj.isFreed_of_fields f9)
 have tf:=(hs.2 a pZ).trans iA
 refine k _ ⟨⟨I.away (t:=s.toks) e3 e4 hs,a,cls,args,L,rfl,hL,hr,i9,eJ,oe,vs,t,tf,h3,hd,h5,?_,h7,.inr ⟨T,_,_,h1,e2,e3,e4,qv,f9,.inl ?_⟩⟩,a,oe,vs,T,rfl,tf,hd,h1⟩
 ·obtain ⟨o,n,q1,q2,q3⟩:=h6
  refine ⟨o,n,(hs.2 t λz=>?_).trans q1,q2,q3⟩
  rw [z,e5] at q1; obtain rfl:=Option.some.inj q1
  rw [e6] at q3; cases q3
 ·simp [bT]
noncomputable def Tg (V:aq):Nat->Value
 |0=>.type "StopIteration"
 |1=>.ref (V.bw 1)
 |_=>.type "ValueError"
set_option tactic.hygienic true in
theorem JA {x:Str} {X':X} (h:pG (mr x) X'=true):x=("StopIteration":Str)/\mr x=0/\X'=.stop:=by
 unfold mr at h ⊢
 by_cases e:(x==("StopIteration":Str))=true
 ·rw [if_pos e] at h ⊢
  cases X'<;>first|((first|exact bA h|cases h); done)|skip
  exact ⟨eq_of_beq e,rfl,rfl⟩
 ·rw [if_neg e] at h
  cases X'<;>exact bA h
theorem N4 (O:V.Ok G) (K:F.Ok) (I:ah V F m C g s) {c:aJ} (hc:F.ctx c) {x:Str} (hx:qK c x=true) {d:D} (hd:G.glob.lookup x=some d) {np:Pos} {Q:Value->Shared->Prop} {E:Value->Shared->Prop}
  (q : ∀ v,(∀ g,ab V g d v)->Q v s):wpAny V.M A (eval (.Name x np) F.env) Q E s:=by
 have hk:F.names.lookup x=some .globalImplicit:=by rw [<-hc.1]; exact eq_of_beq hx
 have oq:=K.kinds x _ hk
 obtain ⟨mg,mb,h1,h2,h3⟩:=O.glob
 obtain ⟨v,hv,r⟩:=h3 x d hd
 have e1:s.heap.Ns F.env.globals mg:=by rw [K.glob]; exact h1.keeps I.keep
 have e2:s.heap.Ns F.env.builtins mb:=by rw [K.blt]; exact h2.keeps I.keep
 refine Calls.Name_function_global K.fn oq ?_ (K.oU hk)
 rcases hv with hv|⟨hm,hv⟩
 ·exact Calls.loadGlobal_global e1 hv (q v r)
 ·exact Calls.loadGlobal_builtin e1 hm e2 hv (q v r)
theorem M9:isSubtype (.type "StopIteration") (.type "StopIteration")=pure true:=by rw [isSubtype_type]; kernel_rfl
theorem M6:isSubtype (.type "StopIteration") (.type "BaseException")=pure true:=by rw [isSubtype_type]; kernel_rfl
theorem Oz:isSubtype (.type "type") (.type "tuple")=pure false:=by rw [isSubtype_type]; kernel_rfl
theorem Oy:isSubtype (.type ((Manifest.find? "StopIteration").elim "type" λx=>x.metatype)) (.type "tuple")=pure false:=by
 rw [show ((Manifest.find? "StopIteration").elim "type" λx=>x.metatype)="type" from by rw [find?_eq_fast]; kernel_rfl]; exact Oz
theorem NT (O:V.Ok G) (K:F.Ok) (GE:G.Exc) (jz:lX V) {c:aJ} (hc:F.ctx c) {x:Str} (hx:qK c x=true) {X':X} (hX:pG (mr x) X'=true) {st:St} {e:Value} (h:lZ V F X' st g e s) {np:Pos}
  {Q:Bool->Shared->Prop} {E:Value->Shared->Prop} (q:Q true s) :
  wpAny V.M A (eval (.Name x np) F.env) (λcv s₁=>wpAny V.M A (excMatches e cv) Q E s₁) E s:=by
 obtain ⟨⟨I,a,cls,args,L,rfl,hL,hr,hT⟩,_⟩:=h
 obtain ⟨i9,eJ,oe,vs,t,h2,h3,h4,h5,h6,h7,h8⟩:=hT
 obtain ⟨rfl,_,rfl⟩:=JA hX
 ·refine N4 O K I hc hx GE.stop λv r=>?_
  cases r g
  obtain ⟨rfl,_⟩:=hr
  exact wpAny_excMatches_type (X:="StopIteration") (T:="StopIteration") ⟨oe,h2,h3⟩ M6 Oy M9 q
theorem G6 {F:aB} {A:Around} {n l:Nat} (h:fA F A cl n l) (e:Value):fA F (A.mark (some e)) je n l:=
 ⟨h.frames,h.depth,h.units,λz=>absurd rfl z⟩
set_option tactic.hygienic true in
theorem RG (O:V.Ok G) (K:F.Ok) (GE:G.Exc) (jz:lX V) {outer:List Env} (eG:A.frames=some F.stack) (aO:F.stack=F.env::outer) {c:aJ} (hc:F.ctx c) {x:Str} (hx:qK c x=true)
  {b h:Ss} {body rn:List Stmt} {b₀:Stmt} {np hp p:Pos} (hb:cT V F A cl b body) (hh : ∀ e,cT V F (A.mark (some e)) je h (b₀::rn)) :
  aM V F A cl (.pa b (mr x) none h) (.Try body [.ExceptHandler (some (.Name x np)) none (b₀::rn) hp] [] [] p):=λm C g s I=>by
 show ai V F (d5 V) _ g s (if cl.fuel==0 then .fail else match av V.P cl b ⟨m,C⟩ with
  |.exc x' aa=>if pG (mr x) x' then (match av V.P je h aa with|.ok f ae=>.ok f ae|_=>.fail) else .fail
  |o=>o)
 split
 ·trivial
 have hB:=hb m C g s I
 induction ho:av V.P cl b ⟨m,C⟩ with
 |fail=>trivial
 |ok f st=>
  rw [ho] at hB
  intro Q E q
  refine wpAny_Try_except (hB _ _ λg' fl s' aC I' r=>?_)
  induction r using d5.casesOn with
  |next=>exact wpAny_execs_nil (q _ _ _ aC I' .next)
  |brk=>exact q _ _ _ aC I' .brk
  |cont=>exact q _ _ _ aC I' .cont
  |ret r=>exact q _ _ _ aC I' (.ret r)
 |exc X' st=>
  rw [ho] at hB
  dsimp only
  split
  ·rename_i hX
   induction hH:av V.P je h st with
   |fail=>trivial
   |exc _ _=>trivial
   |ok f ae=>
    intro Q E q
    refine wpAny_Try_except (hB _ _ λg' e s' aC xe=>?_)
    refine xS eG aO xe λg2 s2 q2 mG=>?_
    refine Cg mG λs3 gK=>?_
    refine wpAny_handleBy_cons (codeAny_handlers_test (NT (A:=A.mark (some e)) O K GE jz hc hx hX gK ?_)) (by obtain ⟨⟨_,a,_,_,_,rfl,_⟩,_⟩:=gK; intro z; cases z)
    refine codeAny_handlers_suite (Cg gK λs4 xf=>?_)
    have hs:=hh e _ _ _ _ xf.1.1
    rw [hH] at hs
    exact hs _ _ λg5 fl s5 q5 I5 r5=>q _ _ _ ((aC.trans q2).trans q5) I5 r5
  ·trivial
end
noncomputable def Gh.bB (g:Gh) (h:Heap):Gh:=λa=>match g a with
 |some .locals=>(h.get? a).map GO.aw
 |some (.cA _)=>(h.get? a).map GO.aw
 |r=>r
noncomputable def Gh.over (N:Addr->Option GO) (g:Gh):Gh:=λa=>match N a with
 |some x=>some x
 |none=>g a
noncomputable def Gh.dZ (g g':Gh):Gh:=λa=>match g a with
 |some .locals=>some .locals
 |some (.cA x)=>some (.cA x)
 |_=>match g' a with
  |some .locals=>none
  |some (.cA _)=>none
  |r=>r
set_option tactic.hygienic true in
theorem Gh.rg {g:Gh} {h:Heap} {a:Addr} {o:Obj}:g.bB h a=some (.ay o)↔g a=some (.ay o):=by
 unfold Gh.bB
 induction g a with
 |none=>exact .rfl
 |some k=>induction k<;>first|exact .rfl|(induction h.get? a<;>simp)
set_option tactic.hygienic true in
theorem Gh.lS {g:Gh} {h:Heap} {a:Addr} {i:Nat}:g.bB h a=some (.cell i)↔g a=some (.cell i):=by
 unfold Gh.bB
 induction g a with
 |none=>exact .rfl
 |some k=>induction k<;>first|exact .rfl|(induction h.get? a<;>simp)
theorem Gh.lU {g:Gh} {h:Heap} {a:Addr} {o:Obj} (e:g a=some (.aw o)):g.bB h a=some (.aw o):=by
 unfold Gh.bB; rw [e]
theorem Gh.oZ {g:Gh} {h:Heap} {a:Addr} {o:Obj} (e:g a=some .locals) (ho:h.get? a=some o):g.bB h a=some (.aw o):=by
 unfold Gh.bB; rw [e]; simp [ho]
theorem Gh.qZ {g:Gh} {h:Heap} {a:Addr} {o:Obj} {x:Str} (e:g a=some (.cA x)) (ho:h.get? a=some o):g.bB h a=some (.aw o):=by
 unfold Gh.bB; rw [e]; simp [ho]
theorem Gh.yw {g:Gh} {h:Heap} {a:Addr} (e:g a=none):g.bB h a=none:=by unfold Gh.bB; rw [e]
theorem Gh.ux {g:Gh} {h:Heap} {a:Addr} {x:GO} (e:g.bB h a=some x) : ∃ y,g a=some y:=by
 induction q:g a with
 |none=>rw [Gh.yw q] at e; exact ao e
 |some y=>exact ⟨y,rfl⟩
theorem Gh.tL {g:Gh} {h:Heap}:g.Le (g.bB h):=⟨λu' u' e=>Gh.rg.mpr e,λu' u' e=>Gh.lS.mpr e⟩
theorem Gh.qS {g g':Gh} {a:Addr} (h1:g a≠some .locals) (h2 : ∀ x,g a≠some (.cA x)):g.dZ g' a=match g' a with
  |some .locals=>none
  |some (.cA _)=>none
  |r=>r:=by
 unfold Gh.dZ
 split
 ·exact absurd ‹_› h1
 ·exact absurd ‹_› (h2 _)
 ·rfl
theorem Gh.Pa {g g':Gh} {a:Addr} (h:g a=some .locals):g.dZ g' a=some .locals:=by unfold Gh.dZ; rw [h]
theorem Gh.O9 {g g':Gh} {a:Addr} {x:Str} (h:g a=some (.cA x)):g.dZ g' a=some (.cA x):=by unfold Gh.dZ; rw [h]
section
variable {V:aq} {F F₁:aB} {m m₁:List (Option D)} {C C₁:af} {g g₂:Gh} {s s₁ s₂:Shared}
structure iJ (s s₁:Shared) (N:Addr->Option GO):Prop where
 new : ∀ a x,N a=some x->s.heap.get? a=none
 there : ∀ a x,N a=some x->∃ o,s₁.heap.get? a=some o
 kind : ∀ a x,N a=some x->x=.locals\/∃ y,x=.cA y
theorem iJ.none (I:ah V F m C g s) {N:Addr->Option GO} (hN:iJ s s₁ N) {a:Addr} {x:GO} (h:g a=some x):N a=none:=by
 induction q:N a with
 |none=>rfl
 |some y=>rw [I.apart (hN.new a y q)] at h; exact ao h
set_option tactic.hygienic true in
theorem nc (I:ah V F m C g s) {N:Addr->Option GO} (hN:iJ s s₁ N):(g.bB s.heap).Step (Gh.over N (g.bB s.heap)):=by
 have key : ∀ {a x},g.bB s.heap a=some x->Gh.over N (g.bB s.heap) a=some x:=λ{a x} e=>by
  obtain ⟨y,hy⟩:=Gh.ux e
  unfold Gh.over; rw [hN.none I hy]; exact e
 refine ⟨⟨λa o e=>key e,λa i e=>key e⟩,λa o=>⟨λe=>key e,λe=>?_⟩⟩
 unfold Gh.over at e
 split at e
 ·rename_i x hx
  obtain rfl:=Option.some.inj e
  rcases hN.kind a _ hx with z|⟨y,z⟩<;>cases z
 ·exact e
set_option tactic.hygienic true in
theorem ah.enter (I:ah V F m C g s) {N:Addr->Option GO} (hN:iJ s s₁ N) (hk : ∀ b o,s.heap.get? b=some o->s₁.heap.get? b=some o) (hg:s₁.gens=s.gens) (ho:s₁.os=s.os)
  (fr:kK V F₁ m₁ (Gh.over N (g.bB s.heap)) s₁.heap):ah V F₁ m₁ C (Gh.over N (g.bB s.heap)) s₁:=by
 have aO:=nc I hN
 have back : ∀ {a x},Gh.over N (g.bB s.heap) a=some x->(N a=some x)\/(N a=none/\g.bB s.heap a=some x):=λ{a x} e=>by
  unfold Gh.over at e
  split at e
  ·rename_i y hy; obtain rfl:=Option.some.inj e; exact .inl hy
  ·rename_i hy; exact .inr ⟨hy,e⟩
 have kinds : ∀ {a x},Gh.over N (g.bB s.heap) a=some x->x≠.locals->(∀ y,x≠.cA y)->g.bB s.heap a=some x:=λ{a x} e h1 h2=>by
  rcases back e with e|⟨_,e⟩
  ·rcases hN.kind _ _ e with z|⟨y,z⟩
   ·exact absurd z h1
   ·exact absurd z (h2 y)
  ·exact e
 refine ⟨λb o e=>hk b o (I.keep b o e),λa x e=>?_,λa x e=>?_,λa o e=>?_,λa o e=>?_,λi c e=>?_,λa b i e e'=>?_,λa i e=>?_,fr,by rw [hg]; exact I.gens,by rw [ho]; exact I.os⟩
 ·rcases back e with e|⟨_,e⟩
  ·exact I.CE (hN.new _ _ e)
  ·obtain ⟨y,hy⟩:=Gh.ux e; exact I.new a y hy
 ·rcases back e with e|⟨_,e⟩
  ·exact hN.there _ _ e
  ·obtain ⟨y,hy⟩:=Gh.ux e
   obtain ⟨o,ho⟩:=I.live a y hy
   exact ⟨o,hk a o ho⟩
 ·exact hk a o (I.ay a o (Gh.rg.mp (kinds e (by simp) (by simp))))
 ·have e:=kinds e (by simp) (by simp)
  obtain ⟨y,hy⟩:=Gh.ux e
  obtain ⟨o',cK⟩:=I.live a y hy
  induction y with
  |ay o1=>rw [Gh.rg.mpr hy] at e; cases e
  |cell i=>rw [Gh.lS.mpr hy] at e; cases e
  |aw o1=>
   rw [Gh.lU hy] at e; cases e
   obtain ⟨sl,h1,h2⟩:=I.aw a o hy
   exact ⟨sl,hk a _ h1,h2⟩
  |locals=>
   rw [Gh.oZ hy cK] at e; cases e
   exact ⟨o.slots,hk a o cK,λu'=>rfl⟩
  |cA y=>
   rw [Gh.qZ hy cK] at e; cases e
   exact ⟨o.slots,hk a o cK,λu'=>rfl⟩
 ·obtain ⟨a,o,h1,h2,h3⟩:=I.cell i c e
  exact ⟨a,o,aO.cell a i (Gh.lS.mpr h1),hk a o h2,h3.mono (Gh.tL.trans aO.toLe)⟩
 ·exact I.uniq a b i (Gh.lS.mp (kinds e (by simp) (by simp))) (Gh.lS.mp (kinds e' (by simp) (by simp)))
 ·exact I.dB a i (Gh.lS.mp (kinds e (by simp) (by simp)))
theorem uk (I:ah V F m C g s) (aO:(g.bB s.heap).Step g₂):g₂.Le (g.dZ g₂):=by
 have key : ∀ {a x},g₂ a=some x->(∀ o,x≠.aw o)->x≠.locals->(∀ y,x≠.cA y)->g.dZ g₂ a=some x:=λ{a x} e h0 h1 h2=>by
  have n1:g a≠some .locals:=λz=>by
   obtain ⟨o,ho⟩:=I.live a _ z
   have:=(aO.aw a o).mp (Gh.oZ z ho)
   rw [e] at this; obtain rfl:=Option.some.inj this; exact h0 o rfl
  have n2 : ∀ y,g a≠some (.cA y):=λy z=>by
   obtain ⟨o,ho⟩:=I.live a _ z
   have:=(aO.aw a o).mp (Gh.qZ z ho)
   rw [e] at this; obtain rfl:=Option.some.inj this; exact h0 o rfl
  rw [Gh.qS n1 n2,e]
  induction x<;>first|rfl|exact absurd rfl h1|exact absurd rfl (h2 _)
 exact ⟨λa o e=>key e (by simp) (by simp) (by simp),λa i e=>key e (by simp) (by simp) (by simp)⟩
set_option tactic.hygienic true in
theorem um (I:ah V F m C g s) (aO:(g.bB s.heap).Step g₂):g.Step (g.dZ g₂):=by
 have L:=uk I aO
 refine ⟨⟨λa o e=>L.ay a o (aO.ay a o (Gh.rg.mpr e)),λa i e=>L.cell a i (aO.cell a i (Gh.lS.mpr e))⟩,λa o=>⟨λe=>?_,λe=>?_⟩⟩
 ·rw [Gh.qS (by rw [e]; simp) (by rw [e]; simp),(aO.aw a o).mp (Gh.lU e)]
 ·unfold Gh.dZ at e
  split at e
  ·cases e
  ·cases e
  ·rename_i n1 n2
   have e2:g₂ a=some (.aw o):=by
    split at e
    ·exact ao e
    ·exact ao e
    ·exact e
   have:=(aO.aw a o).mpr e2
   unfold Gh.bB at this
   induction q:g a with
   |none=>rw [q] at this; exact this
   |some k=>rw [q] at this; induction k<;>first|exact this|exact absurd q n1|exact absurd q (n2 _)
theorem ah.leave (I:ah V F m C g s) (aO:(g.bB s.heap).Step g₂) (I₂:ah V F₁ m₁ C₁ g₂ s₂):ah V F m C₁ (g.dZ g₂) s₂:=by
 have L:=uk I aO
 have S:=um I aO
 have back : ∀ {a x},g.dZ g₂ a=some x->x≠.locals->(∀ y,x≠.cA y)->g₂ a=some x:=λ{a x} e h1 h2=>by
  unfold Gh.dZ at e
  split at e
  ·obtain rfl:=Option.some.inj e; exact absurd rfl h1
  ·obtain rfl:=Option.some.inj e; exact absurd rfl (h2 _)
  ·split at e
   ·exact ao e
   ·exact ao e
   ·exact e
 have loc : ∀ {a o},g a=some .locals->s.heap.get? a=some o->∃ sl,s₂.heap.get? a=some {o with slots:=sl}:=λ{a o} e ho=>by
  obtain ⟨sl,h,_⟩:=I₂.aw a o ((aO.aw a o).mp (Gh.oZ e ho)); exact ⟨sl,h⟩
 have B6 : ∀ {a o x},g a=some (.cA x)->s.heap.get? a=some o->∃ sl,s₂.heap.get? a=some {o with slots:=sl}:=λ{a o x} e ho=>by
  obtain ⟨sl,h,_⟩:=I₂.aw a o ((aO.aw a o).mp (Gh.qZ e ho)); exact ⟨sl,h⟩
 refine ⟨I₂.keep,λa x e=>?_,λa x e=>?_,λa o e=>I₂.ay a o (back e (by simp) (by simp)),λa o e=>I₂.aw a o (back e (by simp) (by simp)),λi c e=>?_,λa b i e e'=>I₂.uniq a b i (back e (by simp) (by simp)) (back e' (by simp) (by simp)),
  λa i e=>I₂.dB a i (back e (by simp) (by simp)),?_,I₂.gens,I₂.os⟩
 ·induction x with
  |locals=>
   unfold Gh.dZ at e
   split at e
   ·exact I.new a _ ‹_›
   ·exact I.new a _ ‹_›
   ·split at e<;>first|(exact ao e; done)|exact I₂.new a _ e
  |cA y=>
   unfold Gh.dZ at e
   split at e
   ·exact I.new a _ ‹_›
   ·exact I.new a _ ‹_›
   ·split at e<;>first|(exact ao e; done)|exact I₂.new a _ e
  |_=>exact I₂.new a _ (back e (by simp) (by simp))
 ·have old : ∀ y,g a=some y->∃ o,s₂.heap.get? a=some o:=λy hy=>by
   obtain ⟨o,ho⟩:=I.live a y hy
   induction y with
   |locals=>obtain ⟨sl,h⟩:=loc hy ho; exact ⟨_,h⟩
   |cA z=>obtain ⟨sl,h⟩:=B6 hy ho; exact ⟨_,h⟩
   |ay o'=>exact I₂.live a _ (aO.ay a o' (Gh.rg.mpr hy))
   |cell i=>exact I₂.live a _ (aO.cell a i (Gh.lS.mpr hy))
   |aw o'=>exact I₂.live a _ ((aO.aw a o').mp (Gh.lU hy))
  unfold Gh.dZ at e
  split at e
  ·exact old _ ‹_›
  ·exact old _ ‹_›
  ·split at e<;>first|(exact ao e; done)|exact I₂.live a _ e
 ·obtain ⟨a,o,h1,h2,h3⟩:=I₂.cell i c e
  exact ⟨a,o,L.cell a i h1,h2,h3.mono L⟩
 ·have fr:=I.fr
  refine ⟨fr.len,fr.above,λe he=>?_,Gh.Pa fr.here,?_,λy hy=>?_,λx n d h1 h2 h3=>?_⟩
  ·obtain ⟨k,L',q,r⟩:=fr.out e he
   refine ⟨k,L',q,?_⟩
   rcases r with r|⟨o,es,n,r,z⟩
   ·exact .inl r
   ·exact .inr ⟨o,es,n,(S.aw _ _).mp r,z⟩
  ·obtain ⟨M,⟨o,es,ep,ho,hd,hr⟩,b⟩:=fr.loc
   obtain ⟨sl,h⟩:=loc fr.here ho
   exact ⟨M,⟨_,es,ep,h,hd,hr⟩,λx n d h1 h2 h3=>(b x n d h1 h2 h3).imp λv q=>⟨q.1,q.2.mono S.toLe⟩⟩
  ·obtain ⟨c,v,h1,h2,⟨o,ho,hd⟩,h4⟩:=fr.cell y hy
   obtain ⟨sl,h⟩:=B6 h2 ho
   exact ⟨c,v,h1,Gh.O9 h2,⟨_,h,hd⟩,λn d e1 e2=>(h4 n d e1 e2).imp λv q=>⟨q.1,q.2.mono S.toLe⟩⟩
  ·obtain ⟨c,o,v,h4,h5,h6,h7⟩:=fr.free x n d h1 h2 h3
   exact ⟨c,o,v,h4,(S.aw _ _).mp h5,h6,h7.mono S.toLe⟩
end
theorem jd {α:Type} : ∀ {l:List (Str × α)} {x:Str} {a:α},(l.map (·.1)).Nodup->(x,a)∈l->l.lookup x=some a
 |[],_,_,_,h=>by cases h
 |e::r,x,a,hn,h=>by
  rw [map_cons,nodup_cons] at hn
  rw [lookup_cons]
  rcases mem_cons.mp h with rfl|h
  ·simp
  ·have:x≠e.1:=λz=>hn.1 (z ▸ mem_map_of_mem (f:=Prod.fst) h)
   rw [beq_false_of_ne this]
   exact jd hn.2 h
theorem lJ {α:Type} : ∀ {l:List (Str × α)} {x:Str} {a:α},(x,a)∈l->∃ b,l.lookup x=some b
 |e::r,x,a,h=>by
  rw [lookup_cons]
  induction q:x==e.1 with
  |true=>exact ⟨_,rfl⟩
  |false=>
   rcases mem_cons.mp h with rfl|h
   ·simp at q
   ·exact lJ h
theorem kn {α:Type} {a:α} : ∀ {l l':List (Str × α)} {x:Str},l.lookup x=some a->(l++l').lookup x=some a
 |e::r,l',x,h=>by
  rw [cons_append,lookup_cons]
  rw [lookup_cons] at h
  induction q:x==e.1 with
  |true=>rw [q] at h; exact h
  |false=>rw [q] at h; exact kn h
theorem mW {α:Type} : ∀ {l l':List (Str × α)} {x:Str},l.lookup x=none->(l++l').lookup x=l'.lookup x
 |[],l',x,h=>rfl
 |e::r,l',x,h=>by
  rw [cons_append,lookup_cons]
  rw [lookup_cons] at h
  induction q:x==e.1 with
  |true=>rw [q] at h; exact kD h
  |false=>rw [q] at h; exact mW h
theorem tQ {p:Str->Bool} {α:Type} {a:α} : ∀ {l:List (Str × α)} {x:Str},(l.filter λe=>p e.1).lookup x=some a->l.lookup x=some a/\p x=true
 |[],x,h=>by exact ao h
 |e::r,x,h=>by
  rw [filter_cons] at h
  rw [lookup_cons]
  induction q:x==e.1 with
  |true=>
   have hx:=eq_of_beq q
   induction hp:p e.1 with
   |true=>
    rw [hp,if_pos rfl,lookup_cons,q] at h
    exact ⟨h,by rw [hx]; exact hp⟩
   |false=>
    rw [hp,if_neg (by decide)] at h
    have:=(tQ h).2
    rw [hx,hp] at this; exact bA this
  |false=>
   induction hp:p e.1 with
   |true=>
    rw [hp,if_pos rfl,lookup_cons,q] at h
    exact tQ h
   |false=>
    rw [hp,if_neg (by decide)] at h
    exact tQ h
theorem ju : ∀ (names:List (Str × NameKind)) (n:Nat) (acc:List (Str × Addr)),cellsFrom n names acc=cellsFrom n names []++acc
 |[],_,_=>rfl
 |(x,k)::r,n,acc=>by
  unfold cellsFrom
  split
  ·rw [ju r (n+1) ((x,n)::acc),ju r (n+1) [(x,n)]]; simp
  ·exact ju r n acc
set_option tactic.hygienic true in
theorem rY : ∀ {names:List (Str × NameKind)} {n:Nat} {x:Str} {c:Addr},(x,c)∈cellsFrom n names []->(x,NameKind.cell)∈names
 |[],_,_,_,h=>by cases h
 |(y,k)::r,n,x,c,h=>by
  unfold cellsFrom at h
  split at h
  ·rename_i hk
   rw [ju] at h
   rcases mem_append.mp h with h|h
   ·exact .tail _ (rY h)
   ·rw [mem_singleton] at h; cases h
    rw [eq_of_beq hk]; exact .head _
  ·exact .tail _ (rY h)
theorem jX : ∀ {names:List (Str × NameKind)} {n:Nat} {x:Str},(x,NameKind.cell)∈names->∃ c,(x,c)∈cellsFrom n names []
 |(y,k)::r,n,x,h=>by
  unfold cellsFrom
  rcases mem_cons.mp h with e|h
  ·cases e
   rw [if_pos (beq_self_eq_true _),ju]
   exact ⟨n,mem_append_right _ (.head _)⟩
  ·split
   ·rw [ju]
    obtain ⟨c,hc⟩:=jX (n:=n+1) h
    exact ⟨c,mem_append_left _ hc⟩
   ·exact jX h
theorem xD {α:Type} : ∀ {l:List (Str × α)} {x:Str},(∀ a,(x,a) ∉ l)->l.lookup x=none
 |[],_,_=>rfl
 |e::r,x,h=>by
  rw [lookup_cons]
  induction q:x==e.1 with
  |true=>exact absurd (by rw [eq_of_beq q]; exact .head _) (h e.2)
  |false=>exact xD λa z=>h a (.tail _ z)
noncomputable def eC (cells:List (Str × Addr)):List (Str × NameKind)->List (Str × Addr)->List (Str × Addr)
 |[],acc=>acc
 |(x,k)::r,acc=>if k==.free then eC cells r ((x,(cells.lookup x).getD 0)::acc) else eC cells r acc
theorem Ib {scope:Scope} {env:Env} (h : ∀ x,(x,NameKind.free)∈scope.names->(env.cells.lookup x).isSome=true):closureFor scope env=pure (eC env.cells scope.names []):=by
 have key : ∀ (names:List (Str × NameKind)) (acc:List (Str × Addr)),(∀ x,(x,NameKind.free)∈names->(env.cells.lookup x).isSome=true)->
   (forIn names acc λ(p:Str × NameKind) (r:List (Str × Addr))=>(if (p.2==.free)=true then (do let a <-cellOf env p.1; pure (ForInStep.yield ((p.1,a)::r))) else pure (ForInStep.yield r):Sem (ForInStep (List (Str × Addr)))))=pure (eC env.cells names acc):=by
  intro names
  induction names with
  |nil=>intro acc _; rfl
  |cons p r ih=>
   intro acc hn
   obtain ⟨x,k⟩:=p
   rw [forIn_cons]
   unfold eC
   dsimp only
   induction hk:(k==NameKind.free) with
   |true=>
    rw [if_pos rfl,if_pos rfl]
    have hx:=hn x (by rw [eq_of_beq hk]; exact .head _)
    obtain ⟨c,hc⟩:=isSome_iff_exists.mp hx
    have:cellOf env x=pure c:=by unfold cellOf; rw [hc]
    rw [this,hc]
    simp only [pure_bind,Option.getD_some]
    exact ih _ λy hy=>hn y (.tail _ hy)
   |false=>
    rw [if_neg (by decide),if_neg (by decide)]
    simp only [pure_bind]
    exact ih _ λy hy=>hn y (.tail _ hy)
 have e:=key scope.names [] h
 unfold closureFor
 simp only [bind_pure_comp] at e ⊢
 first|(rw [e]; rfl)|(simp only [e]; rfl)
theorem vw {cells:List (Str × Addr)} : ∀ {names:List (Str × NameKind)} {acc:List (Str × Addr)} {x:Str} {a:Addr},(x,a)∈eC cells names acc->(x,a)∈acc\/a=(cells.lookup x).getD 0
 |[],acc,x,a,h=>.inl h
 |(y,k)::r,acc,x,a,h=>by
  unfold eC at h
  split at h
  ·rcases vw h with h|h
   ·rcases mem_cons.mp h with h|h
    ·cases h; exact .inr rfl
    ·exact .inl h
   ·exact .inr h
  ·exact vw h
theorem vt {cells:List (Str × Addr)} : ∀ {names:List (Str × NameKind)} {acc:List (Str × Addr)} {p:Str × Addr},p∈acc->p∈eC cells names acc
 |[],acc,p,h=>h
 |(y,k)::r,acc,p,h=>by
  unfold eC
  split
  ·exact vt (.tail _ h)
  ·exact vt h
theorem vv {cells:List (Str × Addr)} : ∀ {names:List (Str × NameKind)} {acc:List (Str × Addr)} {x:Str},(x,NameKind.free)∈names->∃ a,(x,a)∈eC cells names acc
 |(y,k)::r,acc,x,h=>by
  unfold eC
  rcases mem_cons.mp h with e|h
  ·cases e
   rw [if_pos (beq_self_eq_true _)]
   exact ⟨_,vt (.head _)⟩
  ·split
   ·exact vv h
   ·exact vv h
theorem Ia {cells:List (Str × Addr)} {names:List (Str × NameKind)} {x:Str} {c:Addr} (h:(x,NameKind.free)∈names) (hc:cells.lookup x=some c):(eC cells names []).lookup x=some c:=by
 obtain ⟨a,ha⟩:=vv (cells:=cells) (acc:=[]) h
 obtain ⟨b,hb⟩:=lJ ha
 rw [hb]
 rcases vw (mem_of_lookup hb) with z|z
 ·cases z
 ·rw [z,hc]; rfl
section
variable {M:Model} {A:Around} {E:Value->Shared->Prop} {s:Shared}
theorem Oa {scope:Scope} {globals:Addr} {cl:List (Str × Addr)} {qual:Str} {outer:Env} {Q:Env->Shared->Prop}
  (h:Q (newEnv scope s.heap.objs.size globals (cellsFrom (s.heap.objs.size+1) scope.names cl) qual none .none (some outer) builtinsNs) {s with heap:=pushCells (s.heap.push {cls:=.type "dict",data:=.dict #[]}) scope.names}) :
  wpAny M A (newFunctionEnv scope globals cl [] qual none .none (some outer)) Q E s:=by
 simp only [newFunctionEnv,isSome_some,if_true]
 refine wpAny_bind (wpAny_alloc ?_)
 refine wpAny_bind (wpAny_layCells _ (λname kind cells=>by induction Lz:kind==NameKind.cell<;>simp [Lz]) _ _ _ _ ?_)
 rw [show ({s with heap:=s.heap.push {cls:=.type "dict",data:=.dict #[]}}:Shared).heap.objs.size=s.heap.objs.size+1 from Heap.size_push ..]
 exact wpAny_bind (wpAny_pure (wpAny_pure h))
end
noncomputable def Ip (sc:Scope) (cl:List (Str × Addr)) (L:Addr) (env:Env):Env:={newEnv sc L env.globals (cellsFrom (L+1) sc.names cl) env.qual none .none (some env) builtinsNs with scope:=relabel sc env}
noncomputable def aB.comp (F:aB) (sc:Scope) (L:Addr):aB where
 env:=Ip sc (eC F.env.cells sc.names []) L F.env
 names:=sc.names
 slots:=F.slots.filter λp=>!own sc.names p.1
 base:=F.base
 stack:=F.stack
noncomputable def br (L:Addr) (names:List (Str × NameKind)):Addr->Option GO:=λa=>if a=L then some .locals else ((cellsFrom (L+1) names []).find? λp=>p.2==a).map λp=>.cA p.1
theorem D5 (env:Env) : ∀ (names:List (Str × NameKind)) (x:Str),(names.map λ(n,k)=>if (k==NameKind.free&&env.scope.kind==.function&&env.kindOf n==some .cell) then (n,NameKind.cell) else (n,k)).lookup x =
  (names.lookup x).map λk=>if (k==NameKind.free&&env.scope.kind==.function&&env.kindOf x==some .cell) then NameKind.cell else k
 |[],_=>rfl
 |(n,k)::r,x=>by
  have ih:=D5 env r x
  show List.lookup x ((if (k==NameKind.free&&env.scope.kind==.function&&env.kindOf n==some .cell)=true then (n,NameKind.cell) else (n,k))::_)=_
  by_cases hc:(k==NameKind.free&&env.scope.kind==.function&&env.kindOf n==some .cell)=true
  ·rw [if_pos hc,lookup_cons,lookup_cons]
   induction q:x==n with
   |true=>
    have e:=eq_of_beq q
    subst e
    show some NameKind.cell=some (if _ then _ else _)
    rw [if_pos hc]
   |false=>exact ih
  ·rw [if_neg hc,lookup_cons,lookup_cons]
   induction q:x==n with
   |true=>
    have e:=eq_of_beq q
    subst e
    show some k=some (if _ then _ else _)
    rw [if_neg hc]
   |false=>exact ih
structure hV (c:aJ) (sc:Scope):Prop where
 fn:sc.kind=.function
 nodup:(sc.names.map (·.1)).Nodup
 free : ∀ x,(x,NameKind.free)∈sc.names->c.names.lookup x=some .cell\/c.names.lookup x=some .free
 debug:sc.names.lookup ("__debug__":Str)=none
 md:sc.names.lookup ("__classdict__":Str)=none
theorem vA {c:aJ} {sc:Scope} (h:me c sc=true):hV c sc:=by
 unfold me at h
 simp only [and_eq_true,isNone_iff_eq_none,decide_eq_true_eq] at h
 obtain ⟨⟨⟨⟨h1,h2⟩,h3⟩,h4⟩,h5⟩:=h
 refine ⟨eq_of_beq h1,h2,λx hx=>?_,h4,h5⟩
 have:=all_eq_true.mp h3 _ hx
 simp only [or_eq_true,bne_self_eq_false,false_eq_true,false_or] at this
 rcases this with h|h
 ·exact .inl (eq_of_beq h)
 ·exact .inr (eq_of_beq h)
theorem EZ {names:List (Str × NameKind)} {x:Str} (h:own names x=false):names.lookup x≠some .local/\names.lookup x≠some .cell:=by
 unfold own at h
 refine ⟨λz=>?_,λz=>?_⟩<;>(rw [z] at h; exact fT h)
section
variable {V:aq} {F:aB} {m:List (Option D)} {C:af} {g:Gh} {s:Shared} {c:aJ} {sc:Scope} {L:Addr}
theorem nX {x:Str} {n:Nat} (h:(F.comp sc L).slots.lookup x=some n):F.slots.lookup x=some n/\own sc.names x=false:=by
 have:=tQ (p:=λx=>!own sc.names x) h
 exact ⟨this.1,by simpa using this.2⟩
theorem Iq {cl:List (Str × Addr)} {x:Str} (hn:(sc.names.map (·.1)).Nodup) (h:(x,NameKind.free)∈sc.names):(cellsFrom (L+1) sc.names cl).lookup x=cl.lookup x:=by
 rw [ju]
 refine mW (xD λa z=>?_)
 have h1:=jd hn (rY z)
 have h2:=jd hn h
 rw [h1] at h2; cases h2
theorem v5 (K:F.Ok) (hc:F.ctx c) (ok:hV c sc) {x:Str} (h:(x,NameKind.free)∈sc.names) : ∃ a,F.env.cells.lookup x=some a/\(F.comp sc L).env.cells.lookup x=some a:=by
 have hx:=ok.free x h
 rw [hc.1] at hx
 have:(F.env.cells.lookup x).isSome=true:=by
  rcases hx with hx|hx
  ·exact K.cells x _ hx (.inl rfl)
  ·exact K.cells x _ hx (.inr rfl)
 obtain ⟨a,ha⟩:=isSome_iff_exists.mp this
 refine ⟨a,ha,?_⟩
 show (cellsFrom (L+1) sc.names (eC F.env.cells sc.names [])).lookup x=some a
 rw [Iq ok.nodup h]
 exact Ia h ha
theorem Iv (K:F.Ok) (hc:F.ctx c) (ok:hV c sc):(F.comp sc L).Ok:=by
 refine ⟨ok.fn,K.glob,K.blt,λx k h=>?_,λx y n h1 h2=>?_,λx n h=>K.bound x n (nX h).1,K.frame,λx k h hk=>?_,ok.debug,ok.md⟩
 ·have e:(F.comp sc L).env.kindOf x=(sc.names.lookup x).map λk=>if (k==NameKind.free&&F.env.scope.kind==.function&&F.env.kindOf x==some .cell) then NameKind.cell else k:=D5 F.env sc.names x
  have h:sc.names.lookup x=some k:=h
  rw [e,h]
  induction k using NameKind.casesOn<;>first|rfl|skip
  show zg .free (some (if _ then NameKind.cell else NameKind.free))
  split
  ·exact .inr rfl
  ·exact .inl rfl
 ·exact K.inj x y n (nX h1).1 (nX h2).1
 ·have h:sc.names.lookup x=some k:=h
  have hm:=mem_of_lookup h
  rcases hk with rfl|rfl
  ·obtain ⟨a,ha⟩:=jX (n:=L+1) hm
   obtain ⟨b,hb⟩:=lJ ha
   show ((cellsFrom (L+1) sc.names _).lookup x).isSome=true
   rw [ju,kn hb]; rfl
  ·obtain ⟨a,_,ha⟩:=v5 (L:=L) K hc ok hm
   rw [ha]; rfl
theorem AX (K:F.Ok) (hc:F.ctx c) (ok:hV c sc):closureFor sc F.env=pure (eC F.env.cells sc.names []):=
 Ib λx h=>by
  obtain ⟨a,ha,_⟩:=v5 (L:=0) K hc ok h
  rw [ha]; rfl
set_option tactic.hygienic true in
theorem Cs (h:Heap) (o:Obj) (names:List (Str × NameKind)) (ho:o.isFreed=false) {s₁:Shared} (e:s₁.heap=pushCells (h.push o) names) (hs:s.heap=h):iJ s s₁ (br h.objs.size names):=by
 subst hs
 have ok:=cellsFrom_ok names (s.heap.push o) (s.heap.objs.size+1) [] ⟨λu' u' z=>(nomatch z),List.Pairwise.nil⟩ (by rw [Heap.size_push]; exact le_refl _)
 rw [Heap.size_push] at ok
 have back : ∀ {a x},br s.heap.objs.size names a=some x->(a=s.heap.objs.size/\x=.locals)\/∃ y,(y,a)∈cellsFrom (s.heap.objs.size+1) names []/\x=.cA y:=λ{a x} h=>by
  unfold br at h
  split at h
  ·rename_i q; obtain rfl:=Option.some.inj h; exact .inl ⟨q,rfl⟩
  ·obtain ⟨p,hp,hx⟩:=cB h
   have h1:=mem_of_find?_eq_some hp
   have h2:=find?_some hp
   obtain ⟨y,b⟩:=p
   have h2:b=a:=eq_of_beq h2
   subst h2
   exact .inr ⟨y,h1,hx.symm⟩
 refine ⟨λa x h=>?_,λa x h=>?_,λa x h=>?_⟩
 ·rcases back h with ⟨rfl,_⟩|⟨y,hy,_⟩
  ·exact Heap.get?_none_of_le (le_refl _)
  ·exact Heap.get?_none_of_le (Nat.le_of_succ_le (ok.empty y a hy).2)
 ·rcases back h with ⟨rfl,_⟩|⟨y,hy,_⟩
  ·rw [e]; exact ⟨o,pushCells_keeps _ _ _ _ (Heap.get?_push_size _ ho)⟩
  ·rw [e]; obtain ⟨o',h1,_⟩:=(ok.empty y a hy).1; exact ⟨o',h1⟩
 ·rcases back h with ⟨_,rfl⟩|⟨y,_,rfl⟩
  ·exact .inl rfl
  ·exact .inr ⟨y,rfl⟩
theorem Ob {h:Heap} {o:Obj} {names:List (Str × NameKind)} {x:Str} {a:Addr} (hx:(x,a)∈cellsFrom (h.objs.size+1) names []):br h.objs.size names a=some (.cA x)/\(pushCells (h.push o) names).IsCell a none:=by
 have ok:=cellsFrom_ok names (h.push o) (h.objs.size+1) [] ⟨λu' u' z=>(nomatch z),List.Pairwise.nil⟩ (by rw [Heap.size_push]; exact le_refl _)
 rw [Heap.size_push] at ok
 obtain ⟨h1,h2⟩:=ok.empty x a hx
 refine ⟨?_,h1⟩
 unfold br
 rw [if_neg (λz=>by rw [z] at h2; exact absurd h2 (Nat.not_succ_le_self _))]
 induction hf:(cellsFrom (h.objs.size+1) names []).find? λp=>p.2==a with
 |none=>
  have:=List.find?_eq_none.mp hf _ hx
  simp at this
 |some p=>
  have h3:=mem_of_find?_eq_some hf
  have h4:=find?_some hf
  obtain ⟨y,b⟩:=p
  have h4:b=a:=eq_of_beq h4
  subst h4
  rw [name_of_addr ok.apart h3 hx]; rfl
theorem It (I:ah V F m C g s) (K:F.Ok) (hc:F.ctx c) (ok:hV c sc) :
  ah V (F.comp sc s.heap.objs.size) m C (Gh.over (br s.heap.objs.size sc.names) (g.bB s.heap)) {s with heap:=pushCells (s.heap.push {cls:=.type "dict",data:=.dict #[]}) sc.names}:=by
 have hN:iJ s {s with heap:=pushCells (s.heap.push {cls:=.type "dict",data:=.dict #[]}) sc.names} (br s.heap.objs.size sc.names):=Cs s.heap _ sc.names rfl rfl rfl
 have hk : ∀ b o,s.heap.get? b=some o->(pushCells (s.heap.push {cls:=.type "dict",data:=.dict #[]}) sc.names).get? b=some o:=λb o e=>pushCells_keeps _ _ b o (Heap.get?_push_of_some _ e)
 have aO:=nc I hN
 have L1:g.Le (Gh.over (br s.heap.objs.size sc.names) (g.bB s.heap)):=Gh.tL.trans aO.toLe
 have fr:=I.fr
 refine I.enter hN hk rfl rfl ⟨fr.len,?_,λe he=>?_,?_,⟨_,(Heap.Ns.new s.heap (.type "dict")).keeps (pushCells_keeps _ _),λx n d h1 h2 h3=>?_⟩,λx hx=>?_,λx n d h1 h2 h3=>?_⟩
 ·obtain ⟨o,ho⟩:=I.live _ _ fr.here
  exact le_trans fr.above (le_of_lt (Heap.lt_size ho))
 ·obtain ⟨k,L',q,r⟩:=fr.out e he
  refine ⟨k,L',q,.inr ?_⟩
  rcases r with rfl|⟨o,es,n,r,z⟩
  ·obtain ⟨M,⟨o,es,ep,ho,hd,_⟩,_⟩:=fr.loc
   exact ⟨o,es,ep,(aO.aw _ _).mp (Gh.oZ fr.here ho),hd⟩
  ·exact ⟨o,es,n,(aO.aw _ _).mp (Gh.lU r),z⟩
 ·show Gh.over _ _ s.heap.objs.size=_
  unfold Gh.over br
  rw [if_pos rfl]
 ·have h1:sc.names.lookup x=some .local:=h1
  exact absurd h1 (EZ (nX h2).2).1
 ·have hx:sc.names.lookup x=some .cell:=hx
  have hm:=mem_of_lookup hx
  obtain ⟨a,ha⟩:=jX (n:=s.heap.objs.size+1) hm
  obtain ⟨b,hb⟩:=lJ ha
  obtain ⟨h1,h2⟩:=Ob (o:={cls:=.type "dict",data:=.dict #[]}) (mem_of_lookup hb)
  refine ⟨b,none,?_,?_,h2,λn d e1 e2=>?_⟩
  ·show (cellsFrom (s.heap.objs.size+1) sc.names _).lookup x=some b
   rw [ju,kn hb]
  ·unfold Gh.over; rw [h1]
  ·exact absurd hx (EZ (nX e1).2).2
 ·have h1:sc.names.lookup x=some .free:=h1
  obtain ⟨h2,_⟩:=nX h2
  have hm:=mem_of_lookup h1
  obtain ⟨a,ha,sM⟩:=v5 (L:=s.heap.objs.size) K hc ok hm
  have hx:=ok.free x hm
  rw [hc.1] at hx
  rcases hx with hx|hx
  ·obtain ⟨c',v,e1,e2,⟨o,ho,hd⟩,e4⟩:=fr.cell x hx
   rw [ha] at e1; obtain rfl:=Option.some.inj e1
   obtain ⟨v',rfl,r⟩:=e4 n d h2 h3
   exact ⟨a,o,v',sM,(aO.aw _ _).mp (Gh.qZ e2 ho),hd,r.mono L1⟩
  ·obtain ⟨c',o,v,e1,e2,e3,r⟩:=fr.free x n d hx h2 h3
   rw [ha] at e1; obtain rfl:=Option.some.inj e1
   exact ⟨a,o,v,sM,(aO.aw _ _).mp (Gh.lU e2),e3,r.mono L1⟩
end
noncomputable def kL (M:Model) (A:Around) (elt:Expr) (gens:List Comprehension) (scope:Scope) (pos:Pos) (depth:Nat) (acc:Value) (env:Env):Tr Unit:=λQ E s=>match gens[depth+1]? with
 |some g=>wpAny M A (eval g.iter env) (λx s₁=>g.is_async=0/\foldedSetIterable g.iter env x=pure x/\wpAny M A (pyIter x) (λit s₂=>
   codeAny M A (.compStart (.ListComp elt gens scope pos) (depth+1) it acc env) (λr s'=>match r with|.ok _=>Q () s'|.error e=>cameBackBy M A env E e s') s₂) E s₁) E s
 |none=>wpAny M A (eval elt env) (λx s₁=>wpAny M A (call (.builtin "list.append") [acc,x]) (λu' s₂=>Q () s₂) E s₁) E s
noncomputable def rt (ifs:List Expr) (env:Env):Sem Bool:=forIn ifs true λc r=>if r=true then do let ok <-isTrue c env (eval c env); pure (ForInStep.yield ok) else pure (ForInStep.yield r)
section
variable {prog:Program} {w:World} {A:Around} {E:Value->Shared->Prop} {R:Result->Shared->Prop} {s:Shared}
set_option tactic.hygienic true in
theorem Il {elt:Expr} {gens:List Comprehension} {scope:Scope} {pos:Pos} {depth:Nat} {target iter:Expr} {ifs:List Expr} {it acc:Value} {env:Env} (hg:gens[depth]?=some ⟨target,iter,ifs,0⟩) (J:Nat->Shared->Prop)
  (turn : ∀ n s,J n s->wpAny (model prog w) A (pyNext it) (λr s₁=>match r with
   |none=>R (.ok .next) s₁
   |some v=>wpAny (model prog w) A (letOwnedTupleGo target it v) (λu' Gk=>wpAny (model prog w) A (assign target env v) (λu' s₂=>wpAny (model prog w) A (rt ifs env) (λok s₃=>
     if ok=true then kL (model prog w) A elt gens scope pos depth acc env (λu' s₄ => ∃ m,m<n/\J m s₄) (notedBy (model prog w) A env λe s'=>R (.error e) s') s₃ else ∃ m,m<n/\J m s₃)
     (notedBy (model prog w) A env λe s'=>R (.error e) s') s₂) (notedBy (model prog w) A env λe s'=>R (.error e) s') Gk) (notedBy (model prog w) A env λe s'=>R (.error e) s') s₁) (notedBy (model prog w) A env λe s'=>R (.error e) s') s)
  (n:Nat) (h:J n s):codeAny (model prog w) A (.compLoop (.ListComp elt gens scope pos) depth it acc env) R s:=by
 refine codeAny_loop rfl J (λn s hI=>?_) n h
 show wpAny _ A ((compTurn (.ListComp elt gens scope pos) depth it acc env).onRaise (λx=>do noteFrame x env; theTreesLotGoes x)) _ _ s
 refine wpAny_noted ?_
 unfold compTurn
 dsimp only
 rw [hg]
 dsimp only
 refine wpAny_bind (wpAny_standAt ?_)
 rw [if_neg (by decide)]
 refine wpAny_bind (wpAny_mono (turn n s hI) (λr s₁ h₁=>?_) λu' u' h'=>h')
 induction r with
 |none=>exact wpAny_pure h₁
 |some v=>
  refine wpAny_bind (wpAny_mono h₁ (λu' Gk MA=>?_) λu' u' h'=>h')
  refine wpAny_bind (wpAny_mono MA (λu' s₂ h₂=>?_) λu' u' h'=>h')
  refine wpAny_bind (wpAny_mono h₂ (λok s₃ h₃=>?_) λu' u' h'=>h')
  induction ok with
  |false=>
   rw [if_neg (by decide)] at h₃
   rw [if_neg (by decide)]
   exact wpAny_pure ⟨rfl,h₃⟩
  |true=>
   rw [if_pos rfl] at h₃
   rw [if_pos rfl]
   unfold kL at h₃
   split at h₃
   ·rename_i g' mA
    rw [mA]
    dsimp only
    refine wpAny_bind (wpAny_mono h₃ (λx s₄ h₄=>?_) λu' u' h'=>h')
    obtain ⟨ha,hf,h₄⟩:=h₄
    refine wpAny_bind (wpAny_standAt ?_)
    rw [ha,if_neg (by decide),hf]
    refine wpAny_bind (wpAny_pure ?_)
    rw [if_neg (by decide)]
    refine wpAny_bind (wpAny_holding (wpAny_mono h₄ (λfN s₅ h₅=>?_) λu' u' h'=>h'))
    refine wpAny_bind (wpAny_runOwn (codeAny_mono h₅ λr s' hr=>?_))
    induction r using Except.casesOn with
    |ok f=>exact wpAny_pure ⟨rfl,hr⟩
    |error e=>exact hr
   ·rename_i mA
    rw [mA]
    dsimp only
    exact wpAny_bind (wpAny_bind (wpAny_mono h₃ (λx s₄ h₄=>wpAny_bind (wpAny_mono h₄ (λu' s₅ h₅=>wpAny_pure (wpAny_pure ⟨rfl,h₅⟩)) λu' u' h'=>h')) λu' u' h'=>h'))
theorem AU {elt:Expr} {gens:List Comprehension} {scope:Scope} {pos:Pos} {depth:Nat} {target iter:Expr} {ifs:List Expr} {it acc:Value} {env:Env} (hg:gens[depth]?=some ⟨target,iter,ifs,0⟩)
  (h0:codeAny (model prog w) A (.compLoop (.ListComp elt gens scope pos) depth it acc env) R s)
  (h:wpAny (model prog w) A (pyIter it) (λfN s'=>fN=it/\s'=s) (notedBy (model prog w) A env λx s'=>R (.error x) s') s) :
  codeAny (model prog w) A (.compStart (.ListComp elt gens scope pos) depth it acc env) R s:=by
 have hc:(clausesOf (.ListComp elt gens scope pos))[depth]?=some ⟨target,iter,ifs,0⟩:=hg
 refine codeAny_of_tree ?_
 show wpAny _ _ ((compStart (.ListComp elt gens scope pos) depth it acc env).onRaise (λx=>do noteFrame x env; standAt theWindowsPlace)) _ _ s
 refine wpAny_notedAt ?_
 unfold compStart
 rw [hc]
 show wpAny _ _ (ask >>= _) _ _ s
 refine wpAny_bind (wpAny_askSetting (wpAny_ite ?_))
 split
 ·first
   |exact wpAny_bind (wpAny_pure (wpAny_pure (And.intro rfl h0)))
   |exact wpAny_pure (And.intro rfl h0)
 ·have fin : ∀ fN s',(fN=it/\s'=s)->wpAny (model prog w) A (again (.compLoop (.ListComp elt gens scope pos) depth fN acc env)) (λfin s'=>match fin with|.done f=>R (.ok f) s'|.again c'=>c'.quiet=true/\codeAny (model prog w) A c' R s') (notedBy (model prog w) A env λx s'=>R (.error x) s') s':=by
   rintro fN s' ⟨rfl,rfl⟩
   exact wpAny_pure (And.intro rfl h0)
  refine wpAny_bind (wpAny_rule ?_)
  show wpAny _ _ (standAt iter.pos >>= _) _ _ s
  exact wpAny_bind (wpAny_standAt (wpAny_bind (wpAny_mono h (λfN s' h'=>fin fN s' h') λu' u' x=>x)))
end
section
variable {V:aq} {F:aB} {A:Around} {m:List (Option D)} {C:af} {g:Gh} {s:Shared}
theorem FF (I:ah V F m C g s) {k:Bool} {y:D} {items:List D} {i:Nat} {it:Addr} {o:Obj} (hg:g it=some (.aw o)) (hi:cR V g k items i y o) {Q:Value->Shared->Prop} {E:Value->Shared->Prop} (q:Q (.ref it) s):wpAny V.M A (pyIter (.ref it)) Q E s:=by
 have ho:=I.lN hg hi.uE
 induction y using D.casesOn<;>first|(exact hi.elim)|skip
 ·obtain ⟨t,hz,hc,hd⟩:=hi
  exact W.KBw.pyIter_self (i:=i) (b:=_) ⟨o,ho,hc,hd⟩ q
 ·obtain ⟨l,r,hc,hd⟩:=hi
  exact wpAny_pyIter_tupleiter ⟨o,ho,hc,hd⟩ q
 ·obtain ⟨l,r,hc,hd⟩:=hi
  exact wpAny_pyIter_listiter ⟨o,ho,hc,hd⟩ q
 ·have hi:o=_:=hi
  subst hi
  exact wpAny_pyIter_rangeiter ho q
 ·obtain ⟨l,r,⟨_,hc,hd⟩|⟨_,hc,hd⟩⟩:=hi
  ·exact wpAny_pyIter_listiter ⟨o,ho,hc,hd⟩ q
  ·exact wpAny_pyIter_keyiter (n:=items.length) (ep:=items.length) ⟨o,ho,hc,hd⟩ q
 ·obtain ⟨d,r,hc,hd⟩:=hi
  exact wpAny_pyIter_valiter (n:=items.length) (ep:=items.length) ⟨o,ho,hc,hd⟩ q
theorem cR.kind {V:aq} {g:Gh} {k:Bool} {y:D} {items:List D} {i:Nat} {o:Obj} (hi:cR V g k items i y o) : ∃ T vs,o.cls=.type T/\o.data=.fields vs/\
  (["enumerate","zip","dict_itemiterator","dict_reverseitemiterator","odict_iterator","itertools.zip_longest","itertools.pairwise"].contains T)=false:=by
 induction y using D.casesOn<;>first|(exact hi.elim)|skip
 ·obtain ⟨t,hz,hc,hd⟩:=hi
  exact ⟨_,_,hc,hd,by decide⟩
 ·obtain ⟨l,r,hc,hd⟩:=hi
  exact ⟨_,_,hc,hd,by decide⟩
 ·obtain ⟨l,r,hc,hd⟩:=hi
  exact ⟨_,_,hc,hd,by decide⟩
 ·have hi:o=_:=hi
  subst hi
  exact ⟨_,_,rfl,rfl,by decide⟩
 ·obtain ⟨l,r,⟨_,hc,hd⟩|⟨_,hc,hd⟩⟩:=hi
  ·exact ⟨_,_,hc,hd,by decide⟩
  ·exact ⟨_,_,hc,hd,by decide⟩
 ·obtain ⟨d,r,hc,hd⟩:=hi
  exact ⟨_,_,hc,hd,by decide⟩
theorem P2 (I:ah V F m C g s) {k:Bool} {y:D} {items:List D} {i:Nat} {it:Addr} {o:Obj} (hg:g it=some (.aw o)) (hi:cR V g k items i y o) {target:Expr} {v:Value} {Q:Unit->Shared->Prop} {E:Value->Shared->Prop} (q:Q () s) :
  wpAny V.M A (letOwnedTupleGo target (.ref it) v) Q E s:=by
 have ho:=I.lN hg hi.uE
 obtain ⟨T,vs,hc,hd,hT⟩:=hi.kind
 have key : ∀ a,wpAny V.M A (do
   let o <-load it
   match o.cls,o.data with
   |.type n,.fields vs=>
    if ["enumerate","zip","dict_itemiterator","dict_reverseitemiterator","odict_iterator","itertools.zip_longest","itertools.pairwise"].contains n&&vs[0]?==some (rawInt a) then
     rule "for.unpacks-the-owned-tuple"
     updateField it 0 .none
   |_,_=>pure ()) Q E s:=λa=>by
  refine wpAny_bind (wpAny_load ho ?_)
  rw [hc,hd]
  dsimp only
  rw [hT,Bool.false_and,if_neg (by decide)]
  exact wpAny_pure q
 unfold letOwnedTupleGo
 induction target using Expr.casesOn<;>first|exact wpAny_pure q|(induction v using Value.casesOn<;>first|exact wpAny_pure q|exact key _)
end
noncomputable def aB.ext (F:aB) (xs:List Str):aB:={F with slots:=cD xs F.base++F.slots,base:=F.base+xs.length}
theorem yW : ∀ (xs:List Str) (k b:Nat),(xs.zipIdx k).map (λp=>(p.1,b+p.2))=cD xs (b+k)
 |[],_,_=>rfl
 |x::r,k,b=>by
  have ih:=yW r (k+1) b
  have xl:=yW r 1 (b+k)
  unfold cD
  rw [zipIdx_cons,zipIdx_cons,map_cons,map_cons,ih]
  rw [show (0:Nat)+1=1 from rfl,xl]
  simp [add_assoc]
theorem rC (x:Str) (r:List Str) (b:Nat):cD (x::r) b=(x,b)::cD r (b+1):=by
 have:=yW r 1 b
 unfold cD
 rw [zipIdx_cons,map_cons,show (0:Nat)+1=1 from rfl,this]; rfl
theorem gs : ∀ {xs:List Str} {b:Nat} {x:Str} {n:Nat},(cD xs b).lookup x=some n->x∈xs/\b<=n/\n<b+xs.length/\xs[n - b]?=some x
 |[],_,_,_,h=>by exact ao h
 |y::r,b,x,n,h=>by
  rw [rC,lookup_cons] at h
  induction q:x==y with
  |true=>
   rw [q] at h
   obtain rfl:=Option.some.inj h
   have e:=eq_of_beq q
   subst e
   exact ⟨.head _,le_refl _,by simp,by simp⟩
  |false=>
   rw [q] at h
   obtain ⟨h1,h2,h3,h4⟩:=gs h
   refine ⟨.tail _ h1,Nat.le_of_succ_le h2,by rw [length_cons,add_comm r.length,<-add_assoc]; exact h3,?_⟩
   rw [show n - b=(n - (b+1))+1 from (Nat.sub_add_cancel (Nat.sub_pos_of_lt h2)).symm]
   exact h4
theorem GQ : ∀ {xs:List Str} {b:Nat} {x:Str},x∈xs->∃ n,(cD xs b).lookup x=some n
 |y::r,b,x,h=>by
  rw [rC,lookup_cons]
  induction q:x==y with
  |true=>exact ⟨_,rfl⟩
  |false=>
   rcases mem_cons.mp h with e|h
   ·rw [e] at q; simp at q
   ·exact GQ h
theorem sz {F:aB} {xs:List Str} (hx : ∀ x∈xs,F.slots.lookup x=none) {x:Str} {n:Nat}:(F.ext xs).slots.lookup x=some n↔(cD xs F.base).lookup x=some n\/F.slots.lookup x=some n:=by
 show (cD xs F.base++F.slots).lookup x=some n↔_
 induction q:(cD xs F.base).lookup x with
 |some k=>
  rw [kn q]
  refine ⟨λh=>.inl h,λh=>?_⟩
  rcases h with h|h
  ·exact h
  ·rw [hx x (gs q).1] at h; exact ao h
 |none=>
  rw [mW q]
  refine ⟨λh=>.inr h,λh=>?_⟩
  rcases h with h|h
  ·exact ao h
  ·exact h
theorem pT {F:aB} (K:F.Ok) {xs:List Str} (hx : ∀ x∈xs,F.slots.lookup x=none):(F.ext xs).Ok:=by
 refine ⟨K.fn,K.glob,K.blt,K.kinds,λx y n h1 h2=>?_,λx n h=>?_,K.frame,K.cells,K.debug,K.md⟩
 ·rw [sz hx] at h1 h2
  rcases h1 with h1|h1<;>rcases h2 with h2|h2
  ·have e1:=(gs h1).2.2.2
   rw [(gs h2).2.2.2] at e1
   obtain rfl:=Option.some.inj e1; rfl
  ·exact absurd (K.bound _ _ h2) (not_lt.mpr (gs h1).2.1)
  ·exact absurd (K.bound _ _ h1) (not_lt.mpr (gs h2).2.1)
  ·exact K.inj x y n h1 h2
 ·rw [sz hx] at h
  show n<F.base+xs.length
  rcases h with h|h
  ·exact (gs h).2.2.1
  ·exact lt_of_lt_of_le (K.bound _ _ h) (le_add_right _ _)
theorem B0 {F:aB} {c:aJ} (hc:F.ctx c) (xs:List Str):(F.ext xs).ctx (d7 c xs):=by
 obtain ⟨h1,h2,h3⟩:=hc
 refine ⟨h1,?_,?_⟩
 ·show cD xs c.base++c.slots=cD xs F.base++F.slots
  rw [h2,h3]
 ·show c.base+xs.length=F.base+xs.length
  rw [h3]
section
variable {V:aq} {F F':aB} {A:Around} {cl:Calls} {m m':List (Option D)} {C:af} {g:Gh} {s:Shared}
theorem ah.Fi (I:ah V F m C g s) (he:F'.env=F.env) (hn:F'.names=F.names) (hs:F'.stack=F.stack) (hl:m'.length=F'.base)
  (h : ∀ x n d,F'.slots.lookup x=some n->m'[n]?=some (some d)->F.slots.lookup x=some n/\m[n]?=some (some d)):ah V F' m' C g s:=by
 refine ⟨I.keep,I.new,I.live,I.ay,I.aw,I.cell,I.uniq,I.dB,?_,I.gens,I.os⟩
 have fr:=I.fr
 refine ⟨hl,by rw [he]; exact fr.above,by rw [hs]; intro e h; obtain ⟨k,L,q,r⟩:=fr.out e h; refine ⟨k,L,q,?_⟩; (rcases r with r|r; exact .inl (by rw [he]; exact r); exact .inr r),by rw [he]; exact fr.here,?_,λx hx=>?_,λx n d h1 h2 h3=>?_⟩
 ·obtain ⟨M,a,b⟩:=fr.loc
  exact ⟨M,by rw [he]; exact a,λx n d h1 h2 h3=>let ⟨p,q⟩:=h x n d h2 h3; b x n d (by rw [<-hn]; exact h1) p q⟩
 ·obtain ⟨c,v,h1,h2,h3,h4⟩:=fr.cell x (by rw [<-hn]; exact hx)
  exact ⟨c,v,by rw [he]; exact h1,h2,h3,λn d e1 e2=>let ⟨p,q⟩:=h x n d e1 e2; h4 n d p q⟩
 ·obtain ⟨p,q⟩:=h x n d h2 h3
  obtain ⟨c,o,v,h4,h5⟩:=fr.free x n d (by rw [<-hn]; exact h1) p q
  exact ⟨c,o,v,by rw [he]; exact h4,h5⟩
theorem ah.extend (K:F.Ok) (I:ah V F m C g s) {xs:List Str} (hx : ∀ x∈xs,F.slots.lookup x=none):ah V (F.ext xs) (m++replicate xs.length none) C g s:=by
 refine I.Fi rfl rfl rfl ?_ λx n d h1 h2=>?_
 ·rw [length_append,List.length_replicate,I.fr.len]; rfl
 ·rw [sz hx] at h1
  rcases h1 with h1|h1
  ·have h3:=(gs h1).2.1
   rw [getElem?_append_right (by rw [I.fr.len]; exact h3),List.getElem?_replicate] at h2
   split at h2<;>(first|exact ao h2|cases h2)
  ·refine ⟨h1,?_⟩
   have:=K.bound _ _ h1
   rwa [getElem?_append_left (by rw [I.fr.len]; exact this)] at h2
theorem ah.Pf (K:F.Ok) {xs:List Str} (hx : ∀ x∈xs,F.slots.lookup x=none) (I:ah V (F.ext xs) m C g s):ah V F (m.take F.base) C g s:=by
 refine I.Fi (F:=F.ext xs) rfl rfl rfl ?_ λx n d h1 h2=>?_
 ·rw [length_take,I.fr.len]; exact min_eq_left (le_add_right _ _)
 ·have:=K.bound _ _ h1
  rw [getElem?_take,if_pos this] at h2
  exact ⟨(sz hx).mpr (.inr h1),h2⟩
inductive l6 (c:aJ):Expr->T->Prop where
 |one {x:Str} {p:Pos} {n:Nat}:dz c x=some n->l6 c (.Name x p) (.one n)
 |many {es:List Expr} {cx:Nat} {p:Pos} {ns:List Nat}:aZ (rM c) es ns->l6 c (.Tuple es cx p) (.many ns)
set_option tactic.hygienic true in
theorem FY {F:aB} {c:aJ} (hc:F.ctx c) {xs:List Str} (hf:j4 c xs=true) {x:Str} {n:Nat} (h:(cD xs c.base).lookup x=some n):dz (d7 c xs) x=some n:=by
 unfold j4 at hf
 rw [and_eq_true] at hf
 have:=all_eq_true.mp hf.2 x (gs h).1
 rw [and_eq_true] at this
 have ho:=this.1
 unfold dz
 unfold own at ho
 show (match c.names.lookup x with|some .local|some .cell=>(cD xs c.base++c.slots).lookup x|_=>none)=some n
 rw [kn h]
 induction hx:c.names.lookup x with
 |none=>rw [hx] at ho; exact bA ho
 |some kd=>rw [hx] at ho; induction kd using NameKind.casesOn<;>first|exact bA ho|rfl
theorem GP : ∀ {xs:List Str} {b i:Nat} {x:Str},xs.Nodup->xs[i]?=some x->(cD xs b).lookup x=some (b+i)
 |[],_,_,_,_,h=>by exact ao h
 |y::r,b,0,x,_,h=>by
  obtain rfl:=Option.some.inj h
  rw [rC,lookup_cons]; simp
 |y::r,b,i+1,x,hn,h=>by
  rw [nodup_cons] at hn
  rw [rC,lookup_cons]
  have hm:x∈r:=mem_of_getElem? h
  rw [beq_false_of_ne (λz:x=y=>hn.1 (by rw [<-z]; exact hm))]
  have:=GP (b:=b+1) hn.2 (by simpa using h)
  show (cD r (b+1)).lookup x=some (b+(i+1))
  rw [this]; exact congrArg some ((add_assoc b 1 i).trans (congrArg (b + ·) (add_comm 1 i)))
theorem Ea : ∀ {es:List Expr} {xs:List Str},es.mapM fS=some xs->xs.length=es.length/\∀ (i:Nat) (e:Expr),es[i]?=some e->∃ x p,e=Expr.Name x p/\xs[i]?=some x
 |[],xs,h=>by simp at h; subst h; exact ⟨rfl,λi e h=>by cases h⟩
 |e::es,xs,h=>by
  rw [mapM_cons] at h
  simp only [Option.pure_def,Option.bind_eq_bind] at h
  obtain ⟨x,h1,h2⟩:=aS h
  obtain ⟨ys,h3,h4⟩:=aS h2
  obtain rfl:=Option.some.inj h4
  obtain ⟨hl,ih⟩:=Ea h3
  obtain ⟨p,rfl⟩:=Gm h1
  refine ⟨by simp [hl],λi e he=>?_⟩
  induction i using Nat.casesOn with
  |zero=>obtain rfl:=Option.some.inj he; exact ⟨x,p,rfl,rfl⟩
  |succ i=>exact ih i e he
theorem zA {α β:Type} {R:α->β->Prop} : ∀ {as:List α} {bs:List β},as.length=bs.length->(∀ (i:Nat) (a:α) (b:β),as[i]?=some a->bs[i]?=some b->R a b)->aZ R as bs
 |[],[],_,_=>trivial
 |a::as,b::bs,hl,h=>⟨h 0 a b rfl rfl,zA (by simpa using hl) λi x y e1 e2=>h (i+1) x y e1 e2⟩
 |[],_::_,hl,_=>by cases hl
 |_::_,[],hl,_=>by cases hl
theorem Ce {F:aB} {c:aJ} (hc:F.ctx c) {xs:List Str} (hf:j4 c xs=true) : ∀ x∈xs,F.slots.lookup x=none:=λx h=>by
 unfold j4 at hf
 rw [and_eq_true] at hf
 have:=all_eq_true.mp hf.2 x h
 rw [and_eq_true] at this
 have:=this.2
 rw [hc.2.1] at this
 exact isNone_iff_eq_none.mp this
set_option tactic.hygienic true in
theorem Gp {F:aB} {c:aJ} (hc:F.ctx c) {t:Expr} {xs:List Str} (hx:o9 t=some xs) (hf:j4 c xs=true):l6 (d7 c xs) t (kq xs (jG t) c.base)/\(kq xs (jG t) c.base).width=xs.length:=by
 have iz:xs.Nodup:=by
  unfold j4 at hf; rw [and_eq_true] at hf; exact of_decide_eq_true hf.1
 induction t using Expr.casesOn<;>first|((first|exact ao hx|obtain rfl:=Option.some.inj hx); done)|skip
 ·obtain rfl:=Option.some.inj hx
  refine ⟨.one (FY hc hf ?_),rfl⟩
  rw [rC,lookup_cons]; simp
 ·rename_i es cx p
  have hx:es.mapM fS=some xs:=hx
  obtain ⟨hl,hg⟩:=Ea hx
  refine ⟨.many ?_,by show List.length _=_; simp⟩
  refine zA (by simp [hl]) λi e n he hn=>?_
  obtain ⟨x,q,rfl,h1⟩:=hg i e he
  refine ⟨x,q,rfl,FY hc hf ?_⟩
  rw [GP iz h1]
  rw [getElem?_map,List.getElem?_zipIdx,h1] at hn
  simpa using hn
set_option tactic.hygienic true in
theorem PD (hh:A.handled=none) (K:F.Ok) {c:aJ} (hc:F.ctx c) {t:Expr} {T':T} (ht:l6 c t T') (I:ah V F m C g s) {d:D} {v:Value} (r:ab V g d v) :
  aF V F A dQ (assign t F.env v) g s (fF T' d ⟨m,C⟩):=by
 induction ht using l6.casesOn with
 |one hk=>exact (nj (A:=A) K I hc hk r).wp λu' u' x=>wpAny_assign_Name x
 |many hT=>
  rename_i es cx p ns
  induction d using D.casesOn with
  |tup ds=>
   show ai _ _ _ _ _ _ (if ns.length==ds.length then _ else _)
   split
   ·rename_i hl
    have hl:=eq_of_beq hl
    obtain ⟨la,vs,k,rfl,qp,hz,rs⟩:=I.tup r
    obtain ⟨qt,qu⟩:=yH (env:=F.env) hT
    have I₃ : ∀ h',Heap.ExtBut s.heap.objs.size s.heap h'->ah V F m C g {s with heap:=h'}:=λh' he=>I.heap λb o e=>he b o (ne_of_lt (Heap.lt_size e)) e
    have key : ∀ h',Heap.ExtBut s.heap.objs.size s.heap h'->aF V F A dQ (assignInOrder ((assignEach es F.env).map (·.2)) vs) g {s with heap:=h'} (lR ns ds ⟨m,C⟩):=λh' he=>yt K hc hT rs hl (I₃ h' he)
    induction ho:lR ns ds ⟨m,C⟩ with
    |fail=>trivial
    |ok b aC=>
     intro Q E q
     refine wpAny_assign_Tuple hh ⟨_,qp,rfl,_,rfl⟩ (by rw [qu,hl,rs.length]; simp) qt λh' he=>?_
     have:=key h' he
     rw [ho] at this
     exact this Q E q
    |exc b aC=>
     intro Q E q
     refine wpAny_assign_Tuple hh ⟨_,qp,rfl,_,rfl⟩ (by rw [qu,hl,rs.length]; simp) qt λh' he=>?_
     have:=key h' he
     rw [ho] at this
     exact this Q E q
   ·trivial
  |_=>trivial
theorem Gn {M:Model} {env:Env} {Q:Bool->Shared->Prop} {E:Value->Shared->Prop} : ∀ {ifs:List Expr},Q false s->wpAny M A (forIn ifs false λc r=>if r=true then do let ok <-isTrue c env (eval c env); pure (ForInStep.yield ok) else pure (ForInStep.yield r)) Q E s
 |[],h=>by rw [List.forIn_nil]; exact wpAny_pure h
 |e::r,h=>by
  rw [forIn_cons,if_neg (by decide)]
  exact wpAny_bind (wpAny_pure (Gn h))
theorem FP {f:Expr->E} : ∀ {ifs:List Expr},(∀ e∈ifs,az V F A cl (f e) e)->∀ m C g s,ah V F m C g s->ai V F (λ_ (d:D) (b:Bool)=>d=.bool b) (wpAny V.M A (rt ifs F.env)) g s (cW V.P cl (bX f ifs) ⟨m,C⟩)
 |[],_,m,C,g,s,I=>λQ E q=>wpAny_pure (q g true s (.refl g) I rfl)
 |e::r,h,m,C,g,s,I=>by
  have e1:cW V.P cl (bX f (e::r)) ⟨m,C⟩=(cM (ev V.P cl (f e) ⟨m,C⟩)).bind λq aa=>if q then cW V.P cl (bX f r) aa else .ok (.bool false) aa:=by
   show (ev V.P cl (f e) ⟨m,C⟩).bind _=_
   unfold cM
   rw [aj.bind_assoc]
   congr 1; funext x aa
   induction bI aa.C x with
   |none=>rfl
   |some q=>induction q<;>rfl
  rw [e1]
  have ih:=FP (f:=f) (ifs:=r) λx hx=>h x (.tail _ hx)
  refine ai.seq (h e (.head _) m C g s I).2 (K:=λb Q E s=>if b=true then wpAny V.M A (rt r F.env) Q E s else Q false s) (λQ E x=>?_) λq st g₁ s₁ q' u' u' I₁ rq=>?_
  ·unfold rt
   rw [forIn_cons,if_pos rfl]
   refine wpAny_bind (wpAny_bind (wpAny_mono x (λb s₁ y=>wpAny_pure ?_) λu' u' y=>y))
   induction b with
   |true=>exact y
   |false=>exact Gn y
  ·cases rq
   induction q
   ·exact λQ E k=>k _ _ _ (.refl _) I₁ rfl
   ·exact ih _ _ _ _ I₁
end
structure Gh.Off (P:Addr->Prop) (g g':Gh):Prop where
 ay : ∀ a o,¬ P a->g a=some (.ay o)->g' a=some (.ay o)
 cell : ∀ a i,¬ P a->g a=some (.cell i)->g' a=some (.cell i)
 aw : ∀ a o,¬ P a->(g a=some (.aw o)↔g' a=some (.aw o))
theorem Gh.Off.trans {P:Addr->Prop} {g₁ g₂ g₃:Gh} (x:Gh.Off P g₁ g₂) (y:Gh.Off P g₂ g₃):Gh.Off P g₁ g₃:=
 ⟨λa o h e=>y.ay a o h (x.ay a o h e),λa o h e=>y.cell a o h (x.cell a o h e),λa o h=>(x.aw a o h).trans (y.aw a o h)⟩
theorem Gh.Step.off {g g':Gh} (x:g.Step g') (P:Addr->Prop):Gh.Off P g g':=⟨λa o u' e=>x.ay a o e,λa i u' e=>x.cell a i e,λa o u'=>x.aw a o⟩
theorem Gh.Off.put {P:Addr->Prop} {a:Addr} (h:P a) (g:Gh) (x:Option GO):Gh.Off P g (g.put a x):=by
 have key : ∀ {b},¬ P b->g.put a x b=g b:=λ{b} hb=>Gh.aX _ _ λz=>hb (z ▸ h)
 exact ⟨λb o hb e=>by rw [key hb]; exact e,λb o hb e=>by rw [key hb]; exact e,λb o hb=>by rw [key hb]⟩
theorem Gh.bV.off {S:Addr} {g g':Gh} (x:Gh.bV S g g') {P:Addr->Prop} (h:P S):Gh.Off P g g':=
 ⟨λa o hb e=>x.ay a o (λz=>hb (z ▸ h)) e,λa o hb e=>x.cell a o (λz=>hb (z ▸ h)) e,λa o hb=>x.aw a o (λz=>hb (z ▸ h))⟩
theorem Gh.Off.but {S it:Addr} {g g':Gh} (x:Gh.Off (λa=>a=it\/a=S) g g') (hg:g it=none):Gh.bV S g (g'.put it none):=by
 refine ⟨λa o h e=>?_,λa i h e=>?_,λa o h=>?_⟩
 ·have n:a≠it:=λz=>by subst z; rw [hg] at e; exact ao e
  rw [Gh.aX _ _ n]; exact x.ay a o (λz=>z.elim n h) e
 ·have n:a≠it:=λz=>by subst z; rw [hg] at e; exact ao e
  rw [Gh.aX _ _ n]; exact x.cell a i (λz=>z.elim n h) e
 ·by_cases n:a=it
  ·subst n; rw [Gh.bu,hg]
  ·rw [Gh.aX _ _ n]; exact x.aw a o λz=>z.elim n h
inductive dH (V:aq) (g:Gh) (Dd:Addr) (ds:List Mine.Lake.D):Prop
 |mk (vs:List Value) (k:Nat) (h1:g Dd=some (.aw (bO vs k))) (h2:aE V g ds vs) (h3:vs.length<=aD):dH V g Dd ds
theorem dH.mono {V:aq} {g g':Gh} (L:g.Le g') {D:Addr} (hp : ∀ o,g D=some (.aw o)->g' D=some (.aw o)) {ds:List Mine.Lake.D} (h:dH V g D ds):dH V g' D ds:=
 let ⟨vs,k,a,b,c⟩:=h; ⟨vs,k,hp _ a,b.mono L,c⟩
theorem dH.step {V:aq} {g g':Gh} (L:g.Step g') {D:Addr} {ds:List Mine.Lake.D} (h:dH V g D ds):dH V g' D ds:=h.mono L.toLe λo=>(L.aw D o).mp
noncomputable def l5 (V:aq) (F:aB) (D:Addr) (W:Tr Unit) (g:Gh) (s:Shared):aj Mine.Lake.D->Prop
 |.ok (.lst ds) st => ∀ (Q:Unit->Shared->Prop) (E:Value->Shared->Prop),(∀ g' s',Gh.bV D g g'->dH V g' D ds->ah V F st.m st.C g' s'->Q () s')->W Q E s
 |_=>True
section
variable {V:aq} {F:aB} {A:Around} {cl:Calls} {m:List (Option Mine.Lake.D)} {C:af} {g:Gh} {s:Shared}
set_option tactic.hygienic true in
theorem PT {D:Addr} {elt:Expr} {gens:List Comprehension} {scope:Scope} {pos:Pos} {depth:Nat} (hg:gens[depth+1]?=none) {c:Mine.Lake.E} (h:az V F A cl c elt) {acc:List Mine.Lake.D} (I:ah V F m C g s) (ha:dH V g D acc) :
  l5 V F D (kL V.M A elt gens scope pos depth (.ref D) F.env) g s (d9 V.P cl (λst=>ev V.P cl c st) .nil acc ⟨m,C⟩):=by
 show l5 _ _ _ _ _ _ ((ev V.P cl c ⟨m,C⟩).bind λx aa=>if acc.length<aD then .ok (.lst (acc++[x])) aa else .fail)
 have hs:=(h m C g s I).1
 induction ho:ev V.P cl c ⟨m,C⟩ with
 |fail=>trivial
 |exc _ _=>trivial
 |ok x st=>
  rw [ho] at hs
  show l5 _ _ _ _ _ _ (if acc.length<aD then aj.ok (Mine.Lake.D.lst (acc++[x])) st else .fail)
  split
  ·rename_i hz
   intro Q E q
   unfold kL
   rw [hg]
   dsimp only
   refine hs _ _ λg' v s' aC I' r=>?_
   obtain ⟨vs,k,hD,rs,hl⟩:=ha.step aC
   have kc:=I'.lN hD jc
   have hlen:=rs.length
   refine call_meets PySem.F.slot_list_append ⟨_,kc,rfl⟩ PySem.F.entry_list_append (PySem.F.args_list_append_2 _ _) (PySem.list_append D vs.toArray k v (d4 (by simpa using hl))) ⟨kc,?_⟩
   obtain ⟨k₁,eJ⟩:=Fc kc v
   have lq:Gh.bV D g (g'.put D (some (.aw (bO (vs++[v]) k₁)))):=(aC.but D).trans (Gh.bV.put D g' _)
   have L':g'.Le (g'.put D (some (.aw (bO (vs++[v]) k₁)))):=(Gh.bV.put D g' _).le hD
   exact q _ _ lq ⟨vs++[v],k₁,Gh.bu ..,(rs.mono L').append (.cons (r.mono L') .nil),by simp; omega⟩ (I'.oV (t:=s'.toks) hD jc ((Heap.SameBut.update s'.heap D (Obj.mapSeq (·.push v))).extBut) eJ)
  ·trivial
inductive uS (t:T) (tests:St->aj Mine.Lake.D) (inner:List Mine.Lake.D->St->aj Mine.Lake.D) (bc:af->af->Bool) (L:List Mine.Lake.D->List Mine.Lake.D->St->aj Mine.Lake.D) (d:Mine.Lake.D) (r acc:List Mine.Lake.D) (st:St) (x:Mine.Lake.D) (aC:St):Prop
 |mk (u:Unit) (aa:St) (b:Bool) (ae:St) (bk:List Mine.Lake.D) (aG:St) (h1:fF t d ⟨st.m++replicate t.width none,st.C⟩=.ok u aa) (h2:tests aa=.ok (.bool b) ae)
   (h3:(if b=true then inner acc ae else .ok (.lst acc) ae)=.ok (.lst bk) aG) (h4:bc st.C aG.C=true) (h5:L r bk ⟨aG.m.take st.m.length,aG.C⟩=.ok x aC):uS t tests inner bc L d r acc st x aC
set_option tactic.hygienic true in
theorem Sl {tests:St->aj Mine.Lake.D} {inner:List Mine.Lake.D->St->aj Mine.Lake.D} {acc:List Mine.Lake.D} {st aG:St} {x:Mine.Lake.D} (e:cw tests inner acc st=.ok x aG) : ∃ b ae,tests st=.ok (.bool b) ae/\(if b=true then inner acc ae else .ok (.lst acc) ae)=.ok x aG:=by
 unfold cw at e
 induction h:tests st with
 |fail=>rw [h] at e; exact cF e
 |exc _ _=>rw [h] at e; exact cF e
 |ok d ae=>
  rw [h] at e
  induction d using D.casesOn<;>first|(exact cF e; done)|skip
  rename_i b
  induction b<;>exact ⟨_,_,rfl,e⟩
set_option tactic.hygienic true in
theorem Kd {t:T} {tests:St->aj Mine.Lake.D} {inner:List Mine.Lake.D->St->aj Mine.Lake.D} {bc:af->af->Bool} {d:Mine.Lake.D} {r acc:List Mine.Lake.D} {st aC:St} {x:Mine.Lake.D} (e:dD t (cw tests inner) bc (d::r) acc st=.ok x aC) :
  uS t tests inner bc (dD t (cw tests inner) bc) d r acc st x aC:=by
 have e:(match fF t d ⟨st.m++replicate t.width none,st.C⟩ with
  |.ok _ aa=>match cw tests inner acc aa with
   |.ok (.lst bk) ae=>if bc st.C ae.C then dD t (cw tests inner) bc r bk ⟨ae.m.take st.m.length,ae.C⟩ else .fail
   |_=>.fail
  |_=>.fail)=.ok x aC:=e
 induction h1:fF t d ⟨st.m++replicate t.width none,st.C⟩ with
 |fail=>rw [h1] at e; exact cF e
 |exc _ _=>rw [h1] at e; exact cF e
 |ok u aa=>
  rw [h1] at e
  dsimp only at e
  induction h2:cw tests inner acc aa with
  |fail=>rw [h2] at e; exact cF e
  |exc _ _=>rw [h2] at e; exact cF e
  |ok y aG=>
   rw [h2] at e
   induction y using D.casesOn<;>first|(exact cF e; done)|skip
   rename_i bk
   dsimp only at e
   induction h4:bc st.C aG.C with
   |false=>rw [h4] at e; exact cF e
   |true=>
    rw [h4,if_pos rfl] at e
    obtain ⟨b,ae,a1,a2⟩:=Sl h2
    exact ⟨u,aa,b,ae,bk,aG,h1,a1,a2,h4,e⟩
inductive uN (V:aq) (F:aB) (it Dd:Addr) (g₀:Gh) (y:Mine.Lake.D) (items:List Mine.Lake.D) (loop:List Mine.Lake.D->List Mine.Lake.D->St->aj Mine.Lake.D) (ds:List Mine.Lake.D) (aC:St) (n:Nat) (s:Shared):Prop
 |mk (g1:Gh) (m1:List (Option Mine.Lake.D)) (C1:af) (i:Nat) (o:Obj) (nF:List Mine.Lake.D) (b1:Gh.Off (λa=>a=it\/a=Dd) g₀ g1) (i4:g1 it=some (.aw o)) (qi:cR V g1 (fG C1 y) items i y o) (mE:bU C1 y=some items)
   (og:dH V g1 Dd nF) (I1:ah V F m1 C1 g1 s) (hn:n=items.length+1 - i) (hle:i<=items.length) (e1:loop (items.drop i) nF ⟨m1,C1⟩=.ok (.lst ds) aC):uN V F it Dd g₀ y items loop ds aC n s
set_option tactic.hygienic true in
theorem Iu (hh:A.handled=none) (K:F.Ok) {D it:Addr} (iT:D≠it) {elt:Expr} {gens:List Comprehension} {scope:Scope} {pos:Pos} {depth:Nat} {target iter:Expr} {ifs:List Expr} (j7:gens[depth]?=some ⟨target,iter,ifs,0⟩)
  {c:aJ} {xs:List Str} (hc:(F.ext xs).ctx c) (hx : ∀ x∈xs,F.slots.lookup x=none) {T':T} (hT:l6 c target T') (hw:T'.width=xs.length) {tests:St->aj Mine.Lake.D} (qw : ∀ m C g s,ah V (F.ext xs) m C g s->ai V (F.ext xs) (λ_ (d:Mine.Lake.D) (b:Bool)=>d=.bool b) (wpAny V.M A (rt ifs F.env)) g s (tests ⟨m,C⟩))
  {inner:List Mine.Lake.D->St->aj Mine.Lake.D} (jC : ∀ acc m C g s,ah V (F.ext xs) m C g s->dH V g D acc->l5 V (F.ext xs) D (kL V.M A elt gens scope pos depth (.ref D) F.env) g s (inner acc ⟨m,C⟩))
  {y:Mine.Lake.D} {items:List Mine.Lake.D} {g₀:Gh} (mB:g₀ it=none) {g:Gh} {m:List (Option Mine.Lake.D)} {C:af} {s:Shared} {o:Obj} (qq:Gh.Off (λa=>a=it\/a=D) g₀ g) (hg:g it=some (.aw o)) (hi:cR V g (fG C y) items 0 y o) (hit:bU C y=some items) {acc:List Mine.Lake.D} (ha:dH V g D acc) (I:ah V F m C g s)
  {ds:List Mine.Lake.D} {aC:St} {L:List Mine.Lake.D->List Mine.Lake.D->St->aj Mine.Lake.D} (w5 : ∀ acc st,L [] acc st=.ok (.lst acc) st) (K1 : ∀ d r acc st,L (d::r) acc st=.ok (.lst ds) aC->uS T' tests inner (λC C'=>aW C C' y) L d r acc st (.lst ds) aC)
  (e:L items acc ⟨m,C⟩=.ok (.lst ds) aC) {R:Result->Shared->Prop}
  (fK : ∀ g' s',Gh.bV D g₀ g'->dH V g' D ds->ah V F aC.m aC.C g' s'->R (.ok .next) s') :
  codeAny V.M A (.compLoop (.ListComp elt gens scope pos) depth (.ref it) (.ref D) F.env) R s:=by
 refine Il j7 (uN V F it D g₀ y items L ds aC) (λn s hI=>?_) (items.length+1) ⟨g,m,C,0,o,acc,qq,hg,hi,hit,ha,I,rfl,zero_le _,e⟩
 obtain ⟨g1,m1,C1,i,o1,nF,b1,i4,qi,mE,og,I1,rfl,hle,e1⟩:=hI
 refine FE hh I1 i4 qi mE rfl (λd hd v o2 h2 t2 rd mD I2=>?_) λhn h2 I2=>?_
 ·have b7:i<items.length:=(List.getElem?_eq_some_iff.mp hd).1
  have wJ:items.drop i=d::items.drop (i+1):=by
   rw [List.drop_eq_getElem_cons b7]
   rw [getElem?_eq_getElem b7] at hd
   obtain rfl:=Option.some.inj hd; rfl
  rw [wJ] at e1
  dsimp only
  refine cps λQ0 k0=>?_
  obtain ⟨u,aa,b0,ae,bk,aG,CS,K9,Df,aO,e5⟩:=K1 _ _ _ _ e1
  have Lp:g1.Le (g1.put it (some (.aw o2))):=tK i4 _
  have j8:(g1.put it (some (.aw o2))) it=some (.aw o2):=Gh.bu ..
  have I3:=I2.extend K hx
  have bC:m1.length=F.base:=I1.fr.len
  rw [hw] at CS
  have hb:=PD (A:=A) hh (pT K hx) hc hT I3 rd
  rw [CS] at hb
  refine k0 (P2 I2 j8 mD (hb _ _ λg4 u' s4 q4 I4 u'=>?_))
  clear k0 hb
  refine cps λQ1 k1=>?_
  have b4:Gh.Off (λa=>a=it\/a=D) g₀ g4:=(b1.trans (Gh.Off.put (.inl rfl) g1 _)).trans (q4.off _)
  have sS:g4 it=some (.aw o2):=(q4.aw _ _).mp j8
  have KS:dH V g4 D nF:=(og.mono Lp λo h=>by rw [Gh.aX _ _ iT]; exact h).step q4
  have qw:=qw aa.m aa.C g4 s4 I4
  rw [show (⟨aa.m,aa.C⟩:St)=aa from rfl,K9] at qw
  have next : ∀ (g5:Gh) (s5:Shared),Gh.Off (λa=>a=it\/a=D) g₀ g5->g5 it=some (.aw o2)->g4.Le g5->dH V g5 D bk->ah V (F.ext xs) aG.m aG.C g5 s5->
    ∃ mm,mm<items.length+1 - i/\uN V F it D g₀ y items L ds aC mm s5:=λg5 s5 b5 sT Lm mx I5=>
   ⟨items.length+1 - (i+1),sub_lt_sub_left (lt_succ_of_lt b7) (lt_succ_self i),g5,aG.m.take m1.length,aG.C,i+1,o2,bk,b5,sT,by rw [Gb aO]; exact (mD.mono q4.toLe).mono Lm,Gd aO mE,mx,by rw [bC]; exact I5.Pf K hx,rfl,b7,e5⟩
  refine k1 (qw _ _ λg5 b s5 q5 I5 rb=>?_)
  cases (show Mine.Lake.D.bool b0=.bool b from rb)
  clear k1 qw
  have b5:=b4.trans (q5.off _)
  have sT:=(q5.aw _ _).mp sS
  have mx:=KS.step q5
  induction b0 with
  |false=>
   rw [if_neg (by decide)]
   cases Df
   exact next g5 s5 b5 sT q5.toLe mx I5
  |true=>
   rw [if_pos rfl]
   have hn:=jC nF ae.m ae.C g5 s5 I5 mx
   rw [show (⟨ae.m,ae.C⟩:St)=ae from rfl,show inner nF ae=_ from Df] at hn
   refine hn _ _ λg6 s6 b6 KU I6=>?_
   obtain ⟨Tw,k5,Kr,_⟩:=id mx
   exact next g6 s6 (b5.trans (b6.off (.inr rfl))) ((b6.aw it o2 iT.symm).mp sT) (q5.toLe.trans (b6.le Kr)) KU I6
 ·have LR:items.drop i=[]:=by rw [List.getElem?_eq_none_iff] at hn; exact List.drop_eq_nil_of_le hn
  rw [LR,w5] at e1
  cases e1
  have iS : ∀ o,g1 D=some (.aw o)->(g1.put it none) D=some (.aw o):=λo h=>by rw [Gh.aX _ _ iT]; exact h
  exact fK _ _ (b1.but mB) (og.mono (tK i4 none) iS) I2
theorem A0 (hh:A.handled=none) (K:F.Ok) {D it:Addr} (iT:D≠it) {elt:Expr} {gens:List Comprehension} {scope:Scope} {pos:Pos} {depth:Nat} {target iter:Expr} {ifs:List Expr} (j7:gens[depth]?=some ⟨target,iter,ifs,0⟩)
  {c:aJ} {xs:List Str} (hc:(F.ext xs).ctx c) (hx : ∀ x∈xs,F.slots.lookup x=none) {T':T} (hT:l6 c target T') (hw:T'.width=xs.length) {f:Expr->Mine.Lake.E} (Ln : ∀ e∈ifs,az V (F.ext xs) A cl (f e) e)
  {inner:List Mine.Lake.D->St->aj Mine.Lake.D} (jC : ∀ acc m C g s,ah V (F.ext xs) m C g s->dH V g D acc->l5 V (F.ext xs) D (kL V.M A elt gens scope pos depth (.ref D) F.env) g s (inner acc ⟨m,C⟩))
  {y:Mine.Lake.D} {items:List Mine.Lake.D} {g₀:Gh} (mB:g₀ it=none) {g:Gh} {m:List (Option Mine.Lake.D)} {C:af} {s:Shared} {o:Obj} (qq:Gh.Off (λa=>a=it\/a=D) g₀ g) (hg:g it=some (.aw o)) (hi:cR V g (fG C y) items 0 y o) (hit:bU C y=some items) {acc:List Mine.Lake.D} (ha:dH V g D acc) (I:ah V F m C g s)
  {ds:List Mine.Lake.D} {aC:St} (e:dD T' (cw (λae=>cW V.P cl (bX f ifs) ae) inner) (λC C'=>aW C C' y) items acc ⟨m,C⟩=.ok (.lst ds) aC) {R:Result->Shared->Prop}
  (fK : ∀ g' s',Gh.bV D g₀ g'->dH V g' D ds->ah V F aC.m aC.C g' s'->R (.ok .next) s') :
  codeAny V.M A (.compLoop (.ListComp elt gens scope pos) depth (.ref it) (.ref D) F.env) R s:=
 Iu hh K iT j7 hc hx hT hw (FP (A:=A) (F:=F.ext xs) Ln) jC mB qq hg hi hit ha I (λ_ _=>rfl) (λ_ _ _ _ e=>Kd e) e fK
end
theorem sF {it:Expr} {env:Env} (h:lD it=false) (x:Value):foldedSetIterable it env x=pure x:=by induction it using Expr.casesOn<;>first|rfl|exact fT h
section
variable {V:aq} {A:Around} {cl:Calls}
set_option tactic.hygienic true in
theorem AZ (B:V.Base) (hh:A.handled=none) {D:Addr} {elt:Expr} {gens:List Comprehension} {scope:Scope} {pos:Pos} {f:aJ->Expr->E} : ∀ (r:List Comprehension) (depth:Nat) (F:aB) (c:aJ) (G':Gs) (cz:aJ),(∀ i,gens[depth+1+i]?=r[i]?)->F.Ok->F.ctx c->
  nS f c r=some (G',cz)->(∀ (F':aB) (c':aJ) (e':Expr),F'.Ok->F'.ctx c'->F'.stack=F.stack->F'.env=F.env->az V F' A cl (f c' e') e')->∀ acc m C g s,ah V F m C g s->dH V g D acc->
  l5 V F D (kL V.M A elt gens scope pos depth (.ref D) F.env) g s (d9 V.P cl (λst=>ev V.P cl (f cz elt) st) G' acc ⟨m,C⟩)
 |[],depth,F,c,G',cz,hr,K,hc,hG,hE,acc,m,C,g,s,I,ha=>by
  cases hG
  exact PT (by have:=hr 0; simpa using this) (hE F c elt K hc rfl rfl) I ha
 |⟨t,it,ifs,a⟩::r,depth,F,c,G',cz,hr,K,hc,hG,hE,acc,m,C,g,s,I,ha=>by
  unfold nS at hG
  induction hx:o9 t with
  |none=>rw [hx] at hG; exact ao hG
  |some xs=>
   rw [hx] at hG
   dsimp only at hG
   split at hG
   ·rename_i hb
    simp only [and_eq_true,not_eq_true'] at hb
    obtain ⟨⟨wy,jB⟩,lp⟩:=hb
    have wu:a=0:=eq_of_beq wy
    subst wu
    obtain ⟨⟨G2,vD⟩,wj,Kw⟩:=cB hG
    cases Kw
    have i4:gens[depth+1]?=some ⟨t,it,ifs,0⟩:=by have:=hr 0; simpa using this
    have i6:=Ce hc lp
    obtain ⟨hT,hw⟩:=Gp hc hx lp
    have mz:=B0 hc xs
    have ih:=AZ B hh (D:=D) (elt:=elt) (gens:=gens) (scope:=scope) (pos:=pos) (f:=f) r (depth+1) (F.ext xs) (d7 c xs) G2 vD (λi=>by have:=hr (i+1); rw [show depth+1+1+i=depth+1+(i+1) from by omega]; simpa using this)
     (pT K i6) mz wj (λF' c' e' k1 k2 k3 k4=>hE F' c' e' k1 k2 k3 k4)
    show l5 V F D _ g s ((ev V.P cl (f c it) ⟨m,C⟩).bind λy aa=>match bU aa.C y with
     |some items=>dD (kq xs (jG t) c.base) (cw (λae=>cW V.P cl (bX (f (d7 c xs)) ifs) ae) (λacc ae=>d9 V.P cl (λst=>ev V.P cl (f vD elt) st) G2 acc ae)) (λC C'=>aW C C' y) items acc aa
     |none=>.fail)
    have hs:=(hE F c it K hc rfl rfl m C g s I).1
    induction ho:ev V.P cl (f c it) ⟨m,C⟩ with
    |fail=>trivial
    |exc _ _=>trivial
    |ok y aa=>
     rw [ho] at hs
     dsimp only [aj.bind]
     induction hi:bU aa.C y with
     |none=>trivial
     |some items=>
      dsimp only
      induction hl:dD (kq xs (jG t) c.base) (cw (λae=>cW V.P cl (bX (f (d7 c xs)) ifs) ae) (λacc ae=>d9 V.P cl (λst=>ev V.P cl (f vD elt) st) G2 acc ae)) (λC C'=>aW C C' y) items acc aa with
      |fail=>trivial
      |exc _ _=>trivial
      |ok dd aC=>
       cases dd<;>first|trivial|skip
       rename_i ds
       intro Q E q
       unfold kL
       rw [i4]
       dsimp only
       refine hs _ _ λg1 v s1 q1 I1 ry=>⟨rfl,sF jB v,?_⟩
       have bT:=I1.fw
       have og:=ha.step q1
       have iT:D≠s1.heap.objs.size:=λz=>by
        obtain ⟨vs,k,hD,_⟩:=og
        rw [z,bT] at hD; exact ao hD
       refine uu B I1 ry hi λo h' dT u' I2=>?_
       have hL:g1.Le (g1.put s1.heap.objs.size (some (.aw o))):=Gh.gm _ bT
       have j8:(g1.put s1.heap.objs.size (some (.aw o))) s1.heap.objs.size=some (.aw o):=Gh.bu ..
       have pY:dH V (g1.put s1.heap.objs.size (some (.aw o))) D acc:=og.mono hL λo' h=>by rw [Gh.aX _ _ iT]; exact h
       refine AU i4 (A0 hh K iT i4 mz i6 hT hw (f:=f (d7 c xs)) (λe u'=>hE (F.ext xs) (d7 c xs) e (pT K i6) mz rfl rfl) ih bT (Gh.Off.put (.inl rfl) g1 _) j8 (dT.mono hL) hi pY I2 hl λg' s' b' sM I'=>?_) (FF I2 j8 (dT.mono hL) ⟨rfl,rfl⟩)
       exact q g' s' ((q1.but D).trans b') sM I'
   ·exact ao hG
variable {F:aB} {m:List (Option Mine.Lake.D)} {C:af} {g:Gh} {s:Shared}
set_option tactic.hygienic true in
theorem Ir (B:V.Base) (hh:A.handled=none) (K:F.Ok) {c:aJ} (hc:F.ctx c) {elt:Expr} {t it:Expr} {ifs:List Expr} {r:List Comprehension} {sc:Scope} {pos:Pos} {f:aJ->Expr->E} (ok:hV c sc) {xs:List Str} (hx:o9 t=some xs) (hf:j4 (cV c sc) xs=true)
  {G':Gs} {cz:aJ} (hG:nS f (d7 (cV c sc) xs) r=some (G',cz))
  (hE : ∀ (F':aB) (c':aJ) (e':Expr),F'.Ok->F'.ctx c'->F'.stack=F.stack->F'.env.frame=F.env.frame->az V F' A cl (f c' e') e')
  (I:ah V F m C g s) {y:Mine.Lake.D} {v:Value} (ry:ab V g y v) {items:List Mine.Lake.D} (hi:bU C y=some items) {ds:List Mine.Lake.D} {aC:St}
  (hl:dD (kq xs (jG t) (cV c sc).base) (cw (λae=>cW V.P cl (bX (f (d7 (cV c sc) xs)) ifs) ae) (λacc ae=>d9 V.P cl (λst=>ev V.P cl (f cz elt) st) G' acc ae)) (λC C'=>aW C C' y) items [] ⟨m,C⟩=.ok (.lst ds) aC)
  {RR:Value->Addr->Result->Shared->Prop} {E:Value->Shared->Prop}
  (q : ∀ g' s' a vs k L M,g.Step g'->g' a=none->V.h₀.get? a=none->s'.heap.get? a=some (bO vs k)->aE V g' ds vs->vs.length<=aD->ah V F m aC.C g' s'->g' L=none->V.h₀.get? L=none->a≠L->s'.heap.Ns L M->RR (.ref a) L (.ok .next) s') :
  wpAny V.M A (pyIter v) (λxw s₂=>wpAny V.M A (newList []) (λacc s₃=>wpAny V.M A (newFunctionEnv sc F.env.globals (eC F.env.cells sc.names []) [] F.env.qual none .none (some F.env)) (λpH s₄=>
   codeAny V.M A (.compStart (.ListComp elt (⟨t,it,ifs,0⟩::r) sc pos) 0 xw acc {pH with scope:=relabel sc F.env}) (RR acc pH.locals) s₄) E s₃) E s₂) E s:=by
 have bT:=I.fw
 refine uu B I ry hi λo h2 dT Dj I2=>?_
 refine wpAny_newObj_type ?_
 have wg:(g.put s.heap.objs.size (some (.aw o))) h2.objs.size=none:=I2.fw
 have I3:=I2.more (t:=s.toks) (a:=h2.objs.size) (o:=bO [] 0) (x:=.aw (bO [] 0)) (h':=h2.push (bO [] 0)) (λu' u' h=>Heap.get?_push_of_some _ h) (Heap.get?_none_of_le (le_refl _)) (Heap.get?_push_size _ rfl) (.inr rfl)
 have iT:h2.objs.size≠s.heap.objs.size:=λz=>by
  rw [z,Gh.bu] at wg; cases wg
 have wV:g.Le (g.put s.heap.objs.size (some (.aw o))):=Gh.gm _ bT
 have dj:(g.put s.heap.objs.size (some (.aw o))).Le ((g.put s.heap.objs.size (some (.aw o))).put h2.objs.size (some (.aw (bO [] 0)))):=Gh.gm _ wg
 have Ni : ∀ b o,s.heap.get? b=some o->(h2.push (bO [] 0)).get? b=some o:=λb o' e=>Heap.get?_push_of_some _ (Dj b o' e)
 generalize j8:(g.put s.heap.objs.size (some (.aw o))).put h2.objs.size (some (.aw (bO [] 0)))=g3 at I3 dj
 have Cy:g3 s.heap.objs.size=some (.aw o):=by rw [<-j8,Gh.aX _ _ iT.symm]; exact Gh.bu ..
 have sI:g3 h2.objs.size=some (.aw (bO [] 0)):=by rw [<-j8]; exact Gh.bu ..
 have J8 : ∀ a,a≠s.heap.objs.size->a≠h2.objs.size->g3 a=g a:=λa h1 h3=>by rw [<-j8,Gh.aX _ _ h3,Gh.aX _ _ h1]
 generalize SX:s.heap.objs.size=fN at *
 generalize iS:h2.objs.size=D at *
 refine Oa ?_
 have I4:=It I3 K hc ok
 generalize tm:({s with heap:=h2.push (bO [] 0)}:Shared)=s3 at *
 have Me:s3.heap=h2.push (bO [] 0):=by rw [<-tm]
 have tH : ∀ b o,s.heap.get? b=some o->s3.heap.get? b=some o:=λb o' e=>by rw [Me]; exact Ni b o' e
 have oa:iJ s3 {s3 with heap:=pushCells (s3.heap.push {cls:=.type "dict",data:=.dict #[]}) sc.names} (br s3.heap.objs.size sc.names):=Cs s3.heap _ sc.names rfl rfl rfl
 have yB:=nc I3 oa
 have KJ:iJ s {s3 with heap:=pushCells (s3.heap.push {cls:=.type "dict",data:=.dict #[]}) sc.names} (br s3.heap.objs.size sc.names):=⟨λa x h=>(by
   have:=oa.new a x h
   induction q':s.heap.get? a with
   |none=>rfl
   |some o'=>rw [tH a o' q'] at this; cases this),oa.there,oa.kind⟩
 have RQ:=nc I KJ
 have KI:br s3.heap.objs.size sc.names fN=none:=oa.none I3 Cy
 have KG:br s3.heap.objs.size sc.names D=none:=oa.none I3 sI
 have Kb:Gh.over (br s3.heap.objs.size sc.names) (g.bB s.heap) fN=none:=by unfold Gh.over; rw [KI]; exact Gh.yw bT
 have gD:g D=none:=by
  induction q':g D with
  |none=>rfl
  |some x=>obtain ⟨o',cK⟩:=I.live D x q'; have:=Dj D o' cK; rw [<-iS,Heap.get?_none_of_le (le_refl _)] at this; cases this
 have Ka:Gh.over (br s3.heap.objs.size sc.names) (g.bB s.heap) D=none:=by unfold Gh.over; rw [KG]; exact Gh.yw gD
 have same : ∀ a,¬ (a=fN\/a=D)->Gh.over (br s3.heap.objs.size sc.names) (g3.bB s3.heap) a=Gh.over (br s3.heap.objs.size sc.names) (g.bB s.heap) a:=λa ha=>by
  have h1:=J8 a (λz=>ha (.inl z)) (λz=>ha (.inr z))
  unfold Gh.over Gh.bB
  rw [h1]
  induction br s3.heap.objs.size sc.names a with
  |some x=>rfl
  |none=>
   dsimp only
   split
   ·rename_i hq; obtain ⟨o',cK⟩:=I.live a _ hq; rw [cK,tH a o' cK]
   ·rename_i hq; obtain ⟨o',cK⟩:=I.live a _ hq; rw [cK,tH a o' cK]
   ·rfl
 have qq:Gh.Off (λa=>a=fN\/a=D) (Gh.over (br s3.heap.objs.size sc.names) (g.bB s.heap)) (Gh.over (br s3.heap.objs.size sc.names) (g3.bB s3.heap)):=
  ⟨λa o h e=>by rw [same a h]; exact e,λa o h e=>by rw [same a h]; exact e,λa o h=>by rw [same a h]⟩
 have CL:g.Le (Gh.over (br s3.heap.objs.size sc.names) (g3.bB s3.heap)):=wV.trans (dj.trans (Gh.tL.trans yB.toLe))
 have Cz:=(yB.aw _ _).mp (Gh.lU (h:=s3.heap) Cy)
 have J9:=(yB.aw _ _).mp (Gh.lU (h:=s3.heap) sI)
 have wG:(F.comp sc s3.heap.objs.size).ctx (cV c sc):=by
  obtain ⟨c1,c2,c3⟩:=hc
  exact ⟨rfl,by show c.slots.filter _=F.slots.filter _; rw [c2],c3⟩
 have Kc:=Iv (L:=s3.heap.objs.size) K hc ok
 have i6:=Ce wG hf
 obtain ⟨hT,hw⟩:=Gp wG hx hf
 have mz:=B0 wG xs
 have gL:g s3.heap.objs.size=none:=by
  induction q':g s3.heap.objs.size with
  |none=>rfl
  |some x=>obtain ⟨o',cK⟩:=I.live _ x q'; have:=tH _ o' cK; rw [Heap.get?_none_of_le (le_refl _)] at this; cases this
 have CG:D≠s3.heap.objs.size:=λz=>by
  obtain ⟨o',cK⟩:=I3.live _ _ sI
  rw [z,Heap.get?_none_of_le (le_refl _)] at cK; cases cK
 subst tm
 refine AU (env:=(F.comp sc _).env) rfl (A0 hh Kc (Ne.symm (λz=>iT z.symm)) rfl mz i6 hT hw (f:=f (d7 (cV c sc) xs)) (λe u'=>hE _ _ e (pT Kc i6) mz rfl rfl)
  (AZ B hh (elt:=elt) (gens:=⟨t,it,ifs,0⟩::r) (scope:=sc) (pos:=pos) (f:=f) r 0 _ _ G' cz (λi=>by rw [show 0+1+i=i+1 from by omega]; rfl) (pT Kc i6) mz hG (λF' c' e' k1 k2 k3 k4=>hE F' c' e' k1 k2 k3 (by rw [k4]; rfl)))
  Kb qq Cz (dT.mono CL) hi ⟨[],0,J9,.nil,zero_le _⟩ I4 hl λg5 s5 b5 mx I5=>?_) (FF I4 Cz (dT.mono CL) ⟨rfl,rfl⟩)
 obtain ⟨vs,k,we,rs,oy⟩:=mx
 obtain ⟨M5,KA,_⟩:=I5.fr.loc
 have I6:=I5.qR we jc
 have yD:=RQ.trans (b5.drop Ka)
 have I7:=I.leave yD I6
 have L7:=uk I yD
 have Kz:(g.dZ (g5.put D none)) ({s with heap:=h2.push (bO [] 0)}:Shared).heap.objs.size=none:=by
  rw [Gh.qS (by rw [gL]; simp) (by rw [gL]; simp),Gh.aX _ _ CG.symm]
  have:g5 ({s with heap:=h2.push (bO [] 0)}:Shared).heap.objs.size=some .locals:=I5.fr.here
  rw [this]
 have lh:(g.dZ (g5.put D none)) D=none:=by
  rw [Gh.qS (by rw [gD]; simp) (by rw [gD]; simp),Gh.bu]
 have Kk:V.h₀.get? ({s with heap:=h2.push (bO [] 0)}:Shared).heap.objs.size=none:=I3.CE (Heap.get?_none_of_le (le_refl _))
 have Kj:V.h₀.get? D=none:=I3.new _ _ sI
 exact q _ _ D vs k _ M5 (um I yD) lh Kj (I5.lN we jc) (rs.mono ((tK we none).trans L7)) oy I7 Kz Kk CG KA
end
section
variable {V:aq} {A:Around} {cl:Calls} {F:aB} {m:List (Option Mine.Lake.D)} {C:af} {g:Gh} {s:Shared}
set_option tactic.hygienic true in
theorem ah.zz (I:ah V F m C g s) {a:Addr} {o:Obj} {c:Ch} (hg:g a=none) (hn:V.h₀.get? a=none) (ho:s.heap.get? a=some o) (hc:kJ V (g.put a (some (.cell C.length))) c o) :
  ah V F m (C++[c]) (g.put a (some (.cell C.length))) s:=by
 have L:g.Le (g.put a (some (.cell C.length))):=Gh.gm _ hg
 have other : ∀ {b y},g b=some y->g.put a (some (.cell C.length)) b=some y:=λ{b y} e=>by
  rw [Gh.aX]; exact e; intro q; subst q; rw [hg] at e; exact ao e
 refine ⟨I.keep,λb y e=>?_,λb y e=>?_,λb o' e=>?_,λb o' e=>?_,λi c' e=>?_,λb c' i e e'=>?_,λb i e=>?_,?_,I.gens,I.os⟩
 ·rcases Gh.bE e with ⟨rfl,_⟩|⟨_,q⟩
  ·exact hn
  ·exact I.new b y q
 ·rcases Gh.bE e with ⟨rfl,_⟩|⟨_,q⟩
  ·exact ⟨o,ho⟩
  ·exact I.live b y q
 ·rcases Gh.bE e with ⟨rfl,q⟩|⟨_,q⟩
  ·cases q
  ·exact I.ay b o' q
 ·rcases Gh.bE e with ⟨rfl,q⟩|⟨_,q⟩
  ·cases q
  ·exact I.aw b o' q
 ·rw [List.getElem?_append] at e
  split at e
  ·obtain ⟨b,o',h1,h2,h3⟩:=I.cell i c' e
   exact ⟨b,o',other h1,h2,h3.mono L⟩
  ·rename_i hi
   have iq:i=C.length:=by
    induction hq:i - C.length using Nat.casesOn with
    |zero=>exact le_antisymm (Nat.le_of_sub_eq_zero hq) (not_lt.mp hi)
    |succ n=>rw [hq] at e; simp at e
   subst iq
   simp at e
   subst e
   exact ⟨a,o,Gh.bu ..,ho,hc⟩
 ·rcases Gh.bE e with ⟨rfl,q⟩|⟨_,q⟩
  ·cases q
   rcases Gh.bE e' with ⟨rfl,_⟩|⟨_,q'⟩
   ·rfl
   ·exact absurd (I.dB _ _ q') (lt_irrefl _)
  ·rcases Gh.bE e' with ⟨rfl,q'⟩|⟨_,q'⟩
   ·cases q'; exact absurd (I.dB _ _ q) (lt_irrefl _)
   ·exact I.uniq b c' i q q'
 ·rw [length_append]
  rcases Gh.bE e with ⟨rfl,q⟩|⟨_,q⟩
  ·cases q; simp
  ·exact lt_of_lt_of_le (I.dB b i q) (le_add_right ..)
 ·exact I.fr.mono L (λc e=>other e) (λc y e=>other e) (λc o e=>other e)
noncomputable def n8 (V:aq) (F:aB) (A:Around) (cl:Calls) (f:aJ->Expr->E):Prop := ∀ (F':aB) (c':aJ) (e':Expr),F'.Ok->F'.ctx c'->F'.stack=F.stack->F'.env.frame=F.env.frame->az V F' A cl (f c' e') e'
noncomputable def CH (V:aq) (F:aB) (A:Around) (elt:Expr) (gens:List Comprehension) (sc:Scope) (pos:Pos) (RR:Value->Addr->Result->Shared->Prop) (E:Value->Shared->Prop) (s:Shared):Prop:=match gens with
 |[]=>True
 |⟨t,it,ifs,a⟩::r=>a=0/\lD it=false/\wpAny V.M A (eval it F.env) (λv s₁=>wpAny V.M A (pyIter v) (λxw s₂=>wpAny V.M A (newList []) (λacc s₃=>wpAny V.M A (newFunctionEnv sc F.env.globals (eC F.env.cells sc.names []) [] F.env.qual none .none (some F.env)) (λpH s₄=>
   codeAny V.M A (.compStart (.ListComp elt (⟨t,it,ifs,0⟩::r) sc pos) 0 xw acc {pH with scope:=relabel sc F.env}) (RR acc pH.locals) s₄) E s₃) E s₂) E s₁) E s
noncomputable def y8 (V:aq) (F:aB) (g:Gh) (s:Shared) (W:(Value->Addr->Result->Shared->Prop)->(Value->Shared->Prop)->Prop):aj Mine.Lake.D->Prop
 |.ok d st => ∃ ds,d=.lst ds/\∀ RR E,(∀ g' s' a vs k L M,g.Step g'->g' a=none->V.h₀.get? a=none->s'.heap.get? a=some (bO vs k)->aE V g' ds vs->vs.length<=aD->ah V F st.m st.C g' s'->g' L=none->V.h₀.get? L=none->a≠L->s'.heap.Ns L M->RR (.ref a) L (.ok .next) s')->W RR E
 |.exc x st => ∀ RR E,(∀ g' e s',g.Step g'->gv V F x st g' e s'->E e s')->W RR E
 |.fail=>True
set_option tactic.hygienic true in
theorem yo (B:V.Base) (fJ:cl.fuel≠0->A.handled=none) (K:F.Ok) {c:aJ} (hc:F.ctx c) {elt:Expr} {gens:List Comprehension} {sc:Scope} {pos:Pos} {f:aJ->Expr->E} (ok:hV c sc) (hE:n8 V F A cl f) (I:ah V F m C g s) :
  y8 V F g s (λRR E=>gens≠[]/\CH V F A elt gens sc pos RR E s) (ev V.P cl (eV f (cV c sc) c elt gens) ⟨m,C⟩):=by
 induction gens using List.casesOn with
 |nil=>trivial
 |cons g0 r=>
  obtain ⟨t,it,ifs,a⟩:=g0
  unfold eV
  dsimp only
  induction hx:o9 t with
  |none=>trivial
  |some xs=>
   dsimp only
   split
   ·rename_i hb
    simp only [and_eq_true,not_eq_true'] at hb
    obtain ⟨⟨wy,jB⟩,lp⟩:=hb
    have wu:a=0:=eq_of_beq wy
    subst wu
    induction hG:nS f (d7 (cV c sc) xs) r with
    |none=>trivial
    |some p=>
     obtain ⟨G',cz⟩:=p
     dsimp only
     show y8 _ _ _ _ _ (if cl.fuel==0 then .fail else (ev V.P cl (f c it) ⟨m,C⟩).bind λy aa=>match bU aa.C y with
      |some items=>(match dD (kq xs (jG t) (cV c sc).base) (cw (λae=>cW V.P cl (bX (f (d7 (cV c sc) xs)) ifs) ae) (λacc ae=>d9 V.P cl (λaG=>ev V.P cl (f cz elt) aG) G' acc ae)) (λC C'=>aW C C' y) items [] aa with
       |.ok (.lst ds) ae=>.ok (.lst ds) ⟨aa.m,ae.C⟩
       |_=>.fail)
      |none=>.fail)
     split
     ·trivial
     rename_i hf
     have hh:A.handled=none:=fJ λz=>hf (by rw [z]; rfl)
     have hs:=(hE F c it K hc rfl rfl m C g s I).1
     induction ho:ev V.P cl (f c it) ⟨m,C⟩ with
     |fail=>trivial
     |exc x aa=>
      rw [ho] at hs
      exact λRR E q=>⟨by simp,rfl,jB,hs _ _ λg' e s' q1 hx=>q g' e s' q1 hx⟩
     |ok y aa=>
      rw [ho] at hs
      dsimp only [aj.bind]
      induction hi:bU aa.C y with
      |none=>trivial
      |some items=>
       dsimp only
       induction hl:dD (kq xs (jG t) (cV c sc).base) (cw (λae=>cW V.P cl (bX (f (d7 (cV c sc) xs)) ifs) ae) (λacc ae=>d9 V.P cl (λaG=>ev V.P cl (f cz elt) aG) G' acc ae)) (λC C'=>aW C C' y) items [] aa with
       |fail=>trivial
       |exc _ _=>trivial
       |ok dd ae=>
        induction dd using D.casesOn<;>first|trivial|skip
        rename_i ds
        refine ⟨ds,rfl,λRR E q=>⟨by simp,rfl,jB,hs _ _ λg1 v s1 q1 I1 ry=>?_⟩⟩
        exact Ir (f:=f) (cz:=cz) B hh K hc ok hx lp hG hE I1 ry hi hl λg' s' a vs k L M q2 h1 h2 h3 h4 h5 h6 h7 h8 h9 k8=>q g' s' a vs k L M (q1.trans q2) h1 h2 h3 h4 h5 h6 h7 h8 h9 k8
   ·trivial
theorem CH.toEval (K:F.Ok) {c:aJ} (hc:F.ctx c) {elt:Expr} {gens:List Comprehension} {sc:Scope} {pos:Pos} (ok:hV c sc) {Q:Value->Shared->Prop} {E:Value->Shared->Prop}
  (h:gens≠[]/\CH V F A elt gens sc pos (compPost V.M A E none Q) E s):wpAny V.M A (eval (.ListComp elt gens sc pos) F.env) Q E s:=by
 induction gens using List.casesOn with
 |nil=>exact absurd rfl h.1
 |cons g0 r=>
  obtain ⟨t,it,ifs,a⟩:=g0
  obtain ⟨_,rfl,jB,z⟩:=h
  rw [eval_ListComp]
  exact wpAny_comprehension_free (use:=none) rfl (sF jB) (AX K hc ok) ok.fn (λx hx hl=>jd ok.nodup (by rw [<-hl]; exact hx)) z
theorem F4 (B:V.Base) (fJ:cl.fuel≠0->A.handled=none) (K:F.Ok) {c:aJ} (hc:F.ctx c) {elt:Expr} {gens:List Comprehension} {sc:Scope} {pos:Pos} {f:aJ->Expr->E} (ok:hV c sc) (hE:n8 V F A cl f) :
  az V F A cl (eV f (cV c sc) c elt gens) (.ListComp elt gens sc pos):=.of rfl λm C g s I=>by
 have h:=yo (A:=A) (cl:=cl) (pos:=pos) B fJ K hc (elt:=elt) (gens:=gens) ok hE I
 induction ho:ev V.P cl (eV f (cV c sc) c elt gens) ⟨m,C⟩ with
 |fail=>trivial
 |exc x st=>rw [ho] at h; exact λQ E q=>CH.toEval K hc ok (h _ _ q)
 |ok d st=>
  rw [ho] at h
  obtain ⟨ds,rfl,h⟩:=h
  intro Q E q
  refine CH.toEval K hc ok (h _ _ λg' s' a vs k L M q1 h1 h2 h3 rs hl I' h4 h5 h6 h7=>⟨M,h7,λh' hs=>?_⟩)
  have I2:=I'.away (t:=s'.toks) h4 h5 hs
  have ae:g'.Step (g'.put a (some (.ay (bO vs k)))):=Gh.nv h1
  exact q _ _ _ (q1.trans ae) (I2.adopt h1 h2 ((hs.2 a h6).trans h3)) (.lst (Gh.bu ..) ⟨hl,k,rfl⟩ (rs.mono ae.toLe))
theorem Cr {f:aJ->Expr->E} {ci c:aJ} {elt:Expr} {gens:List Comprehension}:eV f ci c elt gens=.bad\/cO (eV f ci c elt gens)=true:=by
 unfold eV
 split
 ·exact .inl rfl
 ·split
  ·split
   ·split
    ·exact .inr rfl
    ·exact .inl rfl
   ·exact .inl rfl
  ·exact .inl rfl
theorem F0 (B:V.Base) (fJ:cl.fuel≠0->A.handled=none) (K:F.Ok) {c:aJ} (hc:F.ctx c) {elt:Expr} {gens:List Comprehension} {sc:Scope} {pos:Pos} {f:aJ->Expr->E} (ok:hV c sc) (hE:n8 V F A cl f) :
  dI V F A cl (eV f (cV c sc) c elt gens) (.ListComp elt gens sc pos):=λm C g s I=>by
 rcases Cr (f:=f) (ci:=cV c sc) (c:=c) (elt:=elt) (gens:=gens) with e|e
 ·rw [e]; trivial
 rw [e]
 have h:=yo (A:=A) (cl:=cl) (pos:=pos) B fJ K hc (elt:=elt) (gens:=gens) ok hE I
 induction ho:ev V.P cl (eV f (cV c sc) c elt gens) ⟨m,C⟩ with
 |fail=>trivial
 |exc x st=>rw [ho] at h; exact λQ E q=>CH.toEval K hc ok (h _ _ q)
 |ok d st=>
  rw [ho] at h
  obtain ⟨ds,rfl,h⟩:=h
  intro Q E q
  refine CH.toEval K hc ok (h _ _ λg' s' a vs k L M q1 h1 h2 h3 rs hl I' h4 h5 h6 h7=>⟨M,h7,λh' hs=>?_⟩)
  have I2:=I'.away (t:=s'.toks) h4 h5 hs
  have ae:g'.Step (g'.put a (some (.cell st.C.length))):=Gh.rj h1
  have hlen:=rs.length
  exact q _ _ _ (q1.trans ae) (I2.zz (c:=.list ds) h1 h2 ((hs.2 a h6).trans h3) ⟨vs,⟨hl,k,rfl⟩,rs.mono ae.toLe⟩) (.loc (Gh.bu ..))
theorem R5 {elt:Expr} {gens:List Comprehension} {sc:Scope} {pos xp:Pos} {x:Str} {n:Nat} {env:Env}:swapsWith (.ListComp elt gens sc pos) (some (.Name x xp)) n env=pure false\/(swapsWith (.ListComp elt gens sc pos) (some (.Name x xp)) n env=pure true/\env.kindOf x=some .local):=by
 unfold swapsWith
 dsimp only
 induction h:(env.blockKind==.function&&env.kindOf x==some .local&&xp.line==(Expr.ListComp elt gens sc pos).pos.line&&!(sc.names.any λ(n,k)=>n==x&&(k==.local||k==.cell))) with
 |false=>exact .inl rfl
 |true=>
  refine .inr ⟨rfl,?_⟩
  simp only [and_eq_true] at h
  exact eq_of_beq h.1.1.2
theorem CH.toUsed (K:F.Ok) {c:aJ} (hc:F.ctx c) {elt:Expr} {gens:List Comprehension} {sc:Scope} {pos xp p:Pos} {x:Str} (ok:hV c sc) {Q:Flow->Shared->Prop} {E:Value->Shared->Prop} (lB:swapsWith (.ListComp elt gens sc pos) (some (.Name x xp)) p.line F.env=pure true)
  (h:gens≠[]/\CH V F A elt gens sc pos (compPost V.M A E (some (assign (.Name x xp) F.env)) (λu' s'=>Q .next s')) E s):wpAny V.M A (exec (.Assign [.Name x xp] (.ListComp elt gens sc pos) p) F.env) Q E s:=by
 induction gens using List.casesOn with
 |nil=>exact absurd rfl h.1
 |cons g0 r=>
  obtain ⟨t,it,ifs,a⟩:=g0
  obtain ⟨_,rfl,jB,z⟩:=h
  rw [exec_Assign_Name_used _ _ _ _ lB]
  refine wpAny_bind (wpAny_standAt (wpAny_bind ?_))
  show wpAny _ A (do let _ <-comprehension (.ListComp elt (⟨t,it,ifs,0⟩::r) sc pos) sc F.env _ (newList []) false (eval it F.env) (some (assign (.Name x xp) F.env))) _ _ s
  exact wpAny_bind (wpAny_mono (wpAny_comprehension_free (use:=some (assign (.Name x xp) F.env)) (Q:=λu' s'=>Q .next s') rfl (sF jB) (AX K hc ok) ok.fn (λx hx hl=>jd ok.nodup (by rw [<-hl]; exact hx)) z) (λu' s' hq=>wpAny_pure (wpAny_pure hq)) λu' u' e=>e)
set_option tactic.hygienic true in
theorem QZ (B:V.Base) (fJ:cl.fuel≠0->A.handled=none) (K:F.Ok) {c:aJ} (hc:F.ctx c) {x:Str} {xp p:Pos} {k:Nat} (hk:dz c x=some k) {mu:Bool} {elt:Expr} {gens:List Comprehension} {sc:Scope} {pos:Pos} {f:aJ->Expr->E} (ok:hV c sc) (hE:n8 V F A cl f) :
  aM V F A cl (.aN k mu (eV f (cV c sc) c elt gens)) (.Assign [.Name x xp] (.ListComp elt gens sc pos) p):=λm C g s I=>by
 rcases R5 (elt:=elt) (gens:=gens) (sc:=sc) (pos:=pos) (xp:=xp) (x:=x) (n:=p.line) (env:=F.env) with lB|⟨lB,wY⟩
 ·refine ai.seq (yq (mu:=mu) (F4 B fJ K hc ok hE) (F0 B fJ K hc ok hE) I) (λQ E x=>wpAny_Assign_Name x lB) λd st g₁ s₁ v u' u' I₁ r=>?_
  exact ai.seq (nj (A:=A) K I₁ hc hk r) (λu' u' x=>x) (K:=λu' Q E s=>Q .next s) λu' u' g₂ s₂ u' u' u' I₂ u'=>λQ E q=>q _ _ _ (.refl _) I₂ .next
 ·show ai _ _ (d5 V) _ _ _ (((ev V.P cl (eV f (cV c sc) c elt gens) ⟨m,C⟩).bind λx aa=>fZ (mu&&cO (eV f (cV c sc) c elt gens)) x aa).bind λd ae=>(ft k d ae).bind λu' aG=>(aj.ok Fl.next aG:aj Fl))
  rcases Cr (f:=f) (ci:=cV c sc) (c:=c) (elt:=elt) (gens:=gens) with e|e
  ·rw [e]; trivial
  rw [e,Bool.and_true]
  have h:=yo (A:=A) (cl:=cl) (pos:=pos) B fJ K hc (elt:=elt) (gens:=gens) ok hE I
  have wi:F.names.lookup x=some .local:=by
   unfold dz at hk
   rw [hc.1] at hk
   induction hx:F.names.lookup x with
   |none=>rw [hx] at hk; exact ao hk
   |some kd=>
    rw [hx] at hk
    induction kd using NameKind.casesOn<;>first|rfl|exact ao hk|skip
    have:=K.kinds x _ hx
    have this:F.env.kindOf x=some .cell:=this
    rw [wY] at this; cases this
  have Kv:F.slots.lookup x=some k:=by
   unfold dz at hk
   rw [hc.1,wi] at hk; rw [<-hc.2.1]; exact hk
  induction ho:ev V.P cl (eV f (cV c sc) c elt gens) ⟨m,C⟩ with
  |fail=>trivial
  |exc x st=>rw [ho] at h; exact λQ E q=>CH.toUsed K hc ok lB (h _ _ q)
  |ok d st=>
   rw [ho] at h
   obtain ⟨ds,rfl,h⟩:=h
   have fin : ∀ (d':Mine.Lake.D) (aC:St),aC.m=st.m->(∀ g' s' a vs k,g' a=none->V.h₀.get? a=none->s'.heap.get? a=some (bO vs k)->aE V g' ds vs->vs.length<=aD->ah V F st.m st.C g' s'->∃ g2,g'.Step g2/\(∀ L,L≠a->g2 L=g' L)/\ah V F aC.m aC.C g2 s'/\ab V g2 d' (.ref a))->
     ai V F (d5 V) (wpAny V.M A (exec (.Assign [.Name x xp] (.ListComp elt gens sc pos) p) F.env)) g s ((ft k d' aC).bind λu' aG=>(aj.ok Fl.next aG:aj Fl)):=by
    intro d' aC hm dF
    unfold ft
    split
    ·intro Q E q
     refine CH.toUsed K hc ok lB (h _ _ λg' s' a vs kk L M q1 h1 h2 h3 rs hl I' h4 h5 h6 h7=>?_)
     obtain ⟨g2,q2,Mg,I2,r2⟩:=dF g' s' a vs kk h1 h2 h3 rs hl I'
     obtain ⟨Mf,CM,hr⟩:=I2.fr.loc
     show wpAny _ _ (assign (.Name x xp) F.env (.ref a)) _ _ _
     refine wpAny_assign_Name (wpAny_storeName_local (K.kinds x _ wi) CM (λh' hn hs=>?_) (by rw [K.fn]; rfl))
     have Ky:L≠F.env.locals:=λz=>by
      have:=I'.fr.here
      rw [z] at h4; rw [this] at h4; exact kD h4
     have I3:=I2.localSet (t:=s'.toks+1) K wi Kv CM hr hn hs r2
     refine ⟨M,h7.sameBut hs Ky,λSS Mb=>?_⟩
     have I4:=I3.away (t:=s'.toks+1) (T:=L) (by rw [Mg L h6.symm]; exact h4) h5 Mb
     exact q _ _ _ (q1.trans q2) I4 .next
    ·trivial
   induction mu with
   |false=>
    refine fin (.lst ds) st rfl λg' s' a vs k h1 h2 h3 rs hl I'=>?_
    have ae:g'.Step (g'.put a (some (.ay (bO vs k)))):=Gh.nv h1
    exact ⟨_,ae,λL hL=>Gh.aX _ _ hL,I'.adopt h1 h2 h3,.lst (Gh.bu ..) ⟨hl,k,rfl⟩ (rs.mono ae.toLe)⟩
   |true=>
    refine fin (.loc st.C.length) ⟨st.m,st.C++[.list ds]⟩ rfl λg' s' a vs k h1 h2 h3 rs hl I'=>?_
    have ae:g'.Step (g'.put a (some (.cell st.C.length))):=Gh.rj h1
    exact ⟨_,ae,λL hL=>Gh.aX _ _ hL,I'.zz (c:=.list ds) h1 h2 h3 ⟨vs,⟨hl,k,rfl⟩,rs.mono ae.toLe⟩,.loc (Gh.bu ..)⟩
theorem QY (B:V.Base) (au:V.c7) {o:Expr} {attr:Str} {n:Nm} {ap p:Pos} (hn:c6 attr=some n) {mu:Bool} {a b:E} {e:Expr} (lB:swapsWith e (some (.Attribute o attr ap)) p.line F.env=pure false) (h:az V F A cl a e) (hC:dI V F A cl a e) (ho:az V F A cl b o) :
  aM V F A cl (.cU b n mu a) (.Assign [.Attribute o attr ap] e p):=λm C g s I=>by
 have e1:=mZ hn
 subst e1
 refine ai.seq (yq (mu:=mu) h hC I) (λQ E x=>plainObj_wpAny_Assign_Attribute x lB) λd st g₁ s₁ v u' u' I₁ r=>?_
 refine ai.seq (ho _ _ _ _ I₁).1 (λu' u' x=>x) λy bP g₂ s₂ ov u' q₂ I₂ ry=>?_
 exact ai.seq (FL (A:=A) B au I₂ ry (r.mono q₂.toLe)) (λu' u' x=>x) (K:=λu' Q E s=>Q .next s) λu' u' g₃ s₃ u' u' u' I₃ u'=>λQ E q=>q _ _ _ (.refl _) I₃ .next
end
theorem D6 {α:Type} : ∀ {ks:List Str} {vs:List α} {i:Nat} {k:Str} {v:α},ks.Nodup->ks[i]?=some k->vs[i]?=some v->(ks.zip vs).lookup k=some v
 |[],_,_,_,_,_,h,_=>by exact ao h
 |_::_,[],_,_,_,_,_,h=>by exact ao h
 |a::ks,b::vs,0,k,v,_,h1,h2=>by obtain rfl:=Option.some.inj h1; obtain rfl:=Option.some.inj h2; rw [List.zip_cons_cons,lookup_cons]; simp
 |a::ks,b::vs,i+1,k,v,hn,h1,h2=>by
  rw [nodup_cons] at hn
  have hm:k∈ks:=mem_of_getElem? (by simpa using h1)
  rw [List.zip_cons_cons,lookup_cons,beq_false_of_ne (λz:k=a=>hn.1 (by rw [<-z]; exact hm))]
  exact D6 hn.2 (by simpa using h1) (by simpa using h2)
theorem qF {α:Type} {l:List (Str × α)} {k:Str} (h:k ∉ l.map (·.1)):l.lookup k=none:=
 xD λa z=>h (mem_map_of_mem (f:=Prod.fst) z)
theorem pe {α:Type} : ∀ (ks:List Str) (vs:List α),(ks.zip vs).map (·.1)=ks.take vs.length
 |[],_=>by simp
 |_::_,[]=>by simp
 |k::ks,v::vs=>by simp [pe ks vs]
theorem vU {α β:Type} {f:α->Option β} : ∀ {l:List α} {r:List β},l.length=r.length->(∀ (i:Nat) (a:α) (b:β),l[i]?=some a->r[i]?=some b->f a=some b)->l.filterMap f=r
 |[],[],_,_=>rfl
 |a::l,b::r,hl,h=>by
  rw [List.filterMap_cons,h 0 a b rfl rfl]
  exact congrArg (b :: ·) (vU (by simpa using hl) λi x y e1 e2=>h (i+1) x y e1 e2)
 |[],_::_,hl,_=>by cases hl
 |_::_,[],hl,_=>by cases hl
section
variable {M:Model} {A:Around} {E:Value->Shared->Prop} {s:Shared}
theorem vZ {α β γ:Type} {l:List α} {body:α->β->Sem (ForInStep β)} {K:β->Sem γ} {b0 X:β} (F:List α->β) {Q:γ->Shared->Prop} (h0:b0=F l) (hX:F []=X)
  (step : ∀ x rest done,l=done++x::rest->∀ {Q'},Q' (.yield (F rest)) s->wpAny M A (body x (F (x::rest))) Q' E s) (k:wpAny M A (K X) Q E s):wpAny M A (forIn l b0 body >>= K) Q E s:=by
 subst h0 hX
 refine wpAny_bind (wpAny_forIn_list _ (λrest acc s'=>(∃ done,l=done++rest)/\acc=F rest/\s'=s) _ (λx rest acc s' hI=>?_) (λacc s' hI=>?_) l _ ⟨⟨[],rfl⟩,rfl,rfl⟩)
 ·obtain ⟨⟨done,e⟩,rfl,rfl⟩:=hI
  exact step x rest done e ⟨⟨done++[x],by rw [e,append_assoc]; rfl⟩,rfl,rfl⟩
 ·obtain ⟨_,rfl,rfl⟩:=hI
  exact k
theorem o8 {α:Type} {l done rest:List α} (e:l=done++rest):l.take (l.length - rest.length)=done:=by
 rw [e,length_append,Nat.add_sub_cancel,take_left' rfl]
theorem u9 {p d v:Nat} (h:p - v<=d):p - d<=v:=Nat.sub_le_iff_le_add.mpr (add_comm d v ▸ Nat.sub_le_iff_le_add.mp h)
theorem zE {p d v j:Nat} (h:p - v<=d) (hj:j<p - d):j<v:=lt_of_lt_of_le hj (u9 h)
theorem Ha {p d:Nat} (h:d<=p):p - (p - d)<=d:=le_of_eq (Nat.sub_sub_self h)
theorem Hb {p d v i:Nat} (h:p - v<=d) (h2:v<=i):p - d+(i - (p - d))=i:=Nat.add_sub_cancel' (le_trans (u9 h) h2)
theorem Hc {p d v:Nat} (hm:p - v<=d):p=min p (min p v+(d - (d - (p - v)))):=by
 rw [Nat.sub_sub_self hm]
 rcases Nat.le_total v p with h|h
 ·rw [Nat.min_eq_right h,Nat.add_sub_cancel' h,Nat.min_self]
 ·rw [min_eq_left h,Nat.sub_eq_zero_of_le h,Nat.add_zero,Nat.min_self]
theorem Hd {p d v i:Nat} (hi:i<p) (hv : ¬ i<v) (h:d<=p) (hm:p - v<=d):d - (p - v)+(i - min p v)=i - (p - d):=by
 have hv:=le_of_not_lt hv
 have h1:=u9 hm
 rw [Nat.min_eq_right (le_of_lt (lt_of_le_of_lt hv hi))]
 obtain ⟨e,rfl⟩:=Nat.exists_eq_add_of_le h
 rw [add_sub_cancel_left] at h1 ⊢
 obtain ⟨f,rfl⟩:=Nat.exists_eq_add_of_le h1
 obtain ⟨g,rfl⟩:=Nat.exists_eq_add_of_le hv
 rw [add_sub_cancel_left,add_assoc,add_sub_cancel_left,add_comm d,Nat.add_sub_add_left,Nat.sub_sub_self]
 exact Nat.le_of_add_le_add_left (le_of_lt (lt_of_le_of_lt (le_add_right _ g) (add_comm d e ▸ hi)))
section
variable {P NK:List Str} {vs dl:List Value} {ax:List (Str × Value)}
theorem Hx (gG:P.Nodup) {i:Nat} {k:Str} {v:Value} (h1:P[i]?=some k) (h2:vs[i]?=some v):(P.zip vs++ax).lookup k=some v:=kn (D6 gG h1 h2)
theorem Hz (gG:P.Nodup) (hk:ax.map (·.1)=NK) (iY : ∀ k∈NK,k ∉ P) {i:Nat} {k:Str} (h1:P[i]?=some k) (h2:vs.length<=i):(P.zip vs++ax).lookup k=none:=by
 refine qF λz=>?_
 rw [map_append,pe,mem_append] at z
 rcases z with z|z
 ·obtain ⟨j,hj⟩:=mem_iff_getElem?.mp z
  have Dh:j<vs.length:=(lt_min.mp (length_take ▸ (List.getElem?_eq_some_iff.mp hj).1)).1
  rw [getElem?_take,if_pos Dh] at hj
  exact not_lt.mpr h2 ((List.getElem?_inj (List.getElem?_eq_some_iff.mp h1).1 gG (j:=j)).mp (h1.trans hj.symm) ▸ Dh)
 ·rw [hk] at z; exact iY _ z (mem_of_getElem? h1)
theorem HA (hk:ax.map (·.1)=NK) (iY : ∀ k∈NK,k ∉ P) {k:Str} (iw:k∈NK):((P.zip vs++ax).lookup k).isSome=true:=by
 rw [mW (qF λz=>iY k iw (by rw [pe] at z; exact mem_of_mem_take z))]
 rw [<-hk] at iw
 obtain ⟨p,hp,rfl⟩:=mem_map.mp iw
 obtain ⟨b,hb⟩:=lJ (x:=p.1) (a:=p.2) hp
 rw [hb]; rfl
theorem HB (hd:dl.length<=P.length) (hm:P.length - vs.length<=dl.length) {S:List (Str × Value)} {i:Nat} {k:Str} {v:Value} (h1:P[i]?=some k) (h3:(vs.take P.length++dl.drop (dl.length - (P.length - vs.length)))[i]?=some v)
  (t1:vs[i]?=some v->S.lookup k=some v) (t2:vs.length<=i->dl[i - (P.length - dl.length)]?=some v->S.lookup k=some v):S.lookup k=some v:=by
 have hi:=(List.getElem?_eq_some_iff.mp h1).1
 by_cases qk:i<vs.length
 ·rw [getElem?_append_left (by rw [length_take]; exact lt_min.mpr ⟨hi,qk⟩),getElem?_take,if_pos hi] at h3
  exact t1 h3
 ·rw [getElem?_append_right (by rw [length_take]; exact le_trans (Nat.min_le_right _ _) (le_of_not_lt qk)),length_take,List.getElem?_drop,Hd hi qk hd hm] at h3
  exact t2 (le_of_not_lt qk) h3
theorem HC (hd:dl.length<=P.length) (hm:P.length - vs.length<=dl.length) (ly:NK.Nodup) (hk:ax.map (·.1)=NK) {S:List (Str × Value)}
  (t1 : ∀ (i:Nat) (k:Str) (v:Value),P[i]?=some k->vs[i]?=some v->S.lookup k=some v) (t2 : ∀ (i:Nat) (k:Str) (v:Value),P[i]?=some k->vs.length<=i->dl[i - (P.length - dl.length)]?=some v->S.lookup k=some v)
  (t3 : ∀ k∈NK,S.lookup k=ax.lookup k):(P++NK).filterMap (λn=>(S.lookup n).map λx=>(n,x))=P.zip (vs.take P.length++dl.drop (dl.length - (P.length - vs.length)))++ax:=by
 rw [List.filterMap_append]
 congr 1
 ·refine vU (by rw [List.length_zip,length_append,length_take,length_drop]; exact Hc hm) λi k b h1 h2=>?_
  have h2:=List.getElem?_zip_eq_some.mp h2
  obtain rfl:=Option.some.inj (h1.symm.trans h2.1)
  rw [HB hd hm h1 h2.2 (t1 i _ _ h1) (t2 i _ _ h1)]; rfl
 ·rw [<-hk,List.filterMap_map]
  refine vU rfl λi p b h1 h2=>?_
  obtain rfl:=Option.some.inj (h1.symm.trans h2)
  have cf:p∈ax:=mem_of_getElem? h1
  show (S.lookup p.1).map _=some p
  rw [t3 p.1 (hk ▸ mem_map_of_mem cf),jd (a:=p.2) (hk ▸ ly) cf]
  rfl
theorem HD (ly:NK.Nodup) (hk:ax.map (·.1)=NK) (iY : ∀ k∈NK,k ∉ P) {x:Str × Value} {rest done:List (Str × Value)} (e1:ax=done++x::rest):x.1∈NK/\(P.zip vs++done).lookup x.1=none:=by
 rw [e1,map_append,map_cons] at hk
 have jD:x.1∈NK:=hk ▸ mem_append_right _ (.head _)
 refine ⟨jD,qF λz=>?_⟩
 rw [map_append,pe,mem_append] at z
 rcases z with z|z
 ·exact iY _ jD (mem_of_mem_take z)
 ·rw [<-hk,nodup_append] at ly
  exact ly.2.2 x.1 z x.1 (.head _) rfl
theorem HE {D G:List (Str × Value)} (lh:(D.map (·.1)).Nodup) {x:Str × Value} {rest done:List (Str × Value)} (e1:D=done++x::rest):((G++done.filter λp=>(G.lookup p.1).isNone).lookup x.1).isNone=(G.lookup x.1).isNone:=by
 induction q:G.lookup x.1 with
 |some v=>rw [kn q]
 |none=>
  rw [mW q,qF λz=>?_]
  obtain ⟨p,hp,he⟩:=mem_map.mp z
  rw [e1,map_append,nodup_append] at lh
  exact lh.2.2 p.1 (mem_map_of_mem (mem_filter.mp hp).1) x.1 (.head _) he
theorem zW (gG:P.Nodup) (hd:dl.length<=P.length):(((P.drop (P.length - dl.length)).zip dl).map (·.1)).Nodup:=by
 rw [pe,List.take_of_length_le (by rw [length_drop]; exact Ha hd)]
 exact gG.sublist (List.drop_sublist _ _)
theorem HF (gG:P.Nodup) (hd:dl.length<=P.length) (hm:P.length - vs.length<=dl.length) {G:List (Str × Value)} (s2 : ∀ (i:Nat) (k:Str),P[i]?=some k->vs.length<=i->G.lookup k=none) {i:Nat} {k:Str} {v:Value} (h1:P[i]?=some k) (h2:vs.length<=i)
  (h3:dl[i - (P.length - dl.length)]?=some v):(G++((P.drop (P.length - dl.length)).zip dl).filter (λp=>(G.lookup p.1).isNone)).lookup k=some v:=by
 rw [mW (s2 i k h1 h2)]
 refine jd ((zW gG hd).sublist (List.Sublist.map _ List.filter_sublist)) (mem_filter.mpr ⟨mem_iff_getElem?.mpr ⟨i - (P.length - dl.length),?_⟩,by show (G.lookup k).isNone=true; rw [s2 i k h1 h2]; rfl⟩)
 rw [List.getElem?_zip_eq_some,List.getElem?_drop,Hb hm h2]
 exact ⟨h1,h3⟩
theorem Hy (hm:P.length - vs.length<=dl.length) {G:List (Str × Value)} (s1 : ∀ (i:Nat) (k:Str) (v:Value),P[i]?=some k->vs[i]?=some v->G.lookup k=some v):(!((P.take (P.length - dl.length)).filter λn=>(G.lookup n).isNone).isEmpty)=true->False:=by
 intro q
 rw [not_eq_true',<-not_eq_true,isEmpty_iff,filter_eq_nil_iff] at q
 refine q λk iw=>?_
 obtain ⟨j,hj⟩:=mem_iff_getElem?.mp iw
 have wR:j<P.length - dl.length:=(lt_min.mp (length_take ▸ (List.getElem?_eq_some_iff.mp hj).1)).1
 rw [getElem?_take,if_pos wR] at hj
 rw [s1 j k (vs[j]'(zE hm wR)) hj (getElem?_eq_getElem (zE hm wR))]
 exact Bool.false_ne_true
end
theorem zZ {fd:FuncData} {vs dl:List Value} {ax:List (Str × Value)} {Q:List (Str × Value)->Shared->Prop} {P NK:List Str} (hP:fd.params.posonlyargs.map (·.arg)++fd.params.args.map (·.arg)=P) (KH:fd.params.kwonlyargs.map (·.arg)=NK)
  (qn:fd.params.kwarg=none) (iz:(P++NK).Nodup) (hk:ax.map (·.1)=NK) (C8:vs.length<=P.length\/fd.params.vararg.isSome=true) (hd:dl.length<=P.length) (hm:P.length - vs.length<=dl.length)
  (w9 : ∃ o:Option (Array Value),(o.getD #[]).toList=dl/\∀ (Q:Option (Array Value)->Shared->Prop),Q o s->wpAny M A (seqItems? fd.defaults) Q E s)
  (h:match fd.params.vararg with
   |some a=>wpAny M A (newTuple (vs.drop P.length)) (λt s'=>Q (P.zip (vs.take P.length++dl.drop (dl.length - (P.length - vs.length)))++ax++[(a.arg,t)]) s') E s
   |none=>Q (P.zip (vs.take P.length++dl.drop (dl.length - (P.length - vs.length)))++ax) s):wpAny M A (bindArgs fd ⟨vs,ax⟩) Q E s:=by
 subst hP KH
 obtain ⟨o,ho,w9⟩:=w9
 have iY : ∀ k∈fd.params.kwonlyargs.map (·.arg),k ∉ fd.params.posonlyargs.map (·.arg)++fd.params.args.map (·.arg):=λk hk hp=>(nodup_append.mp iz).2.2 k hp k hk rfl
 have gG:=(nodup_append.mp iz).1
 have ly:=(nodup_append.mp iz).2.1
 have b6:=λx rest done=>HD (vs:=vs) (x:=x) (rest:=rest) (done:=done) ly hk iY
 have s1:=λi k v=>Hx (ax:=ax) (vs:=vs) gG (i:=i) (k:=k) (v:=v)
 have s2:=λi k=>Hz (vs:=vs) gG hk iY (i:=i) (k:=k)
 have s3:=λk=>HA (vs:=vs) hk iY (k:=k)
 have s4 : ∀ k∈fd.params.kwonlyargs.map (·.arg),((fd.params.posonlyargs.map (·.arg)++fd.params.args.map (·.arg)).zip vs++ax).lookup k=ax.lookup k:=λk iw=>mW (qF λz=>iY k iw (by rw [pe] at z; exact mem_of_mem_take z))
 obtain ⟨G,hG⟩ : ∃ G,(fd.params.posonlyargs.map (·.arg)++fd.params.args.map (·.arg)).zip vs++ax=G:=⟨_,rfl⟩
 rw [hG] at s1 s2 s3 s4
 have t2:=λi k v=>HF (i:=i) (k:=k) (v:=v) gG hd hm s2
 have lh:=zW gG hd
 have m0:=Hy hm s1
 subst ho
 obtain ⟨D,hD⟩ : ∃ D,((fd.params.posonlyargs.map (·.arg)++fd.params.args.map (·.arg)).drop ((fd.params.posonlyargs.map (·.arg)++fd.params.args.map (·.arg)).length - (o.getD #[]).toList.length)).zip (o.getD #[]).toList=D:=⟨_,rfl⟩
 rw [hD] at t2 lh
 obtain ⟨S2,hS⟩ : ∃ S2,G++D.filter (λp=>(G.lookup p.1).isNone)=S2:=⟨_,rfl⟩
 rw [hS] at t2
 have t1 : ∀ (i:Nat) (k:Str) (v:Value),(fd.params.posonlyargs.map (·.arg)++fd.params.args.map (·.arg))[i]?=some k->vs[i]?=some v->S2.lookup k=some v:=λi k v h1 h2=>hS ▸ kn (s1 i k v h1 h2)
 have t3 : ∀ k∈fd.params.kwonlyargs.map (·.arg),S2.lookup k=G.lookup k:=λk iw=>by
  obtain ⟨v,hv⟩:=isSome_iff_exists.mp (s3 k iw)
  rw [hv,<-hS]; exact kn hv
 have fin:=HC hd hm ly hk t1 t2 λk iw=>(t3 k iw).trans (s4 k iw)
 have Se : ¬(vs.length > (fd.params.posonlyargs.map (·.arg)++fd.params.args.map (·.arg)).length&&fd.params.vararg.isNone)=true:=by
  rw [and_eq_true,decide_eq_true_eq]
  rintro ⟨z1,z2⟩
  rcases C8 with z|z
  ·exact not_lt.mpr z z1
  ·rw [isNone_iff_eq_none] at z2; rw [z2] at z; exact bA z
 have d0:(o.getD #[]).toList.drop ((o.getD #[]).toList.length - (fd.params.posonlyargs.map (·.arg)++fd.params.args.map (·.arg)).length)=(o.getD #[]).toList:=by rw [Nat.sub_eq_zero_of_le hd,drop_zero]
 have first : ∀ x rest done,ax=done++x::rest->ax.take (ax.length - rest.length)=done++[x]:=λx rest done e1=>o8 (by rw [e1,append_assoc]; rfl)
 have second : ∀ x rest done,D=done++x::rest->((G++(D.take (D.length - (x::rest).length)).filter (λp=>(G.lookup p.1).isNone)).lookup x.1).isNone=(G.lookup x.1).isNone:=λx rest done e1=>by rw [o8 e1]; exact HE lh e1
 have Sa : ∀ x rest done,D=done++x::rest->(D.take (D.length - rest.length)).filter (λp=>(G.lookup p.1).isNone)=(D.take (D.length - (x::rest).length)).filter (λp=>(G.lookup p.1).isNone)++(if (G.lookup x.1).isNone then [x] else []):=λx rest done e1=>by
  rw [o8 e1,o8 (l:=D) (done:=done++[x]) (rest:=rest) (by rw [e1,append_assoc]; rfl),List.filter_append,filter_cons]; rfl
 have iS:=hD
 rw [<-d0] at m0 iS
 clear iz iY gG ly s1 s2 t1 t2 lh s4 C8 hd hm d0
 refine vZ (X:=(G,[])) (λrest=>((fd.params.posonlyargs.map (·.arg)++fd.params.args.map (·.arg)).zip vs++ax.take (ax.length - rest.length),[])) (by rw [sub_self,take_zero,append_nil]) (by rw [length_nil,sub_zero,List.take_length,hG]) (λx rest done e1 Q' hq=>?_) ?_
 ·obtain ⟨jD,i5⟩:=b6 x rest done e1
  refine DH (by rw [or_eq_true]; exact .inr (contains_iff_mem.mpr jD)) ?_
  refine oE (by rw [o8 e1,i5]; decide) ?_
  rw [first x rest done e1,<-append_assoc,<-o8 e1] at hq
  exact wpAny_pure hq
 refine wpAny_bind (w9 _ (oE Se (oE m0 (vZ (X:=S2) (λrest=>G++(D.take (D.length - rest.length)).filter (λp=>(G.lookup p.1).isNone)) ?_ ?_ (λx rest done e1 Q' hq=>?_) (vZ (X:=(S2,[])) (λu'=>(S2,[])) rfl rfl (λx rest done e1 Q' hq=>oE ?_ (wpAny_pure hq)) (oE Bool.false_ne_true ?_))))))
 ·rw [iS,sub_self,take_zero,List.filter_nil,append_nil]
 ·rw [length_nil,sub_zero,List.take_length]; exact hS
 ·have e1:=iS.symm.trans e1
  have j9:=second x rest done e1
  rw [Sa x rest done e1,<-append_assoc] at hq
  induction q:(G.lookup x.1).isNone with
  |true=>
   rw [if_pos q] at hq
   exact DH (j9.trans q) (wpAny_pure hq)
  |false=>
   rw [if_neg (by rw [q]; exact Bool.false_ne_true),append_nil] at hq
   exact oE (by rw [j9,q]; exact Bool.false_ne_true) (wpAny_pure hq)
 ·have jD:x∈fd.params.kwonlyargs.map (·.arg):=by rw [e1]; exact mem_append_right _ (.head _)
  obtain ⟨v,hv⟩:=isSome_iff_exists.mp (s3 x jD)
  rw [t3 x jD,hv]; exact Bool.false_ne_true
 ·dsimp only
  rw [fin,qn]
  induction hv:fd.params.vararg with
  |some a=>
   rw [hv] at h
   exact wpAny_bind (wpAny_mono h (λt du q=>wpAny_pure q) λu' u' x=>x)
  |none=>
   rw [hv] at h
   exact wpAny_pure h
end
structure cI (V:aq) (G:aV) (F:aB) (A:Around) (cl:Calls) (n:Nat):Prop where
 O:V.Ok G
 B:V.Base
 au:V.c7
 dE:V.l0
 GE:G.Exc
 d8:lX V
 C:fV V cl n
 K:F.Ok
 A:fA F A cl n 1
section
variable {V:aq} {G:aV} {F:aB} {A:Around} {cl:Calls} {n:Nat}
theorem cI.calls (H:cI V G F A cl n):rK V F A cl:=let ⟨L,hf⟩:=H.K.frame; QU H.B H.au H.dE H.C H.K hf H.A (le_refl _)
theorem cI.other (H:cI V G F A cl n) {F':aB} (K:F'.Ok) (hs:F'.stack=F.stack):cI V G F' A cl n:=
 ⟨H.O,H.B,H.au,H.dE,H.GE,H.d8,H.C,K,⟨by rw [hs]; exact H.A.frames,H.A.depth,H.A.units,H.A.calm⟩⟩
theorem Oj {V:aq} {n:Nat}:fV V je n:=⟨λu' u' u' u' u'=>rfl,λu'=>by intros; trivial⟩
theorem cI.held (H:cI V G F A cl n) (e:Value):cI V G F (A.mark (some e)) je n:=
 ⟨H.O,H.B,H.au,H.dE,H.GE,H.d8,Oj,H.K,G6 H.A e⟩
theorem Rx {i:Int} {k:Nat} {p q:Pos}:az V F A cl (.cst (.int (-i))) (.UnaryOp .USub (.Constant (.int i) k p) q):=.of rfl λm C g s I Q E q=>by
 refine wpAny_UnaryOp (wpAny_mkInt ?_)
 exact PyProof.Rows.neg_int (q g _ _ (.refl g) ((I.tok _).tok _) (.int _ _))
theorem Nj {ks:List Keyword} (h:(ks.all λk=>(k.arg.bind c6).isSome)=true) : ∀ k∈ks,∃ n,k.arg.bind c6=some n:=λk hk=>isSome_iff_exists.mp (all_eq_true.mp h k hk)
theorem az.dw {α:Type} {o:Option α} {f:α->E} {e:Expr} (h : ∀ x,o=some x->az V F A cl (f x) e):az V F A cl (Mine.Lake.dw o f) e:=by
 induction o with
 |none=>exact az.bad
 |some x=>exact h x rfl
theorem az.dU {b:Bool} {c:E} {e:Expr} (h:b=true->az V F A cl c e):az V F A cl (Mine.Lake.dU b c) e:=by
 induction b with
 |false=>exact az.bad
 |true=>exact h rfl
theorem k7 {α:Type} {o:Option α} {f:α->E} (h : ∀ x,cO (f x)=false):cO (dw o f)=false:=by
 induction o with
 |none=>rfl
 |some x=>exact h x
theorem n6 {b:Bool} {c:E} (h:cO c=false):cO (dU b c)=false:=by
 induction b with
 |false=>rfl
 |true=>exact h
theorem ub {α:Type} {l:List α} {x:α} (h:qN l=some x):l=[x]:=by
 match l with
 |[]=>exact ao h
 |[y]=>rw [Option.some.inj h]
 |_::_::_=>exact ao h
theorem t4 {e:Expr} {x:Str} (h:fS e=some x) : ∃ p,e=.Name x p:=by
 induction e using Expr.casesOn<;>first|exact ao h|exact ⟨_,by rw [Option.some.inj h]⟩
theorem zM {e:Expr} {p:Expr × Str × Pos} (h:nJ e=some p):e=.Attribute p.1 p.2.1 p.2.2:=by
 induction e using Expr.casesOn<;>first|exact ao h|(obtain rfl:=Option.some.inj h; rfl)
theorem Ho {e:Expr} (h:nJ e=none):tB e=false:=by
 induction e using Expr.casesOn<;>first|exact kD h|rfl
theorem Gj {e:Expr} {p:Expr × Expr} (h:yG e=some p) : ∃ q,e=.Subscript p.1 p.2 q:=by
 induction e using Expr.casesOn<;>first|exact ao h|(obtain rfl:=Option.some.inj h; exact ⟨_,rfl⟩)
theorem QK {e:Expr} {p:Option Expr × Option Expr × Option Expr} (h:uz e=some p) : ∃ q,e=.Slice p.1 p.2.1 p.2.2 q:=by
 induction e using Expr.casesOn<;>first|exact ao h|(obtain rfl:=Option.some.inj h; exact ⟨_,rfl⟩)
set_option tactic.hygienic true in
theorem N7 {e:Expr} {i:Int} (h:Em e=some i) : ∃ k p,e=.Constant (.int i) k p:=by
 induction e using Expr.casesOn<;>first|exact ao h|skip
 rename_i a k p
 induction a using Const.casesOn<;>first|exact ao h|exact ⟨k,p,by rw [Option.some.inj h]⟩
section
variable {f:Expr->E}
theorem Rg (H:cI V G F A cl n) (ih : ∀ e,az V F A cl (f e) e) {l:Expr} {ops:List CmpOp} {rs:List Expr} {p:Pos}:az V F A cl (AM f l ops rs) (.Compare l ops rs p):=az.dw λop h1=>az.dw λr h2=>by
 obtain rfl:=ub h1
 obtain rfl:=ub h2
 exact az.dU λh=>Rf H.B H.A (by simpa using h) (ih l) (ih _)
theorem RJ (ih : ∀ e,az V F A cl (f e) e) {op:UnaryOp} {x:Expr} {p:Pos}:az V F A cl (yL f op x) (.UnaryOp op x p):=by
 induction op using UnaryOp.casesOn<;>first|exact az.bad|skip
 ·exact Rz (ih x)
 ·exact az.dw λi h=>let ⟨k,q,e⟩:=N7 h; e ▸ Rx
theorem RF (ih : ∀ e,az V F A cl (f e) e) {v i:Expr} {p:Pos}:az V F A cl (rm f v i) (.Subscript v i p):=by
 unfold rm
 induction h:uz i with
 |none=>exact Ro (ih v) (ih _)
 |some q=>
  obtain ⟨lo,hi,st⟩:=q
  obtain ⟨q,rfl⟩:=QK h
  exact az.dU λh=>by
   obtain rfl:=isNone_iff_eq_none.mp h
   exact RE (ih v) (λe u'=>ih e) (λe u'=>ih e)
theorem Ru (H:cI V G F A cl n) (ih : ∀ e,az V F A cl (f e) e) {o:Expr} {a:Str} {apos pos:Pos} {args:List Expr} {ks:List Keyword}:az V F A cl (Ee f o a apos args ks pos) (.Call (.Attribute o a apos) args ks pos):=az.dU λh=>by
 simp only [and_eq_true,not_eq_true',decide_eq_true_eq] at h
 obtain ⟨⟨⟨h1,h2⟩,h3⟩,h4⟩:=h
 obtain rfl:=isEmpty_iff.mp h2
 exact az.dw λb hb=>az.dw λp hs=>by
  obtain ⟨ps,st⟩:=p
  induction st with
  |none=>
   obtain ⟨rfl,kb⟩:=Ga hs
   exact Rt H.B H.au H.dE H.C H.K H.A h1 hb kb h3 h4 (ih o) λx u'=>ih x
  |some e=>exact Rv H.B H.au H.dE H.C H.K H.A h1 hb hs h3 (ih o) λx u'=>ih x
theorem RC (H:cI V G F A cl n) (ih : ∀ e,az V F A cl (f e) e) (jE : ∀ e,dI V F A cl (f e) e) {fe:Expr} (hf:tB fe=false) {args:List Expr} {ks:List Keyword} {pos:Pos}:az V F A cl (E6 G f fe args ks) (.Call fe args ks pos):=az.dU λh=>by
 rw [and_eq_true,and_eq_true,not_eq_true',not_eq_true'] at h
 refine Rc H.calls hf (ih _) (fD.EN 0 h.1.2 λi e u'=>?_) (λk u'=>ih k.value) (Nj h.2)
 unfold zF
 induction AD G fe i with
 |true=>exact λm C g s I=>jE e m C g s I
 |false=>exact (ih e).val
theorem Rd (H:cI V G F A cl n) (ih : ∀ e,az V F A cl (f e) e) (jE : ∀ e,dI V F A cl (f e) e) {fe:Expr} {args:List Expr} {ks:List Keyword} {pos:Pos}:az V F A cl (pF G f fe args ks pos) (.Call fe args ks pos):=by
 unfold pF
 induction h:nJ fe with
 |none=>exact RC H ih jE (Ho h)
 |some p=>
  obtain ⟨o,a,apos⟩:=p
  obtain rfl:=zM h
  exact Ru H ih
end
theorem Ar (k:Nat) (dm : ∀ {F:aB} {A:Around} {cl:Calls} {n:Nat},cI V G F A cl n->∀ {c:aJ},F.ctx c->∀ (e:Expr),az V F A cl (cE G k c e) e)
  (tw : ∀ {F:aB} {A:Around} {cl:Calls} {n:Nat},cI V G F A cl n->∀ {c:aJ},F.ctx c->∀ (e:Expr),dI V F A cl (cE G k c e) e)
  {F:aB} {A:Around} {cl:Calls} {n:Nat} (H:cI V G F A cl n) {c:aJ} (hc:F.ctx c) (e:Expr):az V F A cl (cE G (k+1) c e) e:=by
  have ih : ∀ e,az V F A cl (cE G k c e) e:=dm H hc
  have jE : ∀ e,dI V F A cl (cE G k c e) e:=tw H hc
  have xm:n8 V F A cl (cE G k):=λF' c' e' K' qb fL CY=>dm (H.other K' fL) qb e'
  induction e using Expr.casesOn with
  |Constant a b p=>exact Ri
  |Name x p=>exact Rw H.O H.K hc
  |BinOp l op r p=>exact az.dw λo h=>Ra h (ih l) (ih r)
  |Compare l ops rs p=>exact Rg H ih
  |UnaryOp op x p=>exact RJ ih
  |BoolOp op es p=>
   induction op using BoolOp.casesOn
   ·exact QV λe u'=>ih e
   ·exact RA λe u'=>ih e
  |IfExp t a b p=>exact Rq (ih t) (ih a) (ih b)
  |List es p=>exact Rr λe u'=>ih e
  |Tuple es a p=>exact RI λe u'=>ih e
  |Dict ks vs p=>
   exact az.dU λh=>by
    obtain ⟨h1,h2⟩:=and_eq_true_iff.mp h
    obtain rfl:=isEmpty_iff.mp h1
    obtain rfl:=isEmpty_iff.mp h2
    exact Rl
  |Subscript v i p=>exact RF ih
  |ListComp elt gens sc p=>exact az.dU λh=>F4 H.B H.A.calm H.K hc (vA h) xm
  |Attribute v a p=>exact az.dU λh=>az.dw λb hb=>Q8 H.B H.au (by simpa using h) hb (ih v)
  |NamedExpr t v p=>exact az.dw λx hx=>az.dw λj hj=>let ⟨q,e⟩:=t4 hx; e ▸ RK H.K hc hj (ih v)
  |Call f args ks pos=>exact Rd H ih jE
  |_=>exact az.bad
theorem JT (k:Const):cO (r8 k)=false:=by induction k using Const.casesOn<;>rfl
theorem JU {c:aJ} {x:Str}:cO (oQ G c x)=false:=by
 unfold oQ
 induction c.names.lookup x with
 |none=>rfl
 |some k=>induction k using NameKind.casesOn<;>first|rfl|(induction c.slots.lookup x<;>rfl)|(induction G.glob.lookup x<;>rfl)
theorem JW {f:Expr->E} {op:UnaryOp} {x:Expr}:cO (yL f op x)=false:=by
 induction op using UnaryOp.casesOn<;>first|rfl|exact k7 λu'=>rfl
theorem JV {f:Expr->E} {v i:Expr}:cO (rm f v i)=false:=by
 unfold rm
 induction uz i with
 |none=>rfl
 |some p=>exact n6 rfl
theorem JS {f:Expr->E} {fe:Expr} {args:List Expr} {ks:List Keyword} {pos:Pos}:cO (pF G f fe args ks pos)=false:=by
 unfold pF
 induction nJ fe with
 |none=>exact n6 rfl
 |some p=>exact n6 (k7 λu'=>k7 λp=>by obtain ⟨ps,st⟩:=p; induction st<;>rfl)
theorem HT (k:Nat) (dm : ∀ {F:aB} {A:Around} {cl:Calls} {n:Nat},cI V G F A cl n->∀ {c:aJ},F.ctx c->∀ (e:Expr),az V F A cl (cE G k c e) e)
  (tw : ∀ {F:aB} {A:Around} {cl:Calls} {n:Nat},cI V G F A cl n->∀ {c:aJ},F.ctx c->∀ (e:Expr),dI V F A cl (cE G k c e) e)
  {F:aB} {A:Around} {cl:Calls} {n:Nat} (H:cI V G F A cl n) {c:aJ} (hc:F.ctx c) (e:Expr):dI V F A cl (cE G (k+1) c e) e:=by
  have ih : ∀ e,az V F A cl (cE G k c e) e:=dm H hc
  have jE : ∀ e,dI V F A cl (cE G k c e) e:=tw H hc
  have xm:n8 V F A cl (cE G k):=λF' c' e' K' qb fL CY=>dm (H.other K' fL) qb e'
  have key:cO (cE G (k+1) c e)=false->dI V F A cl (cE G (k+1) c e) e:=λh=>dI.of h (Ar k dm tw H hc e)
  induction e using Expr.casesOn with
  |Constant a b p=>exact key (JT a)
  |Name x p=>exact key JU
  |BinOp l op r p=>
   by_cases h:jh op=some .add
   ·obtain rfl:=EU h
    exact QS (ih l) (ih r)
   ·refine key ?_
    show cO (dw (jh op) λo=>.bin o (cE G k c l) (cE G k c r))=false
    induction ho:jh op with
    |none=>rfl
    |some o=>induction o using Op.casesOn<;>first|rfl|exact absurd ho h
  |List es p=>exact QT λe u'=>ih e
  |ListComp elt gens sc p=>
   show dI V F A cl (dU (me c sc) (eV (cE G k) (cV c sc) c elt gens)) _
   induction h:me c sc with
   |true=>exact F0 H.B H.A.calm H.K hc (vA h) xm
   |false=>exact λu' u' u' u' u'=>trivial
  |BoolOp op es p=>
   induction op using BoolOp.casesOn
   ·match es with
    |[]=>exact λu' u' u' u' u'=>trivial
    |[e]=>exact λm C g s I=>jE e m C g s I
    |_::_::_=>exact key rfl
   ·match es with
    |[]=>exact λu' u' u' u' u'=>trivial
    |[e]=>exact λm C g s I=>jE e m C g s I
    |_::_::_=>exact key rfl
  |Compare l ops rs p=>exact key (k7 λu'=>k7 λu'=>n6 rfl)
  |UnaryOp op x p=>exact key JW
  |Dict ks vs p=>exact key (n6 rfl)
  |Subscript v i p=>exact key JV
  |Attribute v a p=>exact key (n6 (k7 λu'=>rfl))
  |NamedExpr t v p=>exact key (k7 λu'=>k7 λu'=>rfl)
  |Call f args ks pos=>exact key JS
  |_=>exact key rfl
theorem gC : ∀ (k:Nat),(∀ {F:aB} {A:Around} {cl:Calls} {n:Nat},cI V G F A cl n->∀ {c:aJ},F.ctx c->∀ (e:Expr),az V F A cl (cE G k c e) e)/\
  (∀ {F:aB} {A:Around} {cl:Calls} {n:Nat},cI V G F A cl n->∀ {c:aJ},F.ctx c->∀ (e:Expr),dI V F A cl (cE G k c e) e)
 |0=>⟨λu' u' u' u'=>az.bad,λu' u' u' u' u' u' u' u' u'=>trivial⟩
 |k+1=>⟨Ar k (gC k).1 (gC k).2,HT k (gC k).1 (gC k).2⟩
end
section
variable {V:aq} {G:aV} {F:aB} {A:Around} {cl:Calls} {n:Nat}
theorem cT.all {f:Stmt->S} : ∀ {ts:List Stmt},(∀ t,aM V F A cl (f t) t)->cT V F A cl (ib f ts) ts
 |[],_=>Ry
 |t::ts,h=>Rh (h t) (cT.all h)
theorem Ot {e o:Expr} {attr:Str} {ap:Pos} {n:Nat} {env:Env}:swapsWith e (some (.Attribute o attr ap)) n env=pure false:=by induction e using Expr.casesOn<;>rfl
theorem aM.bL {α:Type} {o:Option α} {f:α->S} {t:Stmt} (h : ∀ x,o=some x->aM V F A cl (f x) t):aM V F A cl (Mine.Lake.bL o f) t:=by
 induction o with
 |none=>exact aM.bad
 |some x=>exact h x rfl
theorem aM.dM {b:Bool} {c:S} {t:Stmt} (h:b=true->aM V F A cl c t):aM V F A cl (Mine.Lake.dM b c) t:=by
 induction b with
 |false=>exact aM.bad
 |true=>exact h rfl
theorem KV {h:ExceptHandler} {p:Expr × Option Str × List Stmt} (e:CQ h=some p) : ∃ q,h=.ExceptHandler (some p.1) p.2.1 p.2.2 q:=by
 induction h using ExceptHandler.casesOn
 obtain ⟨x,rfl,rfl⟩:=cB e
 exact ⟨_,rfl⟩
section
variable {f:Expr->E} {c:aJ}
set_option tactic.hygienic true in
theorem Q5 (H:cI V G F A cl n) (hc:F.ctx c) {k:Nat} {x:Str} {xp p:Pos} {j:Nat} {mu:Bool} (hj:dz c x=some j) (e:Expr):aM V F A cl (.aN j mu (cE G k c e)) (.Assign [.Name x xp] e p):=by
 induction sP:ki e with
 |false=>exact QW H.K hc hj sP ((gC k).1 H hc e) ((gC k).2 H hc e)
 |true=>
  induction k using Nat.casesOn with
  |zero=>exact λm C g s I=>trivial
  |succ k'=>
   induction e using Expr.casesOn<;>first|exact bA sP|(exact λm C g s I=>trivial)|skip
   rename_i elt gens sc pos
   show aM V F A cl (.aN j mu (dU (me c sc) (eV (cE G k') (cV c sc) c elt gens))) _
   induction h:me c sc with
   |true=>exact QZ H.B H.A.calm H.K hc hj (vA h) λF' c' e' K' qb fL CY=>(gC k').1 (H.other K' fL) qb e'
   |false=>exact λm C g s I=>trivial
theorem QX (H:cI V G F A cl n) (hc:F.ctx c) {k:Nat} {t e:Expr} {p:Pos}:aM V F A cl (zI G c (cE G k c) t e) (.Assign [t] e p):=by
 have dm : ∀ e,az V F A cl (cE G k c e) e:=(gC k).1 H hc
 have jE : ∀ e,dI V F A cl (cE G k c e) e:=(gC k).2 H hc
 induction t using Expr.casesOn<;>first|exact aM.bad|skip
 ·exact aM.dM λh=>aM.bL λb hb=>QY H.B H.au hb Ot (dm e) (jE e) (dm _)
 ·exact aM.dM λh=>Q2 (by simpa using h) (dm e) (dm _) (dm _)
 ·exact aM.bL λj hj=>Q5 H hc hj e
 ·exact aM.dM λh=>aM.bL λns hn=>by
   rw [and_eq_true,not_eq_true',not_eq_true'] at h
   exact Q7 H.K H.A.calm hc hn h.2 h.1 (dm e)
theorem Q6 (H:cI V G F A cl n) (hc:F.ctx c) {k:Nat} {ts:List Expr} {e:Expr} {p:Pos}:aM V F A cl (zJ G c (cE G k c) ts e) (.Assign ts e p):=by
 match ts with
 |[]=>exact aM.bad
 |[t]=>exact QX H hc
 |[t,u]=>
  exact aM.bL λq hq=>aM.bL λx hx=>aM.bL λj hj=>by
   obtain ⟨_,rfl⟩:=Gj hq
   obtain ⟨_,rfl⟩:=t4 hx
   exact Q4 H.K hc hj ((gC k).1 H hc e) ((gC k).1 H hc _) ((gC k).1 H hc _)
 |_::_::_::_=>exact aM.bad
theorem RH (H:cI V G F A cl n) {outer:List Env} (aO:F.stack=F.env::outer) (hc:F.ctx c) {k:Stmt->S} (ih : ∀ t,aM V F A cl (k t) t) (xn : ∀ e t,aM V F (A.mark (some e)) je (k t) t)
  {b orelse fin:List Stmt} {hs:List ExceptHandler} {p:Pos}:aM V F A cl (Gu c (ib k) b hs (orelse.isEmpty&&fin.isEmpty)) (.Try b hs orelse fin p):=aM.dM λh0=>aM.bL λh hh=>aM.bL λq hq=>aM.bL λx hx=>aM.dM λhn=>by
 obtain ⟨h1,h2⟩:=and_eq_true_iff.mp h0
 obtain rfl:=isEmpty_iff.mp h1
 obtain rfl:=isEmpty_iff.mp h2
 obtain rfl:=ub hh
 obtain ⟨_,rfl⟩:=KV hq
 obtain ⟨t,nm,rn⟩:=q
 obtain ⟨_,e⟩:=t4 hx
 dsimp only at e hn ⊢
 subst e
 rw [and_eq_true,not_eq_true'] at hn
 induction rn using List.casesOn with
 |nil=>exact fT hn.2
 |cons b₀ rn=>
  induction nm with
  |none=>exact RG H.O H.K H.GE H.d8 H.A.frames aO hc hn.1 (cT.all ih) λe=>cT.all (xn e)
  |some y=>exact aM.bad
end
theorem rX : ∀ (k:Nat) {F:aB} {A:Around} {cl:Calls} {n:Nat} {outer:List Env},cI V G F A cl n->F.stack=F.env::outer->∀ {c:aJ},F.ctx c->∀ (t:Stmt),aM V F A cl (cS G k c t) t
 |0,_,_,_,_,_,_,_,_,_,_=>aM.bad
 |k+1,F,A,cl,n,outer,H,aO,c,hc,t=>by
  have ih : ∀ t,aM V F A cl (cS G k c t) t:=rX k H aO hc
  have xn : ∀ e t,aM V F (A.mark (some e)) je (cS G k c t) t:=λe=>rX k (H.held e) aO hc
  have dm : ∀ e,az V F A cl (cE G k c e) e:=(gC k).1 H hc
  have hN:rH V F A:=OA H.A.frames aO
  have hB:rD V F A:=Hv
  induction t using Stmt.casesOn with
  |Pass p=>exact RB
  |Break p=>exact Rb
  |Continue p=>exact Rj
  |Expr e p=>exact aM.dM λh=>Rm H.K (by simpa using h) (dm e)
  |Return v p=>exact aM.bL λe h=>h ▸ RD (dm e)
  |If t a b p=>exact Rp (dm t) (cT.all ih) (cT.all ih)
  |While t a b p=>exact RL hN hB (dm t) (cT.all ih) (cT.all ih)
  |For t it a orelse p=>
   exact aM.dM λh=>aM.bL λx hx=>aM.bL λj hj=>by
    obtain ⟨h1,h2⟩:=and_eq_true_iff.mp h
    obtain rfl:=isEmpty_iff.mp h1
    obtain ⟨_,rfl⟩:=t4 hx
    exact Rn H.B hN hB H.A.calm H.K hc hj (dm it) (cT.all ih) (sF (by simpa using h2))
  |Delete ts p=>
   exact aM.bL λt h=>aM.bL λq hq=>by
    obtain rfl:=ub h
    obtain ⟨_,rfl⟩:=Gj hq
    exact Rk (dm _) (dm _)
  |AugAssign t op e p=>
   exact aM.bL λq hq=>aM.bL λb hb=>aM.bL λo ho=>by
    obtain rfl:=zM hq
    exact Q9 H.B H.au hb ho (dm _) (dm _)
  |Try b hs orelse fin p=>exact RH H aO hc ih xn
  |Assign ts e p=>exact Q6 H hc
  |_=>exact aM.bad
end
inductive uP (V:aq) (G:aV) (k:Nat) (f:Fn):Prop
 |mk (o:Obj) (fd:FuncData) (body:List Stmt) (dl:List Value) (h1:V.h₀.get? (V.ba k)=some o) (h2:o.data=.func fd) (h3:fd.body=.stmts body) (h4:V.h₀.CodeRec fd.code fd.qualname) (h5:fd.closure=[]) (h6:fd.globals=mainGlobals)
  (h7:fd.builtins=builtinsNs) (h8:sE fd.params fd.scope=true) (h9:f=dX G fd.params body fd.scope) (k8:aZ (λd v => ∀ g,ab V g d v) f.bM dl)
  (j5:(fd.defaults=.none/\dl=[])\/∃ a n o',fd.defaults=.ref a/\V.h₀.get? a=some o'/\o'.data=.seq dl.toArray n):uP V G k f
noncomputable def aq.uQ (V:aq) (G:aV):Prop := ∀ k f,V.P.fns[k]?=some f->uP V G k f
structure nE (a:Arguments) (sc:Scope):Prop where
 fn:sc.kind=.function
 co:sc.isCoroutine=false
 gen:sc.isGenerator=false
 nodup:(sc.names.map (·.1)).Nodup
 xR : ∀ x,(x,NameKind.free) ∉ sc.names
 debug:sc.names.lookup ("__debug__":Str)=none
 md:sc.names.lookup ("__classdict__":Str)=none
 kwarg:a.kwarg=none
 OX:(((a.posonlyargs.map (·.arg)++a.args.map (·.arg))++a.kwonlyargs.map (·.arg))++(a.vararg.map (·.arg)).toList).Nodup
 E0 : ∀ x∈((a.posonlyargs.map (·.arg)++a.args.map (·.arg))++a.kwonlyargs.map (·.arg))++(a.vararg.map (·.arg)).toList,own sc.names x=true
 IT:a.defaults.length<=(a.posonlyargs.map (·.arg)++a.args.map (·.arg)).length
 Nk : ∀ x∈a.kwonlyargs,(c6 x.arg).isSome=true
theorem Ck {a:Arguments} {sc:Scope} (h:sE a sc=true):nE a sc:=by
 unfold sE at h
 simp only [and_eq_true,isNone_iff_eq_none,decide_eq_true_eq,not_eq_true'] at h
 obtain ⟨⟨⟨⟨⟨⟨⟨⟨⟨⟨⟨h1,h2⟩,h3⟩,h4⟩,h5⟩,h6⟩,h7⟩,h8⟩,h9⟩,k8⟩,j5⟩,cX⟩:=h
 refine ⟨eq_of_beq h1,h2,h3,h4,λx hx=>?_,h6,h7,h8,h9,λx hx=>all_eq_true.mp k8 x hx,j5,λx hx=>all_eq_true.mp cX x hx⟩
 have:=all_eq_true.mp h5 _ hx
 simp at this
theorem EY : ∀ {names:List (Str × NameKind)} {x:Str},own names x=true->x∈cP names
 |[],x,h=>by exact bA h
 |(y,k)::r,x,h=>by
  unfold own at h
  rw [lookup_cons] at h
  induction q:x==y with
  |true=>
   rw [q] at h
   have e:=eq_of_beq q
   subst e
   induction k using NameKind.casesOn<;>first|((first|exact bA h|cases h); done)|exact .head _
  |false=>
   rw [q] at h
   have ih:=EY (names:=r) (x:=x) (by unfold own; exact h)
   induction k using NameKind.casesOn<;>first|exact ih|exact .tail _ ih
theorem uA {sc:Scope} {x:Arg} (h:own sc.names x.arg=true):(cD (cP sc.names) 0).lookup x.arg=some (eO sc x):=by
 obtain ⟨n,hn⟩:=GQ (b:=0) (EY h)
 unfold eO kW
 dsimp only
 rw [hn]; rfl
theorem rZ : ∀ {names:List (Str × NameKind)} {n:Nat},(names.map (·.1)).Nodup->((cellsFrom n names []).map (·.1)).Nodup
 |[],_,_=>nodup_nil
 |(x,k)::r,n,h=>by
  rw [map_cons,nodup_cons] at h
  unfold cellsFrom
  split
  ·rw [ju,map_append,nodup_append]
   refine ⟨rZ h.2,by simp,λa ha b hb=>?_⟩
   obtain ⟨p,hp,rfl⟩:=mem_map.mp ha
   have hb:b=x:=by simpa using hb
   subst hb
   intro e
   have:=rY (x:=p.1) (c:=p.2) hp
   have h1:=mem_map_of_mem (f:=Prod.fst) this
   exact h.1 (by rw [<-e]; exact h1)
  ·exact rZ h.2
noncomputable def aB.call (F:aB) (fd:FuncData) (L a:Addr):aB where
 env:=callEnvC fd L a
 names:=fd.scope.names
 slots:=cD (cP fd.scope.names) 0
 base:=(cP fd.scope.names).length
 stack:=callEnvC fd L a::F.stack
theorem Au {F:aB} {fd:FuncData} {L a:Addr} (ok:nE fd.params fd.scope) (hg:fd.globals=mainGlobals) (hb:fd.builtins=builtinsNs):(F.call fd L a).Ok:=by
 refine ⟨ok.fn,hg,hb,λx k h=>?_,λx y n h1 h2=>?_,λx n h=>?_,⟨L,rfl⟩,λx k h hk=>?_,ok.debug,ok.md⟩
 ·have e:(F.call fd L a).env.kindOf x=some k:=h
  rw [e]
  induction k using NameKind.casesOn<;>first|rfl|exact .inl rfl
 ·have e1:=(gs h1).2.2.2
  rw [(gs h2).2.2.2] at e1
  obtain rfl:=Option.some.inj e1; rfl
 ·have:=(gs h).2.2.1
  rw [zero_add] at this; exact this
 ·have h:fd.scope.names.lookup x=some k:=h
  have hm:=mem_of_lookup h
  rcases hk with rfl|rfl
  ·obtain ⟨c,hc⟩:=jX (n:=L+1) hm
   obtain ⟨b,hb⟩:=lJ hc
   show ((cellsFrom (L+1) fd.scope.names []).lookup x).isSome=true
   rw [hb]; rfl
  ·exact absurd hm (ok.xR x)
theorem HW {F:aB} {fd:FuncData} {L a:Addr}:(F.call fd L a).ctx (kW fd.scope):=⟨rfl,rfl,rfl⟩
noncomputable def pj (V:aq) (g:Gh) (names:List (Str × NameKind)) (p:Nat × D) (b:Str × Value):Prop:=(cD (cP names) 0).lookup b.1=some p.1/\own names b.1=true/\ab V g p.2 b.2
structure rI (V:aq) (g:Gh) (names:List (Str × NameKind)) (m:List (Option D)) (Ml Mc:Str->Option Value):Prop where
 loc : ∀ x n d,names.lookup x=some .local->(cD (cP names) 0).lookup x=some n->m[n]?=some (some d)->∃ v,Ml x=some v/\ab V g d v
 cell : ∀ x n d,names.lookup x=some .cell->(cD (cP names) 0).lookup x=some n->m[n]?=some (some d)->∃ v,Mc x=some v/\ab V g d v
theorem SI {xs:List Str} {b:Nat} {x y:Str} {n:Nat} (h1:(cD xs b).lookup x=some n) (h2:(cD xs b).lookup y=some n):x=y:=by
 have e1:=(gs h1).2.2.2
 rw [(gs h2).2.2.2] at e1
 obtain rfl:=Option.some.inj e1; rfl
theorem xZ {V:aq} {g:Gh} {names:List (Str × NameKind)} {kindOf:Str->Option NameKind} (hk : ∀ x,kindOf x=names.lookup x) : ∀ {ML:List (Nat × D)} {BL:List (Str × Value)} {m:List (Option D)} {Ml Mc:Str->Option Value},aZ (pj V g names) ML BL->rI V g names m Ml Mc->
  rI V g names (gT ML m) (bindL kindOf BL Ml) (bindC kindOf BL Mc)
 |[],[],m,Ml,Mc,_,J=>J
 |(sl,d)::ML,(x,v)::BL,m,Ml,Mc,h,J=>by
  obtain ⟨⟨h1,h2,h3⟩,hr⟩:=h
  have h1:(cD (cP names) 0).lookup x=some sl:=h1
  have h2:own names x=true:=h2
  have h3:ab V g d v:=h3
  have FU : ∀ {y n d'},(cD (cP names) 0).lookup y=some n->(m.set sl (some d))[n]?=some (some d')->(y=x/\d'=d)\/(y≠x/\m[n]?=some (some d')):=λ{y n d'} e1 e2=>by
   rw [getElem?_set] at e2
   by_cases q:sl=n
   ·subst q
    rw [if_pos rfl] at e2
    split at e2
    ·cases e2; exact .inl ⟨SI e1 h1,rfl⟩
    ·exact ao e2
   ·rw [if_neg q] at e2
    refine .inr ⟨λz=>q ?_,e2⟩
    subst z; rw [h1] at e1; obtain rfl:=Option.some.inj e1; rfl
  have step:gT ((sl,d)::ML) m=gT ML (m.set sl (some d)):=rfl
  rw [step]
  unfold bindL bindC
  refine xZ hk hr ?_
  rw [hk x]
  refine ⟨λy n d' e1 e2 e3=>?_,λy n d' e1 e2 e3=>?_⟩
  ·rcases FU e2 e3 with ⟨rfl,rfl⟩|⟨q,e4⟩
   ·rw [if_pos e1]; exact ⟨v,if_pos rfl,h3⟩
   ·obtain ⟨u,hu,ru⟩:=J.loc y n d' e1 e2 e4
    split
    ·exact ⟨u,(if_neg q).trans hu,ru⟩
    ·exact ⟨u,hu,ru⟩
  ·rcases FU e2 e3 with ⟨rfl,rfl⟩|⟨q,e4⟩
   ·rw [if_neg (by rw [e1]; decide)]; exact ⟨v,if_pos rfl,h3⟩
   ·obtain ⟨u,hu,ru⟩:=J.cell y n d' e1 e2 e4
    split
    ·exact ⟨u,hu,ru⟩
    ·exact ⟨u,(if_neg q).trans hu,ru⟩
 |[],_::_,_,_,_,h,_=>h.elim
 |_::_,[],_,_,_,h,_=>h.elim
theorem ya : ∀ (ML:List (Nat × D)) (m:List (Option D)),(gT ML m).length=m.length
 |[],_=>rfl
 |p::ML,m=>by
  show (gT ML (m.set p.1 (some p.2))).length=_
  rw [ya ML,length_set]
theorem x9 (a b:List (Nat × D)) (m:List (Option D)):gT (a++b) m=gT b (gT a m):=by unfold gT; rw [List.foldl_append]
section
variable {V:aq} {F:aB} {m:List (Option D)} {C:af} {g:Gh} {s s₁:Shared}
set_option tactic.hygienic true in
theorem HX (I:ah V F m C g s) {fd:FuncData} {a:Addr} (ok:nE fd.params fd.scope) {Ml Mc:Str->Option Value} (x:InCallC s (callEnvC fd s.heap.objs.size a).locals Ml (callEnvC fd s.heap.objs.size a).cells Mc s₁)
  {m₁:List (Option D)} (hl:m₁.length=(cP fd.scope.names).length) (J:rI V g fd.scope.names m₁ Ml Mc) :
  ah V (F.call fd s.heap.objs.size a) m₁ C (Gh.over (br s.heap.objs.size fd.scope.names) (g.bB s.heap)) s₁/\iJ s s₁ (br s.heap.objs.size fd.scope.names):=by
 have qc:=rZ (n:=s.heap.objs.size+1) ok.nodup
 have iV : ∀ y c,(y,c)∈cellsFrom (s.heap.objs.size+1) fd.scope.names []->s₁.heap.IsCell c (Mc y):=λy c h=>x.cell y c (jd qc h)
 have oh : ∀ y c,(y,c)∈cellsFrom (s.heap.objs.size+1) fd.scope.names []->s.heap.objs.size<c:=λy c h=>x.above y c h
 have back : ∀ {b z},br s.heap.objs.size fd.scope.names b=some z->(b=s.heap.objs.size/\z=.locals)\/∃ y,(y,b)∈cellsFrom (s.heap.objs.size+1) fd.scope.names []/\z=.cA y:=λ{b z} h=>by
  unfold br at h
  split at h
  ·rename_i q; obtain rfl:=Option.some.inj h; exact .inl ⟨q,rfl⟩
  ·obtain ⟨p,hp,hx⟩:=cB h
   have h1:=mem_of_find?_eq_some hp
   have h2:=find?_some hp
   obtain ⟨y,b'⟩:=p
   have h2:b'=b:=eq_of_beq h2
   subst h2
   exact .inr ⟨y,h1,hx.symm⟩
 have hN:iJ s s₁ (br s.heap.objs.size fd.scope.names):=by
  refine ⟨λb z h=>?_,λb z h=>?_,λb z h=>?_⟩
  ·rcases back h with ⟨rfl,_⟩|⟨y,hy,_⟩
   ·exact Heap.get?_none_of_le (le_refl _)
   ·exact Heap.get?_none_of_le (le_of_lt (oh y b hy))
  ·rcases back h with ⟨rfl,_⟩|⟨y,hy,_⟩
   ·obtain ⟨o,_,_,ho,_⟩:=x.toInCall.ns; exact ⟨o,ho⟩
   ·obtain ⟨o,ho,_⟩:=iV y b hy; exact ⟨o,ho⟩
  ·rcases back h with ⟨_,rfl⟩|⟨y,_,rfl⟩
   ·exact .inl rfl
   ·exact .inr ⟨y,rfl⟩
 have aO:=nc I hN
 have L1:g.Le (Gh.over (br s.heap.objs.size fd.scope.names) (g.bB s.heap)):=Gh.tL.trans aO.toLe
 have fr:=I.fr
 obtain ⟨h',tk,he⟩:=x.toInCall.same
 refine ⟨?_,hN⟩
 refine I.enter hN x.toInCall.keep (by rw [he]) (by rw [he]) ⟨hl,?_,λe hm=>?_,?_,⟨Ml,x.toInCall.ns,λy n d h1 h2 h3=>?_⟩,λy hy=>?_,λy n d h1 h2 h3=>?_⟩
 ·obtain ⟨o,ho⟩:=I.live _ _ fr.here
  exact le_trans fr.above (le_of_lt (Heap.lt_size ho))
 ·rcases mem_cons.mp hm with rfl|hm
  ·refine ⟨?_,s.heap.objs.size,rfl,.inl rfl⟩
   show fd.scope.kind≠.module
   rw [ok.fn]; intro z; cases z
  ·obtain ⟨k,L',q,r⟩:=fr.out e hm
   refine ⟨k,L',q,.inr ?_⟩
   rcases r with rfl|⟨o,es,n,r,z⟩
   ·obtain ⟨M,⟨o,es,ep,ho,hd,_⟩,_⟩:=fr.loc
    exact ⟨o,es,ep,(aO.aw _ _).mp (Gh.oZ fr.here ho),hd⟩
   ·exact ⟨o,es,n,(aO.aw _ _).mp (Gh.lU r),z⟩
 ·show Gh.over _ _ s.heap.objs.size=_
  unfold Gh.over br
  rw [if_pos rfl]
 ·obtain ⟨v,hv,r⟩:=J.loc y n d h1 h2 h3
  exact ⟨v,hv,r.mono L1⟩
 ·have hy:fd.scope.names.lookup y=some .cell:=hy
  obtain ⟨c,hc⟩:=jX (n:=s.heap.objs.size+1) (mem_of_lookup hy)
  have j9:=jd qc hc
  refine ⟨c,Mc y,j9,?_,iV y c hc,λn d e1 e2=>let ⟨v,hv,r⟩:=J.cell y n d hy e1 e2; ⟨v,hv,r.mono L1⟩⟩
  have:br s.heap.objs.size fd.scope.names c=some (.cA y):=by
   unfold br
   rw [if_neg (ne_of_gt (oh y c hc))]
   induction hf:(cellsFrom (s.heap.objs.size+1) fd.scope.names []).find? λp=>p.2==c with
   |none=>
    have:=List.find?_eq_none.mp hf _ hc
    simp at this
   |some p=>
    have h3:=mem_of_find?_eq_some hf
    have h4:=find?_some hf
    obtain ⟨z,b⟩:=p
    have h4:b=c:=eq_of_beq h4
    subst h4
    rw [name_of_addr x.apart h3 hc]; rfl
  unfold Gh.over; rw [this]
 ·exact absurd (mem_of_lookup h1) (ok.xR y)
end
noncomputable def uO (V:aq) (g:Gh) (x:X) (e:Value) (h:Heap):Prop := ∃ a cls args oe vs t T oT ts,e=.ref a/\zv V x cls args/\g a=none/\V.h₀.get? a=none/\h.get? a=some oe/\oe.cls=cls/\oe.data=.fields vs/\vs[0]?=some (.ref t)/\h.TupAt t args/\
 (V.h₀.get? t=none/\g t=none)/\vs[1]?=some (.ref T)/\T≠a/\g T=none/\V.h₀.get? T=none/\h.get? T=some oT/\oT.data=.fields ts/\ts[3]?=some .none
section
variable {V:aq} {G:aV} {F:aB} {A:Around} {cl:Calls} {m:List (Option D)} {C:af} {g:Gh} {s:Shared}
theorem JK {x:X} {st:St} {e:Value} {Q:Shared->Prop} {E:Value->Shared->Prop} (hx:lZ V F x st g e s) (k : ∀ s',ah V F st.m st.C g s'->uO V g x e s'.heap->Q s'):wpAny V.M A (setFlight e none) (λu' s'=>Q s') E s:=by
 obtain ⟨⟨I,a,cls,args,L,rfl,hL,hr,hT⟩,a',oe,vs,T,ha,iA,hd,h1⟩:=hx
 cases ha
 obtain ⟨i9,eJ,qM,iH,t,h2,h3,h4,h5,h6,h7,h8⟩:=hT
 rw [iA] at h2; obtain rfl:=Option.some.inj h2
 rw [hd] at h4; cases h4
 rcases h8 with h8|⟨T',oT,ts,e1,e2,e3,e4,e5,e6,e7⟩
 ·rw [h1] at h8; cases h8
 rw [h1] at e1; cases e1
 have bT:3<ts.size:=by
  rcases e7 with e7|e7<;>exact (Array.getElem?_eq_some_iff.mp e7).1
 refine wpAny_setFlight_none iA hd h1 e5 e6 bT ?_
 have hs:Heap.SameBut T s.heap (s.heap.update T (Obj.mapFields (·.setIfInBounds 3 Value.none))):=Heap.SameBut.update ..
 have pZ:a≠T:=λz=>e2 z.symm
 have f9:=Obj.data_mapFields e6 (·.setIfInBounds 3 Value.none)
 have qv:=Heap.get?_update_self (Obj.mapFields (·.setIfInBounds 3 Value.none)) e5 (Obj.isFreed_of_fields f9)
 have tf:=(hs.2 a pZ).trans iA
 refine k _ (I.away (t:=s.toks) e3 e4 hs) ⟨a,cls,args,oe,vs,t,T,_,_,rfl,hr,i9,eJ,tf,h3,hd,h5,?_,h7,h1,e2,e3,e4,qv,f9,?_⟩
 ·obtain ⟨o,n,q1,q2,q3⟩:=h6
  refine ⟨o,n,(hs.2 t λz=>?_).trans q1,q2,q3⟩
  rw [z,e5] at q1; obtain rfl:=Option.some.inj q1
  rw [e6] at q3; cases q3
 ·simp [bT]
theorem Pb {g₂:Gh} (I:ah V F m C g s) (aO:(g.bB s.heap).Step g₂) {a:Addr} (h:g₂ a=none):g.dZ g₂ a=none:=by
 rw [Gh.qS,h]
 ·intro z
  obtain ⟨o,ho⟩:=I.live a _ z
  have:=(aO.aw a o).mp (Gh.oZ z ho)
  rw [h] at this; exact ao this
 ·intro y z
  obtain ⟨o,ho⟩:=I.live a _ z
  have:=(aO.aw a o).mp (Gh.qZ z ho)
  rw [h] at this; exact ao this
theorem uO.at {g₂:Gh} {x:X} {e:Value} {h:Heap} (d:uO V g₂ x e h) {g':Gh} (hn : ∀ a,g₂ a=none->g' a=none) {L:Addr} (hL:F.env.frame=some L) {st:St} {s':Shared} (I:ah V F st.m st.C g' s') (he:s'.heap=h):gv V F x st g' e s':=by
 obtain ⟨a,cls,args,oe,vs,t,T,oT,ts,rfl,hr,h1,h2,h3,h4,h5,h6,h7,h8,h9,k8,j5,cX,di,ig,lg⟩:=d
 subst he
 exact ⟨I,a,cls,args,L,rfl,hL,hr,⟨hn _ h1,h2,oe,vs,t,h3,h4,h5,h6,h7,⟨h8.1,hn _ h8.2⟩,.inr ⟨T,oT,ts,h9,k8,hn _ j5,cX,di,ig,.inl lg⟩⟩⟩
theorem E4 {names:List (Str × NameKind)} {sc:Scope} (fh:sc.names=names) : ∀ {ps:List Arg} {ds:List D} {vs:List Value},(∀ p∈ps,own names p.arg=true)->aE V g ds vs->ps.length=ds.length->aZ (pj V g names) ((ps.map (eO sc)).zip ds) ((ps.map (·.arg)).zip vs)
 |[],[],_,_,.nil,_=>trivial
 |p::ps,d::ds,_,ho,.cons r rs,hl=>by
  subst fh
  exact ⟨⟨uA (ho p (.head _)),ho p (.head _),r⟩,E4 rfl (λq hq=>ho q (.tail _ hq)) rs (by simpa using hl)⟩
 |[],_::_,_,_,_,hl=>by cases hl
 |_::_,[],_,_,_,hl=>by cases hl
theorem aZ.append {α β:Type} {R:α->β->Prop} : ∀ {as zG:List α} {bs Al:List β},aZ R as bs->aZ R zG Al->aZ R (as++zG) (bs++Al)
 |[],_,[],_,_,h=>h
 |_::_,_,_::_,_,h,h'=>⟨h.1,h.2.append h'⟩
 |[],_,_::_,_,h,_=>h.elim
 |_::_,_,[],_,h,_=>h.elim
theorem E3 {names:List (Str × NameKind)} {sc:Scope} (fh:sc.names=names) : ∀ {ps:List Arg} {ks:List (Nm × D)} {ax:List (Str × Value)},(∀ p∈ps,own names p.arg=true/\(c6 p.arg).isSome=true)->gw V g ks ax->ks.map (·.1)=ps.map (λx=>(c6 x.arg).getD .init)->
  aZ (pj V g names) ((ps.map (eO sc)).zip (ks.map (·.2))) ax/\ax.map (·.1)=ps.map (·.arg)
 |[],[],[],_,_,_=>⟨trivial,rfl⟩
 |p::ps,(k,d)::ks,(x,v)::ax,ho,⟨⟨h1,h2⟩,hr⟩,he=>by
  have wK:k=(c6 p.arg).getD .init/\ks.map (·.1)=ps.map (λx=>(c6 x.arg).getD .init):=by
   simp only [map_cons,List.cons.injEq] at he; exact he
  obtain ⟨hk,wK⟩:=wK
  obtain ⟨MV,xl⟩:=E3 fh (λq hq=>ho q (.tail _ hq)) hr wK
  obtain ⟨nn,hn⟩:=isSome_iff_exists.mp (ho p (.head _)).2
  have e1:=mZ hn
  have h1:x=k.str:=h1
  have hx:x=p.arg:=by rw [h1,hk,hn,e1]; rfl
  subst fh
  refine ⟨⟨⟨?_,?_,h2⟩,MV⟩,by rw [map_cons,map_cons,xl]; simp [hx]⟩
  ·show (cD (cP sc.names) 0).lookup x=_
   rw [hx]; exact uA (ho p (.head _)).1
  ·show own sc.names x=true
   rw [hx]; exact (ho p (.head _)).1
 |[],_::_,_,_,_,he=>by cases he
 |_::_,[],_,_,_,he=>by cases he
 |[],[],_::_,_,h,_=>h.elim
 |_::_,_::_,[],_,h,_=>h.elim
theorem Pd {ds:List D} {vs:List Value} (h:aZ (λd v => ∀ g,ab V g d v) ds vs) (g:Gh):aE V g ds vs:=by
 induction ds generalizing vs with
 |nil=>induction vs using List.casesOn with|nil=>exact .nil|cons _ _=>exact h.elim
 |cons d ds ih=>induction vs using List.casesOn with|nil=>exact h.elim|cons v vs=>exact .cons (h.1 g) (ih h.2)
end
section
variable {V:aq} {G:aV} {F:aB} {A:Around} {m:List (Option D)} {C:af} {g:Gh} {s:Shared}
set_option tactic.hygienic true in
theorem HJ (I:ah V F m C g s) {fd:FuncData} {body:List Stmt} {dl:List Value} (ok:nE fd.params fd.scope) (ik:aZ (λd v => ∀ g,ab V g d v) (dX G fd.params body fd.scope).bM dl)
  (qd:(fd.defaults=.none/\dl=[])\/∃ a n o',fd.defaults=.ref a/\V.h₀.get? a=some o'/\o'.data=.seq dl.toArray n) {ds:List D} {vs:List Value} {ks:List (Nm × D)} {ax:List (Str × Value)} (rd:aE V g ds vs) (rk:gw V g ks ax)
  {m1:List (Option D)} (hb:fX (dX G fd.params body fd.scope) ds ks=some m1) {Q:List (Str × Value)->Shared->Prop} {E:Value->Shared->Prop}
  (q : ∀ g' s' binds ML,g.Step g'->ah V F m C g' s'->m1=gT ML (replicate (cP fd.scope.names).length none)->aZ (pj V g' fd.scope.names) ML binds->Q binds s'):wpAny V.M A (bindArgs fd ⟨vs,ax⟩) Q E s:=by
 unfold fX at hb
 dsimp only at hb
 split at hb
 ·rename_i hc
  simp only [and_eq_true,decide_eq_true_eq,or_eq_true] at hc
  obtain ⟨⟨⟨⟨wB,iU⟩,wC⟩,wD⟩,wF⟩:=hc
  have te:(dX G fd.params body fd.scope).cg.length=(fd.params.posonlyargs.map (·.arg)++fd.params.args.map (·.arg)).length:=by
   show ((fd.params.posonlyargs++fd.params.args).map _).length=_; simp
  have hlen:=rd.length
  have wI:(dX G fd.params body fd.scope).bM.length=dl.length:=ik.length
  have kg:(fd.params.posonlyargs++fd.params.args).map (·.arg)=fd.params.posonlyargs.map (·.arg)++fd.params.args.map (·.arg):=map_append
  have th : ∀ x∈((fd.params.posonlyargs.map (·.arg)++fd.params.args.map (·.arg))++fd.params.kwonlyargs.map (·.arg))++(fd.params.vararg.map (·.arg)).toList,own fd.scope.names x=true:=ok.E0
  obtain ⟨LG,eH⟩:=E3 (V:=V) (g:=g) (sc:=fd.scope) rfl (ps:=fd.params.kwonlyargs) (λp hp=>⟨th _ (mem_append_left _ (mem_append_right _ (mem_map_of_mem hp))),ok.Nk p hp⟩) rk (by
   rw [wF]; show (fd.params.kwonlyargs.map _).map _=_; rw [map_map]; rfl)
  have Ms:aE V g (ds.take (dX G fd.params body fd.scope).cg.length++(dX G fd.params body fd.scope).bM.drop ((dX G fd.params body fd.scope).bM.length - ((dX G fd.params body fd.scope).cg.length - ds.length)))
    (vs.take (fd.params.posonlyargs.map (·.arg)++fd.params.args.map (·.arg)).length++dl.drop (dl.length - ((fd.params.posonlyargs.map (·.arg)++fd.params.args.map (·.arg)).length - vs.length))):=by
   rw [te,hlen,wI]
   exact (rd.take _).append ((Pd ik g).drop _)
  have Dr:=E4 (V:=V) (g:=g) (sc:=fd.scope) rfl (ps:=fd.params.posonlyargs++fd.params.args) (λp hp=>th _ (mem_append_left _ (mem_append_left _ (by rw [<-kg]; exact mem_map_of_mem hp)))) Ms (by
   have:=eq_of_beq wB; rw [this]; show _=((fd.params.posonlyargs++fd.params.args).map _).length; simp)
  rw [kg] at Dr
  have jA:=aZ.append Dr LG
  have Dk:(dX G fd.params body fd.scope).cp.map (·.2)=fd.params.kwonlyargs.map (eO fd.scope):=by
   show (fd.params.kwonlyargs.map _).map _=_; rw [map_map]; rfl
  have xd:(dX G fd.params body fd.scope).cq=fd.params.vararg.map (eO fd.scope):=rfl
  refine zZ (NK:=fd.params.kwonlyargs.map (·.arg)) rfl rfl ok.kwarg (nodup_append.mp ok.OX).1 eH (?_) (dl:=dl) (by rw [<-wI]; exact le_trans (by show (fd.params.defaults.map _).length<=_; rw [length_map]; exact le_refl _) ok.IT) (by rw [<-wI,<-te,<-hlen]; exact wC) ?_ ?_
  ·rcases wD with h|h
   ·rw [xd,Option.isSome_map] at h; exact .inr h
   ·exact .inl (by rw [<-hlen,<-te]; exact h)
  ·rcases qd with ⟨e,rfl⟩|⟨a,n,o',e,ho,hd⟩
   ·refine ⟨none,rfl,λQ hQ=>?_⟩
    rw [e]
    show wpAny _ _ (pure () >>= λu'=>pure none) _ _ _
    exact wpAny_bind (wpAny_pure (wpAny_pure hQ))
   ·exact ⟨some dl.toArray,rfl,λQ hQ=>by rw [e]; exact wpAny_seqItems (I.keep _ _ ho) hd hQ⟩
  ·induction oB:fd.params.vararg with
   |none=>
    dsimp only
    rw [xd,oB] at hb
    obtain rfl:=Option.some.inj hb
    refine q g s _ _ (.refl g) I ?_ jA
    rw [x9,Dk]
    rfl
   |some va=>
    dsimp only
    rw [xd,oB] at hb
    obtain rfl:=Option.some.inj hb
    unfold newTuple
    have hz:(vs.drop (fd.params.posonlyargs.map (·.arg)++fd.params.args.map (·.arg)).length).length<=aD:=by
     rw [length_drop]; exact le_trans (sub_le _ _) (hlen ▸ iU)
    refine wpAny_newObj_type ?_ (by show Array.size _<=sizeLine; rw [size_toArray]; exact d4 hz)
    have O8:=rd.drop (fd.params.posonlyargs.map (·.arg)++fd.params.args.map (·.arg)).length
    refine I.newList (T:="tuple") (n:=0) (t:=s.toks) (Q:=λt s'=>Q (_++ax++[(va.arg,t)]) s') O8 hz λg' st I' h1 h2 h3=>?_
    refine q g' _ _ (((fd.params.posonlyargs++fd.params.args).map (eO fd.scope)).zip _++(fd.params.kwonlyargs.map (eO fd.scope)).zip (ks.map (·.2))++[(eO fd.scope va,.tup (ds.drop (fd.params.posonlyargs.map (·.arg)++fd.params.args.map (·.arg)).length))]) st I' ?_
     (aZ.append (jA.imp λa b ⟨x,y,z⟩=>⟨x,y,z.mono st.toLe⟩) ⟨⟨uA (th _ (mem_append_right _ (by rw [oB]; exact .head _))),th _ (mem_append_right _ (by rw [oB]; exact .head _)),.tup h1 h2 h3⟩,trivial⟩)
    rw [x9,x9,Dk,te]
    rfl
 ·exact ao hb
set_option tactic.hygienic true in
theorem Av (O:V.Ok G) (B:V.Base) (au:V.c7) (dE:V.l0) (GE:G.Exc) (jz:lX V) (hF:V.uQ G) {fuel:Nat} (qh:fuel≠0) : ∀ n,fV V ⟨aA V.P fuel n,fuel⟩ n
 |0=>⟨λh=>absurd h qh,λu'=>by intros; trivial⟩
 |n+1=>by
  have ih:=Av O B au dE GE jz hF qh n
  refine ⟨λh=>absurd h qh,λ{F A m C g s} k {ds vs ks ax} K hA I rd rk=>?_⟩
  show ai V F (ab V) (pg V.M A (.call (.ref (V.ba k)) ⟨vs,ax⟩)) g s (back m (match V.P.fns[k]? with
   |some f=>(match fX f ds ks with
    |some m1=>dt (av V.P ⟨aA V.P fuel n,fuel⟩ f.body ⟨m1,C⟩)
    |none=>.fail)
   |none=>.fail))
  induction hf:V.P.fns[k]? with
  |none=>trivial
  |some f=>
   dsimp only
   obtain ⟨o,fd,body,dl,ho,hd,wA,sO,wH,wO,wz,fK,dF,ik,qd⟩:=hF k f hf
   have ok:=Ck fK
   subst dF
   induction hb:fX (dX G fd.params body fd.scope) ds ks with
   |none=>trivial
   |some m1=>
    dsimp only
    have Ma:A.depth<recursionLimit:=lt_of_le_of_lt (le_trans (le_trans (le_add_right _ _) (le_add_right _ _)) hA.depth) (by decide)
    have enter : ∀ (R:Result->Shared->Prop),(∀ g' s' s₁,g.Step g'->ah V F m C g' s'->ah V (F.call fd s'.heap.objs.size (V.ba k)) m1 C (Gh.over (br s'.heap.objs.size fd.scope.names) (g'.bB s'.heap)) s₁->iJ s' s₁ (br s'.heap.objs.size fd.scope.names)->
      wpAny V.M (A.deeper (callEnvC fd s'.heap.objs.size (V.ba k))) (execs body (callEnvC fd s'.heap.objs.size (V.ba k))) (λf s'=>R (.ok (.ret (match f with|.ret v=>v|_=>.none))) s')
       (λe s₂=>wpAny V.M (A.deeper (callEnvC fd s'.heap.objs.size (V.ba k))) (leaving (callEnvC fd s'.heap.objs.size (V.ba k)) e) (λu' du=>R (.error e) du) (λe' du=>R (.error e') du) s₂) s₁)->codeAny V.M A (.call (.ref (V.ba k)) ⟨vs,ax⟩) R s:=by
     intro R hR
     refine codeAny_call_function Ma (I.keep _ _ ho) hd ok.co ok.gen wA (sO.keeps I.keep) ?_
     refine HJ (G:=G) (body:=body) I ok ik qd rd rk hb λg' s' binds ML st I' bC jA=>?_
     rw [wH]
     refine wpAny_newFunctionEnv_cells ok.fn (λx hx=>?_) λenv he s₁ x=>?_
     ·
      have qr:own fd.scope.names x.1=true:=by
       have : ∀ {ML:List (Nat × D)} {BL:List (Str × Value)},aZ (pj V g' fd.scope.names) ML BL->∀ x∈BL,own fd.scope.names x.1=true:=by
        intro ML
        induction ML with
        |nil=>intro BL h x hx; induction BL using List.casesOn with|nil=>cases hx|cons _ _=>exact h.elim
        |cons p ML ih=>
         intro BL h x hx
         induction BL using List.casesOn with
         |nil=>cases hx
         |cons b BL=>
          rcases mem_cons.mp hx with rfl|hx
          ·exact h.1.2.1
          ·exact ih h.2 x hx
       exact this jA x hx
      unfold own at qr
      split at qr
      ·exact .inl ‹_›
      ·rename_i iV
       refine .inr ⟨iV,?_⟩
       obtain ⟨c,hc⟩:=jX (n:=s'.heap.objs.size+1) (mem_of_lookup iV)
       obtain ⟨b,wx⟩:=lJ hc
       rw [wx]; rfl
      ·exact bA qr
     ·subst he
      have hN:s₁.heap.NoLimit:=by
       obtain ⟨mc,h1,h2⟩:=O.nolimit
       exact ⟨mc,h1.keeps λb o e=>x.toInCall.keep b o (I'.keep b o e),h2⟩
      refine ⟨hN,codeAny_func ?_⟩
      have J:=xZ (V:=V) (g:=g') (names:=fd.scope.names) (kindOf:=(callEnvC fd s'.heap.objs.size (V.ba k)).kindOf) (λx=>rfl) jA (m:=replicate (cP fd.scope.names).length none) (Ml:=λu'=>none) (Mc:=λu'=>none) (by
       have no : ∀ {n d},(replicate (cP fd.scope.names).length (none:Option D))[n]?=some (some d)->False:=λ{n d} h=>by
        rw [List.getElem?_replicate] at h; split at h<;>(first|exact ao h|cases h)
       exact ⟨λx n d u' u' h=>(no h).elim,λx n d u' u' h=>(no h).elim⟩)
      rw [<-bC] at J
      have hlen:m1.length=(cP fd.scope.names).length:=by rw [bC,ya,List.length_replicate]
      obtain ⟨I1,eG⟩:=HX I' ok x hlen J
      exact hR g' s' s₁ st I' I1 eG
    obtain ⟨LF,Kx⟩:=K.frame
    have Aj : ∀ g' s' s₁,ah V F m C g' s'->ah V (F.call fd s'.heap.objs.size (V.ba k)) m1 C (Gh.over (br s'.heap.objs.size fd.scope.names) (g'.bB s'.heap)) s₁->
      aF V (F.call fd s'.heap.objs.size (V.ba k)) (A.deeper (callEnvC fd s'.heap.objs.size (V.ba k))) (d5 V) (execs body (callEnvC fd s'.heap.objs.size (V.ba k))) (Gh.over (br s'.heap.objs.size fd.scope.names) (g'.bB s'.heap)) s₁
       (av V.P ⟨aA V.P fuel n,fuel⟩ (dX G fd.params body fd.scope).body ⟨m1,C⟩):=λg' s' s₁ I' I1=>by
     have H:cI V G (F.call fd s'.heap.objs.size (V.ba k)) (A.deeper (callEnvC fd s'.heap.objs.size (V.ba k))) ⟨aA V.P fuel n,fuel⟩ n:=by
      refine ⟨O,B,au,dE,GE,jz,ih,Au ok wO wz,⟨?_,?_,?_,λu'=>hA.calm⟩⟩
      ·show A.frames.map _=_
       rw [hA.frames]; rfl
      ·exact He hA.depth
      ·exact Hg hA.units
     exact cT.all (rX 40 H rfl HW) m1 C _ s₁ I1
    induction gH:av V.P ⟨aA V.P fuel n,fuel⟩ (dX G fd.params body fd.scope).body ⟨m1,C⟩ with
    |fail=>trivial
    |ok fl st=>
     have main : ∀ (d:D),(∀ dS (v:Value) (f:Flow),d5 V dS fl f->(v=match f with|.ret v=>v|_=>.none)->ab V dS d v)->ai V F (ab V) (pg V.M A (.call (.ref (V.ba k)) ⟨vs,ax⟩)) g s (.ok d ⟨m,st.C⟩):=by
      intro d f9 Q E q
      refine enter (uq Q E) λg' s' s₁ q1 I' I1 eG=>?_
      have hs:=Aj g' s' s₁ I' I1
      rw [gH] at hs
      refine hs _ _ λdS f du fR I2 r=>?_
      have aO:=(nc I' eG).trans fR
      exact q _ _ du (q1.trans (um I' aO)) (I'.leave aO I2) ((f9 dS _ f r rfl).mono (uk I' aO))
     induction fl with
     |next=>exact main .none λdS v f r e=>by cases r; subst e; exact .none
     |brk=>trivial
     |cont=>trivial
     |ret d=>exact main d λdS v f r e=>by cases r with|ret r=>subst e; exact r
    |exc x st=>
     intro Q E q
     refine enter (uq Q E) λg' s' s₁ q1 I' I1 eG=>?_
     have hs:=Aj g' s' s₁ I' I1
     rw [gH] at hs
     refine hs _ _ λdS e du fR hx=>?_
     unfold leaving
     refine wpAny_bind (xS (F:=F.call fd s'.heap.objs.size (V.ba k)) (outer:=F.stack) ?_ rfl hx λg3 s3 q3 gK=>JK gK λs4 I4 hd=>?_)
     ·show A.frames.map _=_
      rw [hA.frames]; rfl
     ·have aO:=((nc I' eG).trans fR).trans q3
      exact q _ _ s4 (q1.trans (um I' aO)) (hd.at (λa h=>Pb I' aO h) Kx (st:=⟨m,st.C⟩) (I'.leave aO I4) rfl)
end
noncomputable def aB.top (fd:FuncData) (L a:Addr):aB where
 env:=callEnvC fd L a
 names:=fd.scope.names
 slots:=cD (cP fd.scope.names) 0
 base:=(cP fd.scope.names).length
 stack:=[callEnvC fd L a]
theorem Sh {fd:FuncData} {L a:Addr} (ok:nE fd.params fd.scope) (hg:fd.globals=mainGlobals) (hb:fd.builtins=builtinsNs):(aB.top fd L a).Ok:=by
 have h:=Au (F:=⟨default,[],[],0,[]⟩) (L:=L) (a:=a) ok hg hb
 exact ⟨h.fn,h.glob,h.blt,h.kinds,h.inj,h.bound,h.frame,h.cells,h.debug,h.md⟩
section
variable {V:aq} {s s₁:Shared}
set_option tactic.hygienic true in
theorem Sg {sa:Addr} {ob:Obj} (hh:V.h₀=e8 s.heap (λb=>b=sa)) (oz:V.os=s.os) (j7:s.gens = #[]) (gJ:s.heap.get? sa=some ob) {fd:FuncData} {a:Addr} (ok:nE fd.params fd.scope)
  {Ml Mc:Str->Option Value} (x:InCallC s (callEnvC fd s.heap.objs.size a).locals Ml (callEnvC fd s.heap.objs.size a).cells Mc s₁)
  {m₁:List (Option D)} (hl:m₁.length=(cP fd.scope.names).length) (J:rI V (λb=>if b=sa then some (.ay ob) else none) fd.scope.names m₁ Ml Mc) :
  ah V (aB.top fd s.heap.objs.size a) m₁ [] (Gh.over (br s.heap.objs.size fd.scope.names) (λb=>if b=sa then some (.ay ob) else none)) s₁:=by
 have qc:=rZ (n:=s.heap.objs.size+1) ok.nodup
 have iV : ∀ y c,(y,c)∈cellsFrom (s.heap.objs.size+1) fd.scope.names []->s₁.heap.IsCell c (Mc y):=λy c h=>x.cell y c (jd qc h)
 have oh : ∀ y c,(y,c)∈cellsFrom (s.heap.objs.size+1) fd.scope.names []->s.heap.objs.size<c:=λy c h=>x.above y c h
 have Du:sa<s.heap.objs.size:=Heap.lt_size gJ
 have mU : ∀ b o,V.h₀.get? b=some o->s.heap.get? b=some o:=λb o e=>by rw [hh] at e; exact sW b o e
 have Ew : ∀ {b},s.heap.objs.size<=b->V.h₀.get? b=none:=λ{b} hb=>by
  induction q:V.h₀.get? b with
  |none=>rfl
  |some o=>have:=mU b o q; rw [Heap.get?_none_of_le hb] at this; exact ao this
 have back : ∀ {b z},Gh.over (br s.heap.objs.size fd.scope.names) (λb=>if b=sa then some (.ay ob) else none) b=some z->(b=s.heap.objs.size/\z=.locals)\/(∃ y,(y,b)∈cellsFrom (s.heap.objs.size+1) fd.scope.names []/\z=.cA y)\/(b=sa/\z=.ay ob):=λ{b z} h=>by
  unfold Gh.over br at h
  dsimp only at h
  split at h
  ·rename_i y hy
   split at hy
   ·rename_i q; obtain rfl:=Option.some.inj hy; obtain rfl:=Option.some.inj h; exact .inl ⟨q,rfl⟩
   ·obtain ⟨p,hp,hx⟩:=cB hy
    have h1:=mem_of_find?_eq_some hp
    have h2:=find?_some hp
    obtain ⟨y',b'⟩:=p
    have h2:b'=b:=eq_of_beq h2
    subst h2
    obtain rfl:=Option.some.inj h
    exact .inr (.inl ⟨y',h1,hx.symm⟩)
  ·split at h
   ·rename_i q; obtain rfl:=Option.some.inj h; exact .inr (.inr ⟨q,rfl⟩)
   ·exact ao h
 have Lj:Gh.over (br s.heap.objs.size fd.scope.names) (λb=>if b=sa then some (.ay ob) else none) sa=some (.ay ob):=by
  have:br s.heap.objs.size fd.scope.names sa=none:=by
   unfold br
   rw [if_neg (ne_of_lt Du)]
   induction hf:(cellsFrom (s.heap.objs.size+1) fd.scope.names []).find? λp=>p.2==sa with
   |none=>rfl
   |some p=>
    have h1:=mem_of_find?_eq_some hf
    have h2:=find?_some hf
    obtain ⟨y',b'⟩:=p
    have h2:b'=sa:=eq_of_beq h2
    subst h2
    have:=oh y' b' h1
    exact absurd Du (not_lt.mpr (le_of_lt this))
  unfold Gh.over; rw [this]; exact if_pos rfl
 have L1:Gh.Le (λb=>if b=sa then some (.ay ob) else none) (Gh.over (br s.heap.objs.size fd.scope.names) (λb=>if b=sa then some (.ay ob) else none)):=by
  refine ⟨λb o e=>?_,λb i e=>?_⟩
  ·split at e
   ·rename_i q; subst q; cases e; exact Lj
   ·exact ao e
  ·split at e<;>(first|exact ao e|cases e)
 obtain ⟨h',tk,he⟩:=x.toInCall.same
 refine ⟨λb o e=>x.toInCall.keep b o (mU b o e),λb z e=>?_,λb z e=>?_,λb o e=>?_,λb o e=>?_,λi c e=>(by exact ao e),λb c i e u'=>?_,λb i e=>?_,?_,by rw [he]; exact j7,by rw [he]; exact oz.symm⟩
 ·rcases back e with ⟨rfl,_⟩|⟨y,hy,_⟩|⟨rfl,_⟩
  ·exact Ew (le_refl _)
  ·exact Ew (le_of_lt (oh y b hy))
  ·rw [hh]; exact qj rfl
 ·rcases back e with ⟨rfl,_⟩|⟨y,hy,_⟩|⟨rfl,_⟩
  ·obtain ⟨o,_,_,ho,_⟩:=x.toInCall.ns; exact ⟨o,ho⟩
  ·obtain ⟨o,ho,_⟩:=iV y b hy; exact ⟨o,ho⟩
  ·exact ⟨ob,x.toInCall.keep _ _ gJ⟩
 ·rcases back e with ⟨_,z⟩|⟨y,_,z⟩|⟨rfl,z⟩
  ·cases z
  ·cases z
  ·cases z; exact x.toInCall.keep _ _ gJ
 ·rcases back e with ⟨_,z⟩|⟨y,_,z⟩|⟨_,z⟩<;>cases z
 ·rcases back e with ⟨_,z⟩|⟨y,_,z⟩|⟨_,z⟩<;>cases z
 ·rcases back e with ⟨_,z⟩|⟨y,_,z⟩|⟨_,z⟩<;>cases z
 ·refine ⟨hl,?_,λe hm=>?_,?_,⟨Ml,x.toInCall.ns,λy n d h1 h2 h3=>?_⟩,λy hy=>?_,λy n d h1 h2 h3=>?_⟩
  ·rw [hh]
   show (e8 s.heap _).objs.size<=s.heap.objs.size
   unfold e8
   rw [Array.size_mapIdx]; exact le_refl _
  ·rw [mem_singleton.mp hm]
   refine ⟨?_,s.heap.objs.size,rfl,.inl rfl⟩
   show fd.scope.kind≠.module
   rw [ok.fn]; intro z; cases z
  ·show Gh.over _ _ s.heap.objs.size=_
   unfold Gh.over br
   rw [if_pos rfl]
  ·obtain ⟨v,hv,r⟩:=J.loc y n d h1 h2 h3
   exact ⟨v,hv,r.mono L1⟩
  ·have hy:fd.scope.names.lookup y=some .cell:=hy
   obtain ⟨c,hc⟩:=jX (n:=s.heap.objs.size+1) (mem_of_lookup hy)
   have j9:=jd qc hc
   refine ⟨c,Mc y,j9,?_,iV y c hc,λn d e1 e2=>let ⟨v,hv,r⟩:=J.cell y n d hy e1 e2; ⟨v,hv,r.mono L1⟩⟩
   have:br s.heap.objs.size fd.scope.names c=some (.cA y):=by
    unfold br
    rw [if_neg (ne_of_gt (oh y c hc))]
    induction hf:(cellsFrom (s.heap.objs.size+1) fd.scope.names []).find? λp=>p.2==c with
    |none=>
     have:=List.find?_eq_none.mp hf _ hc
     simp at this
    |some p=>
     have h3:=mem_of_find?_eq_some hf
     have h4:=find?_some hf
     obtain ⟨z,b⟩:=p
     have h4:b=c:=eq_of_beq h4
     subst h4
     rw [name_of_addr x.apart h3 hc]; rfl
   unfold Gh.over; rw [this]
  ·exact absurd (mem_of_lookup h1) (ok.xR y)
set_option tactic.hygienic true in
theorem Sf {G:aV} (O:V.Ok G) (B:V.Base) (au:V.c7) (dE:V.l0) (GE:G.Exc) (jz:lX V) (hF:V.uQ G) {fuel n:Nat} (qh:fuel≠0) (hn:n<=12) {k:Nat} {f:Fn} (hf:V.P.fns[k]?=some f)
  (qg:f.cg.length=1) (oi:f.cq=none) (sQ:f.cp=[]) (sR:f.bM=[]) {sa:Addr} {vs:List Value} {ns:List Int}
  (hh:V.h₀=e8 s.heap (λb=>b=sa)) (oz:V.os=s.os) (j7:s.gens = #[]) (gJ:s.heap.get? sa=some {cls:=.type "list",data:=.seq vs.toArray}) (hi:IntsAre vs ns) (hz:ns.length<=63) {st:St}
  (gI:aA V.P fuel (n+1) k [.lst (ns.map .int)] [] []=.ok (.bool true) st) {R:Result->Shared->Prop}
  (hR : ∀ s',(∀ b o,s.heap.get? b=some o->s'.heap.get? b=some o)->s'.gens = #[]->s'.os=s.os->R (.ok (.ret (.bool true))) s') :
  codeAny V.M callerA (.call (.ref (V.ba k)) ⟨[.ref sa],[]⟩) R s:=by
 have mU : ∀ b o,V.h₀.get? b=some o->s.heap.get? b=some o:=λb o e=>by rw [hh] at e; exact sW b o e
 have gI:(match V.P.fns[k]? with
  |some f=>(match fX f [.lst (ns.map .int)] [] with
   |some m1=>dt (av V.P ⟨aA V.P fuel n,fuel⟩ f.body ⟨m1,[]⟩)
   |none=>.fail)
  |none=>.fail)=.ok (.bool true) st:=gI
 rw [hf] at gI
 dsimp only at gI
 obtain ⟨o,fd,body,dl,ho,hd,wA,sO,wH,wO,wz,fK,dF,ik,qd⟩:=hF k f hf
 have ok:=Ck fK
 subst dF
 have oB:fd.params.vararg=none:=by
  have:fd.params.vararg.map (eO fd.scope)=none:=oi
  simpa using this
 have qn:fd.params.kwonlyargs=[]:=by
  have:fd.params.kwonlyargs.map _=[]:=sQ
  simpa using this
 have K3:dl=[]:=by
  have:fd.params.defaults.map vF=[]:=sR
  have h2:=ik.length
  show dl=[]
  rw [show (dX G fd.params body fd.scope).bM=fd.params.defaults.map vF from rfl,this] at h2
  exact length_eq_zero_iff.mp h2.symm
 have kg:((fd.params.posonlyargs++fd.params.args).map (eO fd.scope)).length=1:=qg
 rw [length_map] at kg
 obtain ⟨x,hx⟩:=List.length_eq_one_iff.mp kg
 have hP:fd.params.posonlyargs.map (·.arg)++fd.params.args.map (·.arg)=[x.arg]:=by rw [<-map_append,hx]; rfl
 induction hb:fX (dX G fd.params body fd.scope) [.lst (ns.map .int)] [] with
 |none=>rw [hb] at gI; exact cF gI
 |some m1=>
  rw [hb] at gI
  dsimp only at gI
  have qy:own fd.scope.names x.arg=true:=ok.E0 _ (mem_append_left _ (mem_append_left _ (by rw [hP]; exact .head _)))
  have bC:m1=gT [(eO fd.scope x,.lst (ns.map .int))] (replicate (cP fd.scope.names).length none):=by
   unfold fX at hb
   dsimp only at hb
   split at hb
   ·have e1:(dX G fd.params body fd.scope).cg=[eO fd.scope x]:=by show (fd.params.posonlyargs++fd.params.args).map _=_; rw [hx]; rfl
    rw [oi,e1,sQ,sR] at hb
    obtain rfl:=Option.some.inj hb; rfl
   ·exact ao hb
  have hlen:=hi.length
  have Mt:vs.length<=aD:=by
   have:aD=100000:=rfl
   have:vs.length=ns.length:=by first|exact hlen|exact hlen.symm
   omega
  refine codeAny_call_function (by decide) (mU _ _ ho) hd ok.co ok.gen wA (sO.keeps mU) ?_
  refine zZ (P:=[x.arg]) (NK:=[]) (vs:=[.ref sa]) (ax:=[]) (dl:=[]) hP (by rw [qn]; rfl) ok.kwarg (by simp) rfl (.inl (by simp)) (by simp) (by simp) ?_ ?_
  ·rcases qd with ⟨e,_⟩|⟨a,n,o',e,cK,f9⟩
   ·refine ⟨none,rfl,λQ hQ=>?_⟩
    rw [e]
    show wpAny _ _ (pure () >>= λu'=>pure none) _ _ _
    exact wpAny_bind (wpAny_pure (wpAny_pure hQ))
   ·exact ⟨some dl.toArray,K3,λQ hQ=>by rw [e]; exact wpAny_seqItems (mU _ _ cK) f9 hQ⟩
  ·rw [oB]
   dsimp only
   rw [wH]
   have KW:([x.arg].zip (([Value.ref sa].take [x.arg].length)++([]:List Value).drop (([]:List Value).length - ([x.arg].length - [Value.ref sa].length)))++([]:List (Str × Value)))=[(x.arg,Value.ref sa)]:=rfl
   rw [KW]
   refine wpAny_newFunctionEnv_cells ok.fn (λy hy=>?_) λenv he s₁ xc=>?_
   ·rw [mem_singleton.mp hy]
    unfold own at qy
    split at qy
    ·exact .inl ‹_›
    ·rename_i iV
     refine .inr ⟨iV,?_⟩
     obtain ⟨c,hc⟩:=jX (n:=s.heap.objs.size+1) (mem_of_lookup iV)
     obtain ⟨b,wx⟩:=lJ hc
     rw [wx]; rfl
    ·exact bA qy
   ·subst he
    have hN:s₁.heap.NoLimit:=by
     obtain ⟨mc,h1,h2⟩:=O.nolimit
     exact ⟨mc,h1.keeps λb o e=>xc.toInCall.keep b o (mU b o e),h2⟩
    refine ⟨hN,codeAny_func ?_⟩
    have Po:ab V (λb=>if b=sa then some (.ay {cls:=.type "list",data:=.seq vs.toArray}) else none) (.lst (ns.map .int)) (.ref sa):=
     .lst (if_pos rfl) ⟨Mt,0,rfl⟩ (aE.ints hi)
    have J:=xZ (V:=V) (g:=λb=>if b=sa then some (.ay {cls:=.type "list",data:=.seq vs.toArray}) else none) (names:=fd.scope.names) (kindOf:=(callEnvC fd s.heap.objs.size (V.ba k)).kindOf) (λx=>rfl)
     (ML:=[(eO fd.scope x,.lst (ns.map .int))]) (BL:=[(x.arg,.ref sa)]) ⟨⟨uA qy,qy,Po⟩,trivial⟩ (m:=replicate (cP fd.scope.names).length none) (Ml:=λu'=>none) (Mc:=λu'=>none) (by
     have no : ∀ {n d},(replicate (cP fd.scope.names).length (none:Option D))[n]?=some (some d)->False:=λ{n d} h=>by
      rw [List.getElem?_replicate] at h; split at h<;>(first|exact ao h|cases h)
     exact ⟨λx n d u' u' h=>(no h).elim,λx n d u' u' h=>(no h).elim⟩)
    rw [<-bC] at J
    have wV:m1.length=(cP fd.scope.names).length:=by rw [bC,ya,List.length_replicate]
    have I1:=Sg hh oz j7 gJ ok xc wV J
    have H:cI V G (aB.top fd s.heap.objs.size (V.ba k)) (callerA.deeper (callEnvC fd s.heap.objs.size (V.ba k))) ⟨aA V.P fuel n,fuel⟩ n:=by
     refine ⟨O,B,au,dE,GE,jz,Av O B au dE GE jz hF qh n,Sh ok wO wz,⟨rfl,?_,?_,λu'=>rfl⟩⟩
     ·show 301+1+8*n+8<=900; omega
     ·show 4+3+8*1+500*n+500<=9000; omega
    have hs:=cT.all (f:=cS G 40 (kW fd.scope)) (ts:=body) (rX 40 H rfl ⟨rfl,rfl,rfl⟩) m1 [] _ s₁ I1
    have fin : ∀ dS f du,(Gh.over (br s.heap.objs.size fd.scope.names) (λb=>if b=sa then some (.ay {cls:=.type "list",data:=.seq vs.toArray}) else none)).Step dS->∀ m2 C2,ah V (aB.top fd s.heap.objs.size (V.ba k)) m2 C2 dS du->f=Flow.ret (.bool true)->R (.ok (.ret (match f with|.ret v=>v|_=>.none))) du:=by
     intro dS f du fR m2 C2 I2 ef
     subst ef
     refine hR du (λb o' e=>?_) I2.gens (I2.os.trans oz)
     by_cases q:b=sa
     ·subst q
      rw [gJ] at e; obtain rfl:=Option.some.inj e
      refine I2.ay _ _ (fR.toLe.ay _ _ ?_)
      have b7:b<s.heap.objs.size:=Heap.lt_size gJ
      have:br s.heap.objs.size fd.scope.names b=none:=by
       unfold br
       rw [if_neg (ne_of_lt b7)]
       induction CZ:(cellsFrom (s.heap.objs.size+1) fd.scope.names []).find? λp=>p.2==b with
       |none=>rfl
       |some p=>
        have h1:=mem_of_find?_eq_some CZ
        have h2:=find?_some CZ
        obtain ⟨y',b'⟩:=p
        have h2:b'=b:=eq_of_beq h2
        subst h2
        have:=xc.above y' b' h1
        exact absurd b7 (not_lt.mpr (le_of_lt this))
      unfold Gh.over; rw [this]; exact if_pos rfl
     ·exact I2.keep b o' (by rw [hh,oj (P:=λb=>b=sa) q]; exact e)
    show wpAny _ _ (execs body (callEnvC fd s.heap.objs.size (V.ba k))) _ _ s₁
    have kh:dt (av V.P ⟨aA V.P fuel n,fuel⟩ (ib (cS G 40 (kW fd.scope)) body) ⟨m1,[]⟩)=.ok (.bool true) st:=gI
    induction gH:av V.P ⟨aA V.P fuel n,fuel⟩ (ib (cS G 40 (kW fd.scope)) body) ⟨m1,[]⟩ with
    |fail=>rw [gH] at kh; exact cF kh
    |exc _ _=>rw [gH] at kh; exact vQ kh
    |ok fl ae=>
     rw [gH] at kh hs
     induction fl with
     |next=>cases kh
     |brk=>exact cF kh
     |cont=>exact cF kh
     |ret d=>
      obtain ⟨rfl,rfl⟩:=aj.ok.inj kh
      refine hs _ _ λdS f du fR I2 r=>fin dS f du fR _ _ I2 ?_
      cases r with
      |ret r=>obtain rfl:=r.oC; rfl
end
noncomputable def ec (aL:List Addr) (k:Nat):Addr:=(aL[k]?).getD (aL.headD 0)
noncomputable def jY (bf:List Addr) (k:Nat):Addr:=(bf[k]?).getD 0
noncomputable def yz (cQ:List (List Nat)) (k i:Nat):Nat:=(((cQ[k]?).getD [])[i]?).getD 999
noncomputable def mY (prog:Program) (w:World) (s:Shared) (sa:Addr) (P:aR) (K:W.Frag) (aL bf:List Addr) (cQ:List (List Nat)):aq:=
 ⟨prog,w,e8 s.heap (λb=>b=sa),s.os,P,K,ec aL,jY bf,yz cQ⟩
set_option backward.match.sparseCases false in
noncomputable def yP:Value->Option Addr
 |.ref a=>some a
 |_=>none
set_option backward.match.sparseCases false in
noncomputable def yQ:Value->Option Str
 |.str x _=>some x
 |_=>none
set_option backward.match.sparseCases false in
noncomputable def Gy:Value->Option Int
 |.int i _=>some i
 |_=>none
set_option backward.match.sparseCases false in
noncomputable def Gx:Value->Option (Array UInt8)
 |.bytes b _=>some b
 |_=>none
theorem Gz {v:Value} {a:Addr} (h:yP v=some a):v=.ref a:=by induction v using Value.casesOn<;>first|exact ao h|rw [Option.some.inj h]
theorem Sx {v:Value} {a:Str} (h:yQ v=some a) : ∃ t,v=.str a t:=by induction v using Value.casesOn<;>first|exact ao h|exact ⟨_,by rw [Option.some.inj h]⟩
theorem Sw {v:Value} {a:Int} (h:Gy v=some a) : ∃ t,v=.int a t:=by induction v using Value.casesOn<;>first|exact ao h|exact ⟨_,by rw [Option.some.inj h]⟩
theorem Sv {v:Value} {a:Array UInt8} (h:Gx v=some a) : ∃ t,v=.bytes a t:=by induction v using Value.casesOn<;>first|exact ao h|exact ⟨_,by rw [Option.some.inj h]⟩
set_option backward.match.sparseCases false in
noncomputable def Ba:Data->Option (Array Value)
 |.fields vs=>some vs
 |_=>none
set_option backward.match.sparseCases false in
noncomputable def Bc:Data->Option (Array Value)
 |.seq vs _=>some vs
 |_=>none
set_option backward.match.sparseCases false in
noncomputable def Bb:Data->Option FuncData
 |.func fd=>some fd
 |_=>none
set_option backward.match.sparseCases false in
noncomputable def IF:Data->Option (Array DictEntry)
 |.dict es _=>some es
 |_=>none
set_option backward.match.sparseCases false in
noncomputable def IE:Data->Option ClassData
 |.cls cd=>some cd
 |_=>none
theorem IG {d:Data} {x:Array Value} (h:Ba d=some x):d=.fields x:=by induction d using Data.casesOn<;>first|exact ao h|rw [Option.some.inj h]
theorem II {d:Data} {x:Array Value} (h:Bc d=some x) : ∃ n,d=.seq x n:=by induction d using Data.casesOn<;>first|exact ao h|exact ⟨_,by rw [Option.some.inj h]⟩
theorem IH {d:Data} {x:FuncData} (h:Bb d=some x):d=.func x:=by induction d using Data.casesOn<;>first|exact ao h|rw [Option.some.inj h]
noncomputable def qT (aL bf:List Addr) (d:D) (v:Value):Bool:=match d with
 |.none=>decide (v=.none)
 |.bool a=>decide (v=.bool a)
 |.int i=>Gy v==some i
 |.bytes a=>Gx v==some a.toArray&&decide (a.length<=aD)
 |.bn b=>decide (v=b.val)
 |.fn k=>decide (v=.ref (ec aL k))
 |.cls k=>decide (v=.ref (jY bf k))
 |_=>false
theorem ye {V:aq} {aL bf:List Addr} (h1:V.ba=ec aL) (h2:V.bw=jY bf) {d:D} {v:Value} (h:qT aL bf d v=true) (g:Gh):ab V g d v:=by
 induction d using D.casesOn<;>first|exact bA h|skip
 ·rw [of_decide_eq_true h]; exact .none
 ·rw [of_decide_eq_true h]; exact .bool _
 ·obtain ⟨t,rfl⟩:=Sw (eq_of_beq h); exact .int _ _
 ·obtain ⟨h3,h4⟩:=and_eq_true_iff.mp h
  obtain ⟨t,rfl⟩:=Sv (eq_of_beq h3); exact .bytes _ (of_decide_eq_true h4)
 ·rw [of_decide_eq_true h]; exact .bn _
 ·rw [of_decide_eq_true h,<-h1]; exact .fn _
 ·rw [of_decide_eq_true h,<-h2]; exact .cls _
noncomputable def uo (aL bf:List Addr):List D->List Value->Bool
 |[],vs=>vs.isEmpty
 |d::ds,vs=>match vs with
  |[]=>false
  |v::vs=>qT aL bf d v&&uo aL bf ds vs
theorem Fj {V:aq} {aL bf:List Addr} (h1:V.ba=ec aL) (h2:V.bw=jY bf) : ∀ {ds:List D} {vs:List Value},uo aL bf ds vs=true->aZ (λd v => ∀ g,ab V g d v) ds vs
 |[],vs,h=>by
  obtain rfl:=isEmpty_iff.mp h
  exact trivial
 |d::ds,vs,h=>by
  induction vs using List.casesOn with
  |nil=>exact bA h
  |cons v vs=>
   obtain ⟨a,b⟩:=and_eq_true_iff.mp (show (qT aL bf d v&&uo aL bf ds vs)=true from h)
   exact ⟨ye h1 h2 a,Fj h1 h2 b⟩
noncomputable def xW (K:W.Frag) (v:Value):Option Obj:=(yP v).bind λc=>K.lookup c
theorem EJ {K:W.Frag} {v:Value} {o:Obj} (h:xW K v=some o) : ∃ a,v=.ref a/\K.lookup a=some o:=by
 obtain ⟨a,e,h⟩:=aS h
 exact ⟨a,Gz e,h⟩
noncomputable def AV (K:W.Frag) (cd:Value):Option Str:=(xW K cd).bind λo=>(Ba o.data).bind λvs=>(vs[1]?:Option Value).bind yQ
noncomputable def Qs (K:W.Frag) (v:Value):Option (List Value):=(xW K v).bind λo=>(Bc o.data).map (·.toList)
noncomputable def vG (K:W.Frag) (v:Value):Option (List Value):=match decide (v=.none) with
 |true=>some []
 |false=>Qs K v
noncomputable def Gf:FuncBody->Option (List Stmt)
 |.stmts b=>some b
 |_=>none
theorem RT {b:FuncBody} {x:List Stmt} (h:Gf b=some x):b=.stmts x:=by induction b using FuncBody.casesOn<;>first|exact ao h|rw [Option.some.inj h]
noncomputable def sD (K:W.Frag) (G:aV) (aL bf:List Addr) (a:Addr):Option Fn:=(K.lookup a).bind λo=>(Bb o.data).bind λfd=>(Gf fd.body).bind λbody=>(vG K fd.defaults).bind λdl=>
 if AV K fd.code==some fd.qualname&&fd.closure.isEmpty&&fd.globals==mainGlobals&&fd.builtins==builtinsNs&&sE fd.params fd.scope&&uo aL bf (dX G fd.params body fd.scope).bM dl then some (dX G fd.params body fd.scope) else none
theorem Im {V:aq} {K:W.Frag} (X:K.In V.h₀) {cd:Value} {q:Str} (h:AV K cd=some q) : ∃ c oc vs t,cd=.ref c/\V.h₀.get? c=some oc/\oc.data=.fields vs/\(vs[1]?:Option Value)=some (.str q t):=by
 refine cps λQQ kQ=>?_
 obtain ⟨o,h1,h⟩:=aS h
 obtain ⟨vs,h2,h⟩:=aS h
 obtain ⟨v,h3,h⟩:=aS h
 obtain ⟨c,e,hc⟩:=EJ h1
 obtain ⟨t,rfl⟩:=Sx h
 exact kQ ⟨c,o,vs,t,e,X _ _ hc,IG h2,h3⟩
theorem IS {V:aq} {K:W.Frag} (X:K.In V.h₀) {v:Value} {dl:List Value} (h:vG K v=some dl):(v=.none/\dl=[])\/∃ a n o,v=.ref a/\V.h₀.get? a=some o/\o.data=.seq dl.toArray n:=by
 unfold vG at h
 induction hd:decide (v=.none) with
 |true=>rw [hd] at h; exact .inl ⟨of_decide_eq_true hd,(Option.some.inj h).symm⟩
 |false=>
  rw [hd] at h
  obtain ⟨o,h1,h⟩:=aS h
  obtain ⟨xs,h2,rfl⟩:=cB h
  obtain ⟨a,e,ha⟩:=EJ h1
  obtain ⟨n,hn⟩:=II h2
  exact .inr ⟨a,n,o,e,X _ _ ha,hn⟩
theorem JM {V:aq} {K:W.Frag} {G:aV} {aL bf:List Addr} (X:K.In V.h₀) (h1:V.ba=ec aL) (h2:V.bw=jY bf) {k:Nat} {f:Fn} (h:sD K G aL bf (V.ba k)=some f):uP V G k f:=by
 refine cps λQQ kQ=>?_
 obtain ⟨o,ho,h⟩:=aS h
 obtain ⟨fd,hd,h⟩:=aS h
 obtain ⟨body,hb,h⟩:=aS h
 obtain ⟨dl,ik,h⟩:=aS h
 obtain ⟨hc,h⟩:=gk h
 rw [and_eq_true,and_eq_true,and_eq_true,and_eq_true,and_eq_true] at hc
 obtain ⟨⟨⟨⟨⟨wB,iU⟩,wC⟩,wD⟩,wF⟩,KZ⟩:=hc
 obtain rfl:=Option.some.inj h
 exact kQ ⟨o,fd,body,dl,X _ _ ho,IH hd,RT hb,Im X (eq_of_beq wB),isEmpty_iff.mp iU,eq_of_beq wC,eq_of_beq wD,wF,rfl,Fj h1 h2 KZ,IS X ik⟩
theorem G4 (n:Nm):n∈u7:=mem_of_getElem? n.hZ
noncomputable def FW (K:W.Frag) (C:Addr) (n:Nm):Option Addr:=(W.findIn K (.ref C) n.str).bind λv=>v.bind yP
theorem QL {K:W.Frag} {C:Addr} {n:Nm} {p:Addr} (h:FW K C n=some p):W.findIn K (.ref C) n.str=some (some (.ref p)):=by
 obtain ⟨v,h1,h⟩:=aS h
 obtain ⟨u,h2,h⟩:=aS h
 rw [h1,h2,Gz h]
noncomputable def FX (K:W.Frag) (C:Addr) (n:Nm) (ix:Nat):Bool:=match FW K C n with
 |some p=>decide (W.slotIn K p C=some ix)&&decide (W.typeIn K (.ref p)=some (.type "member_descriptor"))&&decide (W.specialIn K (.ref p) "__get__"=some (some (.builtin "member_descriptor.__get__")))&&decide (W.takesIn K (.ref p)=some true) &&
  decide (W.takerIn K C n.str=some (some (.ref p)))
 |none=>false
noncomputable def r6 (K:W.Frag) (ba:Nat->Addr) (C:Addr) (ix:Nat->Nat) (c:gZ):Bool:=
 W.plainGet K C ""&&decide (W.findIn K (.ref C) "__setattr__"=some (some (.builtin "object.__setattr__")))&&W.plainOver K C &&
 (c.meths.all λp=>decide (W.findIn K (.ref C) p.1.str=some (some (.ref (ba p.2))))&&decide (W.typeIn K (.ref (ba p.2))=some (.type "function"))&&decide (W.specialIn K (.ref (ba p.2)) "__get__"=some (some (.builtin "function.__get__"))) &&
  decide (W.takesIn K (.ref (ba p.2))=some false)&&!W.copiedNames.contains p.1.str) &&
 decide (W.findIn K (.ref C) "__init__"=some (some (.ref (ba c.init))))&&decide (W.typeIn K (.ref (ba c.init))=some (.type "function"))&&W.makesIn K C &&
 (!(c.meths.lookup .b9).isSome||(decide (W.findIn K (.ref C) "__len__"=some none)&&decide (W.findIn K (.ref C) "__length_hint__"=some none))) &&
 (match c.slots with
  |none=>W.hasDictIn K C&&(u7.all λn=>!n.mL||(decide (W.findIn K (.ref C) n.str=some none)&&decide (W.takerIn K C n.str=some none)))
  |some ns=>(ns.all λn=>FX K C n (ix (ns.idxOf n)))&&decide (((List.range ns.length).map ix).Nodup)&&((List.range ns.length).all λi=>decide (ix i<1000))&&(W.clsIn K C).isSome)
set_option tactic.hygienic true in
theorem Ie {V:aq} {k:Nat} {c:gZ} (h:r6 V.K V.ba (V.bw k) (V.gV k) c=true):y0 V k c:=by
 unfold r6 at h
 simp only [and_eq_true,decide_eq_true_eq,or_eq_true,not_eq_true'] at h
 obtain ⟨⟨⟨⟨⟨⟨⟨⟨h1,h2⟩,h3⟩,h4⟩,h5⟩,h6⟩,h7⟩,h8⟩,h9⟩:=h
 refine ⟨h1,h2,h3,λn f hf=>?_,h5,h6,h7,λhn=>?_,λhs=>?_,λns hs=>?_⟩
 ·have hm:(n,f)∈c.meths:=by
   have : ∀ {l:List (Nm × Nat)},l.lookup n=some f->(n,f)∈l:=by
    intro l
    induction l with
    |nil=>intro h; exact ao h
    |cons e r ih=>
     intro h
     rw [lookup_cons] at h
     split at h
     ·rename_i q; obtain rfl:=Option.some.inj h; rw [eq_of_beq q]; exact .head _
     ·exact .tail _ (ih h)
   exact this hf
  have:=all_eq_true.mp h4 _ hm
  simp only [and_eq_true,decide_eq_true_eq,not_eq_true'] at this
  obtain ⟨⟨⟨⟨a1,a2⟩,a3⟩,a4⟩,a5⟩:=this
  exact ⟨a1,a2,a3,a4,a5⟩
 ·rcases h8 with h8|h8
  ·rw [hn] at h8; exact fT h8
  ·exact h8
 ·rw [hs] at h9
  dsimp only at h9
  rw [and_eq_true] at h9
  refine ⟨h9.1,λn hn=>?_⟩
  have:=all_eq_true.mp h9.2 n (G4 n)
  rw [hn] at this
  simpa using this
 ·rw [hs] at h9
  dsimp only at h9
  simp only [and_eq_true,decide_eq_true_eq] at h9
  obtain ⟨⟨⟨b1,b2⟩,b3⟩,b4⟩:=h9
  refine ⟨λn hn=>?_,λi j hi hj e=>?_,λi hi=>?_,b4⟩
  ·have:=all_eq_true.mp b1 n (contains_iff_mem.mp hn)
   unfold FX at this
   split at this
   ·rename_i p hp
    simp only [and_eq_true,decide_eq_true_eq] at this
    obtain ⟨⟨⟨⟨a1,a2⟩,a3⟩,a4⟩,a5⟩:=this
    exact ⟨p,QL hp,a1,a2,a3,a4,a5⟩
   ·exact bA this
  ·have gi:((List.range ns.length).map (V.gV k))[i]?=some (V.gV k i):=by rw [getElem?_map,getElem?_range hi]; rfl
   have gj:((List.range ns.length).map (V.gV k))[j]?=some (V.gV k j):=by rw [getElem?_map,getElem?_range hj]; rfl
   exact (List.getElem?_inj (by simpa using hi) b2).mp (by rw [gi,gj,e])
  ·exact of_decide_eq_true (all_eq_true.mp b3 i (mem_range.mpr hi))
noncomputable def tU (K:W.Frag):Option (Array DictEntry):=match K.lookup mainGlobals with
 |some o=>match o.data with
  |.dict es _=>some es
  |_=>none
 |none=>none
noncomputable def wb (aL bf:List Addr) (es:Array DictEntry) (p:Str × D):Bool:=match nsFind es p.1 with
 |some v=>qT aL bf p.2 v
 |none=>decide (p.1≠("__name__":Str))&&(match bootBuiltins p.1 with
  |some v=>qT aL bf p.2 v
  |none=>false)
noncomputable def IC (o:Obj):Option ClassData:=if (decide (o.cls=.type "type")&&decide (o.slots.size=6)&&decide (o.slots[4]?=some (some (.builtin "ValueError.__new__"))))=true then IE o.data else none
noncomputable def IB (K:W.Frag) (a:Addr):Option (Array DictEntry):=(K.lookup a).bind λo=>(IF o.data).bind λes=>if (es.toList.all (λe=>(yQ e.key).isSome)&&(nsFind es "__init__").isNone)=true then some es else none
noncomputable def ID (K:W.Frag) (C:Addr):Option (Array DictEntry):=(K.lookup C).bind λo=>(IC o).bind λcd=>
 if (decide (cd.mro=.ref C::[.type "ValueError",.type "Exception",.type "BaseException",.type "object"])&&decide (cd.hasDel=false))=true then IB K cd.ns else none
noncomputable def vC (K:W.Frag) (C:Addr):Bool:=(ID K C).isSome
theorem IA {V:aq} (X:V.K.In V.h₀) (h:vC V.K (V.bw 1)=true):lX V:=trivial
noncomputable def Obj.t5 (o:Obj):Bool:=match o.cls with
 |.type t=>t != "list"
 |_=>true
noncomputable def EO (P:aR) (p:Nat->gZ->Bool):Bool:=(List.range P.nV.length).all λk=>match P.dy k with
 |some c=>p k c
 |none=>true
noncomputable def ko (K:W.Frag):Array DictEntry:=(tU K).getD #[]
structure uV (K:W.Frag) (P:aR) (G:aV) (aL bf:List Addr) (cQ:List (List Nat)):Prop where
 main:(tU K).isSome=true
 plain:(K.all λp=>Obj.t5 p.2)=true
 glob:(G.glob.all (wb aL bf (ko K)))=true
 cls:EO P (λk c=>r6 K (ec aL) (jY bf k) (yz cQ k) c)=true
 keep:((aL.headD 0::aL).all λa=>W.keepIn K (.ref a)&&W.fnIn K a)=true
 d8:vC K (jY bf 1)=true
 fns:((List.range P.fns.length).map λk=>sD K G aL bf (ec aL k))=P.fns.map some
set_option tactic.hygienic true in
theorem DT {K:W.Frag} {a:Addr} {o:Obj}:K.lookup a=some o->(a,o)∈K:=by
 induction K with
 |nil=>intro h; exact ao h
 |cons e r ih=>
  intro h
  rw [lookup_cons] at h
  split at h
  ·rename_i q; obtain rfl:=Option.some.inj h; rw [eq_of_beq q]; exact .head _
  ·exact .tail _ (ih h)
set_option tactic.hygienic true in
theorem Nv {prog:Program} {w:World} {s:Shared} {sa:Addr} {P:aR} {K:W.Frag} {G:aV} {aL bf:List Addr} {cQ:List (List Nat)} {mg mb:Str->Option Value}
  (L:uV K P G aL bf cQ) (KX:K.In s.heap) {vs:List Value} (gJ:s.heap.get? sa=some {cls:=.type "list",data:=.seq vs.toArray})
  (gN:s.heap.Ns mainGlobals mg) (bN:s.heap.Ns builtinsNs mb) (nl:s.heap.NoLimit) (nb : ∀ x:Str,x≠"__name__"->mb x=bootBuiltins x) (mods : ∃ mm,s.heap.Ns sysModules mm) :
  (mY prog w s sa P K aL bf cQ).Ok G/\(mY prog w s sa P K aL bf cQ).Base/\(mY prog w s sa P K aL bf cQ).c7/\(mY prog w s sa P K aL bf cQ).l0/\
   lX (mY prog w s sa P K aL bf cQ)/\(mY prog w s sa P K aL bf cQ).uQ G/\∀ x v,nsFind (ko K) x=some v->mg x=some v:=by
 have uU:K.In (e8 s.heap λb=>b=sa):=λa o e=>by
  have h1:=KX a o e
  have:a≠sa:=by
   rintro rfl
   rw [gJ] at h1; obtain rfl:=Option.some.inj h1
   have:=all_eq_true.mp L.plain _ (DT e)
   simp [Obj.t5] at this
  rw [oj (P:=λb=>b=sa) this]; exact h1
 have t6 : ∀ {a m},s.heap.Ns a m->(e8 s.heap λb=>b=sa).Ns a m:=λ{a m} x=>by
  obtain ⟨o,e1,ep,h1,h2,h3⟩:=x
  have:a≠sa:=by
   rintro rfl
   rw [gJ] at h1; obtain rfl:=Option.some.inj h1; cases h2
  exact ⟨o,e1,ep,by rw [oj (P:=λb=>b=sa) this]; exact h1,h2,h3⟩
 obtain ⟨es,CX⟩:=isSome_iff_exists.mp L.main
 have LU:ko K=es:=by unfold ko; rw [CX]; rfl
 have w0 : ∀ x,mg x=nsFind (ko K) x:=by
  rw [LU]
  have hm:=CX
  unfold tU at hm
  split at hm
  ·rename_i o ho
   split at hm
   ·rename_i n0 n hd
    obtain rfl:=Option.some.inj hm
    obtain ⟨o2,SR,ep,h1,h2,_,h3⟩:=gN
    rw [KX _ _ ho] at h1; obtain rfl:=Option.some.inj h1
    rw [hd] at h2; cases h2
    exact λx=>(h3 x).symm
   ·exact ao hm
  ·exact ao hm
 have C6 : ∀ k,W.keepIn K (.ref (ec aL k))=true/\W.fnIn K (ec aL k)=true:=λk=>by
  have hk:ec aL k∈aL.headD 0::aL:=by
   unfold ec
   induction q:aL[k]? with
   |none=>exact .head _
   |some a=>exact .tail _ (mem_of_getElem? q)
  have:=all_eq_true.mp L.keep _ hk
  rwa [and_eq_true] at this
 refine ⟨⟨⟨mg,mb,t6 gN,t6 bN,λx d hx=>?_⟩,?_⟩,⟨?_,uU⟩,λk c hk=>?_,⟨λk=>(C6 k).1,λk=>(C6 k).2⟩,IA uU L.d8,λk f hk=>?_,λx v h=>(w0 x).trans h⟩
 ·have hm:(x,d)∈G.glob:=by
   have : ∀ {l:List (Str × D)},l.lookup x=some d->(x,d)∈l:=by
    intro l
    induction l with
    |nil=>intro h; exact ao h
    |cons e r ih=>
     intro h
     rw [lookup_cons] at h
     split at h
     ·rename_i q; obtain rfl:=Option.some.inj h; rw [eq_of_beq q]; exact .head _
     ·exact .tail _ (ih h)
   exact this hx
  have hg:=all_eq_true.mp L.glob _ hm
  unfold wb at hg
  split at hg
  ·rename_i v hv
   exact ⟨v,.inl ((w0 x).trans hv),λg=>ye rfl rfl hg g⟩
  ·rename_i hv
   rw [and_eq_true,decide_eq_true_eq] at hg
   obtain ⟨h1,h2⟩:=hg
   split at h2
   ·rename_i v hb
    exact ⟨v,.inr ⟨(w0 x).trans hv,(nb x h1).trans hb⟩,λg=>ye rfl rfl h2 g⟩
   ·exact bA h2
 ·obtain ⟨mc,h1,h2⟩:=nl
  exact ⟨mc,t6 h1,h2⟩
 ·obtain ⟨mm,h⟩:=mods
  obtain ⟨o,_,_,h1,_⟩:=t6 h
  exact ⟨o,h1⟩
 ·have b7:k<P.nV.length:=by
   have:P.dy k=some c:=hk
   unfold aR.dy at this
   induction q:P.nV[k]? with
   |none=>rw [q] at this; exact ao this
   |some c'=>exact (List.getElem?_eq_some_iff.mp q).1
  have:=all_eq_true.mp L.cls k (mem_range.mpr b7)
  have ir:P.dy k=some c:=hk
  rw [ir] at this
  exact Ie this
 ·have ir:P.fns[k]?=some f:=hk
  have h1:(P.fns.map some)[k]?=some (some f):=by rw [getElem?_map,ir]; rfl
  rw [<-L.fns,getElem?_map] at h1
  have b7:k<P.fns.length:=(List.getElem?_eq_some_iff.mp ir).1
  rw [getElem?_range b7] at h1
  have h2:sD K G aL bf (ec aL k)=some f:=by
   simpa using h1
  exact JM uU rfl rfl h2
theorem Nc {prog:Program} {w:World} {s:Shared} {K:W.Frag} {P:aR} {G:aV} {aL bf:List Addr} {cQ:List (List Nat)} {mg mb:Str->Option Value} {fa sa:Addr} {vs:List Value} {ns:List Int} {k:Nat}
  (KX:K.In s.heap) (Lb:mg "law"=some (.ref fa)) (gN:s.heap.Ns mainGlobals mg) (bN:s.heap.Ns builtinsNs mb) (nl:s.heap.NoLimit) (nb : ∀ x:Str,x≠"__name__"->mb x=bootBuiltins x) (mods:s.heap.NoSeer)
  (j7:s.gens = #[]) (gJ:s.heap.get? sa=some {cls:=.type "list",data:=.seq vs.toArray}) (hi:IntsAre vs ns) (hz:ns.length<=63)
  (L:uV K P G aL bf cQ) (GE:G.Exc) (wW:nsFind (ko K) "law"=some (.ref (ec aL k))) {f:Fn} (hf:P.fns[k]?=some f) (qg:f.cg.length=1) (oi:f.cq=none) (sQ:f.cp=[]) (sR:f.bM=[])
  (gI : ∃ st,aA P 10000 12 k [.lst (ns.map .int)] [] []=.ok (.bool true) st) {R:Result->Shared->Prop}
  (hR : ∀ s',(∀ b o,s.heap.get? b=some o->s'.heap.get? b=some o)->s'.gens = #[]->s'.os=s.os->R (.ok (.ret (.bool true))) s') :
  codeAny (model prog w) callerA (.call (.ref fa) ⟨[.ref sa],[]⟩) R s:=by
 obtain ⟨O,B,au,dE,jz,hF,hm⟩:=Nv (prog:=prog) (w:=w) L KX gJ gN bN nl nb (let ⟨mm,h,_⟩:=mods.mods; ⟨mm,h⟩)
 obtain ⟨st,gI⟩:=gI
 have h1:=hm _ _ wW
 rw [Lb] at h1
 obtain rfl:fa=ec aL k:=by cases h1; rfl
 exact Sf (V:=mY prog w s sa P K aL bf cQ) O B au dE GE jz hF (fuel:=10000) (n:=11) (by decide) (by decide) hf qg oi sQ sR (sa:=sa) rfl rfl j7 gJ hi hz gI hR
theorem Nz {P:Params} {h:Heap} {sa:Addr} {xs:List PyData} {vs:List Value} (w:W.Well P h (.ref sa) (W.ofPy (PyData.list xs))) (L:h.IsList sa vs.toArray):h.get? sa=some {cls:=.type "list",data:=.seq vs.toArray}:=by
 have e:W.ofPy (PyData.list xs)=.list (W.ofPys xs):=by simp [W.ofPy]
 rw [e] at w
 cases w with
 |list h1 h2=>
  obtain ⟨o,h3,h4,n,h5⟩:=L
  rw [h1] at h3
  obtain rfl:=Option.some.inj h3
  cases h5
  exact h1
noncomputable def jm (h:Heap):W.Frag:=(List.range h.objs.size).filterMap λa=>match h.get? a with
 |some o=>if Obj.t5 o then some (a,o) else none
 |none=>none
theorem GD {h:Heap} {a:Addr} {o:Obj} (e:(a,o)∈jm h):h.get? a=some o/\Obj.t5 o=true:=by
 obtain ⟨b,_,hb⟩:=List.mem_filterMap.mp e
 split at hb
 ·split at hb
  ·cases hb; exact ⟨by assumption,by assumption⟩
  ·cases hb
 ·cases hb
theorem SE (h:Heap):(jm h).In h:=λu' u' e=>(GD (DT e)).1
noncomputable def DV (P:aR) (G:aV) (aL bf:List Addr) (cQ:List (List Nat)) (s:Shared):(Bool × Bool × Bool × Bool × Bool) × Option Value × List (Option Fn):=
 (((tU (jm s.heap)).isSome,G.glob.all (wb aL bf (ko (jm s.heap))),EO P (λk c=>r6 (jm s.heap) (ec aL) (jY bf k) (yz cQ k) c),
  (aL.headD 0::aL).all (λa=>W.keepIn (jm s.heap) (.ref a)&&W.fnIn (jm s.heap) a),vC (jm s.heap) (jY bf 1)),
  nsFind (ko (jm s.heap)) "law",(List.range P.fns.length).map λk=>sD (jm s.heap) G aL bf (ec aL k))
noncomputable def DW (P:aR) (aL:List Addr) (k:Nat) (_:World):(Bool × Bool × Bool × Bool × Bool) × Option Value × List (Option Fn):=
 ((true,true,true,true,true),some (.ref (ec aL k)),P.fns.map some)
noncomputable def tJ (P:aR) (G:aV) (aL bf:List Addr) (cQ:List (List Nat)) (k:Nat) (_:World) (h:Heap):Prop:=
 ∃ K:W.Frag,K.In h/\uV K P G aL bf cQ/\nsFind (ko K) "law"=some (.ref (ec aL k))
theorem Nu {P:aR} {G:aV} {aL bf:List Addr} {cQ:List (List Nat)} {k:Nat} (w:World) (s:Shared) (e:DV P G aL bf cQ s=DW P aL k w):tJ P G aL bf cQ k w s.heap:=by
 refine cps λQQ kQ=>?_
 obtain ⟨e1,e2,e3⟩:=(Prod.mk.inj e).imp id Prod.mk.inj
 obtain ⟨a1,e1⟩:=Prod.mk.inj e1
 obtain ⟨a2,e1⟩:=Prod.mk.inj e1
 obtain ⟨a3,e1⟩:=Prod.mk.inj e1
 obtain ⟨a4,a5⟩:=Prod.mk.inj e1
 exact kQ ⟨jm s.heap,SE _,⟨a1,all_eq_true.mpr λp hp=>(GD (a:=p.1) (o:=p.2) hp).2,a2,a3,a4,a5,e3⟩,e2⟩
theorem Nt {P:aR} {G:aV} {aL bf:List Addr} {cQ:List (List Nat)} {k:Nat} (w:World) (h h':Heap) (e:tJ P G aL bf cQ k w h) (q : ∀ b o,h.get? b=some o->h'.get? b=some o) :
  tJ P G aL bf cQ k w h':=let ⟨K,a,b⟩:=e; ⟨K,a.keeps q,b⟩
end Mine.Lake
end
section
open PySem
namespace Mine.Lake
noncomputable def ia:List UInt8:=[65,66,67,68,69,70,71,72,73,74,75,76,77,78,79,80,81,82,83,84,85,86,87,88,89,90,97,98,99,100,101,102,103,104,105,106,107,108,109,110,111,112,113,114,
 115,116,117,118,119,120,121,122,48,49,50,51,52,53,54,55,56,57,43,47]
noncomputable def cbuffer_0:Ss:=(.cons (.expr .bad) .nil)
noncomputable def cbuffer_1:Ss:=(.cons (.ifs (.cmp .is (.var 1) (.cst (.bn .bytearray))) (.cons (.ret (.call (.cst (.bn .bytes)) (.cons (.var 0) .nil) .nil)) .nil) .nil) cbuffer_0)
noncomputable def cbuffer_2:Ss:=(.cons (.ifs (.cmp .is (.var 1) (.cst (.bn .bytes))) (.cons (.ret (.var 0)) .nil) .nil) cbuffer_1)
noncomputable def cbuffer_3:Ss:=(.cons (.aN 1 false (.call (.cst (.bn .type)) (.cons (.var 0) .nil) .nil)) cbuffer_2)
noncomputable def Az:Fn:={cg:=[0],bM:=[],cp:=[],cq:=none,size:=2,body:=cbuffer_3}
noncomputable def ctruth_0:Ss:=(.cons (.expr .bad) .nil)
noncomputable def ctruth_1:Ss:=(.cons (.ifs (.or (.cmp .is (.var 0) (.cst .none)) (.or (.cmp .is (.var 1) (.cst (.bn .bool))) (.or (.cmp .is (.var 1) (.cst (.bn .int))) (.or (.cmp .is (.var 1) (.cst (.bn .float))) (.or (.cmp .is (.var 1) (.cst (.bn .complex))) (.or (.cmp .is (.var 1) (.cst (.bn .str))) (.or (.cmp .is (.var 1) (.cst (.bn .bytes))) (.or (.cmp .is (.var 1) (.cst (.bn .bytearray))) (.or (.cmp .is (.var 1) (.cst (.bn .list))) (.or (.cmp .is (.var 1) (.cst (.bn .tuple))) (.or (.cmp .is (.var 1) (.cst (.bn .dict))) (.or (.cmp .is (.var 1) (.cst (.bn .set))) (.or (.cmp .is (.var 1) (.cst (.bn .frozenset))) (.cmp .is (.var 1) (.cst (.bn .range)))))))))))))))) (.cons (.ret (.ite (.var 0) (.cst (.bool true)) (.cst (.bool false)))) .nil) .nil) ctruth_0)
noncomputable def ctruth_2:Ss:=(.cons (.aN 1 false (.call (.cst (.bn .type)) (.cons (.var 0) .nil) .nil)) ctruth_1)
noncomputable def A8:Fn:={cg:=[0],bM:=[],cp:=[],cq:=none,size:=2,body:=ctruth_2}
noncomputable def cb2abase64_0:Ss:=(.cons (.expr (.bq (.var 3) .append (.cons (.idx (.cst (.bytes ia)) (.bin .and (.bin .shr (.var 5) (.bin .sub (.var 4) (.cst (.int 6)))) (.cst (.int 63)))) .nil))) (.cons (.aN 4 false (.bin .sub (.var 4) (.cst (.int 6)))) .nil))
noncomputable def cb2abase64_1:Ss:=(.cons (.aN 5 false (.bin .and (.bin .or (.bin .shl (.var 5) (.cst (.int 8))) (.var 6)) (.cst (.int 65535)))) (.cons (.aN 4 false (.bin .add (.var 4) (.cst (.int 8)))) (.cons (.kG (.cmp .ge (.var 4) (.cst (.int 6))) cb2abase64_0 .nil) .nil)))
noncomputable def cb2abase64_2:S:=(.dR (.one 6) (.var 2) cb2abase64_1)
noncomputable def cb2abase64_3:Ss:=(.cons (.ret (.call (.cst (.bn .bytes)) (.cons (.var 3) .nil) .nil)) .nil)
noncomputable def cb2abase64_4:Ss:=(.cons (.ifs (.var 1) (.cons (.expr (.bq (.var 3) .append (.cons (.cst (.int 10)) .nil))) .nil) .nil) cb2abase64_3)
noncomputable def cb2abase64_5:Ss:=(.cons (.ifs (.cmp .eq (.var 4) (.cst (.int 2))) (.cons (.expr (.bq (.var 3) .append (.cons (.idx (.cst (.bytes ia)) (.bin .shl (.bin .and (.var 5) (.cst (.int 3))) (.cst (.int 4)))) .nil))) (.cons (.expr (.bq (.var 3) .append (.cons (.cst (.int 61)) .nil))) (.cons (.expr (.bq (.var 3) .append (.cons (.cst (.int 61)) .nil))) .nil))) (.cons (.ifs (.cmp .eq (.var 4) (.cst (.int 4))) (.cons (.expr (.bq (.var 3) .append (.cons (.idx (.cst (.bytes ia)) (.bin .shl (.bin .and (.var 5) (.cst (.int 15))) (.cst (.int 2)))) .nil))) (.cons (.expr (.bq (.var 3) .append (.cons (.cst (.int 61)) .nil))) .nil)) .nil) .nil)) cb2abase64_4)
noncomputable def cb2abase64_6:Ss:=(.cons cb2abase64_2 cb2abase64_5)
noncomputable def cb2abase64_7:Ss:=(.cons (.aN 5 false (.cst (.int 0))) cb2abase64_6)
noncomputable def cb2abase64_8:Ss:=(.cons (.aN 4 false (.cst (.int 0))) cb2abase64_7)
noncomputable def cb2abase64_9:Ss:=(.cons (.aN 3 true (.list .nil)) cb2abase64_8)
noncomputable def cb2abase64_10:Ss:=(.cons (.aN 1 false (.call (.cst (.fn 1)) (.cons (.var 1) .nil) .nil)) cb2abase64_9)
noncomputable def cb2abase64_11:Ss:=(.cons (.aN 2 false (.call (.cst (.fn 0)) (.cons (.var 0) .nil) .nil)) cb2abase64_10)
noncomputable def Ax:Fn:={cg:=[0],bM:=[],cp:=[(.newline,1)],cq:=none,size:=7,body:=cb2abase64_11}
noncomputable def cb64encode_0:Ss:=(.cons (.ret (.var 2)) .nil)
noncomputable def cb64encode_1:Ss:=(.cons (.ifs (.cmp .mO (.var 1) (.cst .none)) (.cons .bad (.cons (.ret .bad) .nil)) .nil) cb64encode_0)
noncomputable def cb64encode_2:Ss:=(.cons (.aN 2 false (.call (.cst (.fn 2)) (.cons (.var 0) .nil) (.cons .newline (.cst (.bool false)) .nil))) cb64encode_1)
noncomputable def Ay:Fn:={cg:=[0,1],bM:=[.none],cp:=[],cq:=none,size:=3,body:=cb64encode_2}
noncomputable def cfinit_0:Ss:=(.cons (.cU (.var 0) .func false (.var 1)) .nil)
noncomputable def cfinit_1:Ss:=(.cons (.cU (.var 0) .it false (.call (.cst (.bn .iter)) (.cons (.var 2) .nil) .nil)) cfinit_0)
noncomputable def AH:Fn:={cg:=[0,1,2],bM:=[],cp:=[],cq:=none,size:=3,body:=cfinit_1}
noncomputable def cfiter_0:Ss:=(.cons (.ret (.var 0)) .nil)
noncomputable def AI:Fn:={cg:=[0],bM:=[],cp:=[],cq:=none,size:=1,body:=cfiter_0}
noncomputable def cfnext_0:Ss:=(.cons (.aN 2 false (.call (.cst (.bn .next)) (.cons (.attr (.var 0) .it) .nil) .nil)) (.cons (.ifs (.or (.cmp .is (.var 1) (.cst .none)) (.cmp .is (.var 1) (.cst (.bn .bool)))) (.cons (.ifs (.not (.var 2)) (.cons (.ret (.var 2)) .nil) .nil) .nil) (.cons (.ifs (.not (.call (.var 1) (.cons (.var 2) .nil) .nil)) (.cons (.ret (.var 2)) .nil) .nil) .nil)) .nil))
noncomputable def cfnext_1:S:=(.kG (.cst (.bool true)) cfnext_0 .nil)
noncomputable def cfnext_2:Ss:=(.cons cfnext_1 .nil)
noncomputable def cfnext_3:Ss:=(.cons (.aN 1 false (.attr (.var 0) .func)) cfnext_2)
noncomputable def AJ:Fn:={cg:=[0],bM:=[],cp:=[],cq:=none,size:=3,body:=cfnext_3}
noncomputable def cfilter_0:Ss:=(.cons (.ret (.call (.cst (.bn .list)) (.cons (.call (.cst (.cls 3)) (.cons (.attr (.var 1) .bg) (.cons (.var 0) .nil)) .nil) .nil) .nil)) .nil)
noncomputable def AG:Fn:={cg:=[0,1],bM:=[],cp:=[],cq:=none,size:=2,body:=cfilter_0}
noncomputable def cninit_0:Ss:=(.cons (.cU (.var 0) .succ true (.list .nil)) .nil)
noncomputable def cninit_1:Ss:=(.cons (.cU (.var 0) .er false (.cst (.int 0))) cninit_0)
noncomputable def cninit_2:Ss:=(.cons (.cU (.var 0) .node false (.var 1)) cninit_1)
noncomputable def AO:Fn:={cg:=[0,1],bM:=[],cp:=[],cq:=none,size:=2,body:=cninit_2}
noncomputable def csinit_0:Ss:=(.cons (.ifs (.cmp .mO (.var 1) (.cst .none)) (.cons .bad .nil) .nil) .nil)
noncomputable def csinit_1:Ss:=(.cons (.cU (.var 0) .fp false (.cst (.int 0))) csinit_0)
noncomputable def csinit_2:Ss:=(.cons (.cU (.var 0) .el false (.cst (.int 0))) csinit_1)
noncomputable def csinit_3:Ss:=(.cons (.cU (.var 0) .cC true (.cst .none)) csinit_2)
noncomputable def csinit_4:Ss:=(.cons (.cU (.var 0) .cL false .mi) csinit_3)
noncomputable def A5:Fn:={cg:=[0,1],bM:=[.none],cp:=[],cq:=none,size:=4,body:=csinit_4}
noncomputable def csgetnodeinfo_0:Ss:=(.cons (.ret (.var 2)) .nil)
noncomputable def csgetnodeinfo_1:Ss:=(.cons (.ifs (.cmp .is (.kF 2 (.bq (.attr (.var 0) .cL) .get (.cons (.var 1) .nil))) (.cst .none)) (.cons (.pB (.attr (.var 0) .cL) (.var 1) 2 (.call (.cst (.cls 0)) (.cons (.var 1) .nil) .nil)) .nil) .nil) csgetnodeinfo_0)
noncomputable def A2:Fn:={cg:=[0,1],bM:=[],cp:=[],cq:=none,size:=3,body:=csgetnodeinfo_1}
noncomputable def csadd_0:Ss:=(.cons (.aN 5 false (.bq (.var 0) .mw (.cons (.var 4) .nil))) (.cons (.expr (.bq (.attr (.var 5) .succ) .append (.cons (.var 1) .nil))) .nil))
noncomputable def csadd_1:S:=(.dR (.one 4) (.var 2) csadd_0)
noncomputable def csadd_2:Ss:=(.cons csadd_1 .nil)
noncomputable def csadd_3:Ss:=(.cons (.kS (.var 3) .er .add (.call (.cst (.bn .len)) (.cons (.var 2) .nil) .nil)) csadd_2)
noncomputable def csadd_4:Ss:=(.cons (.aN 3 false (.bq (.var 0) .mw (.cons (.var 1) .nil))) csadd_3)
noncomputable def csadd_5:Ss:=(.cons (.ifs (.cmp .mO (.attr (.var 0) .cC) (.cst .none)) (.cons .bad .nil) .nil) csadd_4)
noncomputable def pI:Fn:={cg:=[0,1],bM:=[],cp:=[],cq:=(some 2),size:=6,body:=csadd_5}
noncomputable def csprepare_0:Ss:=(.cons (.ifs (.var 1) (.cons .bad .nil) .nil) .nil)
noncomputable def csprepare_1:Ss:=(.cons (.aN 1 false (.bq (.var 0) .n5 .nil)) csprepare_0)
noncomputable def csprepare_2:Ss:=(.cons (.cU (.var 0) .cC true (.comp (.attr (.var 2) .node) (.cons (.one 2) (.bq (.attr (.var 0) .cL) .values .nil) (.cons (.cmp .eq (.attr (.var 2) .er) (.cst (.int 0))) .nil) .nil))) csprepare_1)
noncomputable def csprepare_3:Ss:=(.cons (.ifs (.cmp .mO (.attr (.var 0) .cC) (.cst .none)) (.cons .bad .nil) .nil) csprepare_2)
noncomputable def A7:Fn:={cg:=[0],bM:=[],cp:=[],cq:=none,size:=2,body:=csprepare_3}
noncomputable def csgetready_0:Ss:=(.cons (.cU (.idx (.var 2) (.var 3)) .er false (.cst (.int (-1)))) .nil)
noncomputable def csgetready_1:S:=(.dR (.one 3) (.var 1) csgetready_0)
noncomputable def csgetready_2:Ss:=(.cons (.ret (.var 1)) .nil)
noncomputable def csgetready_3:Ss:=(.cons (.kS (.var 0) .el .add (.call (.cst (.bn .len)) (.cons (.var 1) .nil) .nil)) csgetready_2)
noncomputable def csgetready_4:Ss:=(.cons (.expr (.bq (.attr (.var 0) .cC) .clear .nil)) csgetready_3)
noncomputable def csgetready_5:Ss:=(.cons csgetready_1 csgetready_4)
noncomputable def csgetready_6:Ss:=(.cons (.aN 2 false (.attr (.var 0) .cL)) csgetready_5)
noncomputable def csgetready_7:Ss:=(.cons (.aN 1 false (.call (.cst (.bn .tuple)) (.cons (.attr (.var 0) .cC) .nil) .nil)) csgetready_6)
noncomputable def csgetready_8:Ss:=(.cons (.ifs (.cmp .is (.attr (.var 0) .cC) (.cst .none)) (.cons .bad .nil) .nil) csgetready_7)
noncomputable def A4:Fn:={cg:=[0],bM:=[],cp:=[],cq:=none,size:=4,body:=csgetready_8}
noncomputable def csisactive_0:Ss:=(.cons (.ret (.or (.cmp .lt (.attr (.var 0) .fp) (.attr (.var 0) .el)) (.call (.cst (.bn .bool)) (.cons (.attr (.var 0) .cC) .nil) .nil))) .nil)
noncomputable def csisactive_1:Ss:=(.cons (.ifs (.cmp .is (.attr (.var 0) .cC) (.cst .none)) (.cons .bad .nil) .nil) csisactive_0)
noncomputable def A6:Fn:={cg:=[0],bM:=[],cp:=[],cq:=none,size:=1,body:=csisactive_1}
noncomputable def csdone_0:Ss:=(.cons (.aN 7 false (.idx (.var 2) (.var 6))) (.cons (.kS (.var 7) .er .sub (.cst (.int 1))) (.cons (.ifs (.cmp .eq (.attr (.var 7) .er) (.cst (.int 0))) (.cons (.expr (.bq (.attr (.var 0) .cC) .append (.cons (.var 6) .nil))) .nil) .nil) .nil)))
noncomputable def csdone_1:Ss:=(.cons (.ifs (.cmp .is (.kF 4 (.bq (.var 2) .get (.cons (.var 3) .nil))) (.cst .none)) (.cons .bad .nil) .nil) (.cons (.aN 5 false (.attr (.var 4) .er)) (.cons (.ifs (.cmp .ne (.var 5) (.cst (.int (-1)))) (.cons (.ifs (.cmp .ge (.var 5) (.cst (.int 0))) (.cons .bad .nil) (.cons (.ifs (.cmp .eq (.var 5) (.cst (.int (-2)))) (.cons .bad .nil) (.cons .bad .nil)) .nil)) .nil) .nil) (.cons (.cU (.var 4) .er false (.cst (.int (-2)))) (.cons (.dR (.one 6) (.attr (.var 4) .succ) csdone_0) (.cons (.kS (.var 0) .fp .add (.cst (.int 1))) .nil))))))
noncomputable def csdone_2:S:=(.dR (.one 3) (.var 1) csdone_1)
noncomputable def csdone_3:Ss:=(.cons csdone_2 .nil)
noncomputable def csdone_4:Ss:=(.cons (.aN 2 false (.attr (.var 0) .cL)) csdone_3)
noncomputable def csdone_5:Ss:=(.cons (.ifs (.cmp .is (.attr (.var 0) .cC) (.cst .none)) (.cons .bad .nil) .nil) csdone_4)
noncomputable def pJ:Fn:={cg:=[0],bM:=[],cp:=[],cq:=(some 1),size:=8,body:=csdone_5}
noncomputable def csfindcycle_0:Ss:=(.cons (.pa (.cons (.aN 6 false (.call (.idx (.var 3) (.cst (.int (-1)))) .nil .nil)) (.cons .brk .nil)) 0 none (.cons (.pK (.var 5) (.bq (.var 2) .pop .nil)) (.cons (.expr (.bq (.var 3) .pop .nil)) .nil))) .nil)
noncomputable def csfindcycle_1:Ss:=(.cons (.ifs (.cmp .eK (.var 6) (.var 4)) (.cons (.ifs (.cmp .eK (.var 6) (.var 5)) (.cons (.ret (.bin .add (.slice (.var 2) (.idx (.var 5) (.var 6)) (.cst .none)) (.list (.cons (.var 6) .nil)))) .nil) .nil) .nil) (.cons (.expr (.bq (.var 4) .add (.cons (.var 6) .nil))) (.cons (.expr (.bq (.var 3) .append (.cons (.attr (.call (.cst (.bn .iter)) (.cons (.attr (.idx (.var 1) (.var 6)) .succ) .nil) .nil) .b9) .nil))) (.cons (.kP (.var 5) (.var 6) (.call (.cst (.bn .len)) (.cons (.var 2) .nil) .nil)) (.cons (.expr (.bq (.var 2) .append (.cons (.var 6) .nil))) .nil))))) (.cons (.kG (.var 2) csfindcycle_0 (.cons .brk .nil)) .nil))
noncomputable def csfindcycle_2:Ss:=(.cons (.ifs (.cmp .eK (.var 6) (.var 4)) (.cons .cont .nil) .nil) (.cons (.kG (.cst (.bool true)) csfindcycle_1 .nil) .nil))
noncomputable def csfindcycle_3:S:=(.dR (.one 6) (.var 1) csfindcycle_2)
noncomputable def csfindcycle_4:Ss:=(.cons (.ret (.cst .none)) .nil)
noncomputable def csfindcycle_5:Ss:=(.cons csfindcycle_3 csfindcycle_4)
noncomputable def csfindcycle_6:Ss:=(.cons (.aN 5 false .mi) csfindcycle_5)
noncomputable def csfindcycle_7:Ss:=(.cons (.aN 4 false (.call (.cst (.bn .set)) .nil .nil)) csfindcycle_6)
noncomputable def csfindcycle_8:Ss:=(.cons (.aN 3 true (.list .nil)) csfindcycle_7)
noncomputable def csfindcycle_9:Ss:=(.cons (.aN 2 true (.list .nil)) csfindcycle_8)
noncomputable def csfindcycle_10:Ss:=(.cons (.aN 1 false (.attr (.var 0) .cL)) csfindcycle_9)
noncomputable def A1:Fn:={cg:=[0],bM:=[],cp:=[],cq:=none,size:=7,body:=csfindcycle_10}
noncomputable def AA:List gZ:=[{init:=8,meths:=[(.init,8)],slots:=some [.node,.er,.succ]},{init:=999,meths:=[],slots:=none},
 {init:=9,meths:=[(.init,9),(.mw,10),(.add,11),(.prepare,12),(.jx,13),(.qC,14),(.done,15),(.n5,16)],slots:=none},
 {init:=4,meths:=[(.init,4),(.iN,5),(.b9,6)],slots:=some [.it,.func]}]
noncomputable def c3lawsign_0:Ss:=(.cons (.ret (.cst (.int 47))) .nil)
noncomputable def c3lawsign_1:Ss:=(.cons (.ifs (.cmp .eq (.var 0) (.cst (.int 62))) (.cons (.ret (.cst (.int 43))) .nil) .nil) c3lawsign_0)
noncomputable def c3lawsign_2:Ss:=(.cons (.ifs (.cmp .lt (.var 0) (.cst (.int 62))) (.cons (.ret (.bin .sub (.var 0) (.cst (.int 4)))) .nil) .nil) c3lawsign_1)
noncomputable def c3lawsign_3:Ss:=(.cons (.ifs (.cmp .lt (.var 0) (.cst (.int 52))) (.cons (.ret (.bin .add (.cst (.int 71)) (.var 0))) .nil) .nil) c3lawsign_2)
noncomputable def c3lawsign_4:Ss:=(.cons (.ifs (.cmp .lt (.var 0) (.cst (.int 26))) (.cons (.ret (.bin .add (.cst (.int 65)) (.var 0))) .nil) .nil) c3lawsign_3)
noncomputable def pD:Fn:={cg:=[0],bM:=[],cp:=[],cq:=none,size:=1,body:=c3lawsign_4}
noncomputable def c3lawones_0:Ss:=(.cons (.ret (.comp (.var 1) (.cons (.one 1) (.call (.cst (.bn .range)) (.cons (.cst (.int 6)) .nil) .nil) (.cons (.cmp .eq (.bin .mod (.bin .fdiv (.var 0) (.bin .pow (.cst (.int 2)) (.var 1))) (.cst (.int 2))) (.cst (.int 1))) .nil) .nil))) .nil)
noncomputable def pC:Fn:={cg:=[0],bM:=[],cp:=[],cq:=none,size:=1,body:=c3lawones_0}
noncomputable def c3lawwritten_0:Ss:=(.cons (.ret (.and (.call (.cst (.bn .isinstance)) (.cons (.var 0) (.cons (.cst (.bn .bytes)) .nil)) .nil) (.cmp .eq (.call (.cst (.bn .list)) (.cons (.var 0) .nil) .nil) (.comp (.call (.cst (.fn 17)) (.cons (.var 2) .nil) .nil) (.cons (.one 2) (.var 1) .nil .nil))))) .nil)
noncomputable def nR:Fn:={cg:=[0,1],bM:=[],cp:=[],cq:=none,size:=2,body:=c3lawwritten_0}
noncomputable def c3lawcame_0:Ss:=(.cons (.expr (.gn (.var 2) .add (.cons (.var 3) .nil) (.idx (.var 0) (.var 3)))) .nil)
noncomputable def c3lawcame_1:S:=(.dR (.one 3) (.list (.cons (.cst (.int 5)) (.cons (.cst (.int 4)) (.cons (.cst (.int 3)) (.cons (.cst (.int 2)) (.cons (.cst (.int 1)) (.cons (.cst (.int 0)) .nil))))))) c3lawcame_0)
noncomputable def c3lawcame_2:Ss:=(.cons (.expr (.gn (.var 2) .done .nil (.var 5))) (.cons (.aN 4 false (.bin .add (.var 4) (.var 5))) (.cons (.aN 5 false (.call (.cst (.fn 7)) (.cons (.bq (.var 2) .jx .nil) (.cons (.list (.cons (.var 1) .nil)) .nil)) .nil)) .nil)))
noncomputable def c3lawcame_3:S:=(.kG (.cmp .ne (.var 5) (.list .nil)) c3lawcame_2 .nil)
noncomputable def c3lawcame_4:Ss:=(.cons (.ret (.var 4)) .nil)
noncomputable def c3lawcame_5:Ss:=(.cons c3lawcame_3 c3lawcame_4)
noncomputable def c3lawcame_6:Ss:=(.cons (.aN 5 false (.call (.cst (.fn 7)) (.cons (.bq (.var 2) .jx .nil) (.cons (.list (.cons (.var 1) .nil)) .nil)) .nil)) c3lawcame_5)
noncomputable def c3lawcame_7:Ss:=(.cons (.aN 4 false (.list .nil)) c3lawcame_6)
noncomputable def c3lawcame_8:Ss:=(.cons (.expr (.bq (.var 2) .prepare .nil)) c3lawcame_7)
noncomputable def c3lawcame_9:Ss:=(.cons c3lawcame_1 c3lawcame_8)
noncomputable def c3lawcame_10:Ss:=(.cons (.aN 2 false (.call (.cst (.cls 2)) .nil .nil)) c3lawcame_9)
noncomputable def nO:Fn:={cg:=[0,1],bM:=[],cp:=[],cq:=none,size:=6,body:=c3lawcame_10}
noncomputable def c3lawnested_0:Ss:=(.cons (.ifs (.and (.cmp .ne (.call (.cst (.fn 7)) (.cons (.var 2) (.cons (.idx (.var 0) (.var 1)) .nil)) .nil) (.list .nil)) (.cmp .ne (.call (.cst (.fn 7)) (.cons (.idx (.var 0) (.var 1)) (.cons (.var 2) .nil)) .nil) (.list .nil))) (.cons (.ret (.cst (.bool false))) .nil) .nil) .nil)
noncomputable def c3lawnested_1:Ss:=(.cons (.dR (.one 2) (.slice (.var 0) (.cst .none) (.var 1)) c3lawnested_0) .nil)
noncomputable def c3lawnested_2:S:=(.dR (.one 1) (.call (.cst (.bn .range)) (.cons (.cst (.int 6)) .nil) .nil) c3lawnested_1)
noncomputable def c3lawnested_3:Ss:=(.cons (.ret (.cst (.bool true))) .nil)
noncomputable def c3lawnested_4:Ss:=(.cons c3lawnested_2 c3lawnested_3)
noncomputable def nQ:Fn:={cg:=[0],bM:=[],cp:=[],cq:=none,size:=3,body:=c3lawnested_4}
noncomputable def c3lawbelow_0:Ss:=(.cons (.ret (.call (.cst (.bn .len)) (.cons (.call (.cst (.bn .set)) (.cons (.comp (.call (.cst (.bn .len)) (.cons (.var 2) .nil) .nil) (.cons (.one 2) (.var 0) (.cons (.cmp .lt (.call (.cst (.bn .len)) (.cons (.var 2) .nil) .nil) (.call (.cst (.bn .len)) (.cons (.var 1) .nil) .nil)) .nil) .nil)) .nil) .nil) .nil) .nil)) .nil)
noncomputable def nN:Fn:={cg:=[0,1],bM:=[],cp:=[],cq:=none,size:=2,body:=c3lawbelow_0}
noncomputable def c3law_0:Ss:=(.cons (.kP (.var 1) (.bin .mod (.var 2) (.cst (.int 6))) (.bin .mod (.bin .add (.idx (.var 1) (.bin .mod (.var 2) (.cst (.int 6)))) (.var 3)) (.cst (.int 256)))) (.cons (.aN 2 false (.bin .add (.var 2) (.cst (.int 1)))) .nil))
noncomputable def c3law_1:S:=(.dR (.one 3) (.slice (.var 0) (.cst .none) (.cst (.int 63))) c3law_0)
noncomputable def c3law_2:Ss:=(.cons (.aN 4 false (.bin .add (.bin .mul (.var 4) (.cst (.int 256))) (.var 5))) .nil)
noncomputable def c3law_3:S:=(.dR (.one 5) (.var 1) c3law_2)
noncomputable def c3law_4:Ss:=(.cons (.expr (.bq (.var 12) .append (.cons (.call (.cst (.fn 7)) (.cons (.list (.cons (.cst (.int 0)) (.cons (.cst (.int 1)) (.cons (.cst (.int 2)) (.cons (.cst (.int 3)) (.cons (.cst (.int 4)) (.cons (.cst (.int 5)) .nil))))))) (.cons (.bin .add (.call (.cst (.fn 20)) (.cons (.var 9) (.cons (.var 14) .nil)) .nil) (.list (.cons (.var 14) .nil))) .nil)) .nil) .nil))) (.cons (.expr (.bq (.var 13) .append (.cons (.call (.cst (.fn 7)) (.cons (.list (.cons (.cst (.int 0)) (.cons (.cst (.int 1)) (.cons (.cst (.int 2)) (.cons (.cst (.int 3)) (.cons (.cst (.int 4)) (.cons (.cst (.int 5)) .nil))))))) (.cons (.bin .add (.call (.cst (.fn 20)) (.cons (.var 11) (.cons (.var 14) .nil)) .nil) (.list (.cons (.var 14) .nil))) .nil)) .nil) .nil))) .nil))
noncomputable def c3law_5:S:=(.dR (.one 14) (.call (.cst (.bn .range)) (.cons (.cst (.int 6)) .nil) .nil) c3law_4)
noncomputable def c3law_6:Ss:=(.cons (.aN 17 false (.bin .or (.var 17) (.idx (.var 15) (.var 10)))) .nil)
noncomputable def c3law_7:Ss:=(.cons (.aN 16 true (.bin .mod (.bin .sub (.idx (.var 7) (.var 8)) (.bin .and (.idx (.var 7) (.var 8)) (.idx (.var 7) (.bin .add (.cst (.int 6)) (.bin .mod (.var 8) (.cst (.int 2))))))) (.bin .pow (.cst (.int 2)) (.var 8)))) (.cons (.aN 17 false (.var 16)) (.cons (.dR (.one 10) (.call (.cst (.fn 18)) (.cons (.var 16) .nil) .nil) c3law_6) (.cons (.expr (.bq (.var 15) .append (.cons (.var 17) .nil))) .nil))))
noncomputable def c3law_8:S:=(.dR (.one 8) (.call (.cst (.bn .range)) (.cons (.cst (.int 6)) .nil) .nil) c3law_7)
noncomputable def c3law_9:Ss:=(.cons (.aN 22 false (.bin .add (.bin .mul (.bin .add (.bin .mul (.bin .add (.bin .mul (.idx (.var 20) (.var 6)) (.cst (.int 64))) (.idx (.var 20) (.bin .add (.var 6) (.cst (.int 1))))) (.cst (.int 64))) (.idx (.var 20) (.bin .add (.var 6) (.cst (.int 2))))) (.cst (.int 64))) (.idx (.var 20) (.bin .add (.var 6) (.cst (.int 3)))))) (.cons (.aN 21 false (.bin .add (.var 21) (.list (.cons (.bin .fdiv (.var 22) (.cst (.int 65536))) (.cons (.bin .mod (.bin .fdiv (.var 22) (.cst (.int 256))) (.cst (.int 256))) (.cons (.bin .mod (.var 22) (.cst (.int 256))) .nil)))))) .nil))
noncomputable def c3law_10:S:=(.dR (.one 6) (.list (.cons (.cst (.int 0)) (.cons (.cst (.int 4)) (.cons (.cst (.int 8)) .nil)))) c3law_9)
noncomputable def c3law_11:Ss:=(.cons (.ret (.cmp .eq (.comp (.tup (.cons (.var 27) (.cons (.var 28) .nil))) (.cons (.one 27) (.call (.cst (.bn .range)) (.cons (.cst (.int 6)) .nil) .nil) .nil (.cons (.one 28) (.call (.cst (.bn .range)) (.cons (.cst (.int 6)) .nil) .nil) (.cons (.cmp .eK (.var 27) (.idx (.var 13) (.var 28))) .nil) .nil))) (.var 18))) .nil)
noncomputable def c3law_12:Ss:=(.cons (.ifs (.cmp .ne (.comp (.tup (.cons (.var 27) (.cons (.var 28) .nil))) (.cons (.one 27) (.call (.cst (.bn .range)) (.cons (.cst (.int 6)) .nil) .nil) .nil (.cons (.one 28) (.idx (.var 12) (.var 27)) .nil .nil))) (.var 18)) (.cons (.ret (.cst (.bool false))) .nil) .nil) c3law_11)
noncomputable def c3law_13:Ss:=(.cons (.ifs (.cmp .eq (.var 19) (.list .nil)) (.cons (.aN 24 false (.call (.cst (.bn .len)) (.cons (.call (.cst (.bn .set)) (.cons (.slice (.var 23) (.cst .none) (.cst (.int 6))) .nil) .nil) .nil) .nil)) (.cons (.ifs (.cmp .ne (.call (.cst (.bn .len)) (.cons (.call (.cst (.bn .set)) (.cons (.slice (.var 23) (.cst (.int 6)) (.cst .none)) .nil) .nil) .nil) .nil) (.var 24)) (.cons (.ret (.cst (.bool false))) .nil) .nil) (.cons (.aN 25 false (.comp (.call (.cst (.fn 22)) (.cons (.var 13) (.cons (.var 27) .nil)) .nil) (.cons (.one 27) (.var 13) .nil .nil))) (.cons (.aN 26 false (.comp (.call (.cst (.fn 22)) (.cons (.var 12) (.cons (.var 27) .nil)) .nil) (.cons (.one 27) (.var 12) .nil .nil))) (.cons (.ifs (.cmp .ne (.comp (.tup (.cons (.var 27) (.cons (.var 28) .nil))) (.cons (.one 27) (.call (.cst (.bn .range)) (.cons (.cst (.int 6)) .nil) .nil) .nil (.cons (.one 28) (.call (.cst (.bn .range)) (.cons (.cst (.int 6)) .nil) .nil) (.cons (.cmp .ge (.bin .add (.idx (.var 26) (.var 27)) (.idx (.var 25) (.var 28))) (.var 24)) .nil) .nil))) (.var 18)) (.cons (.ret (.cst (.bool false))) .nil) .nil) .nil))))) .nil) c3law_12)
noncomputable def c3law_14:Ss:=(.cons (.ifs (.not (.call (.cst (.fn 19)) (.cons (.var 23) (.cons (.var 20) .nil)) .nil)) (.cons (.ret (.cst (.bool false))) .nil) .nil) c3law_13)
noncomputable def c3law_15:Ss:=(.cons (.aN 23 false (.call (.cst (.fn 3)) (.cons (.call (.cst (.bn .bytes)) (.cons (.var 21) .nil) .nil) .nil) .nil)) c3law_14)
noncomputable def c3law_16:Ss:=(.cons c3law_10 c3law_15)
noncomputable def c3law_17:Ss:=(.cons (.aN 21 false (.list .nil)) c3law_16)
noncomputable def c3law_18:Ss:=(.cons (.aN 20 false (.comp (.call (.cst (.bn .sum)) (.cons (.comp (.bin .pow (.cst (.int 2)) (.var 28)) (.cons (.one 28) (.var 27) .nil .nil)) .nil) .nil) (.cons (.one 27) (.bin .add (.var 13) (.var 12)) .nil .nil))) c3law_17)
noncomputable def c3law_19:Ss:=(.cons (.ifs (.or (.cmp .ne (.call (.cst (.fn 21)) (.cons (.var 12) .nil) .nil) (.cmp .eq (.var 19) (.list .nil))) (.cmp .ne (.call (.cst (.fn 21)) (.cons (.var 13) .nil) .nil) (.cmp .eq (.var 19) (.list .nil)))) (.cons (.ret (.cst (.bool false))) .nil) .nil) c3law_18)
noncomputable def c3law_20:Ss:=(.cons (.aN 19 false (.comp (.tup (.cons (.var 27) (.cons (.var 29) .nil))) (.cons (.many [27,28]) (.var 18) .nil (.cons (.many [29,30]) (.var 18) (.cons (.and (.cmp .eq (.bin .mod (.bin .fdiv (.idx (.var 15) (.var 30)) (.bin .pow (.cst (.int 2)) (.var 27))) (.cst (.int 2))) (.cst (.int 0))) (.cmp .eq (.bin .mod (.bin .fdiv (.idx (.var 15) (.var 28)) (.bin .pow (.cst (.int 2)) (.var 29))) (.cst (.int 2))) (.cst (.int 0)))) .nil) .nil)))) c3law_19)
noncomputable def c3law_21:Ss:=(.cons (.aN 18 false (.comp (.tup (.cons (.var 27) (.cons (.var 28) .nil))) (.cons (.one 27) (.call (.cst (.bn .range)) (.cons (.cst (.int 6)) .nil) .nil) .nil (.cons (.one 28) (.call (.cst (.bn .range)) (.cons (.cst (.int 6)) .nil) .nil) (.cons (.cmp .eq (.bin .mod (.bin .fdiv (.idx (.var 15) (.var 28)) (.bin .pow (.cst (.int 2)) (.var 27))) (.cst (.int 2))) (.cst (.int 1))) .nil) .nil)))) c3law_20)
noncomputable def c3law_22:Ss:=(.cons c3law_8 c3law_21)
noncomputable def c3law_23:Ss:=(.cons (.aN 15 true (.list .nil)) c3law_22)
noncomputable def c3law_24:Ss:=(.cons c3law_5 c3law_23)
noncomputable def c3law_25:Ss:=(.cons (.aN 13 true (.list .nil)) c3law_24)
noncomputable def c3law_26:Ss:=(.cons (.aN 12 true (.list .nil)) c3law_25)
noncomputable def c3law_27:Ss:=(.cons (.aN 11 false (.comp (.comp (.var 28) (.cons (.one 28) (.call (.cst (.bn .range)) (.cons (.cst (.int 6)) .nil) .nil) (.cons (.cmp .eK (.var 27) (.idx (.var 9) (.var 28))) .nil) .nil)) (.cons (.one 27) (.call (.cst (.bn .range)) (.cons (.cst (.int 6)) .nil) .nil) .nil .nil))) c3law_26)
noncomputable def c3law_28:Ss:=(.cons (.aN 9 false (.comp (.call (.cst (.fn 7)) (.cons (.call (.cst (.fn 18)) (.cons (.idx (.var 7) (.var 27)) .nil) .nil) (.cons (.bin .add (.call (.cst (.fn 18)) (.cons (.idx (.var 7) (.bin .add (.cst (.int 6)) (.bin .mod (.var 27) (.cst (.int 2))))) .nil) .nil) (.call (.cst (.bn .list)) (.cons (.call (.cst (.bn .range)) (.cons (.var 27) (.cons (.cst (.int 6)) .nil)) .nil) .nil) .nil)) .nil)) .nil) (.cons (.one 27) (.call (.cst (.bn .range)) (.cons (.cst (.int 6)) .nil) .nil) .nil .nil))) c3law_27)
noncomputable def c3law_29:Ss:=(.cons (.ifs (.not (.call (.cst (.fn 19)) (.cons (.call (.cst (.fn 3)) (.cons (.call (.cst (.bn .bytes)) (.cons (.var 1) .nil) .nil) .nil) .nil) (.cons (.var 7) .nil)) .nil)) (.cons (.ret (.cst (.bool false))) .nil) .nil) c3law_28)
noncomputable def c3law_30:Ss:=(.cons (.aN 7 false (.comp (.bin .mod (.bin .fdiv (.var 4) (.bin .pow (.cst (.int 64)) (.bin .sub (.cst (.int 7)) (.var 27)))) (.cst (.int 64))) (.cons (.one 27) (.call (.cst (.bn .range)) (.cons (.cst (.int 8)) .nil) .nil) .nil .nil))) c3law_29)
noncomputable def c3law_31:Ss:=(.cons c3law_3 c3law_30)
noncomputable def c3law_32:Ss:=(.cons (.aN 4 false (.cst (.int 0))) c3law_31)
noncomputable def c3law_33:Ss:=(.cons c3law_1 c3law_32)
noncomputable def c3law_34:Ss:=(.cons (.aN 2 false (.cst (.int 0))) c3law_33)
noncomputable def c3law_35:Ss:=(.cons (.aN 1 true (.list (.cons (.cst (.int 37)) (.cons (.cst (.int 34)) (.cons (.cst (.int 67)) (.cons (.cst (.int 57)) (.cons (.cst (.int 194)) (.cons (.cst (.int 16)) .nil)))))))) c3law_34)
noncomputable def l8:Fn:={cg:=[0],bM:=[],cp:=[],cq:=none,size:=27,body:=c3law_35}
noncomputable def P3:aR:={fns:=[Az,A8,Ax,Ay,AH,AI,AJ,AG,AO,A5,A2,pI,A7,A4,A6,pJ,A1,pD,pC,nR,nO,nQ,nN,l8],nV:=AA}
noncomputable def PP (r:List Fn):aR:={fns:=[Az,A8,Ax,Ay,AH,AI,AJ,AG,AO,A5,A2,pI,A7,A4,A6,pJ,A1]++r,nV:=AA}
section
variable {P:aR} {cl:Calls} {st aa ae:St} {C:af} {m:List (Option D)}
theorem bl {s:S} {r:Ss} (h:ex P cl s st=.ok .next aa):av P cl (.cons s r) st=av P cl r aa:=by
 show (match ex P cl s st with|.ok .next aa=>av P cl r aa|o=>o)=_; rw [h]
theorem ic {s:S} {r:Ss} {d:D} (h:ex P cl s st=.ok (.ret d) aa):av P cl (.cons s r) st=.ok (.ret d) aa:=by
 show (match ex P cl s st with|.ok .next aa=>av P cl r aa|o=>o)=_; rw [h]
theorem vS {s:S} {r:Ss} {x:X} (h:ex P cl s st=.exc x aa):av P cl (.cons s r) st=.exc x aa:=by
 show (match ex P cl s st with|.ok .next aa=>av P cl r aa|o=>o)=_; rw [h]
theorem aQ {α β:Type} {o:aj α} {a:α} {f:α->St->aj β} (h:o=.ok a aa):o.bind f=f a aa:=by rw [h]; rfl
theorem m8 {o:Option D} {d:D} (h:o=some d):dq o st=.ok d st:=by rw [h]; rfl
theorem j0 {e:E} {d:D} (h:ev P cl e st=.ok d aa):ex P cl (.expr e) st=.ok .next aa:=aQ h
theorem ak {n:Nat} {d:D} (h:m[n]?=some (some d)):ev P cl (.var n) ⟨m,C⟩=.ok d ⟨m,C⟩:=by
 show (match m[n]? with|some (some d)=>(aj.ok d ⟨m,C⟩:aj D)|_=>.fail)=_; rw [h]
theorem bh {op:Op} {a b:E} {x y z:D} (ha:ev P cl a st=.ok x aa) (hb:ev P cl b aa=.ok y ae) (h:d6 ae.C op x y=some z):ev P cl (.bin op a b) st=.ok z ae:=
 (aQ ha).trans ((aQ hb).trans (m8 h))
theorem bY {op:Cm} {a b:E} {x y:D} {z:Bool} (ha:ev P cl a st=.ok x aa) (hb:ev P cl b aa=.ok y ae) (h:eX ae.C op x y=some z):ev P cl (.cmp op a b) st=.ok (.bool z) ae:=
 (aQ ha).trans ((aQ hb).trans (m8 (by rw [h]; rfl)))
theorem cN {a b:E} {x y z:D} (ha:ev P cl a st=.ok x aa) (hb:ev P cl b aa=.ok y ae) (h:gg ae.C x y=some z):ev P cl (.idx a b) st=.ok z ae:=
 (aQ ha).trans ((aQ hb).trans (m8 h))
theorem so {a:E} {x:D} {b:Bool} (ha:ev P cl a st=.ok x aa) (h:bI aa.C x=some b):ev P cl (.not a) st=.ok (.bool (!b)) aa:=
 (aQ ha).trans (m8 (by rw [h]; rfl))
theorem BO {a b:E} {x:D} (ha:ev P cl a st=.ok x aa) (h:bI aa.C x=some false):ev P cl (.or a b) st=ev P cl b aa:=by
 refine (aQ ha).trans ?_; rw [h]
theorem c8 {a:E} {n:Nm} {x d:D} (ha:ev P cl a st=.ok x aa) (h:eU P aa.C x n=some d):ev P cl (.attr a n) st=.ok d aa:=(aQ ha).trans (m8 h)
theorem lQ {n:Nat} {d:D} (hn:n<m.length):ft n d ⟨m,C⟩=.ok () ⟨m.set n (some d),C⟩:=if_pos hn
theorem bx {n:Nat} {e:E} {d:D} (h:ev P cl e st=.ok d ⟨m,C⟩) (hn:n<m.length):ex P cl (.aN n false e) st=.ok .next ⟨m.set n (some d),C⟩:=
 (aQ (a:=d) (aQ h)).trans (aQ (lQ hn))
theorem su {c:E} {a b:Ss} {x:D} (h:ev P cl c st=.ok x aa) (ht:bI aa.C x=some true):ex P cl (.ifs c a b) st=av P cl a aa:=by
 refine (aQ h).trans ?_; rw [ht]
theorem k6 {c:E} {a b:Ss} {x:D} (h:ev P cl c st=.ok x aa) (ht:bI aa.C x=some false):ex P cl (.ifs c a b) st=av P cl b aa:=by
 refine (aQ h).trans ?_; rw [ht]
theorem sx {e:E} {d:D} (h:ev P cl e st=.ok d aa):ex P cl (.ret e) st=.ok (.ret d) aa:=aQ h
theorem vP {e:E} {es:Es} {d:D} {ds:List D} (h:ev P cl e st=.ok d aa) (h2:bG P cl es aa=.ok (.lst ds) ae):bG P cl (.cons e es) st=.ok (.lst (d::ds)) ae:=by
 refine (aQ h).trans ?_; rw [h2]
theorem bZ {e:E} {d:D} (h:ev P cl e st=.ok d aa):bG P cl (.cons e .nil) st=.ok (.lst [d]) aa:=vP h rfl
theorem iQ {e f:E} {d d2:D} (h:ev P cl e st=.ok d aa) (h2:ev P cl f aa=.ok d2 ae):bG P cl (.cons e (.cons f .nil)) st=.ok (.lst [d,d2]) ae:=vP h (bZ h2)
theorem jw {f:E} {es:Es} {g:D} {ds:List D} (hf:ev P cl f st=.ok g aa) (hs:bG P cl es aa=.ok (.lst ds) ae):ev P cl (.call f es .nil) st=ma P cl g ds [] ae:=by
 refine (aQ hf).trans ?_; rw [hs]; rfl
theorem sm {o:E} {n:Nm} {es:Es} {x:D} {mk:MK} {ds:List D} (ho:ev P cl o st=.ok x aa) (hm:dO P aa.C x n=some mk) (hs:bG P cl es aa=.ok (.lst ds) ae):ev P cl (.bq o n es) st=oP cl mk x ds ae:=by
 refine (aQ ho).trans ?_; rw [hm]; exact aQ hs
theorem mq {v i:Nat} {e:E} {d:D} {ds mj:List D} {m1:List (Option D)} {C1:af} (hv:m[v]?=some (some (.loc i))) (h0:C[i]?=some (.list ds)) (he:ev P cl e ⟨m,C⟩=.ok d ⟨m1,C1⟩) (h1:C1[i]?=some (.list mj)) (hl:mj.length<aD) :
  ex P cl (.expr (.bq (.var v) .append (.cons e .nil))) ⟨m,C⟩=.ok .next ⟨m1,C1.set i (.list (mj++[d]))⟩:=by
 refine j0 (d:=.none) ((sm (ak hv) (mk:=.lG) (show (C[i]?).bind (kp .append)=_ by rw [h0]; rfl) (bZ he)).trans ?_)
 show aI (eL C1 i) (λds=>bo (decide (ds.length<aD)) (.ok .none ⟨m1,C1.set i (.list (ds++[d]))⟩))=_
 rw [show eL C1 i=some mj by unfold eL; rw [h1]]
 show bo (decide (mj.length<aD)) _=_
 rw [decide_eq_true hl]; rfl
theorem jZ {o e:E} {a:Nm} {d y:D} {C':af} (he:ev P cl e st=.ok d aa) (ho:ev P cl o aa=.ok y ae) (hs:fq P y a d ae.C=some C'):ex P cl (.cU o a false e) st=.ok .next ⟨ae.m,C'⟩:=
 (aQ (a:=d) (aQ he)).trans ((aQ ho).trans (aQ (a:=()) (by rw [hs]; rfl)))
theorem fW {C E:af} {i:Nat} {c:Ch} (h:C[i]?=some c):(C++E)[i]?=some c:=by rw [getElem?_append_left (List.getElem?_eq_some_iff.mp h).1,h]
set_option tactic.hygienic true in
theorem vb {C:af} {i:Nat} {ds:List D} (h:bW C (.loc i)=some ds):C[i]?=some (.list ds):=by
 unfold bW at h
 dsimp only at h
 induction e:C[i]? with
 |none=>rw [e] at h; exact ao h
 |some c=>rw [e] at h; induction c using Ch.casesOn<;>first|exact ao h|rw [Option.some.inj h]
theorem zH {C E:af} {a:D} {ds:List D} (h:bW C a=some ds):bW (C++E) a=some ds:=by
 induction a using D.casesOn<;>first|exact ao h|exact h|skip
 unfold bW; dsimp only; rw [fW (vb h)]
theorem Hk {C E:af} {a:D} {ds:List D} (h:aU C a=some ds):aU (C++E) a=some ds:=by
 induction a using D.casesOn<;>first|exact ao h|exact h|skip
 unfold aU; dsimp only; rw [fW (vb h)]
theorem oG : ∀ (xs:List Int),eh (xs.map .int)=some xs
 |[]=>rfl
 |x::r=>by show (eh (r.map .int)).map (x :: ·)=_; rw [oG r]; rfl
theorem DJ (x:Int) (xs:List Int):gP (.int x) (xs.map .int)=some (xs.contains x):=by
 unfold gP; rw [oG]; rfl
theorem eE {bc:af->af->Bool} {t:T} {f:St->aj Fl} {d:D} {ds:List D} {m m1:List (Option D)} {C:af} {aa:St} (h1:fY t d m=some m1) (h2:f ⟨m1,C⟩=.ok .next aa) (h3:bc C aa.C=true) :
  forLoop bc t f (d::ds) ⟨m,C⟩=forLoop bc t f ds aa:=by
 show (match fY t d m with
  |some m1=>match f ⟨m1,C⟩ with
   |.ok .next aa=>if bc C aa.C then forLoop bc t f ds aa else .fail
   |.ok .cont aa=>if bc C aa.C then forLoop bc t f ds aa else .fail
   |.ok .brk aa=>.ok .next aa
   |o=>o
  |none=>.fail)=_
 rw [h1]; dsimp only; rw [h2]; dsimp only; rw [if_pos h3]
theorem dJ {b:Bn} {args:List D} (hz:cl.fuel≠0):jt P cl b args st=vj P cl b args st:=by
 unfold jt
 rw [beq_false_of_ne hz]; rfl
theorem iB {ds:List D} {k:Int}:gg C (.lst ds) (.int k)=gM ds k:=rfl
theorem mJ {ds:List D} {k:Int} {j:Nat} (h:C[j]?=some (.list ds)):gg C (.loc j) (.int k)=gM ds k:=by
 show (C[j]?).bind (xj k)=_; rw [h]; rfl
theorem nT {fuel:Nat} {call:Nat->List D->List (Nm × D)->af->aj D} {b:Bn} {args:List D} (hz:fuel≠0):jt P ⟨call,fuel⟩ b args st=vj P ⟨call,fuel⟩ b args st:=dJ hz
section
variable {c:St->D->Prop} {cc:St->aj D} {f eD:St->aj Fl} {n:Nat} {d:D}
theorem rB:whileLoop cc f eD (n+1) st=(match cc st with
  |.ok d aa=>match bI aa.C d with
   |some true=>match f aa with
    |.ok .next ae=>whileLoop cc f eD n ae
    |.ok .cont ae=>whileLoop cc f eD n ae
    |.ok .brk ae=>.ok .next ae
    |o=>o
   |some false=>eD aa
   |none=>.fail
  |.exc x aa=>.exc x aa
  |.fail=>.fail):=rfl
theorem rA (h1:cc st=.ok d aa) (h2:bI aa.C d=some true) (h3:f aa=.ok .next ae):whileLoop cc f eD (n+1) st=whileLoop cc f eD n ae:=by
 rw [rB,h1]; dsimp only; rw [h2]; dsimp only; rw [h3]
theorem GC {r:D} (h1:cc st=.ok d aa) (h2:bI aa.C d=some true) (h3:f aa=.ok (.ret r) ae):whileLoop cc f eD (n+1) st=.ok (.ret r) ae:=by
 rw [rB,h1]; dsimp only; rw [h2]; dsimp only; rw [h3]
theorem SD {x:X} (h1:cc st=.ok d aa) (h2:bI aa.C d=some true) (h3:f aa=.exc x ae):whileLoop cc f eD (n+1) st=.exc x ae:=by
 rw [rB,h1]; dsimp only; rw [h2]; dsimp only; rw [h3]
theorem yS (h1:cc st=.ok d aa) (h2:bI aa.C d=some false):whileLoop cc f eD (n+1) st=eD aa:=by
 rw [rB,h1]; dsimp only; rw [h2]
end
end
section
variable {r:List Fn} {fuel n:Nat} {C:af} {a sk:D} {xs ys:List Int}
noncomputable def jK (ys:List Int):List Int->Nat->Option (Int × List Int × Nat)
 |[],_=>none
 |z::zs,p=>if ys.contains z then jK ys zs (p+1) else some (z,zs,p+1)
noncomputable def MF (C:af) (sk src:D) (p:Nat):af:=C++[.slots 3 [some (.loc (C.length+1)),some (.bm .bg sk)],.bj src p]
theorem rG {src:D} {p:Nat}:(MF C sk src p)[C.length]?=some (.slots 3 [some (.loc (C.length+1)),some (.bm .bg sk)]):=by unfold MF; simp
theorem GV {src:D} {p:Nat}:(MF C sk src p)[C.length+1]?=some (.bj src p):=by unfold MF; simp
theorem zj {src F7:D} {p p':Nat}:(MF C sk src p).set (C.length+1) (.bj F7 p')=MF C sk F7 p':=by
 unfold MF; simp [set_append]
theorem IK (hs:aU C sk=some (ys.map .int)):eU (PP r) C sk .bg=some (.bm .bg sk):=by
 induction sk using D.casesOn<;>first|exact ao hs|rfl|skip
 show (C[_]?).bind _=_
 rw [vb hs]; rfl
theorem Hq {p:Nat} {src:D}:eU (PP r) (MF C sk src p) (.loc C.length) .it=some (.loc (C.length+1)):=by
 show ((MF C sk src p)[C.length]?).bind _=_; rw [rG]; rfl
theorem Hp {p:Nat} {src:D}:eU (PP r) (MF C sk src p) (.loc C.length) .func=some (.bm .bg sk):=by
 show ((MF C sk src p)[C.length]?).bind _=_; rw [rG]; rfl
theorem Ez (hf:fuel≠0) (ha:bW C a=some (xs.map .int)) {x2:Option D} {p:Nat} {cl:Calls} (il:cl.fuel=fuel) :
  ev (PP r) cl (.call (.cst (.bn .next)) (.cons (.attr (.var 0) .it) .nil) .nil) ⟨[some (.loc C.length),some (.bm .bg sk),x2],MF C sk a p⟩ =
   (match xs[p]? with
    |some x=>.ok (.int x) ⟨[some (.loc C.length),some (.bm .bg sk),x2],MF C sk a (p+1)⟩
    |none=>.exc .stop ⟨[some (.loc C.length),some (.bm .bg sk),x2],MF C sk .none 0⟩):=by
 have hit:ev (PP r) cl (.attr (.var 0) .it) ⟨[some (.loc C.length),some (.bm .bg sk),x2],MF C sk a p⟩=.ok (.loc (C.length+1)) ⟨[some (.loc C.length),some (.bm .bg sk),x2],MF C sk a p⟩:=
  c8 (ak (d:=.loc C.length) rfl) Hq
 rw [jw (g:=.bn .next) rfl (bZ hit)]
 refine (dJ (by rw [il]; exact hf)).trans ?_
 show fo (MF C sk a p) _ (C.length+1)=_
 unfold fo
 rw [GV]
 dsimp only
 rw [show bW (MF C sk a p) a=some (xs.map .int) from zH ha]
 dsimp only
 rw [getElem?_map]
 induction xs[p]? with
 |none=>dsimp only [Option.map]; rw [zj]
 |some x=>dsimp only [Option.map]; rw [zj]
theorem Ey (hf:fuel≠0) (ha:bW C a=some (xs.map .int)) (hs:aU C sk=some (ys.map .int)) {cl:Calls} (il:cl.fuel=fuel) :
  ∀ (zs:List Int) (p k:Nat) (x2:Option D),xs.drop p=zs->zs.length<k->
  ∃ jP,whileLoop (λaa=>ev (PP r) cl (.cst (.bool true)) aa) (λaa=>av (PP r) cl cfnext_0 aa) (λaa=>av (PP r) cl .nil aa) k ⟨[some (.loc C.length),some (.bm .bg sk),x2],MF C sk a p⟩ =
   (match jK ys zs p with
    |some (x,_,q)=>.ok (.ret (.int x)) ⟨[some (.loc C.length),some (.bm .bg sk),jP],MF C sk a q⟩
    |none=>.exc .stop ⟨[some (.loc C.length),some (.bm .bg sk),jP],MF C sk .none 0⟩)
 |[],p,0,_,_,hk=>by simp at hk
 |[],p,k+1,x2,hz,hk=>by
  refine ⟨x2,?_⟩
  have hn:xs[p]?=none:=by
   rw [List.drop_eq_nil_iff] at hz
   exact getElem?_eq_none hz
  have ht:=Ez (r:=r) (sk:=sk) hf ha (x2:=x2) (p:=p) il
  rw [hn] at ht
  have e1:av (PP r) cl cfnext_0 ⟨[some (.loc C.length),some (.bm .bg sk),x2],MF C sk a p⟩=.exc .stop ⟨[some (.loc C.length),some (.bm .bg sk),x2],MF C sk .none 0⟩:=by
   unfold cfnext_0
   refine vS ?_
   show ((ev (PP r) cl _ _).bind λx aa=>fZ _ x aa).bind _=_
   rw [ht]; rfl
  exact SD (d:=.bool true) rfl rfl e1
 |z::zs,p,0,_,_,hk=>by simp at hk
 |z::zs,p,k+1,x2,hz,hk=>by
  have hx:xs[p]?=some z:=by
   have:=congrArg (·[0]?) hz
   simpa using this
  have hd:xs.drop (p+1)=zs:=by
   have:=congrArg (List.drop 1) hz
   simpa [add_comm] using this
  have ht:=Ez (r:=r) (sk:=sk) hf ha (x2:=x2) (p:=p) il
  rw [hx] at ht
  have e1:av (PP r) cl cfnext_0 ⟨[some (.loc C.length),some (.bm .bg sk),x2],MF C sk a p⟩ =
    (if ys.contains z then .ok .next ⟨[some (.loc C.length),some (.bm .bg sk),some (.int z)],MF C sk a (p+1)⟩ else .ok (.ret (.int z)) ⟨[some (.loc C.length),some (.bm .bg sk),some (.int z)],MF C sk a (p+1)⟩):=by
   unfold cfnext_0
   rw [bl (bx ht (by simp))]
   have c1 : ∀ (C':af),ev (PP r) cl (.or (.cmp .is (.var 1) (.cst .none)) (.cmp .is (.var 1) (.cst (.bn .bool)))) ⟨[some (.loc C.length),some (.bm .bg sk),some (.int z)],C'⟩=.ok (.bool false) ⟨[some (.loc C.length),some (.bm .bg sk),some (.int z)],C'⟩:=λC'=>by
    rw [BO (bY (ak (d:=.bm .bg sk) rfl) rfl (z:=false) rfl) rfl]
    exact bY (ak (d:=.bm .bg sk) rfl) rfl rfl
   show av (PP r) cl _ ⟨[some (.loc C.length),some (.bm .bg sk),some (.int z)],MF C sk a (p+1)⟩=_
   have c2:ev (PP r) cl (.call (.var 1) (.cons (.var 2) .nil) .nil) ⟨[some (.loc C.length),some (.bm .bg sk),some (.int z)],MF C sk a (p+1)⟩=.ok (.bool (ys.contains z)) ⟨[some (.loc C.length),some (.bm .bg sk),some (.int z)],MF C sk a (p+1)⟩:=by
    rw [jw (ak (d:=.bm .bg sk) rfl) (bZ (ak (d:=.int z) rfl))]
    show aI ((aU (MF C sk a (p+1)) sk).bind (gP (.int z))) _=_
    rw [show aU (MF C sk a (p+1)) sk=some (ys.map .int) from Hk hs]
    show aI (gP (.int z) (ys.map .int)) _=_
    rw [DJ]; rfl
   induction hb:ys.contains z with
   |true=>
    rw [hb] at c2
    have:ex (PP r) cl (.ifs (.or (.cmp .is (.var 1) (.cst .none)) (.cmp .is (.var 1) (.cst (.bn .bool)))) (.cons (.ifs (.not (.var 2)) (.cons (.ret (.var 2)) .nil) .nil) .nil) (.cons (.ifs (.not (.call (.var 1) (.cons (.var 2) .nil) .nil)) (.cons (.ret (.var 2)) .nil) .nil) .nil)) ⟨[some (.loc C.length),some (.bm .bg sk),some (.int z)],MF C sk a (p+1)⟩=.ok .next ⟨[some (.loc C.length),some (.bm .bg sk),some (.int z)],MF C sk a (p+1)⟩:=by
     rw [k6 (c1 _) rfl,bl (aa:=⟨[some (.loc C.length),some (.bm .bg sk),some (.int z)],MF C sk a (p+1)⟩) (by rw [k6 (so c2 (b:=true) rfl) rfl]; rfl)]
     rfl
    rw [bl this]; rfl
   |false=>
    rw [hb] at c2
    refine ic ?_
    rw [k6 (c1 _) rfl]
    refine ic ?_
    rw [su (so c2 (b:=false) rfl) rfl]
    exact ic (sx (ak rfl))
  induction hb:ys.contains z with
  |false=>
   refine ⟨some (.int z),?_⟩
   rw [jK,hb]
   exact GC (d:=.bool true) rfl rfl (by rw [e1,hb]; rfl)
  |true=>
   obtain ⟨jP,ih⟩:=Ey hf ha hs il zs (p+1) k (some (.int z)) hd (by simp at hk; omega)
   refine ⟨jP,?_⟩
   rw [jK,hb]
   exact (rA (d:=.bool true) rfl rfl (by rw [e1,hb]; rfl)).trans ih
theorem EH : ∀ (zs:List Int) (p:Nat),(match jK ys zs p with
  |some (x,nC,q)=>zs.filter (λx=>!ys.contains x)=x::nC.filter (λx=>!ys.contains x)/\nC.length<zs.length/\∀ xs:List Int,xs.drop p=zs->xs.drop q=nC
  |none=>zs.filter (λx=>!ys.contains x)=[])
 |[],p=>rfl
 |z::zs,p=>by
  rw [jK]
  induction hb:ys.contains z with
  |false=>
   rw [if_neg (by decide)]
   refine ⟨by rw [filter_cons,hb]; rfl,by simp,λxs hx=>?_⟩
   have:=congrArg (List.drop 1) hx
   simpa [add_comm] using this
  |true=>
   rw [if_pos rfl]
   have ih:=EH zs (p+1)
   have hf:(z::zs).filter (λx=>!ys.contains x)=zs.filter (λx=>!ys.contains x):=by rw [filter_cons,hb]; rfl
   rw [hf]
   induction h:jK ys zs (p+1) with
   |none=>rw [h] at ih; exact ih
   |some t=>
    obtain ⟨x,nC,q⟩:=t
    rw [h] at ih
    refine ⟨ih.1,lt_succ_of_lt ih.2.1,λxs hx=>ih.2.2 xs ?_⟩
    have:=congrArg (List.drop 1) hx
    simpa [add_comm] using this
theorem Oe (hf:fuel≠0) (ha:bW C a=some (xs.map .int)) (hs:aU C sk=some (ys.map .int)) {zs:List Int} {p:Nat} (hz:xs.drop p=zs) (hk:zs.length<fuel) :
  ∃ m',aA (PP r) fuel (n+1) 6 [.loc C.length] [] (MF C sk a p)=(match jK ys zs p with
    |some (x,_,q)=>.ok (.int x) ⟨m',MF C sk a q⟩
    |none=>.exc .stop ⟨m',MF C sk .none 0⟩):=by
 obtain ⟨jP,h⟩:=Ey (r:=r) (cl:=⟨aA (PP r) fuel n,fuel⟩) hf ha hs rfl zs p fuel none hz hk
 refine ⟨[some (.loc C.length),some (.bm .bg sk),jP],?_⟩
 show dt (av (PP r) ⟨aA (PP r) fuel n,fuel⟩ cfnext_3 ⟨[some (.loc C.length),none,none],MF C sk a p⟩)=_
 unfold cfnext_3
 have e0:ev (PP r) ⟨aA (PP r) fuel n,fuel⟩ (.attr (.var 0) .func) ⟨[some (.loc C.length),none,none],MF C sk a p⟩=.ok (.bm .bg sk) ⟨[some (.loc C.length),none,none],MF C sk a p⟩:=c8 (ak (d:=.loc C.length) rfl) Hp
 rw [bl (bx e0 (by simp))]
 show dt (av (PP r) ⟨aA (PP r) fuel n,fuel⟩ cfnext_2 ⟨[some (.loc C.length),some (.bm .bg sk),none],MF C sk a p⟩)=_
 unfold cfnext_2 cfnext_1
 have e:ex (PP r) ⟨aA (PP r) fuel n,fuel⟩ (.kG (.cst (.bool true)) cfnext_0 .nil) ⟨[some (.loc C.length),some (.bm .bg sk),none],MF C sk a p⟩=_:=h
 induction hn:jK ys zs p with
 |none=>
  rw [hn] at e
  rw [vS e]; rfl
 |some t=>
  obtain ⟨x,nC,q⟩:=t
  rw [hn] at e
  rw [ic e]; rfl
theorem Bu (hf:fuel≠0) (ha:bW C a=some (xs.map .int)) (hs:aU C sk=some (ys.map .int)) :
  ∀ (k:Nat) (zs:List Int) (p:Nat) (acc:List D),xs.drop p=zs->zs.length<k->zs.length<fuel->acc.length+zs.length<=aD->
  ∃ m',iO ⟨aA (PP r) fuel (n+1),fuel⟩ 3 6 C.length k (MF C sk a p) acc=.ok (.lst (acc++(zs.filter (λx=>!ys.contains x)).map .int)) ⟨m',MF C sk .none 0⟩
 |0,_,_,_,_,hk,_,_=>by omega
 |k+1,zs,p,acc,hz,hk,il,hl=>by
  obtain ⟨m1,h1⟩:=Oe (r:=r) (n:=n) hf ha hs hz il
  have hm:=EH (ys:=ys) zs p
  rw [iO,rG]
  dsimp only
  rw [if_pos (show ((3:Nat)==3)=true from rfl)]
  rw [h1]
  induction hn:jK ys zs p with
  |none=>
   rw [hn] at hm
   refine ⟨m1,?_⟩
   dsimp only at hm ⊢
   rw [hm]; simp
  |some t=>
   obtain ⟨x,nC,q⟩:=t
   rw [hn] at hm
   dsimp only at hm ⊢
   obtain ⟨e1,e2,e3⟩:=hm
   obtain ⟨m2,ih⟩:=Bu hf ha hs k nC q (acc++[.int x]) (e3 xs hz) (by omega) (by omega) (by simp; omega)
   refine ⟨m2,?_⟩
   rw [if_pos (by omega),ih,e1]
   simp
theorem AL:(PP r).dy 3=some {init:=4,meths:=[(.init,4),(.iN,5),(.b9,6)],slots:=some [.it,.func]}:=rfl
theorem Ic {call:Nat->List D->List (Nm × D)->af->aj D} {m:List (Option D)} {args:List D}:ma (PP r) ⟨call,fuel⟩ (.cls 3) args [] ⟨m,C⟩=mK (.loc C.length) m (call 4 (.loc C.length::args) [] (C++[.slots 3 [none,none]])):=by
 show nU (PP r) ⟨call,fuel⟩ 3 args ⟨m,C⟩=_
 unfold nU
 rw [AL]; rfl
theorem Ca (hf:fuel≠0) (ha:bW C a=some (xs.map .int)) (hs:aU C sk=some (ys.map .int)) (hx:xs.length<fuel) (mG:xs.length<=aD) :
  ∃ m',aA (PP r) fuel (n+2) 7 [a,sk] [] C=.ok (.lst ((xs.filter (λx=>!ys.contains x)).map .int)) ⟨m',MF C sk .none 0⟩:=by
 obtain ⟨m2,hd⟩:=Bu (r:=r) (n:=n) hf ha hs fuel xs 0 [] (by simp) hx hx (by simpa using mG)
 refine ⟨[some a,some sk],?_⟩
 show dt (av (PP r) ⟨aA (PP r) fuel (n+1),fuel⟩ cfilter_0 ⟨[some a,some sk],C⟩)=_
 unfold cfilter_0
 have hN:(C++[Ch.slots 3 [none,none]])[C.length]?=some (.slots 3 [none,none]):=by simp
 have Lq:aA (PP r) fuel (n+1) 4 [.loc C.length,.bm .bg sk,a] [] (C++[.slots 3 [none,none]])=.ok .none ⟨[some (.loc C.length),some (.bm .bg sk),some a],MF C sk a 0⟩:=by
  show dt (av (PP r) ⟨aA (PP r) fuel n,fuel⟩ cfinit_1 ⟨[some (.loc C.length),some (.bm .bg sk),some a],C++[.slots 3 [none,none]]⟩)=_
  unfold cfinit_1
  have e1:ev (PP r) ⟨aA (PP r) fuel n,fuel⟩ (.call (.cst (.bn .iter)) (.cons (.var 2) .nil) .nil) ⟨[some (.loc C.length),some (.bm .bg sk),some a],C++[.slots 3 [none,none]]⟩ =
    .ok (.loc (C.length+1)) ⟨[some (.loc C.length),some (.bm .bg sk),some a],C++[.slots 3 [none,none],.bj a 0]⟩:=by
   rw [jw (g:=.bn .iter) rfl (bZ (ak (d:=a) rfl))]
   refine (nT hf).trans ?_
   show aI (bW (C++[Ch.slots 3 [none,none]]) a) _=_
   rw [zH ha]
   show aj.ok _ _=_
   simp
  rw [bl (jZ e1 (ak (d:=.loc C.length) rfl) (C':=C++[.slots 3 [some (.loc (C.length+1)),none],.bj a 0]) (by
   show ((C++[Ch.slots 3 [none,none],.bj a 0])[C.length]?).bind _=_
   rw [show (C++[Ch.slots 3 [none,none],.bj a 0])[C.length]?=some (.slots 3 [none,none]) by simp]
   show some _=some _
   simp [set_append]
   done))]
  unfold cfinit_0
  rw [bl (jZ (ak (d:=.bm .bg sk) rfl) (ak (d:=.loc C.length) rfl) (C':=MF C sk a 0) (by
   show ((C++[Ch.slots 3 [some (.loc (C.length+1)),none],.bj a 0])[C.length]?).bind _=_
   rw [show (C++[Ch.slots 3 [some (.loc (C.length+1)),none],.bj a 0])[C.length]?=some (.slots 3 [some (.loc (C.length+1)),none]) by simp]
   show some _=some _
   unfold MF
   simp [set_append]
   rfl))]
  rfl
 have K0:ev (PP r) ⟨aA (PP r) fuel (n+1),fuel⟩ (.call (.cst (.cls 3)) (.cons (.attr (.var 1) .bg) (.cons (.var 0) .nil)) .nil) ⟨[some a,some sk],C⟩=.ok (.loc C.length) ⟨[some a,some sk],MF C sk a 0⟩:=by
  rw [jw (g:=.cls 3) rfl (iQ (c8 (ak (d:=sk) rfl) (IK hs)) (ak (d:=a) rfl))]
  rw [Ic,Lq]; rfl
 have Lv:aA (PP r) fuel (n+1) 5 [.loc C.length] [] (MF C sk a 0)=.ok (.loc C.length) ⟨[some (.loc C.length)],MF C sk a 0⟩:=rfl
 have LJ:ev (PP r) ⟨aA (PP r) fuel (n+1),fuel⟩ (.call (.cst (.bn .list)) (.cons (.call (.cst (.cls 3)) (.cons (.attr (.var 1) .bg) (.cons (.var 0) .nil)) .nil) .nil) .nil) ⟨[some a,some sk],C⟩ =
   .ok (.lst ((xs.filter (λx=>!ys.contains x)).map .int)) ⟨[some a,some sk],MF C sk .none 0⟩:=by
  rw [jw (g:=.bn .list) rfl (bZ K0)]
  refine (nT hf).trans ?_
  show aI ((MF C sk a 0)[C.length]?) _=_
  rw [rG]
  dsimp only [aI,Ad]
  unfold rS
  rw [AL]
  dsimp only
  rw [show List.lookup Nm.iN [(Nm.init,4),(.iN,5),(.b9,6)]=some 5 from rfl,show List.lookup Nm.b9 [(Nm.init,4),(.iN,5),(.b9,6)]=some 6 from rfl]
  dsimp only [aI]
  rw [Lv]
  dsimp only
  rw [decide_eq_true rfl]
  dsimp only [bo]
  rw [hd,List.nil_append]
 rw [ic (sx LJ)]
 rfl
end
end Mine.Lake
end
section
open PySem PyProof.Rows
namespace Mine.Lake
noncomputable def aK (k:Nat):Int:=((ia[k]?).getD 0).toNat
theorem MP {C:af} {b:List UInt8} {k:Int}:gg C (.bytes b) (.int k)=qA b k:=rfl
theorem DG {C:af} {k:Nat} (h:k<64):gg C (.bytes ia) (.int k)=some (.int (aK k)):=by
 rw [MP]
 unfold qA
 rw [if_pos (by omega)]
 have hl:k<ia.length:=h
 rw [toNat_natCast]
 unfold aK
 rw [getElem?_eq_getElem hl]; rfl
theorem OM (a b:Nat) (h:b<256):Builtin.bitOr ((a:Int)*2 ^ 8) (b:Int)=((a*256+b:Nat):Int):=by
 have e:((a:Int)*2 ^ 8)=((a*256:Nat):Int):=by rw [Int.natCast_mul]; rfl
 rw [bitOr_and,e,bitAnd_pp (natCast_nonneg _) (natCast_nonneg _),toNat_natCast,toNat_natCast]
 have:(a*256) &&& b=0:=by
  have h2:a*256=2 ^ 8*a:=mul_comm a 256
  have h1:=Nat.two_pow_add_eq_or_of_lt (i:=8) (b:=b) h a
  apply Nat.eq_of_testBit_eq
  intro j
  rw [Nat.testBit_and,h2,Nat.testBit_two_pow_mul,Nat.zero_testBit]
  by_cases hj:j<8
  ·have : ¬ (8<=j):=not_le.mpr hj
   simp [this]
  ·have:b.testBit j=false:=Nat.testBit_lt_two_pow (lt_of_lt_of_le h (Nat.pow_le_pow_right (n:=2) (by decide) (not_lt.mp hj)))
   simp [this]
 rw [this]; exact Int.sub_zero _
theorem yy {a y p q N:Nat} (hp:0<p) (hd:64 ∣ N):(a*(q*p)+y) % (p*N) / p % 64=(a*q+y / p) % 64:=by
 rw [Nat.mod_mul_right_div_self,Nat.mod_mod_of_dvd _ hd,<-mul_assoc,add_comm,add_mul_div_right _ _ hp,add_comm]
theorem vH {a y p q N:Nat} (hd:p ∣ N):(a*(q*p)+y) % N % p=y % p:=by
 rw [Nat.mod_mod_of_dvd _ hd,<-mul_assoc,mul_add_mod']
theorem lo {a v p q:Nat} (h:v<p):(a*p+v) % (p*q)=a % q*p+v:=by
 rw [Nat.mod_mul,mul_add_mod',mod_eq_of_lt h,add_comm (a*p) v,add_mul_div_right _ _ (lt_of_le_of_lt (zero_le _) h),Nat.div_eq_of_lt h,zero_add,add_comm,mul_comm]
theorem Eg (a y:Nat):(a*256+y) % 65536 % 16=y % 16:=vH (p:=16) (q:=16) (N:=65536) ⟨4096,rfl⟩
theorem xK (a y:Nat):(a*256+y) % 65536 % 4=y % 4:=vH (p:=4) (q:=64) (N:=65536) ⟨16384,rfl⟩
theorem k0 {a x:Nat} (h:x<256):(a*256+x) % 65536 / 2 ^ 2 % 64=x / 4:=(yy (p:=4) (q:=64) (N:=16384) (by decide) ⟨256,rfl⟩).trans ((mul_add_mod' a 64 (x / 4)).trans (mod_eq_of_lt (div_lt_of_lt_mul h)))
theorem k1 {a x:Nat} (h:x<256):(a*256+x) % 65536 / 2 ^ 4 % 64=a % 4*16+x / 16:=(yy (p:=16) (q:=16) (N:=4096) (by decide) ⟨64,rfl⟩).trans (lo (p:=16) (q:=4) (div_lt_of_lt_mul h))
theorem k2 {a x:Nat} (h:x<256):(a*256+x) % 65536 / 2 ^ 6 % 64=a % 16*4+x / 64:=(yy (p:=64) (q:=4) (N:=1024) (by decide) ⟨16,rfl⟩).trans (lo (p:=4) (q:=16) (div_lt_of_lt_mul h))
theorem k3 {a x:Nat}:(a*256+x) % 65536 / 2 ^ 0 % 64=x % 64:=(congrArg (· % 64) (div_one _)).trans (vH (p:=64) (q:=4) (N:=65536) ⟨1024,rfl⟩)
theorem tS (a:Nat):a % 65536<65536:=mod_lt _ (by decide)
theorem yg {os l:List D} {b n:Nat} (h:os.length+b<=aD) (hb:l.length+n<b):(os++l).length+n<aD:=by
 rw [length_append,add_assoc]; exact lt_of_lt_of_le (add_lt_add_left hb _) h
theorem Pj {os l:List D} {n:Nat} (h:os.length+2*(n+3)<=aD) (hl:l.length=4):(os++l).length+2*n<=aD:=by
 rw [length_append,hl,add_assoc,add_comm 4]; exact le_trans (add_le_add_left (by rw [Nat.mul_add]; exact add_le_add_left (by decide) _) _) h
theorem yf {a b:Nat} (h:a+(b+1)<=aD):a<aD:=lt_of_lt_of_le (Nat.lt_add_of_pos_right (succ_pos _)) h
section
variable {r:List Fn} {cl:Calls} {C:af} {os:List D} {x0 x1 x2 x6:Option D}
noncomputable def MB (x0 x1 x2:Option D) (N:Nat) (lb lc:Int) (x6:Option D):List (Option D):=[x0,x1,x2,some (.loc N),some (.int lb),some (.int lc),x6]
theorem put {lb:Int} {lc:Nat} {k s:Nat} (h1:lb=((s+6:Nat):Int)) (h2:s<=1000) (hk:lc / 2 ^ s % 64=k) (hl:os.length<aD) :
  av (PP r) cl cb2abase64_0 ⟨MB x0 x1 x2 C.length lb lc x6,C++[.list os]⟩=.ok .next ⟨MB x0 x1 x2 C.length (lb - 6) lc x6,C++[.list (os++[.int (aK k)])]⟩:=by
 have e1:ev (PP r) cl (.idx (.cst (.bytes ia)) (.bin .and (.bin .shr (.var 5) (.bin .sub (.var 4) (.cst (.int 6)))) (.cst (.int 63)))) ⟨MB x0 x1 x2 C.length lb lc x6,C++[.list os]⟩=.ok (.int (aK k)) ⟨MB x0 x1 x2 C.length lb lc x6,C++[.list os]⟩:=by
  refine cN (x:=.bytes ia) (y:=.int k) rfl (bh (x:=.int ((lc / 2 ^ s:Nat):Int)) (y:=.int 63) (bh (x:=.int lc) (y:=.int s) (ak rfl) (bh (x:=.int lb) (y:=.int 6) (ak rfl) rfl ?_) ?_) rfl ?_) ?_
  ·show some (D.int (lb - 6))=_
   rw [h1]; congr 2; omega
  ·show (gR .shr _ _).map _=_
   unfold gR
   dsimp only
   rw [if_pos (by simp; omega)]
   show some (D.int _)=_
   congr 2
   have hp:(0:Int)<=2 ^ s:=Int.pow_nonneg (show (0:Int)<=2 by decide)
   rw [toNat_natCast,Int.fdiv_eq_ediv_of_nonneg _ hp]
   simp
  ·show some (D.int (Builtin.bitAnd _ 63))=_
   rw [bitAnd_m6]
   congr 2
   omega
  ·exact DG (by omega)
 unfold cb2abase64_0
 rw [bl (mq (i:=C.length) rfl (ds:=os) (by simp) e1 (mj:=os) (by simp) hl)]
 rw [bl (bx (d:=.int (lb - 6)) (bh (x:=.int lb) (y:=.int 6) (ak rfl) rfl rfl) (by simp [MB]))]
 show aj.ok Fl.next ⟨_,List.set (C++[Ch.list os]) C.length (Ch.list (os++[.int (aK k)]))⟩=_
 simp [set_append]
 rfl
noncomputable def uK (r:List Fn) (cl:Calls):Nat->St->aj Fl:=whileLoop (λaa=>ev (PP r) cl (.cmp .ge (.var 4) (.cst (.int 6))) aa) (λaa=>av (PP r) cl cb2abase64_0 aa) (λaa=>av (PP r) cl .nil aa)
theorem sy {P:aR} {s:S} {st:St}:av P cl (.cons s .nil) st=ex P cl s st:=by
 show (match ex P cl s st with|.ok .next aa=>av P cl .nil aa|o=>o)=_
 induction ex P cl s st with
 |ok f aa=>induction f<;>rfl
 |exc x aa=>rfl
 |fail=>rfl
theorem uL {n:Nat} {lb iC:Int} {lc:Nat} {k s:Nat} (h1:lb=((s+6:Nat):Int)) (h3:lb - 6=iC) (h2:s<=1000) (hk:lc / 2 ^ s % 64=k) (hl:os.length<aD) :
  uK r cl (n+1) ⟨MB x0 x1 x2 C.length lb lc x6,C++[.list os]⟩=uK r cl n ⟨MB x0 x1 x2 C.length iC lc x6,C++[.list (os++[.int (aK k)])]⟩:=by
 have e:ev (PP r) cl (.cmp .ge (.var 4) (.cst (.int 6))) ⟨MB x0 x1 x2 C.length lb lc x6,C++[.list os]⟩=.ok (.bool true) ⟨MB x0 x1 x2 C.length lb lc x6,C++[.list os]⟩:=
  bY (x:=.int lb) (y:=.int 6) (ak rfl) rfl (by show some (decide _)=_; rw [h1]; congr 1; simp; omega)
 exact rA e rfl (by rw [put h1 h2 hk hl,h3])
theorem yT {n:Nat} {lb:Int} {lc:Nat} (h:lb<6):uK r cl (n+1) ⟨MB x0 x1 x2 C.length lb lc x6,C++[.list os]⟩=.ok .next ⟨MB x0 x1 x2 C.length lb lc x6,C++[.list os]⟩:=by
 have e:ev (PP r) cl (.cmp .ge (.var 4) (.cst (.int 6))) ⟨MB x0 x1 x2 C.length lb lc x6,C++[.list os]⟩=.ok (.bool false) ⟨MB x0 x1 x2 C.length lb lc x6,C++[.list os]⟩:=
  bY (x:=.int lb) (y:=.int 6) (ak rfl) rfl (by show some (decide _)=_; congr 1; simp; omega)
 exact yS e rfl
theorem vm {lb iC:Int} {lc x:Nat} (iy:lc<65536) (hx:x<256) (h3:lb+8=iC) :
  av (PP r) cl cb2abase64_1 ⟨MB x0 x1 x2 C.length lb lc (some (.int x)),C++[.list os]⟩=uK r cl cl.fuel ⟨MB x0 x1 x2 C.length iC ((lc*256+x) % 65536:Nat) (some (.int x)),C++[.list os]⟩:=by
 unfold cb2abase64_1
 have e:ev (PP r) cl (.bin .and (.bin .or (.bin .shl (.var 5) (.cst (.int 8))) (.var 6)) (.cst (.int 65535))) ⟨MB x0 x1 x2 C.length lb lc (some (.int x)),C++[.list os]⟩ =
   .ok (.int ((lc*256+x) % 65536:Nat)) ⟨MB x0 x1 x2 C.length lb lc (some (.int x)),C++[.list os]⟩:=by
  refine bh (x:=.int ((lc*256+x:Nat):Int)) (y:=.int 65535) (bh (x:=.int ((lc:Int)*2 ^ 8)) (y:=.int x) (bh (x:=.int lc) (y:=.int 8) (ak rfl) rfl ?_) (ak rfl) ?_) rfl ?_
  ·show (gR .shl _ _).map _=_
   unfold gR
   dsimp only
   rw [if_pos (by simp [small]; omega)]
   rfl
  ·show some (D.int (Builtin.bitOr _ _))=_
   rw [OM _ _ hx]
  ·show some (D.int (Builtin.bitAnd _ 65535))=_
   rw [bitAnd_m16]; congr 2
 rw [bl (bx e (by simp [MB])),bl (bx (d:=.int (lb+8)) (bh (x:=.int lb) (y:=.int 8) (ak rfl) rfl rfl) (by simp [MB])),sy,h3]
 rfl
theorem vk {lc x n:Nat} (iy:lc<65536) (hx:x<256) (hf:cl.fuel=n+3) (hl:os.length<aD) :
  av (PP r) cl cb2abase64_1 ⟨MB x0 x1 x2 C.length 0 lc (some (.int x)),C++[.list os]⟩=.ok .next ⟨MB x0 x1 x2 C.length 2 ((lc*256+x) % 65536:Nat) (some (.int x)),C++[.list (os++[.int (aK (x / 4))])]⟩:=by
 rw [vm (iC:=8) iy hx rfl,hf,uL (lb:=8) (s:=2) (iC:=2) (k:=x / 4) rfl rfl (by decide) (k0 hx) hl,yT (by decide)]
theorem Ap {lc x n:Nat} (iy:lc<65536) (hx:x<256) (hf:cl.fuel=n+3) (hl:os.length<aD) :
  av (PP r) cl cb2abase64_1 ⟨MB x0 x1 x2 C.length 2 lc (some (.int x)),C++[.list os]⟩=.ok .next ⟨MB x0 x1 x2 C.length 4 ((lc*256+x) % 65536:Nat) (some (.int x)),C++[.list (os++[.int (aK (lc % 4*16+x / 16))])]⟩:=by
 rw [vm (iC:=10) iy hx rfl,hf,uL (lb:=10) (s:=4) (iC:=4) (k:=lc % 4*16+x / 16) rfl rfl (by decide) (k1 hx) hl,yT (by decide)]
theorem HR {lc x n:Nat} (iy:lc<65536) (hx:x<256) (hf:cl.fuel=n+3) (hl:os.length+1<aD) :
  av (PP r) cl cb2abase64_1 ⟨MB x0 x1 x2 C.length 4 lc (some (.int x)),C++[.list os]⟩=.ok .next ⟨MB x0 x1 x2 C.length 0 ((lc*256+x) % 65536:Nat) (some (.int x)),C++[.list (os++[.int (aK (lc % 16*4+x / 64)),.int (aK (x % 64))])]⟩:=by
 rw [vm (iC:=12) iy hx rfl,hf,uL (lb:=12) (s:=6) (iC:=6) (k:=lc % 16*4+x / 64) rfl rfl (by decide) (k2 hx) (Nat.lt_of_succ_lt hl),uL (lb:=6) (s:=0) (iC:=0) (k:=x % 64) rfl rfl (by decide) k3 (by rw [length_append]; exact hl),yT (by decide),append_assoc]
 rfl
noncomputable def gp:List Nat->List Nat
 |x::y::z::r=>x / 4::(x % 4*16+y / 16)::(y % 16*4+z / 64)::z % 64::gp r
 |[x,y]=>[x / 4,x % 4*16+y / 16]
 |[x]=>[x / 4]
 |[]=>[]
noncomputable def gU:List Nat->Nat
 |_::_::_::r=>gU r
 |[_,y]=>y % 16*4
 |[x]=>x % 4*16
 |[]=>0
noncomputable def qG (r:List Fn) (cl:Calls) (bs:List UInt8):List D->St->aj Fl:=forLoop (λC C'=>aW C C' (.bytes bs)) (.one 6) (λae=>av (PP r) cl cb2abase64_1 ae)
theorem oM {iL:List UInt8} {d:D} {ds:List D} {lb lc:Int} {ae:St} (h:av (PP r) cl cb2abase64_1 ⟨MB x0 x1 x2 C.length lb lc (some d),C++[.list os]⟩=.ok .next ae) :
  qG r cl iL (d::ds) ⟨MB x0 x1 x2 C.length lb lc x6,C++[.list os]⟩=qG r cl iL ds ae:=by
 show (match av (PP r) cl cb2abase64_1 ⟨MB x0 x1 x2 C.length lb lc (some d),C++[.list os]⟩ with|.ok .next aa=>_|.ok .cont aa=>_|.ok .brk aa=>_|o=>_)=_
 rw [h]
 rfl
inductive zi (r:List Fn) (cl:Calls) (iL:List UInt8) (C:af) (x0 x1 x2 x6:Option D) (bs:List Nat) (lc:Nat) (os:List D):Prop
 |mk (dG:Nat) (lW:Option D) (h1:qG r cl iL (bs.map λb:Nat=>D.int (b:Int)) ⟨MB x0 x1 x2 C.length 0 lc x6,C++[.list os]⟩ =
   .ok .next ⟨MB x0 x1 x2 C.length (2*(bs.length % 3):Nat) dG lW,C++[.list (os++(gp bs).map λk=>D.int (aK k))]⟩)
   (h2:bs.length % 3=1->dG % 4*16=gU bs) (h3:bs.length % 3=2->dG % 16*4=gU bs):zi r cl iL C x0 x1 x2 x6 bs lc os
theorem ua {m:List (Option D)} {l l':List D} (h:l=l'):(aj.ok Fl.next (⟨m,C++[.list l]⟩:St))=.ok .next ⟨m,C++[.list l']⟩:=by rw [h]
theorem zX {k:Nat} (n:Nat) (h:k<6):k<2*(n+3):=by omega
theorem DX (n:Nat):(n+3) % 3=n % 3:=Nat.add_mod_right n 3
theorem D7 {n:Nat} (hf:cl.fuel=n+3) {iL:List UInt8} : ∀ (bs:List Nat) (lc:Nat) (os:List D) (x6:Option D),(∀ b∈bs,b<256)->lc<65536->os.length+2*bs.length<=aD->zi r cl iL C x0 x1 x2 x6 bs lc os
 |[],lc,os,x6,_,_,_=>⟨lc,x6,ua (append_nil os).symm,λh=>absurd h (by decide : ¬ ((0:Nat) % 3=1)),λh=>absurd h (by decide : ¬ ((0:Nat) % 3=2))⟩
 |[x],lc,os,x6,hb,iy,hl=>⟨(lc*256+x) % 65536,some (.int x),oM (ds:=[]) (vk iy (hb x (.head _)) hf (yf hl)),λu'=>congrArg (· * 16) (xK lc x),λh=>absurd h (by decide : ¬ ((1:Nat) % 3=2))⟩
 |[x,y],lc,os,x6,hb,iy,hl=>⟨(((lc*256+x) % 65536)*256+y) % 65536,some (.int y),
   (oM (vk iy (hb x (.head _)) hf (yf hl))).trans ((oM (ds:=[]) (Ap (tS _) (hb y (.tail _ (.head _))) hf (yg (l:=[_]) (n:=0) hl (by decide:1<4)))).trans (ua (by rw [xK,append_assoc]; rfl))),
   λh=>absurd h (by decide : ¬ ((2:Nat) % 3=1)),λu'=>congrArg (· * 4) (Eg _ y)⟩
 |x::y::z::bs,lc,os,x6,hb,iy,hl=>by
  obtain ⟨dG,lW,h1,h2,h3⟩:=D7 hf (iL:=iL) bs (((((lc*256+x) % 65536)*256+y) % 65536*256+z) % 65536) (os++[.int (aK (x / 4)),.int (aK (x % 4*16+y / 16)),.int (aK (y % 16*4+z / 64)),.int (aK (z % 64))])
   (some (.int z)) (λb h=>hb b (.tail _ (.tail _ (.tail _ h)))) (tS _) (Pj hl rfl)
  have e3:(x::y::z::bs).length % 3=bs.length % 3:=DX _
  refine ⟨dG,lW,(oM (vk iy (hb x (.head _)) hf (yf hl))).trans ((oM (Ap (tS _) (hb y (.tail _ (.head _))) hf (yg (l:=[_]) (n:=0) hl (zX _ (by decide:1<6))))).trans
   ((oM (HR (tS _) (hb z (.tail _ (.tail _ (.head _)))) hf ?_)).trans ((congrArg (λl=>qG r cl iL _ ⟨MB x0 x1 x2 C.length 0 _ _,C++[.list l]⟩) ?_).trans (h1.trans ?_)))),λe=>h2 (e3 ▸ e),λe=>h3 (e3 ▸ e)⟩
  ·rw [append_assoc]; exact yg hl (zX _ (by decide:3<6))
  ·rw [xK,Eg,append_assoc,append_assoc]; rfl
  ·rw [e3,append_assoc]; rfl
end
noncomputable def bQ (bs:List Nat):List Int:=(gp bs).map aK++(match bs.length % 3 with
 |1=>[aK (gU bs),61,61]
 |2=>[aK (gU bs),61]
 |_=>[])
theorem yv {k:Nat}:0<=aK k/\aK k<256:=by
 unfold aK
 have:=UInt8.toNat_lt ((ia[k]?).getD 0)
 omega
theorem rW : ∀ {xs:List Int},(∀ x∈xs,0<=x/\x<256)->∃ tb,gB xs=some tb/\tb.map (λc=>(c.toNat:Int))=xs
 |[],_=>⟨[],rfl,rfl⟩
 |x::xs,h=>by
  obtain ⟨tb,h1,h2⟩:=rW (xs:=xs) λy hy=>h y (.tail _ hy)
  have hx:=h x (.head _)
  obtain ⟨n,rfl⟩:=Int.eq_ofNat_of_zero_le hx.1
  refine ⟨n.toUInt8::tb,by rw [gB,if_pos hx,h1]; rfl,?_⟩
  rw [map_cons,h2]
  exact congrArg (λk:Nat=>(k:Int)::xs) (mod_eq_of_lt (ofNat_lt.mp hx.2))
theorem Bw {bs:List Nat} : ∀ x∈bQ bs,0<=x/\x<256:=by
 intro x hx
 unfold bQ at hx
 rw [mem_append] at hx
 rcases hx with hx|hx
 ·obtain ⟨k,_,rfl⟩:=mem_map.mp hx; exact yv
 ·split at hx
  ·simp at hx; rcases hx with rfl|rfl
   ·exact yv
   ·decide
  ·simp at hx; rcases hx with rfl|rfl
   ·exact yv
   ·decide
  ·cases hx
theorem yx : ∀ bs:List Nat,(gp bs).length<=2*bs.length
 |[]=>by simp [gp]
 |[x]=>by simp [gp]
 |[x,y]=>by simp [gp]
 |x::y::z::r=>by show (gp r).length+1+1+1+1<=2*(r.length+1+1+1); exact le_trans (add_le_add_right (yx r) 4) (le_trans (add_le_add_left (by decide:4<=2*3) (2*r.length)) (le_of_eq (Nat.mul_add 2 r.length 3).symm))
section
variable {r:List Fn} {cl:Calls} {C:af} {os:List D} {x0 x1 x2 x6:Option D} {lb:Int} {lc:Nat}
theorem pS {e:E} {d:D} (he:ev (PP r) cl e ⟨MB x0 x1 x2 C.length lb lc x6,C++[.list os]⟩=.ok d ⟨MB x0 x1 x2 C.length lb lc x6,C++[.list os]⟩) (hl:os.length<aD) :
  ex (PP r) cl (.expr (.bq (.var 3) .append (.cons e .nil))) ⟨MB x0 x1 x2 C.length lb lc x6,C++[.list os]⟩=.ok .next ⟨MB x0 x1 x2 C.length lb lc x6,C++[.list (os++[d])]⟩:=by
 rw [mq (i:=C.length) rfl (ds:=os) (by simp) he (mj:=os) (by simp) hl]
 simp [set_append]
theorem BG {a:Int} {s t:Nat} (ha:Builtin.bitAnd lc a=((lc % t:Nat):Int)) (hs:s<=10) (ht:lc % t*2 ^ s<64) {b:Int} (hb:b=(s:Nat)) :
  ev (PP r) cl (.idx (.cst (.bytes ia)) (.bin .shl (.bin .and (.var 5) (.cst (.int a))) (.cst (.int b)))) ⟨MB x0 x1 x2 C.length lb lc x6,C++[.list os]⟩ =
   .ok (.int (aK (lc % t*2 ^ s))) ⟨MB x0 x1 x2 C.length lb lc x6,C++[.list os]⟩:=by
 refine cN (x:=.bytes ia) (y:=.int ((lc % t*2 ^ s:Nat):Int)) rfl (bh (x:=.int ((lc % t:Nat):Int)) (y:=.int b) (bh (x:=.int lc) (y:=.int a) (ak rfl) rfl ?_) rfl ?_) (DG ht)
 ·show some (D.int (Builtin.bitAnd _ _))=_
  rw [ha]
 ·show (gR .shl _ _).map _=_
  unfold gR
  dsimp only
  have hp:0<2 ^ s:=pow_pos (by decide)
  have hm:lc % t<=lc % t*2 ^ s:=Nat.le_mul_of_pos_right _ hp
  rw [if_pos (by
   rw [hb]
   have h1:small ((lc % t:Nat):Int)=true:=by
    unfold small
    rw [decide_eq_true_eq,natAbs_natCast]
    exact lt_of_le_of_lt hm (lt_trans ht (by decide))
   rw [h1]; simp; omega)]
  show some (D.int _)=_
  rw [hb,toNat_natCast]
  simp
theorem Sb (bs:List Nat):(match bs.length % 3 with
 |1=>[aK (gU bs),61,61]
 |2=>[aK (gU bs),61]
 |_=>[]).length<=8:=by
 split
 ·exact le_add_right 3 5
 ·exact le_add_right 2 6
 ·exact zero_le _
theorem R9 (il:cl.fuel≠0) {bs:List Nat} {ob:List UInt8} (ho:gB (bQ bs)=some ob) (h1:bs.length % 3=1->lc % 4*16=gU bs) (h2:bs.length % 3=2->lc % 16*4=gU bs) (hl:2*bs.length+8<=aD) :
  ∃ m',av (PP r) cl cb2abase64_5 ⟨MB x0 (some (.bool false)) x2 C.length (2*(bs.length % 3):Nat) lc x6,C++[.list ((gp bs).map λk=>D.int (aK k))]⟩=.ok (.ret (.bytes ob)) ⟨m',C++[.list ((bQ bs).map .int)]⟩:=by
 have i8 : ∀ {n},n<8->((gp bs).map λk=>D.int (aK k)).length+n<aD:=λh=>by
  rw [length_map]
  exact lt_of_lt_of_le (Nat.add_lt_add_of_le_of_lt (yx bs) h) hl
 have hlen:(bQ bs).length<=aD:=by
  unfold bQ
  rw [length_append,length_map]
  exact le_trans (add_le_add (yx bs) (Sb bs)) hl
 have fin : ∀ (lb:Int),av (PP r) cl cb2abase64_4 ⟨MB x0 (some (.bool false)) x2 C.length lb lc x6,C++[.list ((bQ bs).map .int)]⟩=.ok (.ret (.bytes ob)) ⟨MB x0 (some (.bool false)) x2 C.length lb lc x6,C++[.list ((bQ bs).map .int)]⟩:=λlb=>by
  unfold cb2abase64_4
  rw [bl (aa:=⟨MB x0 (some (.bool false)) x2 C.length lb lc x6,C++[.list ((bQ bs).map .int)]⟩) (by rw [k6 (x:=.bool false) (ak rfl) rfl]; rfl)]
  unfold cb2abase64_3
  refine ic (sx ?_)
  rw [jw (g:=.bn .bytes) rfl (bZ (ak (d:=.loc C.length) rfl))]
  refine (dJ il).trans ?_
  show aI ((jb (C++[Ch.list ((bQ bs).map .int)]) (.loc C.length)).bind gB) _=_
  have:jb (C++[Ch.list ((bQ bs).map .int)]) (.loc C.length)=some (bQ bs):=by
   unfold jb
   rw [show aU (C++[Ch.list ((bQ bs).map .int)]) (.loc C.length)=some ((bQ bs).map .int) from pA List.getElem?_concat_length]
   exact oG _
  rw [this]
  show aI (gB (bQ bs)) _=_
  rw [ho]
  have tg:ob.length=(bQ bs).length:=by
   obtain ⟨Tj,e1,e2⟩:=rW (Bw (bs:=bs))
   rw [ho] at e1; obtain rfl:=Option.some.inj e1
   rw [<-e2,length_map]
  show bo (decide (ob.length<=aD)) _=_
  rw [decide_eq_true (tg ▸ hlen)]; rfl
 unfold cb2abase64_5
 have h3:bs.length % 3<3:=mod_lt _ (by decide)
 have iU : ∀ (lb:Int) (C':af) (k:Int),ev (PP r) cl (.cmp .eq (.var 4) (.cst (.int k))) ⟨MB x0 (some (.bool false)) x2 C.length lb lc x6,C'⟩=.ok (.bool (lb==k)) ⟨MB x0 (some (.bool false)) x2 C.length lb lc x6,C'⟩:=λlb C' k=>
  bY (x:=.int lb) (y:=.int k) (ak rfl) rfl rfl
 match hq:bs.length % 3,h3 with
 |0,_=>
  refine ⟨MB x0 (some (.bool false)) x2 C.length 0 lc x6,?_⟩
  have he:(gp bs).map (λk=>D.int (aK k))=(bQ bs).map .int:=by unfold bQ; rw [hq]; simp
  rw [he]
  rw [bl (aa:=⟨MB x0 (some (.bool false)) x2 C.length 0 lc x6,C++[.list ((bQ bs).map .int)]⟩) (by
   rw [k6 (iU _ _ _) rfl,sy,k6 (iU _ _ _) rfl]; rfl)]
  exact fin 0
 |1,_=>
  refine ⟨MB x0 (some (.bool false)) x2 C.length 2 lc x6,?_⟩
  have e1:lc % 4*2 ^ 4=gU bs:=h1 hq
  have qo:=λos=>BG (r:=r) (cl:=cl) (C:=C) (os:=os) (x0:=x0) (x1:=some (.bool false)) (x2:=x2) (x6:=x6) (lb:=2) (lc:=lc) (a:=3) (s:=4) (t:=4) (b:=4) (by rw [bitAnd_m2]; rfl) (by decide) (Nat.mul_lt_mul_of_pos_right (mod_lt _ (by decide)) (by decide:0<16)) rfl
  rw [e1] at qo
  have he:(gp bs).map (λk=>D.int (aK k))++[.int (aK (gU bs))]++[.int 61]++[.int 61]=(bQ bs).map .int:=by unfold bQ; rw [hq]; simp
  rw [bl (aa:=⟨MB x0 (some (.bool false)) x2 C.length 2 lc x6,C++[.list ((bQ bs).map .int)]⟩) (by
   rw [su (iU _ _ _) rfl]
   show av (PP r) cl _ ⟨MB x0 (some (.bool false)) x2 C.length 2 lc x6,_⟩=_
   exact (bl (pS (qo _) (i8 (n:=0) (by decide)))).trans ((bl (pS (d:=.int 61) rfl (by rw [length_append]; exact i8 (n:=1) (by decide)))).trans ((bl (pS (d:=.int 61) rfl (by rw [length_append,length_append]; exact i8 (n:=2) (by decide)))).trans (ua he))))]
  exact fin 2
 |2,_=>
  refine ⟨MB x0 (some (.bool false)) x2 C.length 4 lc x6,?_⟩
  have e1:lc % 16*2 ^ 2=gU bs:=h2 hq
  have qo:=λos=>BG (r:=r) (cl:=cl) (C:=C) (os:=os) (x0:=x0) (x1:=some (.bool false)) (x2:=x2) (x6:=x6) (lb:=4) (lc:=lc) (a:=15) (s:=2) (t:=16) (b:=2) (by rw [bitAnd_m4]; rfl) (by decide) (Nat.mul_lt_mul_of_pos_right (mod_lt _ (by decide)) (by decide:0<4)) rfl
  rw [e1] at qo
  have he:(gp bs).map (λk=>D.int (aK k))++[.int (aK (gU bs))]++[.int 61]=(bQ bs).map .int:=by unfold bQ; rw [hq]; simp
  rw [bl (aa:=⟨MB x0 (some (.bool false)) x2 C.length 4 lc x6,C++[.list ((bQ bs).map .int)]⟩) (by
   rw [k6 (iU _ _ _) rfl,sy,su (iU _ _ _) rfl]
   show av (PP r) cl _ ⟨MB x0 (some (.bool false)) x2 C.length 4 lc x6,_⟩=_
   exact (bl (pS (qo _) (i8 (n:=0) (by decide)))).trans ((bl (pS (d:=.int 61) rfl (by rw [length_append]; exact i8 (n:=1) (by decide)))).trans (ua he)))]
  exact fin 4
end
section
variable {r:List Fn} {fuel n:Nat} {C:af}
theorem Hu {tb:List UInt8} (hf:3<=fuel) (hl:2*tb.length+8<=aD) :
  ∃ ob m' g,ob.map (λc:UInt8=>(c.toNat:Int))=bQ (tb.map (·.toNat))/\aA (PP r) fuel (n+3) 3 [.bytes tb] [] C=.ok (.bytes ob) ⟨m',C++[g]⟩:=by
 refine cps λQQ kQ=>?_
 obtain ⟨bs,sN⟩ : ∃ bs,bs=tb.map (λc:UInt8=>c.toNat):=⟨_,rfl⟩
 have hb : ∀ b∈bs,b<256:=λb h=>by
  rw [sN] at h; obtain ⟨c,_,rfl⟩:=mem_map.mp h; exact UInt8.toNat_lt c
 have hlen:bs.length=tb.length:=by rw [sN]; simp
 obtain ⟨ob,gH,LS⟩:=rW (Bw (bs:=bs))
 obtain ⟨k,hk⟩ : ∃ k,fuel=k+3:=⟨fuel - 3,(Nat.sub_add_cancel hf).symm⟩
 obtain ⟨dG,lW,LK,Mj,Mk⟩:=D7 (r:=r) (C:=C) (cl:=⟨aA (PP r) fuel (n+1),fuel⟩) (x0:=some (.bytes tb)) (x1:=some (.bool false)) (x2:=some (.bytes tb)) (n:=k) hk (iL:=tb) bs 0 [] none hb (by decide) (by rw [hlen]; simp; omega)
 have hz:(fuel==0)=false:=by rw [hk]; rfl
 have KY:aA (PP r) fuel (n+1) 0 [.bytes tb] [] C=.ok (.bytes tb) ⟨[some (.bytes tb),some (.bn .bytes)],C⟩:=by
  rw [hk]; rfl
 have Mo:aA (PP r) fuel (n+1) 1 [.bool false] [] C=.ok (.bool false) ⟨[some (.bool false),some (.bn .bool)],C⟩:=by
  rw [hk]; rfl
 have main : ∃ m',aA (PP r) fuel (n+2) 2 [.bytes tb] [(.newline,.bool false)] C=.ok (.bytes ob) ⟨m',C++[.list ((bQ bs).map .int)]⟩:=by
  show ∃ m',dt (av (PP r) ⟨aA (PP r) fuel (n+1),fuel⟩ cb2abase64_11 ⟨[some (.bytes tb),some (.bool false),none,none,none,none,none],C⟩)=_
  unfold cb2abase64_11
  obtain ⟨m9,Mm⟩:=R9 (r:=r) (C:=C) (cl:=⟨aA (PP r) fuel (n+1),fuel⟩) (x0:=some (.bytes tb)) (x2:=some (.bytes tb)) (x6:=lW) (lc:=dG) (by show fuel≠0; omega) gH Mj Mk (by rw [hlen]; exact hl)
  refine ⟨m9,?_⟩
  have e2:ev (PP r) ⟨aA (PP r) fuel (n+1),fuel⟩ (.call (.cst (.fn 0)) (.cons (.var 0) .nil) .nil) ⟨[some (.bytes tb),some (.bool false),none,none,none,none,none],C⟩=.ok (.bytes tb) ⟨[some (.bytes tb),some (.bool false),none,none,none,none,none],C⟩:=by
   rw [jw (g:=.fn 0) rfl (bZ (ak (d:=.bytes tb) rfl))]
   show back _ (aA (PP r) fuel (n+1) 0 [.bytes tb] [] C)=_
   rw [KY]; rfl
  rw [bl (bx e2 (by simp))]
  show dt (av (PP r) _ cb2abase64_10 ⟨[some (.bytes tb),some (.bool false),some (.bytes tb),none,none,none,none],C⟩)=_
  unfold cb2abase64_10
  have e1:ev (PP r) ⟨aA (PP r) fuel (n+1),fuel⟩ (.call (.cst (.fn 1)) (.cons (.var 1) .nil) .nil) ⟨[some (.bytes tb),some (.bool false),some (.bytes tb),none,none,none,none],C⟩=.ok (.bool false) ⟨[some (.bytes tb),some (.bool false),some (.bytes tb),none,none,none,none],C⟩:=by
   rw [jw (g:=.fn 1) rfl (bZ (ak (d:=.bool false) rfl))]
   show back _ (aA (PP r) fuel (n+1) 1 [.bool false] [] C)=_
   rw [Mo]; rfl
  rw [bl (bx e1 (by simp))]
  show dt (av (PP r) _ cb2abase64_9 ⟨[some (.bytes tb),some (.bool false),some (.bytes tb),none,none,none,none],C⟩)=_
  have e3:av (PP r) ⟨aA (PP r) fuel (n+1),fuel⟩ cb2abase64_9 ⟨[some (.bytes tb),some (.bool false),some (.bytes tb),none,none,none,none],C⟩ =
    av (PP r) ⟨aA (PP r) fuel (n+1),fuel⟩ cb2abase64_6 ⟨MB (some (.bytes tb)) (some (.bool false)) (some (.bytes tb)) C.length 0 (0:Nat) none,C++[.list []]⟩:=rfl
  rw [e3]
  unfold cb2abase64_6
  have e4:ex (PP r) ⟨aA (PP r) fuel (n+1),fuel⟩ cb2abase64_2 ⟨MB (some (.bytes tb)) (some (.bool false)) (some (.bytes tb)) C.length 0 (0:Nat) none,C++[.list []]⟩ =
    .ok .next ⟨MB (some (.bytes tb)) (some (.bool false)) (some (.bytes tb)) C.length (2*(bs.length % 3):Nat) dG lW,C++[.list ((gp bs).map λk=>D.int (aK k))]⟩:=by
   unfold cb2abase64_2
   show (if (fuel==0)=true then _ else _)=_
   rw [hz,if_neg Bool.false_ne_true,ak (d:=.bytes tb) rfl]
   show qG r ⟨aA (PP r) fuel (n+1),fuel⟩ tb (tb.map λc=>D.int (c.toNat:Int)) _=_
   have:(tb.map λc:UInt8=>D.int (c.toNat:Int))=bs.map λb:Nat=>D.int (b:Int):=by rw [sN,map_map]; rfl
   rw [this,LK]
   simp
  rw [bl e4,Mm]
  rfl
 obtain ⟨m',hm⟩:=main
 refine kQ ⟨ob,[some (.bytes tb),some .none,some (.bytes ob)],.list ((bQ bs).map .int),by rw [LS,sN],?_⟩
 show dt (av (PP r) ⟨aA (PP r) fuel (n+2),fuel⟩ cb64encode_2 ⟨[some (.bytes tb),some .none,none],C⟩)=_
 unfold cb64encode_2
 have e5:ev (PP r) ⟨aA (PP r) fuel (n+2),fuel⟩ (.call (.cst (.fn 2)) (.cons (.var 0) .nil) (.cons .newline (.cst (.bool false)) .nil)) ⟨[some (.bytes tb),some .none,none],C⟩=.ok (.bytes ob) ⟨[some (.bytes tb),some .none,none],C++[.list ((bQ bs).map .int)]⟩:=by
  show back _ (aA (PP r) fuel (n+2) 2 [.bytes tb] [(.newline,.bool false)] C)=_
  rw [hm]; rfl
 rw [bl (bx e5 (by simp))]
 rfl
end
end Mine.Lake
end
section
open PySem
namespace Mine.Lake
noncomputable def Ch.kd:Ch->Nat
 |.list _=>0
 |.dict .. => 1
 |.cJ _=>2
 |.set _=>3
 |.slots .. => 4
 |.bj .. => 5
section
variable {C:af} {i j:Nat} {c x y:Ch}
theorem gy (h:C[i]?=some c) (ne:i≠j):(C.set j x)[i]?=some c:=by rw [getElem?_set_ne (Ne.symm ne)]; exact h
theorem Nh (h:C[i]?=some c) (hj:C[j]?=some y) (hk:(c.kd==y.kd)=false):i≠j:=λe=>by
 subst e; rw [h] at hj; obtain rfl:=Option.some.inj hj; rw [beq_self_eq_true] at hk; exact fT hk
theorem eT (h:C[i]?=some c) (hj:C[j]?=some y) (hk:(c.kd==y.kd)=false):(C.set j x)[i]?=some c:=gy h (Nh h hj hk)
theorem iK (hj:C[j]?=some y):(C.set j x)[j]?=some x:=by
 obtain ⟨h,_⟩:=List.getElem?_eq_some_iff.mp hj
 exact List.getElem?_set_self h
theorem dA {R:af}:(C++x::R)[C.length]?=some x:=by rw [getElem?_append_right (le_refl _),sub_self]; rfl
theorem nI {R:af}:(C++x::y::R)[C.length+1]?=some y:=by rw [getElem?_append_right (le_add_right _ _),add_sub_cancel_left]; rfl
theorem oY {R:af}:(C++x::R).set C.length y=C++y::R:=by rw [set_append_right _ _ (le_refl _),sub_self]; rfl
theorem FT {R:af}:(C++c::x::R).set (C.length+1) y=C++c::y::R:=by rw [set_append_right _ _ (le_add_right _ _),add_sub_cancel_left]; rfl
theorem qY {C0:af} (hp:C0 <+: C) (hl:C0.length<=j):C0 <+: C.set j x:=by
 obtain ⟨R,rfl⟩:=hp
 rw [set_append_right _ _ hl]; exact prefix_append _ _
theorem G9 {C0 E:af} (hp:C0 <+: C):C0 <+: C++E:=hp.trans (prefix_append _ _)
end
noncomputable def fy {α:Type} (f:Int->α) (k:Int) (v:α):Int->α:=λx=>if x=k then v else f x
theorem gW {α:Type} {f:Int->α} {k:Int} {v:α}:fy f k v k=v:=if_pos rfl
theorem eP {α:Type} {f:Int->α} {k x:Int} {v:α} (h:x≠k):fy f k v x=f x:=if_neg h
noncomputable def SA (d:Nat) (rd:D) (p f:Int):Ch:=.cJ [(.cL,.loc d),(.cC,rd),(.el,.int p),(.fp,.int f)]
noncomputable def NI (k v:Int) (i:Nat):Ch:=.slots 0 [some (.int k),some (.int v),some (.loc i)]
structure aY (C0 C:af) (rd:D) (p f:Int) (ks:List Int) (lc:Int->Nat) (np:Int->Int) (sc:Int->List Int):Prop where
 pre:C0 <+: C
 top:C[C0.length]?=some (SA (C0.length+1) rd p f)
 dict:C[C0.length+1]?=some (.dict true (ks.map λk=>(k,.loc (lc k))))
 lo : ∀ k∈ks,C0.length<lc k
 info : ∀ k∈ks,C[lc k]?=some (NI k (np k) (lc k+1))
 succ : ∀ k∈ks,C[lc k+1]?=some (.list ((sc k).map .int))
 nd:ks.Nodup
 out : ∀ k,k ∉ ks->np k=0/\sc k=[]
section
variable {C0 C:af} {rd:D} {p f:Int} {ks:List Int} {lc:Int->Nat} {np:Int->Int} {sc:Int->List Int}
theorem GW {k k' v v':Int} {i i':Nat} (h:NI k v i=NI k' v' i'):k=k':=by unfold NI at h; injection h with _ h; injection h with h _; injection h with h; injection h
theorem aY.inj (S:aY C0 C rd p f ks lc np sc) {k k':Int} (h:k∈ks) (h':k'∈ks) (e:lc k=lc k'):k=k':=by
 have a:=S.info k h
 rw [e,S.info k' h'] at a
 exact (GW (Option.some.inj a)).symm
theorem aY.app (S:aY C0 C rd p f ks lc np sc) (E:af):aY C0 (C++E) rd p f ks lc np sc:=
 ⟨G9 S.pre,fW S.top,fW S.dict,S.lo,λk h=>fW (S.info k h),λk h=>fW (S.succ k h),S.nd,S.out⟩
theorem aY.setTop (S:aY C0 C rd p f ks lc np sc) {yd:D} {p' f':Int}:aY C0 (C.set C0.length (SA (C0.length+1) yd p' f')) yd p' f' ks lc np sc:=
 ⟨qY S.pre (le_refl _),iK S.top,eT S.dict S.top rfl,S.lo,λk h=>eT (S.info k h) S.top rfl,λk h=>eT (S.succ k h) S.top rfl,S.nd,S.out⟩
theorem aY.setInfo (S:aY C0 C rd p f ks lc np sc) {k v:Int} (hk:k∈ks):aY C0 (C.set (lc k) (NI k v (lc k+1))) rd p f ks lc (fy np k v) sc:=by
 have hi:=S.info k hk
 refine ⟨qY S.pre (le_of_lt (S.lo k hk)),eT S.top hi rfl,eT S.dict hi rfl,S.lo,λk' h=>?_,λk' h=>eT (S.succ k' h) hi rfl,S.nd,λk' h=>⟨?_,(S.out k' h).2⟩⟩
 ·by_cases e:k'=k
  ·subst e; rw [gW]; exact iK hi
  ·rw [eP e]; exact gy (S.info k' h) λz=>e (S.inj h hk z)
 ·rw [eP λe:k'=k=>h (e ▸ hk)]; exact (S.out k' h).1
theorem aY.QC (S:aY C0 C rd p f ks lc np sc) {k:Int} {l:List Int} (hk:k∈ks):aY C0 (C.set (lc k+1) (.list (l.map .int))) rd p f ks lc np (fy sc k l):=by
 have hi:=S.succ k hk
 refine ⟨qY S.pre (Nat.le_succ_of_le (le_of_lt (S.lo k hk))),eT S.top hi rfl,eT S.dict hi rfl,S.lo,λk' h=>eT (S.info k' h) hi rfl,λk' h=>?_,S.nd,λk' h=>⟨(S.out k' h).1,?_⟩⟩
 ·by_cases e:k'=k
  ·subst e; rw [gW]; exact iK hi
  ·rw [eP e]; exact gy (S.succ k' h) λz=>e (S.inj h hk (Nat.succ.inj z))
 ·rw [eP λe:k'=k=>h (e ▸ hk)]; exact (S.out k' h).2
theorem aY.QB (S:aY C0 C rd p f ks lc np sc) {j:Nat} {x:Ch} (h0:C0.length<=j) (h1 : ∀ c,C[j]?=some c->c.kd≠1/\c.kd≠2/\c.kd≠4) (h2 : ∀ k∈ks,lc k+1≠j):aY C0 (C.set j x) rd p f ks lc np sc:=by
 have ne : ∀ {i c},C[i]?=some c->(c.kd=1\/c.kd=2\/c.kd=4)->i≠j:=λh hk e=>by
  subst e
  obtain ⟨a,b,d⟩:=h1 _ h
  rcases hk with z|z|z
  ·exact a z
  ·exact b z
  ·exact d z
 exact ⟨qY S.pre h0,gy S.top (ne S.top (.inr (.inl rfl))),gy S.dict (ne S.dict (.inl rfl)),S.lo,λk h=>gy (S.info k h) (ne (S.info k h) (.inr (.inr rfl))),λk h=>gy (S.succ k h) (h2 k h),S.nd,S.out⟩
theorem tR {α:Type} {g:Int->α} : ∀ {l:List Int} {k:Int},k∈l->(l.map λk=>(k,g k)).lookup k=some (g k)
 |a::r,k,h=>by
  rw [map_cons,lookup_cons]
  by_cases e:k=a
  ·subst e; rw [beq_self_eq_true]
  ·rw [beq_false_of_ne e]; exact tR ((mem_cons.mp h).resolve_left e)
theorem D4 {α:Type} {g:Int->α} : ∀ {l:List Int} {k:Int},k ∉ l->(l.map λk=>(k,g k)).lookup k=none
 |[],_,_=>rfl
 |a::r,k,h=>by
  rw [map_cons,lookup_cons,beq_false_of_ne λe:k=a=>h (e ▸ .head _)]
  exact D4 λz=>h (.tail _ z)
theorem Fg {α:Type} {g:Int->α} {v:α} : ∀ {l:List Int} {k:Int},k ∉ l->putL k v (l.map λk=>(k,g k))=(l.map λk=>(k,g k))++[(k,v)]
 |[],_,_=>rfl
 |a::r,k,h=>by
  rw [map_cons,putL,if_neg (by rw [beq_false_of_ne λe:a=k=>h (e ▸ .head _)]; exact Bool.false_ne_true),Fg λz=>h (.tail _ z)]; rfl
noncomputable def fj (ks:List Int) (k:Int):List Int:=if k∈ks then ks else ks++[k]
theorem NS {g:Int->Nat} {k:Int} {v:Nat} {l:List Int} (h:k ∉ l):(l.map λx=>(x,D.loc (fy g k v x)))=l.map λx=>(x,D.loc (g x)):=
 map_congr_left λx hx=>by rw [eP λe:x=k=>h (e ▸ hx)]
theorem aY.new (S:aY C0 C rd p f ks lc np sc) {k:Int} (hk:k ∉ ks):aY C0 ((C++[NI k 0 (C.length+1),.list []]).set (C0.length+1) (.dict true ((ks.map λk=>(k,D.loc (lc k)))++[(k,.loc C.length)]))) rd p f (ks++[k]) (fy lc k C.length) np sc:=by
 have S':=S.app [NI k 0 (C.length+1),.list []]
 have hd:=S'.dict
 have b7:=(List.getElem?_eq_some_iff.mp S.top).1
 have e : ∀ k',k'∈ks++[k]->k'≠k->k'∈ks:=λk' h z=>(mem_append.mp h).resolve_right λy=>z (mem_singleton.mp y)
 refine ⟨qY S'.pre (le_succ _),eT S'.top hd rfl,?_,λk' h=>?_,λk' h=>?_,λk' h=>?_,?_,λk' h=>S.out k' λz=>h (mem_append_left _ z)⟩
 ·rw [iK hd,map_append,NS hk,List.map_singleton,gW]
 ·by_cases z:k'=k
  ·subst z; rw [gW]; exact b7
  ·rw [eP z]; exact S.lo k' (e k' h z)
 ·by_cases z:k'=k
  ·subst z; rw [gW,(S.out _ hk).1]; exact eT dA hd rfl
  ·rw [eP z]; exact eT (S'.info k' (e k' h z)) hd rfl
 ·by_cases z:k'=k
  ·subst z; rw [gW,(S.out _ hk).2]; exact eT nI hd rfl
  ·rw [eP z]; exact eT (S'.succ k' (e k' h z)) hd rfl
 ·rw [nodup_append]
  exact ⟨S.nd,nodup_cons.mpr ⟨not_mem_nil,nodup_nil⟩,λa ha b hb z=>hk (by rw [<-mem_singleton.mp hb,<-z]; exact ha)⟩
end
theorem FZ {k:Nat} (hk:k<1000):(k:Int)<2 ^ 62:=Int.lt_trans (ofNat_lt.mpr hk) (by decide)
theorem rT {n k d0:Nat} (hk:k<1000):bound (.int (k:Int)) d0 n=some (min k n):=by
 unfold bound
 dsimp only
 rw [if_pos ⟨natCast_nonneg _,FZ hk⟩,toNat_natCast]
theorem Ak {n k:Nat} {d0:Nat} (hk:k<1000) (hn:k<=n):bound (.int (k:Int)) d0 n=some k:=by rw [rT hk,min_eq_left hn]
theorem rU {n d0:Nat}:bound .none d0 n=some d0:=rfl
theorem FV {C:af} {ob:List UInt8} {lo hi:D} {l h:Nat} (h1:bound lo 0 ob.length=some l) (h2:bound hi ob.length ob.length=some h):nu C (.bytes ob) lo hi=some (.bytes (dg ob l h)):=by
 show ((bound lo 0 ob.length).bind λl=>(bound hi ob.length ob.length).map λh=>D.bytes (dg ob l h))=_
 rw [h1,h2]; rfl
theorem yA {C:af} {a:D} {ds:List D} {lo hi:D} {l h:Nat} (ha:aU C a=some ds) (hb : ∀ b,a≠.bytes b) (h1:bound lo 0 ds.length=some l) (h2:bound hi ds.length ds.length=some h):nu C a lo hi=some (.lst (dg ds l h)):=by
 have e:nu C a lo hi=uy C a lo hi:=by induction a using D.casesOn<;>first|rfl|exact absurd rfl (hb _)
 rw [e,uy,ha]
 show ((bound lo 0 ds.length).bind λl=>(bound hi ds.length ds.length).map λh=>D.lst (dg ds l h))=_
 rw [h1,h2]; rfl
theorem oD {ds:List D} {k:Nat} {d:D} (hk:k<1000) (h:ds[k]?=some d):gM ds (k:Int)=some d:=by
 unfold gM
 rw [if_pos (natCast_nonneg k),if_pos (FZ hk),toNat_natCast,h]
theorem lb {a b:Nat} (h:Nat.ble (a+1) b=true):a<b:=le_of_ble_eq_true h
theorem f7 {P:aR} {cl:Calls} {t:T} {it:E} {a:Ss} {y:D} {items:List D} {st aa:St} (hf:cl.fuel≠0) (hit:ev P cl it st=.ok y aa) (hi:bU aa.C y=some items) :
  ex P cl (.dR t it a) st=forLoop (λC C'=>aW C C' y) t (λae=>av P cl a ae) items aa:=by
 show (if (cl.fuel==0)=true then _ else _)=_
 rw [if_neg (by rw [beq_false_of_ne hf]; exact Bool.false_ne_true),hit]
 show (match bU aa.C y with|some items=>_|none=>_)=_
 rw [hi]
theorem si {P:aR} {cl:Calls} {elt it:E} {t:T} {ifs:Es} {g:Gs} {y:D} {items ds:List D} {m:List (Option D)} {C:af} {ae:St} (hf:cl.fuel≠0) (hit:ev P cl it ⟨m,C⟩=.ok y ⟨m,C⟩) (hi:bU C y=some items)
  (hl:dD t (cw (λae=>cW P cl ifs ae) (λacc ae=>d9 P cl (λaG=>ev P cl elt aG) g acc ae)) (λC C'=>aW C C' y) items [] ⟨m,C⟩=.ok (.lst ds) ae) :
  ev P cl (.comp elt (.cons t it ifs g)) ⟨m,C⟩=.ok (.lst ds) ⟨m,ae.C⟩:=by
 show (if (cl.fuel==0)=true then _ else _)=_
 rw [if_neg (by rw [beq_false_of_ne hf]; exact Bool.false_ne_true),hit]
 show (match bU C y with|some items=>_|none=>_)=_
 rw [hi]
 dsimp only
 rw [hl]
theorem pQ {P:aR} {cl:Calls} {a lo hi:E} {x y z d:D} {st aa ae aG:St} (ha:ev P cl a st=.ok x aa) (hl:ev P cl lo aa=.ok y ae) (hh:ev P cl hi ae=.ok z aG) (h:nu aG.C x y z=some d):ev P cl (.slice a lo hi) st=.ok d aG:=by
 exact (aQ ha).trans ((aQ hl).trans ((aQ hh).trans (m8 h)))
theorem HS {P:aR} {cl:Calls} (hz:cl.fuel≠0) {a:D} {ds:List D} {is:List Int} {tb:List UInt8} {st:St} (ha:aU st.C a=some ds) (hi:eh ds=some is) (hb:gB is=some tb) (hl:tb.length<=aD):jt P cl .bytes [a] st=.ok (.bytes tb) st:=by
 refine (dJ hz).trans ?_
 show aI ((jb st.C a).bind gB) _=_
 rw [show jb st.C a=some is from (congrArg (·.bind eh) ha).trans hi]
 show aI (gB is) _=_
 rw [hb]
 show bo (decide _) _=_
 rw [decide_eq_true hl]; rfl
section
variable {P:aR} {cl:Calls} {st aa ae:St} {m:List (Option D)} {C:af}
theorem BR {n:Nat} {e:E} {x:D} (h:ev P cl e st=.ok x ⟨m,C⟩) (hn:n<m.length):ev P cl (.kF n e) st=.ok x ⟨m.set n (some x),C⟩:=by
 refine (aQ h).trans ?_; exact if_pos hn
theorem aP {s:S} {r:Ss} {o:aj Fl} (h:ex P cl s st=.ok .next aa) (k:av P cl r aa=o):av P cl (.cons s r) st=o:=(bl h).trans k
theorem cu {s:S} {o:aj Fl} (h:ex P cl s st=o):av P cl (.cons s .nil) st=o:=sy.trans h
theorem jk {e:E} {r:Ss} {d:D} (h:ev P cl e st=.ok d aa):av P cl (.cons (.ret e) r) st=.ok (.ret d) aa:=ic (sx h)
theorem jj {s:Ss} {d:D} (h:av P cl s st=.ok (.ret d) aa):dt (av P cl s st)=.ok d aa:=by rw [h]; rfl
theorem ui {s:Ss} (h:av P cl s st=.ok .next aa):dt (av P cl s st)=.ok .none aa:=by rw [h]; rfl
theorem lC {c:E} {a b:Ss} {x:D} {o:aj Fl} (h:ev P cl c st=.ok x aa) (ht:bI aa.C x=some true) (k:av P cl a aa=o):ex P cl (.ifs c a b) st=o:=(su h ht).trans k
theorem dk {c:E} {a b:Ss} {x:D} {o:aj Fl} (h:ev P cl c st=.ok x aa) (ht:bI aa.C x=some false) (k:av P cl b aa=o):ex P cl (.ifs c a b) st=o:=(k6 h ht).trans k
theorem df {f:E} {es:Es} {g:D} {ds:List D} {o:aj D} (hf:ev P cl f st=.ok g aa) (hs:bG P cl es aa=.ok (.lst ds) ae) (k:ma P cl g ds [] ae=o):ev P cl (.call f es .nil) st=o:=(jw hf hs).trans k
theorem gn {o:E} {n:Nm} {es:Es} {x:D} {mk:MK} {ds:List D} {q:aj D} (ho:ev P cl o st=.ok x aa) (hm:dO P aa.C x n=some mk) (hs:bG P cl es aa=.ok (.lst ds) ae) (k:oP cl mk x ds ae=q):ev P cl (.bq o n es) st=q:=(sm ho hm hs).trans k
theorem BE {o e:E} {i:Nat} {d:D} {ds:List D} (ho:ev P cl o st=.ok (.loc i) st) (he:ev P cl e st=.ok d st) (h:st.C[i]?=some (.list ds)) (hl:ds.length<aD):ev P cl (.bq o .append (.cons e .nil)) st=.ok .none ⟨st.m,st.C.set i (.list (ds++[d]))⟩:=by
 refine gn ho (mk:=.lG) (show (st.C[i]?).bind (kp .append)=_ by rw [h]; rfl) (bZ he) ?_
 show aI (eL st.C i) _=_
 rw [show eL st.C i=some ds by unfold eL; rw [h]]
 show bo (decide (ds.length<aD)) _=_
 rw [decide_eq_true hl]; rfl
theorem BF {o e:E} {i:Nat} {b:Bool} {es:List (Int × D)} {k:Int} (ho:ev P cl o st=.ok (.loc i) st) (he:ev P cl e st=.ok (.int k) st) (h:st.C[i]?=some (.dict b es)):ev P cl (.bq o .get (.cons e .nil)) st=.ok ((es.lookup k).getD .none) st:=by
 refine (sm ho (mk:=.mf) (show (st.C[i]?).bind (kp .get)=_ by rw [h]; rfl) (bZ he)).trans ?_
 show aI (dictAt st.C i) _=_
 rw [show dictAt st.C i=some es by unfold dictAt; rw [h]]; rfl
theorem iP {f:E} {k:Nat} {es:Es} {ds:List D} {d:D} (hf:ev P cl f st=.ok (.fn k) st) (hs:bG P cl es st=.ok (.lst ds) ⟨m,C⟩) (h:cl.call k ds [] C=.ok d aa):ev P cl (.call f es .nil) st=.ok d ⟨m,aa.C⟩:=by
 rw [jw hf hs]
 show back m (cl.call k ds [] C)=_
 rw [h]; rfl
theorem pP {o:E} {n:Nm} {es:Es} {x:D} {k f:Nat} {ds:List D} {d:D} (ho:ev P cl o st=.ok x st) (hm:dO P st.C x n=some (.own k f)) (hs:bG P cl es st=.ok (.lst ds) ⟨m,C⟩) (h:cl.call f (x::ds) [] C=.ok d aa):ev P cl (.bq o n es) st=.ok d ⟨m,aa.C⟩:=by
 rw [sm ho hm hs]
 show back m (cl.call f (x::ds) [] C)=_
 rw [h]; rfl
theorem BK {o e:E} {n:Nm} {es:Es} {x y:D} {k f:Nat} {ds ys:List D} {d:D} (ho:ev P cl o st=.ok x st) (hm:dO P st.C x n=some (.own k f)) (hs:bG P cl es st=.ok (.lst ds) aa) (he:ev P cl e aa=.ok y ⟨m,C⟩) (hy:bW C y=some ys) (h:cl.call f (x::(ds++ys)) [] C=.ok d ae):ev P cl (.gn o n es e) st=.ok d ⟨m,ae.C⟩:=by
 refine (aQ ho).trans ?_
 rw [hm]
 refine (aQ (a:=.lst (ds++ys)) (aa:=⟨m,C⟩) ((aQ hs).trans ((aQ he).trans ?_))).trans ?_
 ·show (match bW C y with|some ys=>(aj.ok (D.lst (ds++ys)) ⟨m,C⟩:aj D)|none=>.fail)=_
  rw [hy]
 ·show back m (cl.call f (x::(ds++ys)) [] C)=_
  rw [h]; rfl
theorem Jw {o i e:E} {n:Nat} {x y z:D} {aG:St} {C':af} (he:ev P cl e st=.ok x aa) (ho:ev P cl o aa=.ok y ae) (hi:ev P cl i ae=.ok z aG) (hs:kC y z x aG.C=some C') (hn:n<aG.m.length):ex P cl (.pB o i n e) st=.ok .next ⟨aG.m.set n (some x),C'⟩:=
 (aQ he).trans ((aQ (a:=()) (aa:=⟨aG.m,C'⟩) ((aQ ho).trans ((aQ hi).trans (by rw [hs]; rfl)))).trans (aQ (lQ hn)))
theorem pR {o e:E} {a:Nm} {op:Op} {x y old d:D} {C':af} (ho:ev P cl o st=.ok y aa) (hold:eU P aa.C y a=some old) (he:ev P cl e aa=.ok x ae) (hd:kT op old x=some d) (hs:fq P y a d ae.C=some C'):ex P cl (.kS o a op e) st=.ok .next ⟨ae.m,C'⟩:=by
 refine (aQ ho).trans ((aQ (m8 hold)).trans ((aQ he).trans ?_))
 rw [hd]
 exact aQ (a:=()) (by rw [hs]; rfl)
theorem BX {o i e:E} {x y z:D} {aG:St} {C':af} (he:ev P cl e st=.ok x aa) (ho:ev P cl o aa=.ok y ae) (hi:ev P cl i ae=.ok z aG) (hs:kC y z x aG.C=some C'):ex P cl (.kP o i e) st=.ok .next ⟨aG.m,C'⟩:=
 (aQ he).trans ((aQ ho).trans ((aQ hi).trans (aQ (a:=()) (by rw [hs]; rfl))))
theorem n3 {n:Nat} {e:E} {ds:List D} (h:ev P cl e st=.ok (.lst ds) ⟨m,C⟩) (hn:n<m.length) (hf:cO e=true):ex P cl (.aN n true e) st=.ok .next ⟨m.set n (some (.loc C.length)),C++[.list ds]⟩:=
 (aQ (a:=.loc C.length) (aa:=⟨m,C++[.list ds]⟩) ((aQ h).trans (by rw [hf]; rfl))).trans (aQ (lQ hn))
theorem BW {o e:E} {a:Nm} {ds:List D} {y:D} {C':af} (he:ev P cl e st=.ok (.lst ds) ⟨m,C⟩) (hf:cO e=true) (ho:ev P cl o ⟨m,C++[.list ds]⟩=.ok y ae) (hs:fq P y a (.loc C.length) ae.C=some C'):ex P cl (.cU o a true e) st=.ok .next ⟨ae.m,C'⟩:=
 (aQ (a:=.loc C.length) (aa:=⟨m,C++[.list ds]⟩) ((aQ he).trans (by rw [hf]; rfl))).trans ((aQ ho).trans (aQ (a:=()) (by rw [hs]; rfl)))
end
section
variable {r:List Fn} {fuel n:Nat} {C0 C:af} {rd:D} {p f:Int} {ks:List Int} {lc:Int->Nat} {np:Int->Int} {sc:Int->List Int}
theorem fQ {C:af} {a:Nat} {d:Nat} {rd:D} {p f:Int} (h:C[a]?=some (SA d rd p f)) :
  eU (PP r) C (.inst 2 a) .cL=some (.loc d)/\eU (PP r) C (.inst 2 a) .cC=some rd/\eU (PP r) C (.inst 2 a) .el=some (.int p)/\eU (PP r) C (.inst 2 a) .fp=some (.int f):=by
 have h:eB C a=some [(.cL,.loc d),(.cC,rd),(.el,.int p),(.fp,.int f)]:=by unfold eB; rw [h]; rfl
 refine ⟨?_,?_,?_,?_⟩<;>(show (eB C a).bind _=_; rw [h]; rfl)
theorem ym {C:af} {a:Nat} {d:Nat} {rd:D} {p f:Int} (h:C[a]?=some (SA d rd p f)) {x:D} {q:Int} :
  fq (PP r) (.inst 2 a) .cC x C=some (C.set a (SA d x p f))/\fq (PP r) (.inst 2 a) .el (.int q) C=some (C.set a (SA d rd q f))/\fq (PP r) (.inst 2 a) .fp (.int q) C=some (C.set a (SA d rd p q)):=by
 have h:eB C a=some [(.cL,.loc d),(.cC,rd),(.el,.int p),(.fp,.int f)]:=by unfold eB; rw [h]; rfl
 refine ⟨?_,?_,?_⟩<;>(show (eB C a).bind _=_; rw [h]; rfl)
theorem ng {C:af} {a:Nat} {d:Nat} {rd:D} {p f:Int} (h:C[a]?=some (SA d rd p f)):dO (PP r) C (.inst 2 a) .mw=some (.own 2 10)/\dO (PP r) C (.inst 2 a) .add=some (.own 2 11)/\dO (PP r) C (.inst 2 a) .prepare=some (.own 2 12)/\
  dO (PP r) C (.inst 2 a) .jx=some (.own 2 13)/\dO (PP r) C (.inst 2 a) .qC=some (.own 2 14)/\dO (PP r) C (.inst 2 a) .done=some (.own 2 15)/\dO (PP r) C (.inst 2 a) .n5=some (.own 2 16):=by
 have h:eB C a=some [(.cL,.loc d),(.cC,rd),(.el,.int p),(.fp,.int f)]:=by unfold eB; rw [h]; rfl
 refine ⟨?_,?_,?_,?_,?_,?_,?_⟩<;>(show (eB C a).bind _=_; rw [h]; rfl)
theorem jJ {C:af} {i:Nat} {k v:Int} {j:Nat} (h:C[i]?=some (NI k v j)):eU (PP r) C (.loc i) .node=some (.int k)/\eU (PP r) C (.loc i) .er=some (.int v)/\eU (PP r) C (.loc i) .succ=some (.loc j):=by
 refine ⟨?_,?_,?_⟩<;>(show (C[i]?).bind _=_; rw [h]; rfl)
theorem qJ {C:af} {i:Nat} {k v w:Int} {j:Nat} (h:C[i]?=some (NI k v j)):fq (PP r) (.loc i) .er (.int w) C=some (C.set i (NI k w j)):=by
 show (C[i]?).bind _=_; rw [h]; rfl
theorem Oh {k:Int}:ma (PP r) ⟨aA (PP r) fuel (n+1),fuel⟩ (.cls 0) [.int k] [] ⟨m,C⟩=.ok (.loc C.length) ⟨m,C++[NI k 0 (C.length+1),.list []]⟩:=by
 show mK (.loc C.length) m (dt (av (PP r) ⟨aA (PP r) fuel n,fuel⟩ cninit_2 ⟨[some (.loc C.length),some (.int k)],C++[.slots 0 [none,none,none]]⟩))=_
 have e1:ex (PP r) ⟨aA (PP r) fuel n,fuel⟩ (.cU (.var 0) .node false (.var 1)) ⟨[some (.loc C.length),some (.int k)],C++[.slots 0 [none,none,none]]⟩=.ok .next ⟨[some (.loc C.length),some (.int k)],C++[.slots 0 [some (.int k),none,none]]⟩:=
  jZ (ak (d:=.int k) rfl) (ak (d:=.loc C.length) rfl) (by show ((C++[Ch.slots 0 [none,none,none]])[C.length]?).bind _=_; rw [dA]; show some (List.set _ _ _)=_; rw [oY]; rfl)
 have e2:ex (PP r) ⟨aA (PP r) fuel n,fuel⟩ (.cU (.var 0) .er false (.cst (.int 0))) ⟨[some (.loc C.length),some (.int k)],C++[.slots 0 [some (.int k),none,none]]⟩=.ok .next ⟨[some (.loc C.length),some (.int k)],C++[.slots 0 [some (.int k),some (.int 0),none]]⟩:=
  jZ rfl (ak (d:=.loc C.length) rfl) (by show ((C++[Ch.slots 0 [some (.int k),none,none]])[C.length]?).bind _=_; rw [dA]; show some (List.set _ _ _)=_; rw [oY]; rfl)
 have e3:ex (PP r) ⟨aA (PP r) fuel n,fuel⟩ (.cU (.var 0) .succ true (.list .nil)) ⟨[some (.loc C.length),some (.int k)],C++[.slots 0 [some (.int k),some (.int 0),none]]⟩=.ok .next ⟨[some (.loc C.length),some (.int k)],C++[NI k 0 (C.length+1),.list []]⟩:=
  BW (ds:=[]) rfl rfl (ak (d:=.loc C.length) rfl) (by
   rw [append_assoc]; show ((C++[Ch.slots 0 [some (.int k),some (.int 0),none],.list []])[C.length]?).bind _=_; rw [dA]; show some (List.set (C++Ch.slots 0 [some (.int k),some (.int 0),none]::[.list []]) C.length (Ch.slots 0 [some (.int k),some (.int 0),some (.loc (C++[Ch.slots 0 [some (.int k),some (.int 0),none]]).length)]))=_; rw [oY,length_append]; rfl)
 unfold cninit_2 cninit_1 cninit_0
 rw [bl e1,bl e2,bl e3]; rfl
end
section
variable {r:List Fn} {fuel n:Nat} {C0 C:af} {rd:D} {p f:Int} {ks:List Int} {lc:Int->Nat} {np:Int->Int} {sc:Int->List Int}
theorem FQ {C:af} {j:Nat} {b:Bool} {es:List (Int × D)} {k:Int} {d:D} (h:C[j]?=some (.dict b es)) (hl:es.length<64) (hk:small k=true):kC (.loc j) (.int k) d C=some (C.set j (.dict b (putL k d es))):=by
 show (C[j]?).bind _=_
 rw [h]; exact if_pos ⟨hl,hk⟩
inductive zc (r:List Fn) (fuel n:Nat) (C0 C:af) (rd:D) (p f:Int) (ks:List Int) (np:Int->Int) (sc:Int->List Int) (k:Int):Prop
 |mk (m':List (Option D)) (C':af) (dG:Int->Nat) (e:aA (PP r) fuel (n+2) 10 [.inst 2 C0.length,.int k] [] C=.ok (.loc (dG k)) ⟨m',C'⟩) (S:aY C0 C' rd p f (fj ks k) dG np sc):zc r fuel n C0 C rd p f ks np sc k
theorem CD (S:aY C0 C rd p f ks lc np sc) {k:Int} (hl:ks.length<64) (hk:small k=true):zc r fuel n C0 C rd p f ks np sc k:=by
 have e1:ev (PP r) ⟨aA (PP r) fuel (n+1),fuel⟩ (.kF 2 (.bq (.attr (.var 0) .cL) .get (.cons (.var 1) .nil))) ⟨[some (.inst 2 C0.length),some (.int k),none],C⟩ =
   .ok (((ks.map λk=>(k,D.loc (lc k))).lookup k).getD .none) ⟨[some (.inst 2 C0.length),some (.int k),some (((ks.map λk=>(k,D.loc (lc k))).lookup k).getD .none)],C⟩:=
  BR (BF (c8 (ak (d:=.inst 2 C0.length) rfl) (fQ S.top).1) (ak (d:=.int k) rfl) S.dict) (lb rfl)
 by_cases hm:k∈ks
 ·rw [tR hm] at e1
  exact ⟨_,C,lc,jj (aP (dk (bY e1 rfl (z:=false) rfl) rfl rfl) (jk (ak rfl))),by unfold fj; rw [if_pos hm]; exact S⟩
 ·rw [D4 hm] at e1
  have e2:=FQ (d:=.loc C.length) (S.app [NI k 0 (C.length+1),.list []]).dict (by rw [length_map]; exact hl) hk
  rw [Fg hm] at e2
  have e3:aA (PP r) fuel (n+2) 10 [.inst 2 C0.length,.int k] [] C=.ok (.loc C.length) ⟨[some (.inst 2 C0.length),some (.int k),some (.loc C.length)],_⟩:=jj (aP (lC (bY e1 rfl (z:=true) rfl) rfl (cu (Jw (df (g:=.cls 0) rfl (bZ (ak (d:=.int k) rfl)) Oh) (c8 (ak (d:=.inst 2 C0.length) rfl) (fQ (S.app _).top).1) (ak (d:=.int k) rfl) e2 (lb rfl)))) (jk (ak rfl)))
  exact ⟨_,_,fy lc k C.length,by rw [gW]; exact e3,by unfold fj; rw [if_neg hm]; exact S.new hm⟩
theorem tW {ks:List Int} {k x:Int}:x∈fj ks k↔x∈ks\/x=k:=by
 unfold fj
 split
 ·exact ⟨.inl,λh=>h.elim id λe=>e ▸ ‹_›⟩
 ·rw [mem_append,mem_singleton]
theorem DL {ks:List Int} {k:Int}:(fj ks k).length<=ks.length+1:=by
 unfold fj
 split
 ·exact le_succ _
 ·rw [length_append]; exact le_refl _
noncomputable def pv (sc:Int->List Int) (node:Int) (cm:List Int):Int->List Int:=cm.foldl (λsc q=>fy sc q (sc q++[node])) sc
theorem zy {node:Int} (hk:small node=true) (hf:fuel≠0) {all:D} (iW : ∀ A B,aW A B all=true) {x3:Option D} : ∀ (cm:List Int) {C:af} {ks:List Int} {lc:Int->Nat} {sc:Int->List Int} {x4 x5:Option D},aY C0 C .none p f ks lc np sc->ks.length+cm.length<64->(∀ q∈cm,small q=true)->(∀ k∈ks,(sc k).length+cm.length<1000)->
  ∃ m' C' dG,forLoop (λA B=>aW A B all) (.one 4) (λae=>av (PP r) ⟨aA (PP r) fuel (n+2),fuel⟩ csadd_0 ae) (cm.map .int) ⟨[some (.inst 2 C0.length),some (.int node),some all,x3,x4,x5],C⟩=.ok .next ⟨m',C'⟩/\aY C0 C' .none p f (cm.foldl fj ks) dG np (pv sc node cm)
 |[],C,ks,lc,sc,x4,x5,S,_,_,_=>⟨_,C,lc,rfl,S⟩
 |q::cm,C,ks,lc,sc,x4,x5,S,hl,hs,hn=>by
  obtain ⟨m1,C1,km,e1,S1⟩:=CD (r:=r) (fuel:=fuel) (n:=n) S (k:=q) (lt_of_le_of_lt (le_add_right _ _) hl) (hs q (.head _))
  have hq:q∈fj ks q:=tW.mpr (.inr rfl)
  have hlen : ∀ k∈fj ks q,(sc k).length+(cm.length+1)<1000:=λk h=>(Classical.em (k∈ks)).elim (λh'=>hn k h') λh'=>by
   rw [(S.out k h').2]; exact lt_of_le_of_lt (add_le_add_right (zero_le ks.length) _) (lt_trans hl (by decide))
  have S2:=S1.QC (l:=sc q++[node]) hq
  obtain ⟨m',C',dG,e3,S3⟩:=zy hk hf iW (x4:=some (.int q)) (x5:=some (.loc (km q))) cm S2 (lt_of_le_of_lt (by rw [length_cons,add_comm cm.length 1,<-add_assoc]; exact add_le_add_right DL _) hl) (λq' h=>hs q' (.tail _ h)) (λk h=>by
   by_cases e:k=q
   ·subst e; rw [gW,length_append,add_assoc,add_comm [node].length]; exact hlen _ h
   ·rw [eP e]; exact lt_of_le_of_lt (add_le_add_left (le_succ _) _) (hlen k h))
  rw [map_append] at e3
  refine ⟨m',C',dG,(eE (aa:=⟨[some (.inst 2 C0.length),some (.int node),some all,x3,some (.int q),some (.loc (km q))],_⟩) rfl ?_ (iW _ _)).trans e3,S3⟩
  exact aP (bx (pP (ak (d:=.inst 2 C0.length) rfl) (ng S.top).1 (bZ (ak (d:=.int q) rfl)) e1) (lb rfl)) (cu (j0 (BE (c8 (ak (d:=.loc (km q)) rfl) (jJ (S1.info q hq)).2.2) (ak (d:=.int node) rfl) (S1.succ q hq) (by rw [length_map]; exact lt_trans (lt_of_le_of_lt (le_add_right _ _) (hlen q hq)) (by decide)))))
theorem GY (hf:fuel≠0) (S:aY C0 C .none p f ks lc np sc) {node:Int} {cm:List Int} (hk:small node=true) (hl:ks.length+1+cm.length<64) (hs : ∀ q∈cm,small q=true) (hn : ∀ k∈ks,(sc k).length<900) :
  ∃ m' C' dG,aA (PP r) fuel (n+3) 11 (.inst 2 C0.length::.int node::cm.map .int) [] C=.ok .none ⟨m',C'⟩/\aY C0 C' .none p f (cm.foldl fj (fj ks node)) dG (fy np node (np node+cm.length)) (pv sc node cm):=by
 have hb:fX pI (.inst 2 C0.length::.int node::cm.map .int) []=some [some (.inst 2 C0.length),some (.int node),some (.tup (cm.map .int)),none,none,none]:=by
  unfold fX pI
  simp [Nat.sub_eq_zero_of_le]
  exact ⟨le_trans (add_le_add_right (le_of_lt (lt_of_le_of_lt (le_add_left _ _) hl)) 2) (by decide),rfl⟩
 refine cps λQQ kQ=>?_
 obtain ⟨m1,C1,km,e1,S1⟩:=CD (r:=r) (fuel:=fuel) (n:=n) S (k:=node) (lt_of_le_of_lt (le_trans (le_succ _) (le_add_right _ _)) hl) hk
 have hq:node∈fj ks node:=tW.mpr (.inr rfl)
 have S2:=S1.setInfo (v:=np node+cm.length) hq
 obtain ⟨m2,C2,Nw,e2,S3⟩:=zy (r:=r) (fuel:=fuel) (n:=n) (all:=.tup (cm.map .int)) (x3:=some (.loc (km node))) (x4:=none) (x5:=none) hk hf (λ_ _=>rfl) cm S2 (lt_of_le_of_lt (add_le_add_right DL _) hl) hs (λk h=>by
  by_cases h':k∈ks
  ·exact Nat.add_lt_add (hn k h') (lt_trans (lt_of_le_of_lt (le_add_left _ _) hl) (by decide:64<100))
  ·rw [(S.out k h').2]; exact lt_trans (lt_of_le_of_lt (add_le_add_right (zero_le _) _) hl) (by decide))
 refine kQ ⟨m2,C2,Nw,?_,S3⟩
 show (match fX pI (.inst 2 C0.length::.int node::cm.map .int) [] with|some m=>dt (av (PP r) ⟨aA (PP r) fuel (n+2),fuel⟩ csadd_5 ⟨m,C⟩)|none=>.fail)=_
 rw [hb]
 have e3:ev (PP r) ⟨aA (PP r) fuel (n+2),fuel⟩ (.call (.cst (.bn .len)) (.cons (.var 2) .nil) .nil) ⟨[some (.inst 2 C0.length),some (.int node),some (.tup (cm.map .int)),some (.loc (km node)),none,none],C1⟩=.ok (.int (cm.length:Nat)) ⟨[some (.inst 2 C0.length),some (.int node),some (.tup (cm.map .int)),some (.loc (km node)),none,none],C1⟩:=
  df (g:=.bn .len) rfl (bZ (ak (d:=.tup (cm.map .int)) rfl)) ((nT hf).trans (by show aj.ok (D.int ((cm.map D.int).length:Nat)) _=_; rw [length_map]))
 exact ui (aP (dk (bY (c8 (ak (d:=.inst 2 C0.length) rfl) (fQ S.top).2.1) rfl (z:=false) rfl) rfl rfl)
  (aP (bx (pP (ak (d:=.inst 2 C0.length) rfl) (ng S.top).1 (bZ (ak (d:=.int node) rfl)) e1) (lb rfl))
  (aP (pR (ak (d:=.loc (km node)) rfl) (jJ (S1.info node hq)).2.1 e3 rfl (qJ (S1.info node hq)))
  (cu ((f7 (items:=cm.map .int) hf (ak (d:=.tup (cm.map .int)) rfl) rfl).trans e2)))))
end
structure da (C0 C:af) (ks:List Int) (lc:Int->Nat) (i:Nat) (rs:List Int):Prop where
 cell:C[i]?=some (.list (rs.map .int))
 lo:C0.length<i
 ne : ∀ k∈ks,lc k+1≠i
section
variable {r:List Fn} {fuel n:Nat} {C0 C:af} {rd:D} {p f:Int} {ks rs:List Int} {lc:Int->Nat} {np:Int->Int} {sc:Int->List Int} {i:Nat}
theorem aY.FR (S:aY C0 C rd p f ks lc np sc) (R:da C0 C ks lc i rs) (l:List Int):aY C0 (C.set i (.list (l.map .int))) rd p f ks lc np sc/\da C0 (C.set i (.list (l.map .int))) ks lc i l:=
 ⟨S.QB (le_of_lt R.lo) (λc h=>by rw [R.cell] at h; obtain rfl:=Option.some.inj h; exact ⟨Nat.zero_ne_one,Nat.zero_ne_one∘λh=>(nomatch h),λh=>(nomatch h)⟩) R.ne,iK R.cell,R.lo,R.ne⟩
theorem da.kd {C':af} {j:Nat} {x y:Ch} (R:da C0 C ks lc i rs) (h:C[j]?=some y) (hk:(Ch.kd (.list [])==y.kd)=false):da C0 (C.set j x) ks lc i rs:=⟨eT R.cell h hk,R.lo,R.ne⟩
noncomputable def qQ (np:Int->Int) (rs:List Int):Int->Int:=rs.foldl (λnp k=>fy np k (-1)) np
theorem xX : ∀ {rs:List Int} {np:Int->Int} {x:Int},qQ np rs x=if x∈rs then -1 else np x
 |[],np,x=>(if_neg not_mem_nil).symm
 |k::rs,np,x=>by
  show qQ (fy np k (-1)) rs x=_
  rw [xX]
  by_cases h:x∈rs
  ·rw [if_pos h,if_pos (.tail _ h)]
  ·rw [if_neg h]
   by_cases e:x=k
   ·subst e; rw [gW,if_pos (.head _)]
   ·rw [eP e,if_neg λz=>(mem_cons.mp z).elim e h]
theorem tv (S:aY C0 C rd p f ks lc np sc) {k:Int} (hk:k∈ks):gg C (.loc (C0.length+1)) (.int k)=some (.loc (lc k)):=by
 show (C[C0.length+1]?).bind (xj k)=_
 rw [S.dict]; exact tR hk
theorem CC {all:D} (iW : ∀ A B,aW A B all=true) : ∀ (xs:List Int) {C:af} {np:Int->Int} {x3:Option D},aY C0 C rd p f ks lc np sc->da C0 C ks lc i rs->(∀ k∈xs,k∈ks)->
  ∃ m' C',forLoop (λA B=>aW A B all) (.one 3) (λae=>av (PP r) ⟨aA (PP r) fuel n,fuel⟩ csgetready_0 ae) (xs.map .int) ⟨[some (.inst 2 C0.length),some all,some (.loc (C0.length+1)),x3],C⟩=.ok .next ⟨[some (.inst 2 C0.length),some all,some (.loc (C0.length+1)),m'],C'⟩/\aY C0 C' rd p f ks lc (qQ np xs) sc/\da C0 C' ks lc i rs
 |[],C,np,x3,S,R,_=>⟨_,C,rfl,S,R⟩
 |k::xs,C,np,x3,S,R,h=>by
  have hk:=h k (.head _)
  obtain ⟨m',C',e,S',R'⟩:=CC iW xs (x3:=some (.int k)) (S.setInfo (v := -1) hk) (R.kd (C':=C) (S.info k hk) rfl) λq hq=>h q (.tail _ hq)
  exact ⟨m',C',(eE (m1:=[some (.inst 2 C0.length),some all,some (.loc (C0.length+1)),some (.int k)]) (aa:=⟨[some (.inst 2 C0.length),some all,some (.loc (C0.length+1)),some (.int k)],_⟩) rfl (cu (jZ (d:=.int (-1)) rfl (cN (ak (d:=.loc (C0.length+1)) rfl) (ak (d:=.int k) rfl) (tv S hk)) (qJ (S.info k hk)))) (iW _ _)).trans e,S',R'⟩
theorem Kg (hf:fuel≠0) (S:aY C0 C (.loc i) p f ks lc np sc) (R:da C0 C ks lc i rs) (h : ∀ k∈rs,k∈ks) :
  ∃ m' C',aA (PP r) fuel (n+1) 13 [.inst 2 C0.length] [] C=.ok (.tup (rs.map .int)) ⟨m',C'⟩/\aY C0 C' (.loc i) (p+rs.length) f ks lc (qQ np rs) sc/\da C0 C' ks lc i []:=by
 refine cps λQQ kQ=>?_
 obtain ⟨x',C1,e,S1,R1⟩:=CC (r:=r) (fuel:=fuel) (n:=n) (all:=.tup (rs.map .int)) (x3:=none) (λ_ _=>rfl) rs S R h
 obtain ⟨S2,R2⟩:=S1.FR R1 []
 have e1:ev (PP r) ⟨aA (PP r) fuel n,fuel⟩ (.call (.cst (.bn .tuple)) (.cons (.attr (.var 0) .cC) .nil) .nil) ⟨[some (.inst 2 C0.length),none,none,none],C⟩=.ok (.tup (rs.map .int)) ⟨[some (.inst 2 C0.length),none,none,none],C⟩:=
  df (g:=.bn .tuple) rfl (bZ (c8 (ak (d:=.inst 2 C0.length) rfl) (fQ S.top).2.1)) ((nT hf).trans (by show aI (aU C (.loc i)) _=_; rw [show aU C (.loc i)=some (rs.map .int) by unfold aU; dsimp only; rw [R.cell]]; rfl))
 have e2 : ∀ C',ev (PP r) ⟨aA (PP r) fuel n,fuel⟩ (.call (.cst (.bn .len)) (.cons (.var 1) .nil) .nil) ⟨[some (.inst 2 C0.length),some (.tup (rs.map .int)),some (.loc (C0.length+1)),x'],C'⟩=.ok (.int (rs.length:Nat)) ⟨[some (.inst 2 C0.length),some (.tup (rs.map .int)),some (.loc (C0.length+1)),x'],C'⟩:=λC'=>
  df (g:=.bn .len) rfl (bZ (ak (d:=.tup (rs.map .int)) rfl)) ((nT hf).trans (by show aj.ok (D.int ((rs.map D.int).length:Nat)) _=_; rw [length_map]))
 have e3:ev (PP r) ⟨aA (PP r) fuel n,fuel⟩ (.bq (.attr (.var 0) .cC) .clear .nil) ⟨[some (.inst 2 C0.length),some (.tup (rs.map .int)),some (.loc (C0.length+1)),x'],C1⟩=.ok .none ⟨[some (.inst 2 C0.length),some (.tup (rs.map .int)),some (.loc (C0.length+1)),x'],C1.set i (.list [])⟩:=
  gn (c8 (ak (d:=.inst 2 C0.length) rfl) (fQ S1.top).2.1) (mk:=.oJ) (show (C1[i]?).bind (kp .clear)=_ by rw [R1.cell]; rfl) (ds:=[]) rfl (by
   show aI (eL C1 i) _=_
   rw [show eL C1 i=some (rs.map .int) by unfold eL; rw [R1.cell]]; rfl)
 refine kQ ⟨_,_,jj (aP (dk (bY (c8 (ak (d:=.inst 2 C0.length) rfl) (fQ S.top).2.1) rfl (z:=false) rfl) rfl rfl)
  (aP (bx e1 (lb rfl)) (aP (bx (c8 (ak (d:=.inst 2 C0.length) rfl) (fQ S.top).1) (lb rfl))
  (aP ((f7 (items:=rs.map .int) hf (ak (d:=.tup (rs.map .int)) rfl) rfl).trans e) (aP (j0 e3)
  (aP (pR (ak (d:=.inst 2 C0.length) rfl) (fQ S2.top).2.2.1 (e2 _) rfl (ym S2.top (x:=.none)).2.1) (jk (ak rfl)))))))),S2.setTop,R2.kd (C':=C) S2.top rfl⟩
end
noncomputable def iM (s:(Int->Int) × List Int) (x:Int):(Int->Int) × List Int:=(fy s.1 x (s.1 x - 1),if s.1 x - 1==0 then s.2++[x] else s.2)
noncomputable def pM (sc:Int->List Int) (s:(Int->Int) × List Int) (k:Int):(Int->Int) × List Int:=(sc k).foldl iM (fy s.1 k (-2),s.2)
theorem rP : ∀ l:List Int,D.gA (l.map .int) (l.map .int)=true
 |[]=>rfl
 |x::l=>by
  show (((some x:Option Int)==some x)&&D.gA (l.map .int) (l.map .int))=true
  rw [rP l,beq_self_eq_true]; rfl
theorem Ge {A B:af} {j:Nat} {l:List Int} (h:A[j]?=some (.list (l.map .int))) (h':B[j]?=some (.list (l.map .int))):aW A B (.loc j)=true:=by
 show iF A B j=true
 unfold iF
 rw [h,h']; exact rP l
section
variable {r:List Fn} {fuel n:Nat} {C0 C:af} {p f:Int} {ks rs:List Int} {lc:Int->Nat} {np:Int->Int} {sc:Int->List Int} {i:Nat}
theorem IL {cl:Calls} (S:aY C0 C (.loc i) p f ks lc np sc) (R:da C0 C ks lc i rs) {x:Int} (hx:x∈ks) (hl:rs.length<1000) {a1 a3 a4 a5 x7:Option D} :
  ∃ C',av (PP r) cl csdone_0 ⟨[some (.inst 2 C0.length),a1,some (.loc (C0.length+1)),a3,a4,a5,some (.int x),x7],C⟩=.ok .next ⟨[some (.inst 2 C0.length),a1,some (.loc (C0.length+1)),a3,a4,a5,some (.int x),some (.loc (lc x))],C'⟩/\
   aY C0 C' (.loc i) p f ks lc (iM (np,rs) x).1 sc/\da C0 C' ks lc i (iM (np,rs) x).2:=by
 have S1:=S.setInfo (v:=np x - 1) hx
 have R1:=R.kd (C':=C) (x:=NI x (np x - 1) (lc x+1)) (S.info x hx) rfl
 have hi:=S1.info x hx
 rw [gW] at hi
 have e1:ev (PP r) cl (.cmp .eq (.attr (.var 7) .er) (.cst (.int 0))) ⟨[some (.inst 2 C0.length),a1,some (.loc (C0.length+1)),a3,a4,a5,some (.int x),some (.loc (lc x))],C.set (lc x) (NI x (np x - 1) (lc x+1))⟩=.ok (.bool (np x - 1==0)) _:=
  bY (c8 (ak (d:=.loc (lc x)) rfl) (jJ hi).2.1) rfl rfl
 by_cases h:(np x - 1==0)=true
 ·obtain ⟨S2,R2⟩:=S1.FR R1 (rs++[x])
  rw [map_append] at S2 R2
  rw [h] at e1
  exact ⟨_,aP (bx (cN (ak (d:=.loc (C0.length+1)) rfl) (ak (d:=.int x) rfl) (tv S hx)) (lb rfl)) (aP (pR (ak (d:=.loc (lc x)) rfl) (jJ (S.info x hx)).2.1 rfl rfl (qJ (S.info x hx)))
   (cu (lC e1 rfl (cu (j0 (BE (c8 (ak (d:=.inst 2 C0.length) rfl) (fQ S1.top).2.1) (ak (d:=.int x) rfl) R1.cell (by rw [length_map]; exact lt_trans hl (by decide)))))))),S2,by unfold iM; rw [if_pos h]; exact R2⟩
 ·rw [eq_false_of_ne_true h] at e1
  exact ⟨_,aP (bx (cN (ak (d:=.loc (C0.length+1)) rfl) (ak (d:=.int x) rfl) (tv S hx)) (lb rfl)) (aP (pR (ak (d:=.loc (lc x)) rfl) (jJ (S.info x hx)).2.1 rfl rfl (qJ (S.info x hx)))
   (cu (dk e1 rfl rfl))),S1,by unfold iM; rw [if_neg h]; exact R1⟩
theorem Bg {cl:Calls} {k:Int} (hk:k∈ks) {a1 a3 a4 a5:Option D} : ∀ (xs:List Int) {C:af} {np:Int->Int} {rs:List Int} {x6 x7:Option D},aY C0 C (.loc i) p f ks lc np sc->da C0 C ks lc i rs->(∀ x∈xs,x∈ks)->rs.length+xs.length<1000->
  ∃ y6 y7 C',forLoop (λA B=>aW A B (.loc (lc k+1))) (.one 6) (λae=>av (PP r) cl csdone_0 ae) (xs.map .int) ⟨[some (.inst 2 C0.length),a1,some (.loc (C0.length+1)),a3,a4,a5,x6,x7],C⟩ =
   .ok .next ⟨[some (.inst 2 C0.length),a1,some (.loc (C0.length+1)),a3,a4,a5,y6,y7],C'⟩/\aY C0 C' (.loc i) p f ks lc (xs.foldl iM (np,rs)).1 sc/\da C0 C' ks lc i (xs.foldl iM (np,rs)).2
 |[],C,np,rs,x6,x7,S,R,_,_=>⟨_,_,C,rfl,S,R⟩
 |x::xs,C,np,rs,x6,x7,S,R,h,hl=>by
  obtain ⟨C1,e1,S1,R1⟩:=IL (r:=r) (cl:=cl) (a1:=a1) (a3:=a3) (a4:=a4) (a5:=a5) (x7:=x7) S R (h x (.head _)) (lt_of_le_of_lt (le_add_right _ _) hl)
  have hlen:(iM (np,rs) x).2.length<=rs.length+1:=by
   unfold iM
   split
   ·rw [length_append]; exact le_refl _
   ·exact le_succ _
  obtain ⟨y6,y7,C',e,S',R'⟩:=Bg hk xs (x6:=some (.int x)) (x7:=some (.loc (lc x))) S1 R1 (λq hq=>h q (.tail _ hq)) (lt_of_le_of_lt (by rw [length_cons,add_comm xs.length,<-add_assoc]; exact add_le_add_right hlen _) hl)
  exact ⟨y6,y7,C',(eE rfl e1 (Ge (S.succ k hk) (S1.succ k hk))).trans e,S',R'⟩
theorem IW {cl:Calls} (hf:cl.fuel≠0) (S:aY C0 C (.loc i) p f ks lc np sc) (R:da C0 C ks lc i rs) {k:Int} (hk:k∈ks) (hn:np k = -1) (hs : ∀ x∈sc k,x∈ks) (hl:rs.length+(sc k).length<1000) {a1 x4 x5 x6 x7:Option D} :
  ∃ y4 y5 y6 y7 C',av (PP r) cl csdone_1 ⟨[some (.inst 2 C0.length),a1,some (.loc (C0.length+1)),some (.int k),x4,x5,x6,x7],C⟩=.ok .next ⟨[some (.inst 2 C0.length),a1,some (.loc (C0.length+1)),some (.int k),y4,y5,y6,y7],C'⟩/\
   aY C0 C' (.loc i) p (f+1) ks lc (pM sc (np,rs) k).1 sc/\da C0 C' ks lc i (pM sc (np,rs) k).2:=by
 have e0:ev (PP r) cl (.kF 4 (.bq (.var 2) .get (.cons (.var 3) .nil))) ⟨[some (.inst 2 C0.length),a1,some (.loc (C0.length+1)),some (.int k),x4,x5,x6,x7],C⟩ =
   .ok (((ks.map λk=>(k,D.loc (lc k))).lookup k).getD .none) _:=
  BR (BF (ak (d:=.loc (C0.length+1)) rfl) (ak (d:=.int k) rfl) S.dict) (lb rfl)
 rw [tR hk] at e0
 have S1:=S.setInfo (v := -2) hk
 obtain ⟨y6,y7,C2,e2,S2,R2⟩:=Bg (r:=r) (cl:=cl) (a1:=a1) (a3:=some (.int k)) (a4:=some (.loc (lc k))) (a5:=some (.int (-1))) (x6:=x6) (x7:=x7) hk (sc k) S1 (R.kd (C':=C) (S.info k hk) rfl) hs hl
 have hi:=S.info k hk
 rw [hn] at hi
 exact ⟨some (.loc (lc k)),some (.int (-1)),y6,y7,_,aP (dk (bY e0 rfl (z:=false) rfl) rfl rfl) (aP (bx (c8 (ak (d:=.loc (lc k)) rfl) (jJ hi).2.1) (lb rfl))
  (aP (dk (bY (x:=.int (-1)) (y:=.int (-1)) (ak rfl) rfl (z:=false) rfl) rfl rfl)
  (aP (jZ (d:=.int (-2)) rfl (ak (d:=.loc (lc k)) rfl) (qJ hi))
  (aP ((f7 (items:=(sc k).map .int) hf (c8 (ak (d:=.loc (lc k)) rfl) (jJ (S1.info k hk)).2.2) (by show (_:Option Ch).bind mR=_; rw [S1.succ k hk]; rfl)).trans e2)
  (cu (pR (ae:=⟨_,_⟩) (ak (d:=.inst 2 C0.length) rfl) (fQ S2.top).2.2.2 rfl rfl (ym S2.top (x:=.none)).2.2)))))),S2.setTop,R2.kd (C':=C2) S2.top rfl⟩
end
noncomputable def jT (nd:Int->List Int):List Int->Prop
 |[]=>True
 |k::l=>(∀ q∈nd k,q∈l)/\k ∉ l/\jT nd l
theorem jT.closed {nd:Int->List Int} : ∀ {l:List Int},jT nd l->∀ {k q:Int},k∈l->q∈nd k->q∈l
 |a::l,h,k,q,hk,hq=>by
  rcases mem_cons.mp hk with rfl|hk
  ·exact .tail _ (h.1 q hq)
  ·exact .tail _ (h.2.2.closed hk hq)
noncomputable def gE (dn l:List Int):Nat:=(l.filter λq=>!dn.contains q).length
theorem AS {dn l:List Int}:gE dn l=0 ↔ ∀ q∈l,q∈dn:=by
 unfold gE
 rw [length_eq_zero_iff,filter_eq_nil_iff]
 refine forall_congr' λq=>forall_congr' λ_=>?_
 rw [not_eq_true',Bool.not_eq_false,contains_iff_mem]
theorem AR {dn:List Int} {k:Int} {l:List Int} (h:k ∉ l):gE (k::dn) l=gE dn l:=by
 unfold gE
 refine congrArg List.length (filter_congr λq hq=>?_)
 rw [List.contains_cons,beq_false_of_ne λe:q=k=>h (e ▸ hq)]; rfl
theorem AP {dn:List Int} {a:Int} {l:List Int}:gE dn (a::l)=if a∈dn then gE dn l else gE dn l+1:=by
 unfold gE
 rw [filter_cons]
 by_cases h:a∈dn
 ·rw [if_pos h,if_neg (by rw [contains_iff_mem.mpr h]; exact Bool.false_ne_true)]
 ·rw [if_neg h,if_pos (by rw [not_eq_true',<-not_eq_true,contains_iff_mem]; exact h)]; rfl
theorem AQ {dn:List Int} {k:Int} (hd:k ∉ dn) : ∀ {l:List Int},l.Nodup->k∈l->gE dn l=gE (k::dn) l+1
 |a::l,hn,hk=>by
  obtain ⟨h1,h2⟩:=nodup_cons.mp hn
  rw [AP,AP]
  by_cases e:a=k
  ·subst e
   rw [if_neg hd,if_pos (.head _),AR h1]
  ·have ih:=AQ hd h2 ((mem_cons.mp hk).resolve_left (Ne.symm e))
   have hm:a∈k::dn↔a∈dn:=⟨λz=>(mem_cons.mp z).resolve_left e,.tail _⟩
   by_cases h:a∈dn
   ·rw [if_pos h,if_pos (hm.mpr h),ih]
   ·rw [if_neg h,if_neg λz=>h (hm.mp z),ih]
structure Gr (nd:Int->List Int) (ks:List Int) (sc:Int->List Int):Prop where
 nodup : ∀ k∈ks,(nd k).Nodup
 fi : ∀ k∈ks,∀ q∈nd k,q∈ks
 snd : ∀ k∈ks,(sc k).Nodup
 uC : ∀ k∈ks,∀ j,j∈sc k↔j∈ks/\k∈nd j
structure gx (nd:Int->List Int) (ks dn ou rs:List Int) (np:Int->Int):Prop where
 iG:jT nd dn
 pL : ∀ k∈dn,k∈ks
 jL : ∀ k∈ou,k∈ks/\k ∉ dn/\np k = -1/\∀ q∈nd k,q∈dn
 num : ∀ k∈ks,k ∉ dn->k ∉ ou->np k=(gE dn (nd k):Nat)
 jN : ∀ k,k∈rs↔k∈ks/\k ∉ dn/\k ∉ ou/\∀ q∈nd k,q∈dn
 qU:rs.Nodup
theorem Bf : ∀ {l:List Int} {np:Int->Int} {rs:List Int},l.Nodup->l.foldl iM (np,rs)=(λx=>if x∈l then np x - 1 else np x,rs++l.filter λx=>np x - 1==0)
 |[],np,rs,_=>by rw [List.foldl_nil,List.filter_nil,append_nil]; refine congrArg (·,rs) (funext λx=>(if_neg not_mem_nil).symm)
 |a::l,np,rs,hn=>by
  obtain ⟨h1,h2⟩:=nodup_cons.mp hn
  rw [foldl_cons,iM,Bf h2]
  refine Prod.ext (funext λx=>?_) ?_
  ·dsimp only
   by_cases e:x=a
   ·subst e; rw [if_neg h1,if_pos (.head _),gW]
   ·rw [eP e]
    by_cases h:x∈l
    ·rw [if_pos h,if_pos (.tail _ h)]
    ·rw [if_neg h,if_neg λz=>(mem_cons.mp z).elim e h]
  ·dsimp only
   rw [filter_cons,filter_congr (q:=λx=>np x - 1==0) λx hx=>by rw [eP λe:x=a=>h1 (e ▸ hx)]]
   split
   ·rw [append_assoc]; rfl
   ·rfl
section
variable {nd:Int->List Int} {ks dn ou rs:List Int} {np:Int->Int} {sc:Int->List Int} {k:Int}
theorem H6 {a b:Nat} (h:a=b+1):((a:Nat):Int) - 1=(b:Nat):=by rw [h]; exact Int.add_sub_cancel (b:Int) 1
theorem gx.done (G:Gr nd ks sc) (R:gx nd ks dn (k::ou) rs np) (ho:k ∉ ou):gx nd ks (k::dn) ou (pM sc (np,rs) k).2 (pM sc (np,rs) k).1:=by
 obtain ⟨hk,lx,Di,eH⟩:=R.jL k (.head _)
 unfold pM
 rw [Bf (G.snd k hk)]
 dsimp only
 have hs : ∀ x,x∈sc k->x∈ks/\k∈nd x/\x ∉ dn/\x ∉ k::ou:=λx hx=>by
  obtain ⟨h1,h2⟩:=(G.uC k hk x).mp hx
  exact ⟨h1,h2,λz=>lx (R.iG.closed z h2),λz=>lx ((R.jL x z).2.2.2 k h2)⟩
 have Dv : ∀ x,x∈sc k->x≠k:=λx hx e=>(hs x hx).2.2.2 (e ▸ .head _)
 have qx : ∀ x,x∈sc k->fy np k (-2) x - 1=(gE (k::dn) (nd x):Nat):=λx hx=>by
  obtain ⟨h1,h2,h3,h4⟩:=hs x hx
  rw [eP (Dv x hx),R.num x h1 h3 h4]
  exact H6 (AQ lx (G.nodup x h1) h2)
 have i5 : ∀ x∈ks,x ∉ sc k->k ∉ nd x:=λx hx h z=>h ((G.uC k hk x).mpr ⟨hx,z⟩)
 refine ⟨⟨eH,lx,R.iG⟩,λx hx=>(mem_cons.mp hx).elim (λe=>e ▸ hk) (R.pL x),λx hx=>?_,λx h1 h2 h3=>?_,λx=>?_,?_⟩
 ·obtain ⟨h1,h2,h3,h4⟩:=R.jL x (.tail _ hx)
  have jD:x≠k:=λe=>ho (e ▸ hx)
  refine ⟨h1,λz=>(mem_cons.mp z).elim jD h2,?_,λq hq=>.tail _ (h4 q hq)⟩
  rw [if_neg λz=>(hs x z).2.2.2 (.tail _ hx),eP jD]; exact h3
 ·by_cases h:x∈sc k
  ·rw [if_pos h]; exact qx x h
  ·rw [if_neg h,eP λe:x=k=>h2 (e ▸ .head _),AR (i5 x h1 h)]
   exact R.num x h1 (λz=>h2 (.tail _ z)) λz=>(mem_cons.mp z).elim (λe=>h2 (e ▸ .head _)) h3
 ·rw [mem_append,mem_filter,R.jN]
  constructor
  ·rintro (⟨h1,h2,h3,h4⟩|⟨h1,h2⟩)
   ·exact ⟨h1,λz=>(mem_cons.mp z).elim (λe=>h3 (e ▸ .head _)) h2,λz=>h3 (.tail _ z),λq hq=>.tail _ (h4 q hq)⟩
   ·obtain ⟨h3,h4,h5,h6⟩:=hs x h1
    rw [qx x h1] at h2
    exact ⟨h3,λz=>(mem_cons.mp z).elim (Dv x h1) h5,λz=>h6 (.tail _ z),AS.mp (ofNat.inj (eq_of_beq h2))⟩
  ·rintro ⟨h1,h2,h3,h4⟩
   by_cases h:x∈sc k
   ·exact .inr ⟨h,by rw [qx x h,AS.mpr h4]; rfl⟩
   ·exact .inl ⟨h1,λz=>h2 (.tail _ z),λz=>(mem_cons.mp z).elim (λe=>h2 (e ▸ .head _)) h3,λq hq=>(mem_cons.mp (h4 q hq)).resolve_left λe=>i5 x h1 h (e ▸ hq)⟩
 ·rw [nodup_append]
  exact ⟨R.qU,(G.snd k hk).filter _,λa ha b hb e=>lx (((R.jN a).mp ha).2.2.2 k (e ▸ (hs b (mem_filter.mp hb).1).2.1))⟩
theorem gx.out (R:gx nd ks dn ou rs np) {EX:List Int} (h : ∀ k,k∈EX↔k∈ou\/k∈rs):gx nd ks dn EX [] (qQ np rs):=by
 refine ⟨R.iG,R.pL,λk hk=>?_,λk h1 h2 h3=>?_,λk=>⟨λz=>(nomatch z),λ⟨h1,h2,h3,h4⟩=>absurd ((h k).mpr ?_) h3⟩,nodup_nil⟩
 ·rw [xX]
  by_cases e:k∈rs
  ·obtain ⟨h1,h2,h3,h4⟩:=(R.jN k).mp e
   exact ⟨h1,h2,if_pos e,h4⟩
  ·rw [if_neg e]; exact R.jL k (((h k).mp hk).resolve_right e)
 ·rw [xX,if_neg λz=>h3 ((h k).mpr (.inr z))]
  exact R.num k h1 h2 λz=>h3 ((h k).mpr (.inl z))
 ·by_cases z:k∈ou
  ·exact .inl z
  ·exact .inr ((R.jN k).mpr ⟨h1,h2,z,h4⟩)
end
theorem ek {α:Type} [DecidableEq α] : ∀ {l ks:List α},l.Nodup->(∀ x∈l,x∈ks)->l.length<=ks.length
 |[],_,_,_=>zero_le _
 |a::l,ks,hn,h=>by
  obtain ⟨h1,h2⟩:=nodup_cons.mp hn
  have ha:=h a (.head _)
  have ih:=ek (ks:=ks.erase a) h2 λx hx=>(List.mem_erase_of_ne λe:x=a=>h1 (e ▸ hx)).mpr (h x (.tail _ hx))
  rw [List.length_erase_of_mem ha] at ih
  exact le_trans (succ_le_succ ih) (le_of_eq (Nat.succ_pred_eq_of_pos (length_pos_of_mem ha)))
section
variable {r:List Fn} {fuel n:Nat} {C0 C:af} {p f:Int} {ks dn ou rs:List Int} {lc:Int->Nat} {np:Int->Int} {sc nd:Int->List Int} {i:Nat}
theorem Ny {a b n:Nat} (h1:a<=n) (h2:b<=n) (hn:n<64):a+b<1000:=lt_of_le_of_lt (add_le_add h1 h2) (lt_trans (Nat.add_lt_add hn hn) (by decide))
inductive zb (r:List Fn) (cl:Calls) (C0:af) (p:Int) (ks:List Int) (lc:Int->Nat) (sc nd:Int->List Int) (i:Nat) (m0:List (Option D)) (dn ou:List Int) (f:Int) (o:aj Fl):Prop
 |mk (y3 y4 y5 y6 y7:Option D) (C':af) (fO:Int->Int) (kB:List Int) (e:o=.ok .next ⟨m0++[y3,y4,y5,y6,y7],C'⟩) (S:aY C0 C' (.loc i) p f ks lc fO sc) (R:da C0 C' ks lc i kB) (W:gx nd ks dn ou kB fO):zb r cl C0 p ks lc sc nd i m0 dn ou f o
theorem Bt {cl:Calls} (hf:cl.fuel≠0) (G:Gr nd ks sc) (bR:ks.length<64) {all:D} (iW : ∀ A B,aW A B all=true) : ∀ (xs:List Int) {C:af} {np:Int->Int} {dn rs:List Int} {f:Int} {x3 x4 x5 x6 x7:Option D},aY C0 C (.loc i) p f ks lc np sc->da C0 C ks lc i rs->gx nd ks dn (xs++ou) rs np->(xs++ou).Nodup->
  zb r cl C0 p ks lc sc nd i [some (.inst 2 C0.length),some all,some (.loc (C0.length+1))] (xs.reverse++dn) ou (f+xs.length)
   (forLoop (λA B=>aW A B all) (.one 3) (λae=>av (PP r) cl csdone_1 ae) (xs.map .int) ⟨[some (.inst 2 C0.length),some all,some (.loc (C0.length+1)),x3,x4,x5,x6,x7],C⟩)
 |[],C,np,dn,rs,f,x3,x4,x5,x6,x7,S,R,W,_=>⟨_,_,_,_,_,C,np,rs,rfl,(Int.add_zero f).symm ▸ S,R,W⟩
 |k::xs,C,np,dn,rs,f,x3,x4,x5,x6,x7,S,R,W,hn=>by
  obtain ⟨hk,_,Di,_⟩:=W.jL k (.head _)
  obtain ⟨h1,h2⟩:=nodup_cons.mp hn
  have jC : ∀ x∈sc k,x∈ks:=λx hx=>((G.uC k hk x).mp hx).1
  obtain ⟨y4,y5,y6,y7,C1,e1,S1,R1⟩:=IW (r:=r) (cl:=cl) (a1:=some all) (x4:=x4) (x5:=x5) (x6:=x6) (x7:=x7) hf S R hk Di jC (Ny (ek W.qU λx hx=>((W.jN x).mp hx).1) (ek (G.snd k hk) jC) bR)
  obtain ⟨z3,z4,z5,z6,z7,C',fO,kB,e,S',R',W'⟩:=Bt hf G bR iW xs (x3:=some (.int k)) (x4:=y4) (x5:=y5) (x6:=y6) (x7:=y7) S1 R1 (W.done G h1) h2
  refine ⟨z3,z4,z5,z6,z7,C',fO,kB,(eE rfl e1 (iW _ _)).trans e,?_,R',by rw [reverse_cons,append_assoc]; exact W'⟩
  rw [length_cons,show f+((xs.length+1:Nat):Int)=f+1+xs.length by rw [natCast_add,Int.add_assoc,Int.add_comm 1]; rfl]
  exact S'
theorem IV (hf:fuel≠0) (G:Gr nd ks sc) (bR:ks.length<64) {xs:List Int} (S:aY C0 C (.loc i) p f ks lc np sc) (R:da C0 C ks lc i rs) (W:gx nd ks dn (xs++ou) rs np) (hn:(xs++ou).Nodup) :
  ∃ m' C' fO kB,aA (PP r) fuel (n+1) 15 (.inst 2 C0.length::xs.map .int) [] C=.ok .none ⟨m',C'⟩/\aY C0 C' (.loc i) p (f+xs.length) ks lc fO sc/\da C0 C' ks lc i kB/\gx nd ks (xs.reverse++dn) ou kB fO:=by
 obtain ⟨z3,z4,z5,z6,z7,C',fO,kB,e,S',R',W'⟩:=Bt (r:=r) (cl:=⟨aA (PP r) fuel n,fuel⟩) hf G bR (all:=.tup (xs.map .int)) (λ_ _=>rfl) xs (x3:=none) (x4:=none) (x5:=none) (x6:=none) (x7:=none) S R W hn
 have hl:xs.length<=ks.length:=ek (hn.sublist (List.sublist_append_left _ _)) λx hx=>(W.jL x (mem_append_left _ hx)).1
 have hb:fX pJ (.inst 2 C0.length::xs.map .int) []=some [some (.inst 2 C0.length),some (.tup (xs.map .int)),none,none,none,none,none,none]:=by
  unfold fX pJ
  simp [Nat.sub_eq_zero_of_le]
  exact ⟨le_trans (succ_le_succ hl) (le_trans bR (by decide)),rfl⟩
 refine ⟨[some (.inst 2 C0.length),some (.tup (xs.map .int)),some (.loc (C0.length+1))]++[z3,z4,z5,z6,z7],C',fO,kB,?_,S',R',W'⟩
 show (match fX pJ (.inst 2 C0.length::xs.map .int) [] with|some m=>dt (av (PP r) ⟨aA (PP r) fuel n,fuel⟩ csdone_5 ⟨m,C⟩)|none=>.fail)=_
 rw [hb]
 exact ui (aP (dk (bY (c8 (ak (d:=.inst 2 C0.length) rfl) (fQ S.top).2.1) rfl (z:=false) rfl) rfl rfl) (aP (bx (c8 (ak (d:=.inst 2 C0.length) rfl) (fQ S.top).1) (lb rfl))
  (cu ((f7 (items:=xs.map .int) hf (ak (d:=.tup (xs.map .int)) rfl) rfl).trans e))))
end
section
variable {P:aR} {cl:Calls} {st aa ae:St} {m:List (Option D)} {C:af}
theorem zU {α:Type} {k:Nat} (h:k≠0) {a b:α}:(if (k==0)=true then a else b)=b:=by rw [beq_false_of_ne h]; rfl
theorem Jz {b h:Ss} {x:Nat} {v:Option Nat} {o:Fl} (hf:cl.fuel≠0) (hb:av P cl b st=.ok o aa):ex P cl (.pa b x v h) st=.ok o aa:=by
 refine (zU hf).trans ?_; rw [hb]
theorem Jy {b h:Ss} {x:Nat} {z:X} {o:Fl} (hf:cl.fuel≠0) (hb:av P cl b st=.exc z aa) (hc:pG x z=true) (hh:av P je h aa=.ok o ae):ex P cl (.pa b x none h) st=.ok o ae:=by
 refine (zU hf).trans ?_; rw [hb]; dsimp only; rw [if_pos hc,hh]
theorem vR {s:S} {r:Ss} (h:ex P cl s st=.ok .brk aa):av P cl (.cons s r) st=.ok .brk aa:=by
 show (match ex P cl s st with|.ok .next aa=>av P cl r aa|o=>o)=_; rw [h]
theorem BZ {s:S} {r:Ss} (h:ex P cl s st=.ok .cont aa):av P cl (.cons s r) st=.ok .cont aa:=by
 show (match ex P cl s st with|.ok .next aa=>av P cl r aa|o=>o)=_; rw [h]
theorem GA {cc:St->aj D} {f eD:St->aj Fl} {n:Nat} {d:D} (h1:cc st=.ok d aa) (h2:bI aa.C d=some true) (h3:f aa=.ok .brk ae):whileLoop cc f eD (n+1) st=.ok .next ae:=by
 rw [rB,h1]; dsimp only; rw [h2]; dsimp only; rw [h3]
theorem kR {L:af} {i:Nat}:(C++L)[C.length+i]?=L[i]?:=by rw [getElem?_append_right (le_add_right _ _),add_sub_cancel_left]
theorem qX {L:af} {i:Nat} {x:Ch}:(C++L).set (C.length+i) x=C++L.set i x:=by rw [set_append_right _ _ (le_add_right _ _),add_sub_cancel_left]
theorem BP {o:E} {i:Nat} {d:D} {ds:List D} (ho:ev P cl o st=.ok (.loc i) st) (h:st.C[i]?=some (.list (ds++[d]))):ev P cl (.bq o .pop .nil) st=.ok d ⟨st.m,st.C.set i (.list ds)⟩:=by
 refine gn ho (mk:=.oN) (show (st.C[i]?).bind (kp .pop)=_ by rw [h]; rfl) (ds:=[]) rfl ?_
 show aI (eL st.C i) _=_
 rw [show eL st.C i=some (ds++[d]) by unfold eL; rw [h]]
 show aI (ds++[d]).getLast? _=_
 rw [List.getLast?_concat]
 show aj.ok d ⟨st.m,st.C.set i (.list (ds++[d]).dropLast)⟩=_
 rw [List.dropLast_concat]
theorem Jx {o i:E} {y z:D} {C':af} (ho:ev P cl o st=.ok y aa) (hi:ev P cl i aa=.ok z ⟨m,C⟩) (hs:nY y z C=some C'):ex P cl (.pK o i) st=.ok .next ⟨m,C'⟩:=
 (aQ ho).trans ((aQ hi).trans (aQ (a:=()) (by show gS (nY y z C) m=_; rw [hs]; rfl)))
theorem MR {i:Nat} {ds:List D} {d:D} (h:C[i]?=some (.list (ds++[d]))):gg C (.loc i) (.int (-1))=some d:=by
 rw [mJ h]
 have e:(-1:Int)+((ds++[d]).length:Nat)=ds.length:=by rw [length_append,natCast_add,Int.add_comm]; exact Int.add_sub_cancel (ds.length:Int) 1
 unfold gM
 rw [if_neg (by decide),e,if_pos (natCast_nonneg _)]
 show (ds++[d])[ds.length]?=_
 rw [getElem?_append_right (le_refl _),sub_self]; rfl
end
abbrev Fr:=Int × Nat × Nat
noncomputable def fst (l:List Fr):List D:=(l.map λt=>D.int t.1).reverse
noncomputable def eb (s:Nat) (l:List Fr):List D:=(l.map λt=>D.bm .b9 (.loc (s+(t.2.1+4)))).reverse
noncomputable def n2:List Fr->List (Int × D)
 |[]=>[]
 |t::l=>n2 l++[(t.1,.int (l.length:Nat))]
theorem Bm {d:D} {u:Int} : ∀ {l:List (Int × D)},u ∉ l.map (·.1)->eY u (l++[(u,d)])=l
 |[],_=>if_pos (beq_self_eq_true u)
 |e::l,h=>by
  show (if (e.1==u)=true then _ else e::eY u (l++[(u,d)]))=_
  rw [if_neg (by rw [beq_false_of_ne λz:e.1=u=>h (z ▸ .head _)]; exact Bool.false_ne_true),Bm λz=>h (.tail _ z)]
theorem Eh : ∀ {l:List Fr},(n2 l).map (·.1)=(l.map (·.1)).reverse
 |[]=>rfl
 |t::l=>by
  show (n2 l++[(t.1,D.int (l.length:Nat))]).map (·.1)=(t.1::l.map (·.1)).reverse
  rw [map_append,Eh,reverse_cons]; rfl
theorem qI {l:List Fr} {u:Int}:u∈(n2 l).map (·.1)↔u∈l.map (·.1):=by rw [Eh,mem_reverse]
theorem xC {d:D} {u:Int} : ∀ {l:List (Int × D)},u ∉ l.map (·.1)->(l++[(u,d)]).lookup u=some d
 |[],_=>by show (match u==u with|true=>some d|false=>none)=_; rw [beq_self_eq_true]
 |e::l,h=>by
  rw [cons_append,lookup_cons,beq_false_of_ne λz:u=e.1=>h (z ▸ .head _)]
  exact xC λz=>h (.tail _ z)
structure FM (C C':af) (ks:List Int) (lc:Int->Nat) (rf:List Fr) (seen:List Int) (b:Bool) (J:af):Prop where
 mem:C'=C++(.list (fst rf)::.list (eb C.length rf)::.set seen::.dict b (n2 rf)::J)
 lF : ∀ t∈rf,t.1∈ks/\J[t.2.1]?=some (.bj (.loc (lc t.1+1)) t.2.2)
 xy:(rf.map (·.2.1)).Nodup
 lV:(rf.map (·.1)).Nodup
noncomputable def bF (a s:Nat) (x6:Option D):List (Option D):=[some (.inst 2 a),some (.loc (a+1)),some (.loc s),some (.loc (s+1)),some (.loc (s+2)),some (.loc (s+3)),x6]
noncomputable def fP (sc:Int->List Int):List Fr->Option (Int × List Fr)
 |[]=>none
 |t::l=>match (sc t.1)[t.2.2]? with
  |some v=>some (v,(t.1,t.2.1,t.2.2+1)::l)
  |none=>fP sc l
section
variable {r:List Fn} {fuel n:Nat} {C0 C:af} {rd:D} {p f:Int} {ks:List Int} {lc:Int->Nat} {np:Int->Int} {sc:Int->List Int}
inductive uY (C:af) (a:Nat) (ks:List Int) (lc:Int->Nat) (seen:List Int) (x6:Option D) (o:aj Fl):Option (Int × List Fr)->Prop
 |some (v:Int) (rf:List Fr) (C':af) (b:Bool) (J:af) (e:o=.ok .next ⟨bF a C.length (some (.int v)),C'⟩) (M:FM C C' ks lc rf seen b J):uY C a ks lc seen x6 o (some (v,rf))
 |none (C':af) (b:Bool) (J:af) (e:o=.ok .brk ⟨bF a C.length x6,C'⟩) (M:FM C C' ks lc [] seen b J):uY C a ks lc seen x6 o none
noncomputable def yU (r:List Fn) (cl:Calls):Nat->St->aj Fl:=whileLoop (λaa=>ev (PP r) cl (.var 2) aa) (λaa=>av (PP r) cl csfindcycle_0 aa) (λaa=>av (PP r) cl (.cons .brk .nil) aa)
theorem E8 (S:aY C0 C rd p f ks lc np sc) {cl:Calls} (hf:cl.fuel≠0) {seen:List Int} {a:Nat} {x6:Option D} : ∀ (rf:List Fr) {C':af} {b:Bool} {J:af} {k:Nat},FM C C' ks lc rf seen b J->rf.length<k->
  uY C a ks lc seen x6 (yU r cl k ⟨bF a C.length x6,C'⟩) (fP sc rf)
 |[],C',b,J,0,M,hk=>absurd hk (not_lt_zero _)
 |[],C',b,J,k+1,M,hk=>.none C' b J (by
   have h0:C'[C.length]?=some (.list (fst [])):=by rw [M.mem]; exact dA
   refine (yS (d:=.loc C.length) (ak rfl) (show (C'[C.length]?).bind uF=some false by rw [h0]; rfl)).trans rfl) M
 |t::l,C',b,J,0,M,hk=>absurd hk (not_lt_zero _)
 |(u,j,q)::l,C',b,J,k+1,M,hk=>by
  obtain ⟨hu,hJ⟩:=M.lF _ (.head _)
  obtain ⟨Dg,Lx⟩:=nodup_cons.mp M.xy
  obtain ⟨DB,Mr⟩:=nodup_cons.mp M.lV
  have h0:C'[C.length]?=some (.list (fst l++[.int u])):=by rw [M.mem]; refine dA.trans ?_; unfold fst; rw [map_cons,reverse_cons]
  have h1:C'[C.length+1]?=some (.list (eb C.length l++[.bm .b9 (.loc (C.length+(j+4)))])):=by rw [M.mem]; refine nI.trans ?_; unfold eb; rw [map_cons,reverse_cons]
  have h4:C'[C.length+(j+4)]?=some (.bj (.loc (lc u+1)) q):=by rw [M.mem]; exact kR.trans hJ
  have h5:C'[lc u+1]?=some (.list ((sc u).map .int)):=by rw [M.mem]; exact fW (S.succ u hu)
  have Dw:bW C' (.loc (lc u+1))=some ((sc u).map .int):=by unfold bW; dsimp only; rw [h5]
  have ht:bI C' (.loc C.length)=some true:=by show (C'[C.length]?).bind uF=some true; rw [h0]; induction fst l using List.casesOn<;>rfl
  have Dm : ∀ {x6:Option D},ev (PP r) cl (.call (.idx (.var 3) (.cst (.int (-1)))) .nil .nil) ⟨bF a C.length x6,C'⟩=fo C' (bF a C.length x6) (C.length+(j+4)):=λ{x6}=>
   df (g:=.bm .b9 (.loc (C.length+(j+4)))) (ds:=[]) (cN (ak (d:=.loc (C.length+1)) rfl) rfl (MR h1)) rfl (by
    show bo ([].isEmpty&&(nH C' (C.length+(j+4))).isSome) (jt (PP r) cl .next [.loc (C.length+(j+4))] _)=_
    rw [show nH C' (C.length+(j+4))=some ((sc u).map .int) by unfold nH; rw [h4]; dsimp only; unfold aU; dsimp only; rw [h5]]
    exact dJ hf)
  induction hv:(sc u)[q]? with
  |some v=>
   have hp:fP sc ((u,j,q)::l)=some (v,(u,j,q+1)::l):=by unfold fP; dsimp only; rw [hv]
   rw [hp]
   have hn:fo C' (bF a C.length x6) (C.length+(j+4))=.ok (.int v) ⟨bF a C.length x6,C'.set (C.length+(j+4)) (.bj (.loc (lc u+1)) (q+1))⟩:=by
    unfold fo; rw [h4]; dsimp only; rw [Dw]; dsimp only; rw [getElem?_map,hv]; rfl
   refine .some v _ _ b (J.set j (.bj (.loc (lc u+1)) (q+1))) (GA (d:=.loc C.length) (ak rfl) ht (vR (Jz hf (aP (bx (Dm.trans hn) (lb rfl)) (vR rfl))))) ⟨?_,λt h=>?_,M.xy,M.lV⟩
   ·rw [M.mem]; exact qX
   ·rcases mem_cons.mp h with rfl|h
    ·exact ⟨hu,iK hJ⟩
    ·exact ⟨(M.lF t (.tail _ h)).1,gy (M.lF t (.tail _ h)).2 λe=>Dg (mem_map.mpr ⟨t,h,e⟩)⟩
  |none=>
   have hp:fP sc ((u,j,q)::l)=fP sc l:=by rw [fP]; dsimp only; rw [hv]
   rw [hp]
   have hn:fo C' (bF a C.length x6) (C.length+(j+4))=.exc .stop ⟨bF a C.length x6,C'.set (C.length+(j+4)) (.bj .none 0)⟩:=by
    unfold fo; rw [h4]; dsimp only; rw [Dw]; dsimp only; rw [getElem?_map,hv]; rfl
   have e1:C'.set (C.length+(j+4)) (.bj .none 0)=C++(.list (fst l++[.int u])::.list (eb C.length l++[.bm .b9 (.loc (C.length+(j+4)))])::.set seen::.dict b (n2 ((u,j,q)::l))::J.set j (.bj .none 0)):=by
    rw [M.mem]; refine qX.trans ?_; unfold fst eb; rw [map_cons,map_cons,reverse_cons,reverse_cons]; rfl
   rw [e1] at hn
   have e2:nY (.loc (C.length+3)) (.int u) (C++(.list (fst l)::.list (eb C.length l++[.bm .b9 (.loc (C.length+(j+4)))])::.set seen::.dict b (n2 ((u,j,q)::l))::J.set j (.bj .none 0))) =
     some (C++(.list (fst l)::.list (eb C.length l++[.bm .b9 (.loc (C.length+(j+4)))])::.set seen::.dict false (n2 l)::J.set j (.bj .none 0))):=by
    show (_:Option Ch).bind (Bk _ u _)=_
    rw [kR]
    show (if ((n2 ((u,j,q)::l)).lookup u).isSome=true then some (List.set _ (C.length+3) (Ch.dict false (eY u (n2 ((u,j,q)::l))))) else none)=_
    rw [show n2 ((u,j,q)::l)=n2 l++[(u,.int (l.length:Nat))] from rfl,xC (λz=>DB (qI.mp z)),if_pos isSome_some,Bm (λz=>DB (qI.mp z)),qX]; rfl
   have ih:=E8 S hf (x6:=x6) (a:=a) l (C':=C++(.list (fst l)::.list (eb C.length l)::.set seen::.dict false (n2 l)::J.set j (.bj .none 0))) (k:=k) ⟨rfl,λt h=>⟨(M.lF t (.tail _ h)).1,gy (M.lF t (.tail _ h)).2 λe=>Dg (mem_map.mpr ⟨t,h,e⟩)⟩,Lx,Mr⟩ (Nat.lt_of_succ_lt_succ hk)
   have step:yU r cl (k+1) ⟨bF a C.length x6,C'⟩=yU r cl k ⟨bF a C.length x6,_⟩:=
    rA (d:=.loc C.length) (ak rfl) ht (cu (Jy hf (vS (by show ((ev (PP r) cl _ _).bind λx aa=>fZ _ x aa).bind _=_; rw [Dm,hn]; rfl)) rfl
     (aP (Jx (ak (d:=.loc (C.length+3)) rfl) (BP (ak (d:=.loc C.length) rfl) dA) (by rw [oY]; exact e2))
     (cu (j0 (BP (ak (d:=.loc (C.length+1)) rfl) nI))))))
   rw [FT] at step
   rw [step]; exact ih
end
inductive kN (sc:Int->List Int) (u:Int):Int->Prop
 |one {v:Int} (h:v∈sc u):kN sc u v
 |more {w v:Int} (h:kN sc u w) (h2:v∈sc w):kN sc u v
section
variable {sc:Int->List Int} {ks fin ie seen:List Int} {x:Int}
noncomputable def zl (sc:Int->List Int) (fin:List Int) (u:Int) (q:Nat):Prop := ∀ i v,i<q->(sc u)[i]?=some v->v∈fin
noncomputable def gY (sc:Int->List Int) (fin:List Int):Int->List Fr->Prop
 |_,[]=>True
 |x,t::l=>(∃ q,t.2.2=q+1/\(sc t.1)[q]?=some x/\zl sc fin t.1 q)/\gY sc fin t.1 l
noncomputable def uZ (sc:Int->List Int) (fin:List Int):List Fr->Prop
 |[]=>True
 |t::l=>zl sc fin t.1 t.2.2/\gY sc fin t.1 l
theorem gY.path : ∀ {l:List Fr} {x:Int},gY sc fin x l->∀ t∈l,kN sc t.1 x
 |t::l,x,h,u,hu=>by
  obtain ⟨⟨q,h1,h2,h3⟩,h4⟩:=h
  have hx:=mem_of_getElem? h2
  rcases mem_cons.mp hu with rfl|hu
  ·exact .one hx
  ·exact .more (h4.path u hu) hx
theorem gY.mono (m : ∀ y∈fin,y∈ie) : ∀ {l:List Fr} {x:Int},gY sc fin x l->gY sc ie x l
 |[],_,_=>trivial
 |t::l,x,⟨⟨q,h1,h2,h3⟩,h4⟩=>⟨⟨q,h1,h2,λi v a b=>m v (h3 i v a b)⟩,h4.mono m⟩
theorem gY.Fs (hx:x∈fin) : ∀ {l:List Fr},gY sc fin x l->uZ sc fin l
 |[],_=>trivial
 |t::l,⟨⟨q,h1,h2,h3⟩,h4⟩=>⟨λi v a b=>by
   rw [h1] at a
   rcases Nat.lt_or_eq_of_le (le_of_lt_succ a) with c|c
   ·exact h3 i v c b
   ·subst c; rw [h2] at b; exact Option.some.inj b ▸ hx,h4⟩
structure DI (sc:Int->List Int) (ks:List Int) (rf:List Fr) (seen fin:List Int):Prop where
 iG:jT sc fin
 sn : ∀ y,y∈seen↔y∈fin\/y∈rf.map (·.1)
 sd : ∀ y∈rf.map (·.1),y ∉ fin
 fi : ∀ y∈seen,y∈ks
 snd:seen.Nodup
noncomputable def ky (sc:Int->List Int):List Fr->Nat
 |[]=>0
 |t::l=>((sc t.1).length - t.2.2)+ky sc l
noncomputable def fU (sc:Int->List Int) (seen:List Int):List Int->Nat
 |[]=>0
 |k::l=>(if k∈seen then 0 else (sc k).length+1)+fU sc seen l
theorem GL : ∀ {l:List Int},x ∉ l->fU sc (seen++[x]) l=fU sc seen l
 |[],_=>rfl
 |k::l,h=>by
  have e:k∈seen++[x]↔k∈seen:=⟨λz=>(mem_append.mp z).resolve_right λy=>h (mem_singleton.mp y ▸ .head _),mem_append_left _⟩
  rw [fU,fU,GL λz=>h (.tail _ z)]
  by_cases hs:k∈seen
  ·rw [if_pos hs,if_pos (e.mpr hs)]
  ·rw [if_neg hs,if_neg λz=>hs (e.mp z)]
theorem GK (hx:x ∉ seen) : ∀ {l:List Int},l.Nodup->x∈l->fU sc seen l=fU sc (seen++[x]) l+((sc x).length+1)
 |k::l,hn,hm=>by
  obtain ⟨h1,h2⟩:=nodup_cons.mp hn
  rw [fU,fU]
  by_cases e:k=x
  ·subst e
   rw [if_neg hx,if_pos (mem_append_right _ (.head _)),GL h1,zero_add,add_comm]
  ·rw [GK hx h2 ((mem_cons.mp hm).resolve_left (Ne.symm e)),<-add_assoc]
   have e':k∈seen++[x]↔k∈seen:=⟨λz=>(mem_append.mp z).resolve_right λy=>e (mem_singleton.mp y),mem_append_left _⟩
   by_cases hs:k∈seen
   ·rw [if_pos hs,if_pos (e'.mpr hs)]
   ·rw [if_neg hs,if_neg λz=>hs (e'.mp z)]
inductive uX (sc:Int->List Int) (ks:List Int) (seen fin:List Int) (rf:List Fr):Option (Int × List Fr)->Prop
 |some (v:Int) (lO:List Fr) (ie:List Int) (D:DI sc ks lO seen ie) (c:gY sc ie v lO) (u:Int) (hu:u∈ks) (hv:v∈sc u) (le:ky sc lO<ky sc rf):uX sc ks seen fin rf (some (v,lO))
 |none (ie:List Int) (D:DI sc ks [] seen ie):uX sc ks seen fin rf none
theorem E7 : ∀ {rf:List Fr} {fin:List Int},DI sc ks rf seen fin->uZ sc fin rf->(rf.map (·.1)).Nodup->uX sc ks seen fin rf (fP sc rf)
 |[],fin,D,_,_=>.none fin D
 |(u,j,q)::l,fin,D,h,hn=>by
  obtain ⟨h1,h2⟩:=h
  obtain ⟨n1,n2⟩:=nodup_cons.mp hn
  have hu:u∈ks:=D.fi u ((D.sn u).mpr (.inr (.head _)))
  induction hv:(sc u)[q]? with
  |some v=>
   have hp:fP sc ((u,j,q)::l)=some (v,(u,j,q+1)::l):=by unfold fP; dsimp only; rw [hv]
   rw [hp]
   refine .some v _ fin ⟨D.iG,D.sn,D.sd,D.fi,D.snd⟩ ⟨⟨q,rfl,hv,h1⟩,h2⟩ u hu (mem_of_getElem? hv) ?_
   have:=(List.getElem?_eq_some_iff.mp hv).1
   exact Nat.add_lt_add_right (sub_lt_sub_left this (lt_succ_self q)) _
  |none=>
   have hp:fP sc ((u,j,q)::l)=fP sc l:=by rw [fP]; dsimp only; rw [hv]
   rw [hp]
   have hlen:=List.getElem?_eq_none_iff.mp hv
   have jA : ∀ v∈sc u,v∈fin:=λv hm=>by
    obtain ⟨i,hi⟩:=mem_iff_getElem?.mp hm
    exact h1 i v (lt_of_lt_of_le (List.getElem?_eq_some_iff.mp hi).1 hlen) hi
   have D':DI sc ks l seen (u::fin):=⟨⟨jA,D.sd u (.head _),D.iG⟩,λy=>by
     rw [D.sn y,map_cons,mem_cons,mem_cons]
     exact ⟨λz=>z.elim (λa=>.inl (.inr a)) λa=>a.elim (λb=>.inl (.inl b)) .inr,λz=>z.elim (λa=>a.elim (λb=>.inr (.inl b)) .inl) λa=>.inr (.inr a)⟩,
    λy hy z=>(mem_cons.mp z).elim (λe=>n1 (e ▸ hy)) (D.sd y (.tail _ hy)),D.fi,D.snd⟩
   have ih:=E7 D' ((h2.mono λy hy=>.tail _ hy).Fs (.head _)) n2
   induction hq:fP sc l with
   |none=>rw [hq] at ih; cases ih with|none f d=>exact .none f d
   |some w=>
    rw [hq] at ih
    cases ih with
    |some v lO f d c u' Mq xb le=>exact .some v lO f d c u' Mq xb (lt_of_lt_of_le le (le_add_left _ _))
end
theorem Ff {v:D} : ∀ {l:List (Int × D)} {k:Int},k ∉ l.map (·.1)->putL k v l=l++[(k,v)]
 |[],_,_=>rfl
 |e::l,k,h=>by
  show (if (e.1==k)=true then _ else e::putL k v l)=_
  rw [if_neg (by rw [beq_false_of_ne λz:e.1=k=>h (z ▸ .head _)]; exact Bool.false_ne_true),Ff λz=>h (.tail _ z)]; rfl
theorem Ei : ∀ l:List Fr,(n2 l).length=l.length
 |[]=>rfl
 |t::l=>by rw [n2,length_append,Ei l]; rfl
section
variable {r:List Fn} {fuel n:Nat} {C0 C C':af} {rd:D} {p f:Int} {ks:List Int} {lc:Int->Nat} {np:Int->Int} {sc:Int->List Int} {rf:List Fr} {seen:List Int} {b:Bool} {J:af}
theorem FM.len (M:FM C C' ks lc rf seen b J):C'.length=C.length+(J.length+4):=by rw [M.mem,length_append]; rfl
noncomputable def Fb:Ss:=(.cons (.expr (.bq (.var 4) .add (.cons (.var 6) .nil))) (.cons (.expr (.bq (.var 3) .append (.cons (.attr (.call (.cst (.bn .iter)) (.cons (.attr (.idx (.var 1) (.var 6)) .succ) .nil) .nil) .b9) .nil))) (.cons (.kP (.var 5) (.var 6) (.call (.cst (.bn .len)) (.cons (.var 2) .nil) .nil)) (.cons (.expr (.bq (.var 2) .append (.cons (.var 6) .nil))) .nil))))
theorem OZ {cl:Calls} (hf:cl.fuel≠0) (S:aY C0 C rd p f ks lc np sc) (M:FM C C' ks lc rf seen b J) {x:Int} (hx:x∈ks) (hs:x ∉ seen) (hr:x ∉ rf.map (·.1)) (hl:seen.length<64) (dj:rf.length<64) (ee:small x=true) (hj : ∀ t∈rf,t.2.1<J.length) :
  ∃ C2,av (PP r) cl Fb ⟨bF C0.length C.length (some (.int x)),C'⟩=.ok .next ⟨bF C0.length C.length (some (.int x)),C2⟩/\FM C C2 ks lc ((x,J.length,0)::rf) (seen++[x]) b (J++[.bj (.loc (lc x+1)) 0]):=by
 have hd : ∀ {X:af},gg (C++X) (.loc (C0.length+1)) (.int x)=some (.loc (lc x)):=λ{X}=>tv (S.app X) hx
 have hlen:=M.len
 have ff:=M.mem
 have e1:ev (PP r) cl (.bq (.var 4) .add (.cons (.var 6) .nil)) ⟨bF C0.length C.length (some (.int x)),C'⟩=.ok .none ⟨bF C0.length C.length (some (.int x)),C++(.list (fst rf)::.list (eb C.length rf)::.set (seen++[x])::.dict b (n2 rf)::J)⟩:=by
  have h2:C'[C.length+2]?=some (.set seen):=by rw [ff]; exact kR
  refine gn (ak (d:=.loc (C.length+2)) rfl) (mk:=.nh) (show (C'[C.length+2]?).bind (kp .add)=_ by rw [h2]; rfl) (bZ (ak (d:=.int x) rfl)) ?_
  show aI (oX C' (C.length+2)) (λes=>bo (decide (es.length<64)) (.ok .none ⟨bF C0.length C.length (some (.int x)),C'.set (C.length+2) (.set (if es.contains x then es else es++[x]))⟩))=_
  rw [show oX C' (C.length+2)=some seen by unfold oX; rw [h2]]
  show bo (decide (seen.length<64)) _=_
  rw [decide_eq_true hl,if_neg (λz=>hs (contains_iff_mem.mp z)),ff]
  show aj.ok _ ⟨_,_⟩=_
  rw [qX]; rfl
 have e2:ev (PP r) cl (.attr (.call (.cst (.bn .iter)) (.cons (.attr (.idx (.var 1) (.var 6)) .succ) .nil) .nil) .b9) ⟨bF C0.length C.length (some (.int x)),C++(.list (fst rf)::.list (eb C.length rf)::.set (seen++[x])::.dict b (n2 rf)::J)⟩ =
   .ok (.bm .b9 (.loc (C.length+(J.length+4)))) ⟨bF C0.length C.length (some (.int x)),C++(.list (fst rf)::.list (eb C.length rf)::.set (seen++[x])::.dict b (n2 rf)::(J++[.bj (.loc (lc x+1)) 0]))⟩:=by
  have ha : ∀ {X:af},bW (C++X) (.loc (lc x+1))=some ((sc x).map .int):=λ{X}=>by unfold bW; dsimp only; rw [(S.app X).succ x hx]
  refine c8 (x:=.loc (C.length+(J.length+4))) (df (g:=.bn .iter) rfl (bZ (c8 (cN (ak (d:=.loc (C0.length+1)) rfl) (ak (d:=.int x) rfl) hd) (jJ ((S.app _).info x hx)).2.2)) ((dJ hf).trans ?_)) ?_
  ·show aI (bW (C++_) (.loc (lc x+1))) _=_
   rw [ha]
   show aj.ok (D.loc (C++_).length) ⟨_,(C++_)++[_]⟩=_
   rw [length_append,append_assoc]; rfl
  ·show (_:Option Ch).bind _=_
   rw [kR]
   show ((J++[Ch.bj (.loc (lc x+1)) 0])[J.length]?).bind _=_
   rw [dA]
   show (if (aU (C++_) (.loc (lc x+1))).isSome then _ else _)=_
   rw [show aU (C++(.list (fst rf)::.list (eb C.length rf)::.set (seen++[x])::.dict b (n2 rf)::(J++[.bj (.loc (lc x+1)) 0]))) (.loc (lc x+1))=some ((sc x).map .int) by unfold aU; dsimp only; rw [(S.app _).succ x hx]]; rfl
 have e3:kC (.loc (C.length+3)) (.int x) (.int (rf.length:Nat)) (C++(.list (fst rf)::.list (eb C.length rf++[.bm .b9 (.loc (C.length+(J.length+4)))])::.set (seen++[x])::.dict b (n2 rf)::(J++[.bj (.loc (lc x+1)) 0]))) =
   some (C++(.list (fst rf)::.list (eb C.length rf++[.bm .b9 (.loc (C.length+(J.length+4)))])::.set (seen++[x])::.dict b (n2 rf++[(x,.int (rf.length:Nat))])::(J++[.bj (.loc (lc x+1)) 0]))):=by
  rw [FQ (kR (i:=3)) (by rw [Ei]; exact dj) ee,Ff λz=>hr (qI.mp z),qX]; rfl
 have e4 : ∀ {X:af},ev (PP r) cl (.call (.cst (.bn .len)) (.cons (.var 2) .nil) .nil) ⟨bF C0.length C.length (some (.int x)),C++(.list (fst rf)::X)⟩=.ok (.int (rf.length:Nat)) ⟨bF C0.length C.length (some (.int x)),C++(.list (fst rf)::X)⟩:=λ{X}=>
  df (g:=.bn .len) rfl (bZ (ak (d:=.loc C.length) rfl)) ((dJ hf).trans (by
   show aI ((_:Option Ch).bind tM) _=_
   rw [dA]
   show aj.ok (D.int ((fst rf).length:Nat)) _=_
   unfold fst; rw [length_reverse,length_map]))
 have lf:(fst rf).length=rf.length:=by unfold fst; rw [length_reverse,length_map]
 have lt:(eb C.length rf).length=rf.length:=by unfold eb; rw [length_reverse,length_map]
 have oy:rf.length<aD:=lt_trans dj (by decide)
 have a1:=mq (P:=PP r) (cl:=cl) (v:=3) (i:=C.length+1) (m:=bF C0.length C.length (some (.int x))) rfl nI e2 nI (by rw [lt]; exact oy)
 rw [FT] at a1
 have a2:=mq (P:=PP r) (cl:=cl) (v:=2) (i:=C.length) (e:=.var 6) (d:=.int x) (m:=bF C0.length C.length (some (.int x))) (C:=C++(.list (fst rf)::.list (eb C.length rf++[.bm .b9 (.loc (C.length+(J.length+4)))])::.set (seen++[x])::.dict b (n2 rf++[(x,.int (rf.length:Nat))])::(J++[.bj (.loc (lc x+1)) 0]))) rfl dA (ak rfl) dA (by rw [lf]; exact oy)
 rw [oY] at a2
 refine ⟨_,aP (j0 e1) (aP a1 (aP (BX e4 (ak (d:=.loc (C.length+3)) rfl) (ak (d:=.int x) rfl) e3) (cu a2))),?_,λt h=>?_,?_,?_⟩
 ·unfold fst eb; rw [map_cons,map_cons,reverse_cons,reverse_cons]; rfl
 ·rcases mem_cons.mp h with rfl|h
  ·exact ⟨hx,dA⟩
  ·exact ⟨(M.lF t h).1,fW (M.lF t h).2⟩
 ·rw [map_cons,nodup_cons]
  exact ⟨λz=>by obtain ⟨t,ht,e⟩:=mem_map.mp z; exact ne_of_lt (hj t ht) e,M.xy⟩
 ·rw [map_cons,nodup_cons]; exact ⟨hr,M.lV⟩
theorem FM.lt (M:FM C C' ks lc rf seen b J) : ∀ t∈rf,t.2.1<J.length:=λt h=>(List.getElem?_eq_some_iff.mp (M.lF t h).2).1
end
section
variable {bc:af->af->Bool} {t:T} {f:St->aj Fl} {d:D} {ds:List D} {m m1:List (Option D)} {C:af} {aa:St}
theorem JN (h1:fY t d m=some m1) (h2:f ⟨m1,C⟩=.ok .cont aa) (h3:bc C aa.C=true):forLoop bc t f (d::ds) ⟨m,C⟩=forLoop bc t f ds aa:=by
 rw [forLoop,h1]; dsimp only; rw [h2]; dsimp only; rw [if_pos h3]
theorem v3 {v:D} (h1:fY t d m=some m1) (h2:f ⟨m1,C⟩=.ok (.ret v) aa):forLoop bc t f (d::ds) ⟨m,C⟩=.ok (.ret v) aa:=by
 rw [forLoop,h1]; dsimp only; rw [h2]
theorem zS {g:Int->Nat} : ∀ l:List Int,nK (l.map λk=>(k,D.loc (g k))) (l.map λk=>(k,D.loc (g k)))=true
 |[]=>rfl
 |x::l=>by
  show (x==x&&((some (g x):Option Nat)==some (g x))&&nK (l.map λk=>(k,D.loc (g k))) (l.map λk=>(k,D.loc (g k))))=true
  rw [zS l,beq_self_eq_true,beq_self_eq_true]; rfl
theorem yF {A B:af} {j:Nat} {l:List Int} {g:Int->Nat} (h:A[j]?=some (.dict true (l.map λk=>(k,.loc (g k))))) (h':B[j]?=some (.dict true (l.map λk=>(k,.loc (g k))))):aW A B (.loc j)=true:=by
 show iF A B j=true
 unfold iF
 rw [h,h']; exact zS l
end
section
variable {r:List Fn} {fuel n:Nat} {C0 C C':af} {rd:D} {p f:Int} {ks:List Int} {lc:Int->Nat} {np:Int->Int} {sc:Int->List Int} {rf:List Fr} {seen fin:List Int} {b:Bool} {J:af} {cl:Calls} {x:Int}
theorem N3:(n2 rf).any (λe=>e.1==x)=decide (x∈rf.map (·.1)):=by
 rw [Bool.eq_iff_iff,any_eq_true,decide_eq_true_eq,<-qI,mem_map]
 exact ⟨λ⟨e,h1,h2⟩=>⟨e,h1,eq_of_beq h2⟩,λ⟨e,h1,h2⟩=>⟨e,h1,beq_iff_eq.mpr h2⟩⟩
theorem Ej : ∀ {l:List Fr},x∈l.map (·.1)->(l.map (·.1)).Nodup->∃ q:Nat,q<l.length/\(n2 l).lookup x=some (.int q)
 |t::l,h,hn=>by
  obtain ⟨n1,N2⟩:=nodup_cons.mp hn
  by_cases e:x=t.1
  ·exact ⟨l.length,lt_succ_self _,by rw [n2,<-e]; exact xC λz=>n1 (by rw [e] at z; exact qI.mp z)⟩
  ·obtain ⟨q,h1,h2⟩:=Ej ((mem_cons.mp h).resolve_left e) N2
   exact ⟨q,lt_succ_of_lt h1,by rw [n2,List.lookup_append,h2]; rfl⟩
theorem vN (M:FM C C' ks lc rf seen b J):ev (PP r) cl (.cmp .eK (.var 6) (.var 4)) ⟨bF C0.length C.length (some (.int x)),C'⟩=.ok (.bool (seen.contains x)) ⟨bF C0.length C.length (some (.int x)),C'⟩:=
 bY (x:=.int x) (y:=.loc (C.length+2)) (ak rfl) (ak rfl) (by show (C'[C.length+2]?).bind _=_; rw [M.mem,kR]; rfl)
theorem BM (M:FM C C' ks lc rf seen b J):ev (PP r) cl (.cmp .eK (.var 6) (.var 5)) ⟨bF C0.length C.length (some (.int x)),C'⟩=.ok (.bool (decide (x∈rf.map (·.1)))) ⟨bF C0.length C.length (some (.int x)),C'⟩:=
 bY (x:=.int x) (y:=.loc (C.length+3)) (ak rfl) (ak rfl) (by
  show (C'[C.length+3]?).bind _=_
  rw [M.mem,kR]
  show some ((n2 rf).any λe=>e.1==x)=_
  rw [N3])
theorem Pe (M:FM C C' ks lc rf seen b J) (hx:x∈rf.map (·.1)) (hl:rf.length<64) : ∃ l,l≠[]/\ev (PP r) cl (.bin .add (.slice (.var 2) (.idx (.var 5) (.var 6)) (.cst .none)) (.list (.cons (.var 6) .nil))) ⟨bF C0.length C.length (some (.int x)),C'⟩=.ok (.lst l) ⟨bF C0.length C.length (some (.int x)),C'⟩:=by
 obtain ⟨q,h1,h2⟩:=Ej hx M.lV
 have lf:(fst rf).length=rf.length:=by unfold fst; rw [length_reverse,length_map]
 have e1:nu C' (.loc C.length) (.int q) .none=some (.lst (dg (fst rf) (min q (fst rf).length) (fst rf).length)):=by
  exact yA (by unfold aU; dsimp only; rw [M.mem,dA]) (λb z=>(nomatch z)) (rT (lt_trans (lt_trans h1 hl) (by decide))) rU
 refine ⟨dg (fst rf) (min q (fst rf).length) (fst rf).length++[.int x],List.append_ne_nil_of_right_ne_nil _ (List.cons_ne_nil _ _),bh (pQ (ak (d:=.loc C.length) rfl) (cN (ak (d:=.loc (C.length+3)) rfl) (ak (d:=.int x) rfl) (z:=.int q) ?_) rfl e1) (y:=.lst [.int x]) rfl ?_⟩
 ·show (C'[C.length+3]?).bind _=_
  rw [M.mem,kR]; exact h2
 ·show (if (dg (fst rf) (min q (fst rf).length) (fst rf).length).length+[D.int x].length<=aD then some (D.lst (dg (fst rf) (min q (fst rf).length) (fst rf).length++[.int x])) else none)=_
  refine if_pos (le_trans (add_le_add_right (le_trans (List.length_take_le _ _) (le_trans (sub_le _ _) (le_of_eq lf))) 1) (le_trans hl (by decide)))
inductive zu (r:List Fn) (cl:Calls) (C0 C:af) (ks:List Int) (lc:Int->Nat) (sc:Int->List Int) (x:Int) (seen fin:List Int) (M:Nat) (st:St):Prop
 |mk (lP:List Fr) (nr:List Int) (C1:af) (b:Bool) (J1:af)
   (e:ex (PP r) cl (.ifs (.cmp .eK (.var 6) (.var 4)) (.cons (.ifs (.cmp .eK (.var 6) (.var 5)) (.cons (.ret (.bin .add (.slice (.var 2) (.idx (.var 5) (.var 6)) (.cst .none)) (.list (.cons (.var 6) .nil)))) .nil) .nil) .nil) Fb) st=.ok .next ⟨bF C0.length C.length (some (.int x)),C1⟩)
   (F:FM C C1 ks lc lP nr b J1) (D:DI sc ks lP nr fin) (R:uZ sc fin lP) (le:ky sc lP+fU sc nr ks<=M) (sub : ∀ y∈seen,y∈nr) (hx:x∈nr):zu r cl C0 C ks lc sc x seen fin M st
theorem Sy (hf:cl.fuel≠0) (S:aY C0 C rd p f ks lc np sc) (bR:ks.length<64) (ee : ∀ k∈ks,small k=true) (M:FM C C' ks lc rf seen b J) (D:DI sc ks rf seen fin) (h:gY sc fin x rf) (hx:x∈ks) (hr : ¬ (x∈seen/\x∈rf.map (·.1))) :
  zu r cl C0 C ks lc sc x seen fin (ky sc rf+fU sc seen ks) ⟨bF C0.length C.length (some (.int x)),C'⟩:=by
 have hi:=vN (r:=r) (cl:=cl) (C0:=C0) (x:=x) M
 by_cases hs:x∈seen
 ·have hr:x ∉ rf.map (·.1):=λz=>hr ⟨hs,z⟩
  rw [contains_iff_mem.mpr hs] at hi
  have ho:=BM (r:=r) (cl:=cl) (C0:=C0) (x:=x) M
  rw [decide_eq_false hr] at ho
  exact ⟨rf,seen,C',b,J,lC hi rfl (cu (dk ho rfl rfl)),M,D,h.Fs (((D.sn x).mp hs).resolve_right hr),le_refl _,λ_ z=>z,hs⟩
 ·rw [eq_false_of_ne_true λz=>hs (contains_iff_mem.mp z)] at hi
  have hr:x ∉ rf.map (·.1):=λz=>hs ((D.sn x).mpr (.inr z))
  have qs:rf.length<=ks.length:=by rw [<-length_map (f:=λt:Fr=>t.1)]; exact ek M.lV λy hy=>D.fi y ((D.sn y).mpr (.inr hy))
  obtain ⟨C2,e,M'⟩:=OZ (r:=r) hf S M hx hs hr (lt_of_le_of_lt (ek D.snd D.fi) bR) (lt_of_le_of_lt qs bR) (ee x hx) M.lt
  refine ⟨_,_,C2,b,_,dk hi rfl e,M',⟨D.iG,λy=>?_,λy hy=>?_,λy hy=>?_,?_⟩,⟨λi v z=>absurd z (not_lt_zero _),h⟩,?_,λy=>mem_append_left _,mem_append_right _ (.head _)⟩
  ·rw [mem_append,D.sn y,mem_singleton,map_cons,mem_cons,or_assoc]
   exact or_congr_right or_comm
  ·rw [map_cons,mem_cons] at hy
   rcases hy with rfl|hy
   ·exact λz=>hs ((D.sn _).mpr (.inl z))
   ·exact D.sd y hy
  ·exact (mem_append.mp hy).elim (D.fi y) λz=>mem_singleton.mp z ▸ hx
  ·rw [nodup_append]
   exact ⟨D.snd,nodup_cons.mpr ⟨not_mem_nil,nodup_nil⟩,λa ha c hc z=>hs (by rw [<-mem_singleton.mp hc,<-z]; exact ha)⟩
  ·rw [GK (sc:=sc) hs S.nd hx,ky,sub_zero,add_comm (sc x).length,add_assoc,add_comm (sc x).length]
   exact add_le_add_left (add_le_add_left (le_succ _) _) _
inductive fB (C0 C:af) (ks:List Int) (lc:Int->Nat) (sc:Int->List Int) (xs seen:List Int) (o:aj Fl):Prop
 |ret (l:List D) (m':List (Option D)) (E:af) (e:o=.ok (.ret (.lst l)) ⟨m',C++E⟩) (hl:l≠[]) (d8 : ∃ u,kN sc u u):fB C0 C ks lc sc xs seen o
 |next (x6:Option D) (nq ie:List Int) (C2:af) (b:Bool) (J:af) (e:o=.ok .next ⟨bF C0.length C.length x6,C2⟩) (M:FM C C2 ks lc [] nq b J) (D:DI sc ks [] nq ie) (sub : ∀ y∈seen,y∈nq) (hx : ∀ x∈xs,x∈nq):fB C0 C ks lc sc xs seen o
theorem fB.from {xs GN seen nq:List Int} {o:aj Fl} (h:fB C0 C ks lc sc xs seen o) (hs : ∀ y∈nq,y∈seen) (hx : ∀ x∈GN,x∈xs\/x∈seen):fB C0 C ks lc sc GN nq o:=by
 induction h using fB.casesOn with
 |ret l m' E e hl d8=>exact .ret l m' E e hl d8
 |next x6 s1 f1 C2 b J e M D sub h=>exact .next x6 s1 f1 C2 b J e M D (λy z=>sub y (hs y z)) λx z=>(hx x z).elim (h x) (sub x)
theorem Bq (hf:64<cl.fuel) (S:aY C0 C rd p f ks lc np sc) (bR:ks.length<64) (ee : ∀ k∈ks,small k=true) (fh : ∀ k∈ks,∀ v∈sc k,v∈ks) : ∀ (k:Nat) {x:Int} {rf:List Fr} {seen fin:List Int} {C':af} {b:Bool} {J:af},FM C C' ks lc rf seen b J->DI sc ks rf seen fin->gY sc fin x rf->x∈ks->ky sc rf+fU sc seen ks<k->
  fB C0 C ks lc sc [x] seen (whileLoop (λaa=>ev (PP r) cl (.cst (.bool true)) aa) (λaa=>av (PP r) cl csfindcycle_1 aa) (λaa=>av (PP r) cl .nil aa) k ⟨bF C0.length C.length (some (.int x)),C'⟩)
 |0,x,rf,seen,fin,C',b,J,M,D,h,hx,hk=>absurd hk (not_lt_zero _)
 |k+1,x,rf,seen,fin,C',b,J,M,D,h,hx,hk=>by
  have eZ:cl.fuel≠0:=λz=>by rw [z] at hf; exact not_lt_zero _ hf
  by_cases hr:x∈seen/\x∈rf.map (·.1)
  ·have qs:rf.length<=ks.length:=by rw [<-length_map (f:=λt:Fr=>t.1)]; exact ek M.lV λy hy=>D.fi y ((D.sn y).mpr (.inr hy))
   obtain ⟨l,hl,e⟩:=Pe (r:=r) (cl:=cl) (C0:=C0) M hr.2 (lt_of_le_of_lt qs bR)
   have hi:=vN (r:=r) (cl:=cl) (C0:=C0) (x:=x) M
   rw [contains_iff_mem.mpr hr.1] at hi
   have ho:=BM (r:=r) (cl:=cl) (C0:=C0) (x:=x) M
   rw [decide_eq_true hr.2] at ho
   obtain ⟨t,ht,e1⟩:=mem_map.mp hr.2
   refine .ret l (bF C0.length C.length (some (.int x))) _ (GC (d:=.bool true) rfl rfl (ic (lC hi rfl (cu (lC ho rfl (by rw [<-M.mem]; exact jk e)))))) hl ⟨x,?_⟩
   have:=h.path t ht
   rw [e1] at this; exact this
  ·obtain ⟨lP,nr,C1,b1,J1,e,F,D1,R,le,sub,tq⟩:=Sy (r:=r) eZ S bR ee M D h hx hr
   have qs:lP.length<=ks.length:=by rw [<-length_map (f:=λt:Fr=>t.1)]; exact ek F.lV λy hy=>D1.fi y ((D1.sn y).mpr (.inr hy))
   have hp:=E8 (r:=r) S (a:=C0.length) (x6:=some (.int x)) eZ lP F (k:=cl.fuel) (lt_of_le_of_lt qs (lt_trans bR hf))
   have hi:=E7 D1 R F.lV
   induction hq:fP sc lP with
   |none=>
    rw [hq] at hp hi
    cases hi with
    |none ie D2=>
    cases hp with
    |none C2 b2 J2 e2 M2=>
    exact .next (some (.int x)) nr ie C2 b2 J2 (GA (d:=.bool true) rfl rfl (aP e (vR e2))) M2 D2 sub λy hy=>mem_singleton.mp hy ▸ tq
   |some w=>
    rw [hq] at hp hi
    cases hi with
    |some v lO ie D2 c u hu hv lt=>
    cases hp with
    |some v lO C2 b2 J2 e2 M2=>
    have ih:=Bq hf S bR ee fh k M2 D2 c (fh u hu v hv) (lt_of_lt_of_le (Nat.add_lt_add_right lt _) (le_trans le (le_of_lt_succ hk)))
    have step:=rA (cc:=λaa=>ev (PP r) cl (.cst (.bool true)) aa) (f:=λaa=>av (PP r) cl csfindcycle_1 aa) (eD:=λaa=>av (PP r) cl .nil aa) (n:=k) (d:=.bool true) (st:=⟨bF C0.length C.length (some (.int x)),C'⟩) rfl rfl (aP e (cu e2))
    rw [step]
    exact ih.from sub λy hy=>.inr (mem_singleton.mp hy ▸ tq)
end
theorem wa {α:Type} {g f:α->D} {p:α->Bool} {tests:St->aj D} {inner:List D->St->aj D} {bc:af->af->Bool} {m:List (Option D)} {C:af} (hc:bc C C=true) :
  ∀ {xs:List α} {acc:List D},(∀ x∈xs,tests ⟨m++[some (g x)],C⟩=.ok (.bool (p x)) ⟨m++[some (g x)],C⟩)->
  (∀ x∈xs,p x=true->∀ bk,bk.length<acc.length+xs.length->inner bk ⟨m++[some (g x)],C⟩=.ok (.lst (bk++[f x])) ⟨m++[some (g x)],C⟩)->
  dD (.one m.length) (cw tests inner) bc (xs.map g) acc ⟨m,C⟩=.ok (.lst (acc++(xs.filter p).map f)) ⟨m,C⟩
 |[],acc,_,_=>by
  show aj.ok (D.lst acc) _=.ok (.lst (acc++[])) _
  rw [append_nil]
 |x::xs,acc,h1,h2=>by
  have e1:fF (.one m.length) (g x) ⟨m++replicate (T.one m.length).width none,C⟩=.ok () ⟨m++[some (g x)],C⟩:=by
   refine (lQ (show m.length<(m++[none]).length by rw [length_append]; exact lt_succ_self _)).trans ?_
   show aj.ok () ⟨(m++[none]).set m.length _,C⟩=_
   rw [set_append_right _ _ (le_refl _),sub_self]; rfl
  have step : ∀ bk,cw tests inner acc ⟨m++[some (g x)],C⟩=.ok (.lst bk) ⟨m++[some (g x)],C⟩->dD (.one m.length) (cw tests inner) bc ((x::xs).map g) acc ⟨m,C⟩=dD (.one m.length) (cw tests inner) bc (xs.map g) bk ⟨m,C⟩:=λbk h=>by
   show (match fF (.one m.length) (g x) ⟨m++replicate (T.one m.length).width none,C⟩ with
    |.ok _ aa=>match cw tests inner acc aa with
     |.ok (.lst bk) ae=>if bc C ae.C then dD (.one m.length) (cw tests inner) bc (xs.map g) bk ⟨ae.m.take m.length,ae.C⟩ else .fail
     |_=>.fail
    |_=>.fail)=_
   rw [e1]; dsimp only; rw [h]; dsimp only; rw [if_pos hc,take_left' rfl]
  induction hp:p x with
  |true=>
   rw [step (acc++[f x]) (by unfold cw; rw [h1 x (.head _),hp]; exact h2 x (.head _) hp acc (Nat.lt_add_of_pos_right (succ_pos _))),
    wa hc (λy hy=>h1 y (.tail _ hy)) (λy hy hq bk hl=>h2 y (.tail _ hy) hq bk (by rw [length_append,add_assoc,add_comm [f x].length] at hl; exact hl)),
    filter_cons,hp,if_pos rfl,map_cons,append_assoc]; rfl
  |false=>
   rw [step acc (by unfold cw; rw [h1 x (.head _),hp]),wa hc (λy hy=>h1 y (.tail _ hy)) (λy hy hq bk hl=>h2 y (.tail _ hy) hq bk (lt_succ_of_lt hl)),filter_cons,hp,if_neg Bool.false_ne_true]
section
variable {r:List Fn} {fuel n:Nat} {C0 C C':af} {rd:D} {p f:Int} {ks:List Int} {lc:Int->Nat} {np:Int->Int} {sc:Int->List Int} {cl:Calls}
theorem fB.eq {xs seen:List Int} {o o':aj Fl} (e:o=o') (h:fB C0 C ks lc sc xs seen o'):fB C0 C ks lc sc xs seen o:=e ▸ h
theorem GJ {seen:List Int} : ∀ {l:List Int},(∀ k∈l,(sc k).length<64)->fU sc seen l<=l.length*64
 |[],_=>zero_le _
 |k::l,h=>by
  rw [fU,length_cons,succ_mul,add_comm]
  refine add_le_add (GJ λy hy=>h y (.tail _ hy)) ?_
  split
  ·exact zero_le _
  ·exact h k (.head _)
theorem vT (hf:5000<cl.fuel) (S:aY C0 C rd p f ks lc np sc) (bR:ks.length<64) (ee : ∀ k∈ks,small k=true) (fh : ∀ k∈ks,∀ v∈sc k,v∈ks) (mF : ∀ k∈ks,(sc k).Nodup) : ∀ (xs:List Int) {seen fin:List Int} {C':af} {b:Bool} {J:af} {x6:Option D},(∀ x∈xs,x∈ks)->FM C C' ks lc [] seen b J->DI sc ks [] seen fin->
  fB C0 C ks lc sc xs seen (forLoop (λA B=>aW A B (.loc (C0.length+1))) (.one 6) (λae=>av (PP r) cl csfindcycle_2 ae) (xs.map .int) ⟨bF C0.length C.length x6,C'⟩)
 |[],seen,fin,C',b,J,x6,_,M,D=>.next x6 seen fin C' b J rfl M D (λ_ z=>z) λx z=>(nomatch z)
 |x::xs,seen,fin,C',b,J,x6,h,M,D=>by
  have hi:=vN (r:=r) (cl:=cl) (C0:=C0) (x:=x) M
  have hd : ∀ {X:af},(C++X)[C0.length+1]?=some (.dict true (ks.map λk=>(k,.loc (lc k)))):=λ{X}=>(S.app X).dict
  by_cases hs:x∈seen
  ·rw [contains_iff_mem.mpr hs] at hi
   have ih:=vT hf S bR ee fh mF xs (x6:=some (.int x)) (λy hy=>h y (.tail _ hy)) M D
   refine fB.eq (JN (m1:=bF C0.length C.length (some (.int x))) (aa:=⟨bF C0.length C.length (some (.int x)),C'⟩) rfl (BZ (lC hi rfl (BZ rfl))) (by rw [M.mem]; exact yF hd hd)) ?_
   exact ih.from (λ_ z=>z) λy hy=>(mem_cons.mp hy).elim (λe=>.inr (e ▸ hs)) .inl
  ·rw [eq_false_of_ne_true λz=>hs (contains_iff_mem.mp z)] at hi
   have hw:ky sc []+fU sc seen ks<cl.fuel:=by
    refine lt_of_le_of_lt ?_ hf
    rw [ky,zero_add]
    exact le_trans (GJ λk hk=>lt_of_le_of_lt (ek (mF k hk) (fh k hk)) bR) (le_trans (mul_le_mul_right _ (le_of_lt bR)) (by decide))
   have K2:=Bq (r:=r) (cl:=cl) (lt_trans (by decide) hf) S bR ee fh cl.fuel M D (x:=x) trivial (h x (.head _)) hw
   induction K2 using fB.casesOn with
   |ret l m' E e hl d8=>exact .ret l m' E (v3 (m1:=bF C0.length C.length (some (.int x))) rfl (aP (dk hi rfl rfl) (ic e))) hl d8
   |next lW s1 f1 C2 b2 J2 e M2 D2 sub hx=>
    have ih:=vT hf S bR ee fh mF xs (x6:=lW) (λy hy=>h y (.tail _ hy)) M2 D2
    refine fB.eq (eE (m1:=bF C0.length C.length (some (.int x))) rfl (aP (dk hi rfl rfl) (cu e)) (by rw [M.mem,M2.mem]; exact yF hd hd)) ?_
    exact ih.from sub λy hy=>(mem_cons.mp hy).elim (λe=>.inr (e ▸ hx x (.head _))) .inl
inductive rE (C:af) (ks:List Int) (sc:Int->List Int) (o:aj D):Prop
 |ok (m':List (Option D)) (E:af) (e:o=.ok .none ⟨m',C++E⟩) (fin:List Int) (T:jT sc fin) (all : ∀ k∈ks,k∈fin):rE C ks sc o
 |d8 (l:List D) (m':List (Option D)) (E:af) (e:o=.ok (.lst l) ⟨m',C++E⟩) (hl:l≠[]) (h : ∃ u,kN sc u u):rE C ks sc o
theorem JD (hf:5000<fuel) (S:aY C0 C rd p f ks lc np sc) (bR:ks.length<64) (ee : ∀ k∈ks,small k=true) (fh : ∀ k∈ks,∀ v∈sc k,v∈ks) (mF : ∀ k∈ks,(sc k).Nodup):rE C ks sc (aA (PP r) fuel (n+1) 16 [.inst 2 C0.length] [] C):=by
 have eZ:fuel≠0:=λz=>by rw [z] at hf; exact not_lt_zero _ hf
 have hl:=vT (r:=r) (cl:=⟨aA (PP r) fuel n,fuel⟩) hf S bR ee fh mF ks (x6:=none) (λ_ h=>h) (seen:=[]) (fin:=[]) (b:=true) (J:=[]) ⟨rfl,λt h=>(nomatch h),nodup_nil,nodup_nil⟩ ⟨trivial,λy=>⟨λh=>(nomatch h),λh=>h.elim (λh=>(nomatch h)) λh=>(nomatch h)⟩,λy h=>(nomatch h),λy h=>(nomatch h),nodup_nil⟩
 have E9 : ∀ {o:aj Fl},av (PP r) ⟨aA (PP r) fuel n,fuel⟩ csfindcycle_5 ⟨bF C0.length C.length none,C++[.list [],.list [],.set [],.dict true []]⟩=o->av (PP r) ⟨aA (PP r) fuel n,fuel⟩ csfindcycle_10 ⟨[some (.inst 2 C0.length),none,none,none,none,none,none],C⟩=o:=λ{o} h=>by
  refine aP (bx (c8 (ak (d:=.inst 2 C0.length) rfl) (fQ S.top).1) (lb rfl)) (aP (n3 (ds:=[]) rfl (lb rfl) rfl) (aP (n3 (ds:=[]) rfl (lb rfl) rfl) ?_))
  rw [append_assoc]
  refine aP (bx (m:=[some (.inst 2 C0.length),some (.loc (C0.length+1)),some (.loc C.length),some (.loc (C++[Ch.list []]).length),none,none,none]) (d:=.loc (C++[Ch.list [],.list []]).length) (C:=C++[.list [],.list [],.set []]) (df (g:=.bn .set) (ds:=[]) rfl rfl ((nT eZ).trans ?_)) (lb rfl)) ?_
  ·show aj.ok _ ⟨_,(C++[Ch.list [],.list []])++[.set []]⟩=_
   rw [append_assoc]; rfl
  refine aP (bx (m:=[some (.inst 2 C0.length),some (.loc (C0.length+1)),some (.loc C.length),some (.loc (C++[Ch.list []]).length),some (.loc (C++[Ch.list [],.list []]).length),none,none]) (d:=.loc (C++[Ch.list [],.list [],.set []]).length) (C:=C++[.list [],.list [],.set [],.dict true []]) ?_ (lb rfl)) ?_
  ·show aj.ok _ ⟨_,(C++[Ch.list [],.list [],.set []])++[.dict true []]⟩=_
   rw [append_assoc]; rfl
  rw [length_append,length_append,length_append]
  exact h
 have hit : ∀ {x6:Option D} {X:af},bU (C++X) (.loc (C0.length+1))=some (ks.map .int):=λ{x6 X}=>by
  show (_:Option Ch).bind mR=_
  rw [(S.app X).dict]
  show some ((ks.map λk=>(k,D.loc (lc k))).map λe=>D.int e.1)=_
  rw [map_map]; rfl
 have kX:=f7 (P:=PP r) (cl:=⟨aA (PP r) fuel n,fuel⟩) (t:=.one 6) (it:=.var 1) (a:=csfindcycle_2) (st:=⟨bF C0.length C.length none,C++[.list [],.list [],.set [],.dict true []]⟩) eZ (ak (d:=.loc (C0.length+1)) rfl) (hit (x6:=none))
 induction hl using fB.casesOn with
 |ret l m' E e hl d8=>exact .d8 l m' E (jj (E9 (ic (kX.trans e)))) hl d8
 |next x6 s1 f1 C2 b J e M D sub hx=>
  refine .ok (bF C0.length C.length x6) _ (jj (E9 (aP (kX.trans e) (jk (d:=.none) (by rw [M.mem]; rfl))))) f1 D.iG λk hk=>((D.sn k).mp (hx k hk)).resolve_right λz=>(nomatch z)
end
section
variable {P:aR} {cl:Calls} {st aa ae:St}
theorem Ju {o e:E} {a:Nm} {d y:D} {C':af} (he:ev P cl e st=.ok d aa) (hf:cO e=false) (ho:ev P cl o aa=.ok y ae) (hs:fq P y a d ae.C=some C'):ex P cl (.cU o a true e) st=.ok .next ⟨ae.m,C'⟩:=
 (aQ (a:=d) (aa:=aa) ((aQ he).trans (by rw [hf]; rfl))).trans ((aQ ho).trans (aQ (a:=()) (by rw [hs]; rfl)))
theorem mn {e:E} {b:Bool} (h:ev P cl e st=.ok (.bool b) st):cW P cl (.cons e .nil) st=.ok (.bool b) st:=by
 refine (aQ h).trans ?_
 induction b<;>rfl
theorem sq {elt:St->aj D} {acc:List D} {x:D} (h:elt st=.ok x aa) (hl:acc.length<aD):d9 P cl elt .nil acc st=.ok (.lst (acc++[x])) aa:=
 (aQ h).trans (if_pos hl)
end
section
variable {r:List Fn} {fuel n:Nat} {C0 C:af} {p f:Int} {ks:List Int} {lc:Int->Nat} {np:Int->Int} {sc:Int->List Int}
inductive rJ (C0:af) (p f:Int) (ks:List Int) (lc:Int->Nat) (np:Int->Int) (sc:Int->List Int) (o:aj D):Prop
 |ok (m':List (Option D)) (C':af) (i:Nat) (e:o=.ok .none ⟨m',C'⟩) (S:aY C0 C' (.loc i) p f ks lc np sc) (R:da C0 C' ks lc i (ks.filter λk=>np k==0)) (fin:List Int) (T:jT sc fin) (all : ∀ k∈ks,k∈fin):rJ C0 p f ks lc np sc o
 |d8 (h : ∃ u,kN sc u u):rJ C0 p f ks lc np sc o
theorem OY (hf:5000<fuel) (S:aY C0 C .none p f ks lc np sc) (bR:ks.length<64) (ee : ∀ k∈ks,small k=true) (fh : ∀ k∈ks,∀ v∈sc k,v∈ks) (mF : ∀ k∈ks,(sc k).Nodup):rJ C0 p f ks lc np sc (aA (PP r) fuel (n+2) 12 [.inst 2 C0.length] [] C):=by
 have eZ:fuel≠0:=λz=>by rw [z] at hf; exact not_lt_zero _ hf
 have b7:C0.length<C.length:=(List.getElem?_eq_some_iff.mp S.top).1
 have hv:ev (PP r) ⟨aA (PP r) fuel (n+1),fuel⟩ (.bq (.attr (.var 0) .cL) .values .nil) ⟨[some (.inst 2 C0.length),none],C⟩=.ok (.dC (C0.length+1)) ⟨[some (.inst 2 C0.length),none],C⟩:=
  gn (c8 (ak (d:=.inst 2 C0.length) rfl) (fQ S.top).1) (mk:=.nZ) (show (C[C0.length+1]?).bind (kp .values)=_ by rw [S.dict]; rfl) (ds:=[]) rfl (by
   show aI (dictAt C (C0.length+1)) _=_
   rw [show dictAt C (C0.length+1)=some (ks.map λk=>(k,.loc (lc k))) by unfold dictAt; rw [S.dict]]; rfl)
 have hit:bU C (.dC (C0.length+1))=some (ks.map λk=>.loc (lc k)):=by
  show (C[C0.length+1]?).bind yR=_
  rw [S.dict]
  show some ((ks.map λk=>(k,D.loc (lc k))).map λe=>e.2)=_
  rw [map_map]; rfl
 have hc:aW C C (.dC (C0.length+1))=true:=yF S.dict S.dict
 have hg:=wa (m:=[some (.inst 2 C0.length),none]) (C:=C) (g:=λk=>.loc (lc k)) (f:=D.int) (p:=λk=>np k==0) (tests:=λae=>cW (PP r) ⟨aA (PP r) fuel (n+1),fuel⟩ (.cons (.cmp .eq (.attr (.var 2) .er) (.cst (.int 0))) .nil) ae)
  (inner:=λacc ae=>d9 (PP r) ⟨aA (PP r) fuel (n+1),fuel⟩ (λaG=>ev (PP r) ⟨aA (PP r) fuel (n+1),fuel⟩ (.attr (.var 2) .node) aG) .nil acc ae) (bc:=λA B=>aW A B (.dC (C0.length+1))) hc (xs:=ks) (acc:=[])
  (λk hk=>mn (bY (c8 (ak (d:=.loc (lc k)) rfl) (jJ (S.info k hk)).2.1) rfl rfl))
  (λk hk _ bk hl=>sq (c8 (ak (d:=.loc (lc k)) rfl) (jJ (S.info k hk)).1) (lt_trans hl (lt_trans (by rw [length_nil,zero_add]; exact bR) (by decide))))
 have sP:=si (P:=PP r) (cl:=⟨aA (PP r) fuel (n+1),fuel⟩) (elt:=.attr (.var 2) .node) (ifs:=.cons (.cmp .eq (.attr (.var 2) .er) (.cst (.int 0))) .nil) (g:=.nil) eZ hv hit hg
 have S0:=S.app [Ch.list ((ks.filter λk=>np k==0).map .int)]
 have Mi:=(ym (r:=r) (q:=0) (x:=.loc C.length) S0.top).1
 have S1:=S0.setTop (yd:=.loc C.length) (p':=p) (f':=f)
 have R1:da C0 ((C++[Ch.list ((ks.filter λk=>np k==0).map .int)]).set C0.length (SA (C0.length+1) (.loc C.length) p f)) ks lc C.length (ks.filter λk=>np k==0):=
  ⟨eT dA S0.top rfl,b7,λk hk=>ne_of_lt (List.getElem?_eq_some_iff.mp (S.succ k hk)).1⟩
 have Lc:=JD (r:=r) (n:=n) hf S1 bR ee fh mF
 have pre : ∀ {o:aj Fl},av (PP r) ⟨aA (PP r) fuel (n+1),fuel⟩ csprepare_1 ⟨[some (.inst 2 C0.length),none],(C++[Ch.list ((ks.filter λk=>np k==0).map .int)]).set C0.length (SA (C0.length+1) (.loc C.length) p f)⟩=o->av (PP r) ⟨aA (PP r) fuel (n+1),fuel⟩ csprepare_3 ⟨[some (.inst 2 C0.length),none],C⟩=o:=λh=>
  aP (dk (bY (c8 (ak (d:=.inst 2 C0.length) rfl) (fQ S.top).2.1) rfl (z:=false) rfl) rfl rfl) (aP (BW sP rfl (ak (d:=.inst 2 C0.length) rfl) Mi) h)
 induction Lc using rE.casesOn with
 |ok m' E e fin T all=>
  exact .ok [some (.inst 2 C0.length),some .none] _ C.length (ui (pre (aP (bx (pP (ak (d:=.inst 2 C0.length) rfl) (ng S1.top).2.2.2.2.2.2 (ds:=[]) rfl e) (lb rfl)) (cu (dk (ak (d:=.none) rfl) rfl rfl))))) (S1.app E) ⟨fW R1.cell,R1.lo,R1.ne⟩ fin T all
 |d8 l m' E e hl h=>
  exact .d8 h
theorem Oc {m:List (Option D)}:ma (PP r) ⟨aA (PP r) fuel (n+1),fuel⟩ (.cls 2) [] [] ⟨m,C⟩=.ok (.inst 2 C.length) ⟨m,C++[SA (C.length+1) .none 0 0,.dict true []]⟩:=by
 have hb : ∀ {x:D} {C':af},aA (PP r) fuel (n+1) 9 [x] [] C'=dt (av (PP r) ⟨aA (PP r) fuel n,fuel⟩ csinit_4 ⟨[some x,some .none,none,none],C'⟩):=by intro x C'; kernel_rfl
 show mK (.inst 2 C.length) m (aA (PP r) fuel (n+1) 9 [.inst 2 C.length] [] (C++[.cJ []]))=_
 rw [hb]
 have set : ∀ {es:List (Nm × D)} {E:af} {a:Nm} {d:D},a.mL=true->es.length<64->fq (PP r) (.inst 2 C.length) a d (C++.cJ es::E)=some (C++.cJ (putL a d es)::E):=λ{es E a d} ha hl=>by
  show (eB (C++.cJ es::E) C.length).bind _=_
  rw [show eB (C++.cJ es::E) C.length=some es by unfold eB; rw [dA]]
  show (if (true&&a.mL&&decide (es.length<64))=true then some ((C++.cJ es::E).set C.length (.cJ (putL a d es))) else none)=_
  rw [ha,decide_eq_true hl,oY]; rfl
 have e1:ev (PP r) ⟨aA (PP r) fuel n,fuel⟩ .mi ⟨[some (.inst 2 C.length),some .none,none,none],C++[.cJ []]⟩=.ok (.loc (C.length+1)) ⟨[some (.inst 2 C.length),some .none,none,none],C++[.cJ [],.dict true []]⟩:=by
  show aj.ok (D.loc (C++[Ch.cJ []]).length) ⟨_,(C++[Ch.cJ []])++[.dict true []]⟩=_
  rw [length_append,append_assoc]; rfl
 let M:List (Option D):=[some (.inst 2 C.length),some .none,none,none]
 let A:List (Nm × D)->af:=λes=>C++.cJ es::[.dict true []]
 have s1:ex (PP r) ⟨aA (PP r) fuel n,fuel⟩ (.cU (.var 0) .cL false .mi) ⟨M,C++[.cJ []]⟩=.ok .next ⟨M,A [(.cL,.loc (C.length+1))]⟩:=jZ (ae:=⟨M,_⟩) e1 (ak (d:=.inst 2 C.length) rfl) (set rfl (lb rfl))
 have s2:ex (PP r) ⟨aA (PP r) fuel n,fuel⟩ (.cU (.var 0) .cC true (.cst .none)) ⟨M,A [(.cL,.loc (C.length+1))]⟩=.ok .next ⟨M,A [(.cL,.loc (C.length+1)),(.cC,.none)]⟩:=
  Ju (ae:=⟨M,_⟩) (d:=.none) rfl rfl (ak (d:=.inst 2 C.length) rfl) (set rfl (lb rfl))
 have s3:ex (PP r) ⟨aA (PP r) fuel n,fuel⟩ (.cU (.var 0) .el false (.cst (.int 0))) ⟨M,A [(.cL,.loc (C.length+1)),(.cC,.none)]⟩=.ok .next ⟨M,A [(.cL,.loc (C.length+1)),(.cC,.none),(.el,.int 0)]⟩:=
  jZ (ae:=⟨M,_⟩) (d:=.int 0) rfl (ak (d:=.inst 2 C.length) rfl) (set rfl (lb rfl))
 have s4:ex (PP r) ⟨aA (PP r) fuel n,fuel⟩ (.cU (.var 0) .fp false (.cst (.int 0))) ⟨M,A [(.cL,.loc (C.length+1)),(.cC,.none),(.el,.int 0)]⟩=.ok .next ⟨M,A [(.cL,.loc (C.length+1)),(.cC,.none),(.el,.int 0),(.fp,.int 0)]⟩:=
  jZ (ae:=⟨M,_⟩) (d:=.int 0) rfl (ak (d:=.inst 2 C.length) rfl) (set rfl (lb rfl))
 have h9:av (PP r) ⟨aA (PP r) fuel n,fuel⟩ csinit_4 ⟨M,C++[.cJ []]⟩=.ok .next ⟨M,A [(.cL,.loc (C.length+1)),(.cC,.none),(.el,.int 0),(.fp,.int 0)]⟩:=
  aP s1 (aP s2 (aP s3 (aP s4 (cu (dk (bY (ak (d:=.none) rfl) rfl (z:=false) rfl) rfl rfl)))))
 exact congrArg (mK (.inst 2 C.length) m) (ui h9)
theorem Od:aY C (C++[SA (C.length+1) .none 0 0,.dict true []]) .none 0 0 [] (λ_=>0) (λ_=>0) (λ_=>[]):=
 ⟨prefix_append _ _,dA,nI,λ_ h=>(nomatch h),λ_ h=>(nomatch h),λ_ h=>(nomatch h),nodup_nil,λ_ _=>⟨rfl,rfl⟩⟩
end
section
variable {P:aR} {cl:Calls} {st aa:St}
theorem BJ {e:E} {d:D} (h:ev P cl e st=.ok d aa):ev P cl (.list (.cons e .nil)) st=.ok (.lst [d]) aa:=by
 show (match bG P cl (.cons e .nil) st with
  |.ok (.lst ds) aa=>if ds.length<=aD then (aj.ok (D.lst ds) aa:aj D) else .fail
  |.exc x aa=>.exc x aa
  |_=>.fail)=_
 rw [bZ h]; exact if_pos (le_of_ble_eq_true rfl)
end
structure gX (nd:Int->List Int) (pre ks:List Int) (np:Int->Int) (sc:Int->List Int):Prop where
 kk : ∀ x,x∈ks↔x∈pre\/∃ j∈pre,x∈nd j
 nn : ∀ x,np x=if x∈pre then ((nd x).length:Int) else 0
 ss : ∀ x j,j∈sc x↔j∈pre/\x∈nd j
 iE : ∀ x,(sc x).Nodup
theorem Eb {x:Int} : ∀ {l ks:List Int},x∈l.foldl fj ks↔x∈ks\/x∈l
 |[],ks=>⟨.inl,λh=>h.resolve_right λz=>(nomatch z)⟩
 |q::l,ks=>by rw [foldl_cons,Eb,tW,mem_cons,or_assoc]
theorem u4 {node x:Int} : ∀ {l:List Int} {sc:Int->List Int},l.Nodup->pv sc node l x=if x∈l then sc x++[node] else sc x
 |[],sc,_=>(if_neg not_mem_nil).symm
 |q::l,sc,h=>by
  obtain ⟨h1,h2⟩:=nodup_cons.mp h
  show pv (fy sc q (sc q++[node])) node l x=_
  rw [u4 h2]
  by_cases e:x=q
  ·subst e; rw [if_neg h1,if_pos (.head _),gW]
  ·rw [eP e]
   by_cases z:x∈l
   ·rw [if_pos z,if_pos (.tail _ z)]
   ·rw [if_neg z,if_neg λy=>(mem_cons.mp y).elim e z]
section
variable {nd:Int->List Int} {pre ks:List Int} {np:Int->Int} {sc:Int->List Int}
theorem gX.add (B:gX nd pre ks np sc) {j:Int} (hj:j ∉ pre) (hn:(nd j).Nodup):gX nd (j::pre) ((nd j).foldl fj (fj ks j)) (fy np j (np j+(nd j).length)) (pv sc j (nd j)):=by
 refine ⟨λx=>?_,λx=>?_,λx k=>?_,λx=>?_⟩
 ·rw [Eb,tW,B.kk]
  constructor
  ·rintro (((h|⟨k,h1,h2⟩)|h)|h)
   ·exact .inl (.tail _ h)
   ·exact .inr ⟨k,.tail _ h1,h2⟩
   ·exact .inl (h ▸ .head _)
   ·exact .inr ⟨j,.head _,h⟩
  ·rintro (h|⟨k,h1,h2⟩)
   ·exact (mem_cons.mp h).elim (λe=>.inl (.inr e)) λh=>.inl (.inl (.inl h))
   ·exact (mem_cons.mp h1).elim (λe=>.inr (e ▸ h2)) λh=>.inl (.inl (.inr ⟨k,h,h2⟩))
 ·by_cases e:x=j
  ·subst e; rw [gW,B.nn,if_neg hj,if_pos (.head _),Int.zero_add]
  ·rw [eP e,B.nn]
   by_cases h:x∈pre
   ·rw [if_pos h,if_pos (.tail _ h)]
   ·rw [if_neg h,if_neg λz=>(mem_cons.mp z).elim e h]
 ·rw [u4 hn]
  by_cases h:x∈nd j
  ·rw [if_pos h,mem_append,B.ss,mem_singleton,mem_cons]
   exact ⟨λz=>z.elim (λ⟨a,b⟩=>⟨.inr a,b⟩) λe=>⟨.inl e,e ▸ h⟩,λ⟨a,b⟩=>a.elim .inr λa=>.inl ⟨a,b⟩⟩
  ·rw [if_neg h,B.ss,mem_cons]
   exact ⟨λ⟨a,b⟩=>⟨.inr a,b⟩,λ⟨a,b⟩=>⟨a.resolve_left λe=>h (e ▸ b),b⟩⟩
 ·rw [u4 hn]
  split
  ·rw [nodup_append]
   exact ⟨B.iE x,nodup_cons.mpr ⟨not_mem_nil,nodup_nil⟩,λa ha b hb z=>hj (by rw [<-mem_singleton.mp hb,<-z]; exact ((B.ss x a).mp ha).1)⟩
  ·exact B.iE x
theorem gX.nil:gX nd [] [] (λ_=>0) (λ_=>[]):=
 ⟨λx=>⟨λh=>(nomatch h),λh=>h.elim (λh=>(nomatch h)) λ⟨_,h,_⟩=>(nomatch h)⟩,λx=>(if_neg not_mem_nil).symm,λx j=>⟨λh=>(nomatch h),λh=>(nomatch h.1)⟩,λ_=>nodup_nil⟩
theorem gX.gr (B:gX nd pre ks np sc) (hn : ∀ j∈pre,(nd j).Nodup) (hi : ∀ j∈pre,∀ q∈nd j,q∈pre):(∀ x,x∈ks↔x∈pre)/\Gr nd ks sc:=by
 have hk : ∀ x,x∈ks↔x∈pre:=λx=>(B.kk x).trans ⟨λh=>h.elim id λ⟨j,a,b⟩=>hi j a x b,.inl⟩
 exact ⟨hk,λk h=>hn k ((hk k).mp h),λk h q hq=>(hk q).mpr (hi k ((hk k).mp h) q hq),λk _=>B.iE k,λk _ j=>by rw [B.ss,hk]⟩
theorem gX.run (B:gX nd pre ks np sc) (hk : ∀ x,x∈ks↔x∈pre) (iz:ks.Nodup):gx nd ks [] [] (ks.filter λk=>np k==0) np:=by
 have hv : ∀ k∈ks,np k=((nd k).length:Int):=λk h=>by rw [B.nn,if_pos ((hk k).mp h)]
 refine ⟨trivial,λ_ h=>(nomatch h),λ_ h=>(nomatch h),λk h _ _=>?_,λk=>?_,iz.filter _⟩
 ·rw [hv k h]; exact congrArg (λl:List Int=>((l.length:Nat):Int)) (filter_eq_self.mpr λ_ _=>rfl).symm
 ·rw [mem_filter]
  constructor
  ·rintro ⟨h,e⟩
   refine ⟨h,not_mem_nil,not_mem_nil,λq hq=>?_⟩
   rw [hv k h,beq_iff_eq] at e
   rw [List.eq_nil_of_length_eq_zero (ofNat.inj e)] at hq
   exact hq
  ·rintro ⟨h,_,_,e⟩
   refine ⟨h,?_⟩
   rw [hv k h,List.eq_nil_iff_forall_not_mem.mpr λq hq=>(nomatch e q hq)]; rfl
end
section
variable {r:List Fn} {fuel n:Nat} {C0 C:af} {p f:Int} {ks dn rs:List Int} {lc:Int->Nat} {np:Int->Int} {sc nd:Int->List Int} {i:Nat} {held:Int}
structure ph (C0 C:af) (ks:List Int) (lc:Int->Nat) (sc nd:Int->List Int) (i:Nat) (held:Int) (dn bt hs:List Int):Prop where
 ex : ∃ p f np,aY C0 C (.loc i) p f ks lc np sc/\gx nd ks dn (bt++hs) [] np/\p=f+(bt++hs).length
 jN:da C0 C ks lc i []
 iE:(bt++hs).Nodup
 hs : ∀ h∈hs,h=held
 bt:held ∉ bt
 dh:held ∉ dn
theorem zN {cl:Calls} (au:cl=⟨aA (PP r) fuel (n+2),fuel⟩) (hf:fuel≠0) (oi:64<fuel) (bR:ks.length<64) (S:aY C0 C (.loc i) p f ks lc np sc) (R:da C0 C ks lc i rs) {hs:List Int} (W:gx nd ks dn hs rs np) (hh : ∀ h∈hs,h=held) (K4:held ∉ dn) (hn:hs.Nodup) (hp:p=f+hs.length)
  {m:List (Option D)} {sv hv:Nat} (h1:m[sv]?=some (some (.inst 2 C0.length))) (h2:m[hv]?=some (some (.int held))) :
  ∃ bt fL C',ev (PP r) cl (.call (.cst (.fn 7)) (.cons (.bq (.var sv) .jx .nil) (.cons (.list (.cons (.var hv) .nil)) .nil)) .nil) ⟨m,C⟩=.ok (.lst (bt.map .int)) ⟨m,C'⟩/\ph C0 C' ks lc sc nd i held dn bt fL:=by
 have Dt : ∀ k∈rs,k∈ks:=λk h=>((W.jN k).mp h).1
 refine cps λQQ kQ=>?_
 obtain ⟨m1,C1,e1,S1,R1⟩:=Kg (r:=r) (n:=n+1) hf S R Dt
 have hl:=ek W.qU Dt
 have hb:=lt_of_le_of_lt hl bR
 obtain ⟨m2,e2⟩:=Ca (r:=r) (fuel:=fuel) (n:=n) (C:=C1) (a:=.tup (rs.map .int)) (sk:=.lst [.int held]) (xs:=rs) (ys:=[held]) hf rfl rfl (lt_trans hb oi) (le_of_lt (lt_trans hb (by decide)))
 have Ld:(rs.filter λx=>![held].contains x)=rs.filter λx=>!(x==held):=filter_congr λx _=>by
  rw [Bool.eq_iff_iff,not_eq_true',not_eq_true',<-not_eq_true,<-not_eq_true,contains_iff_mem,mem_singleton,beq_iff_eq]
 rw [Ld] at e2
 have ff : ∀ x,x∈(rs.filter λx=>!(x==held))↔x∈rs/\x≠held:=λx=>by
  rw [mem_filter,not_eq_true',<-not_eq_true,beq_iff_eq]
 have cf : ∀ x,x∈(rs.filter λx=>x==held)↔x∈rs/\x=held:=λx=>by rw [mem_filter,beq_iff_eq]
 refine kQ ⟨rs.filter λx=>!(x==held),hs++rs.filter λx=>x==held,MF C1 (.lst [.int held]) .none 0,?_,⟨_,_,_,S1.app _,W.out λk=>?_,?_⟩,⟨fW R1.cell,R1.lo,R1.ne⟩,?_,λh hm=>?_,λh=>((ff _).mp h).2 rfl,K4⟩
 ·subst au
  have a1:ev (PP r) ⟨aA (PP r) fuel (n+2),fuel⟩ (.bq (.var sv) .jx .nil) ⟨m,C⟩=.ok (.tup (rs.map .int)) ⟨m,C1⟩:=pP (aa:=⟨m1,C1⟩) (ak h1) (ng S.top).2.2.2.1 (ds:=[]) rfl e1
  exact iP (f:=.cst (.fn 7)) (st:=⟨m,C⟩) (aa:=⟨m2,MF C1 (.lst [.int held]) .none 0⟩) rfl (iQ a1 (BJ (ak h2))) e2
 ·rw [mem_append,mem_append,ff,cf]
  constructor
  ·rintro (⟨a,_⟩|a|⟨a,_⟩)
   ·exact .inr a
   ·exact .inl a
   ·exact .inr a
  ·rintro (a|a)
   ·exact .inr (.inl a)
   ·by_cases e:k=held
    ·exact .inr (.inr ⟨a,e⟩)
    ·exact .inl ⟨a,e⟩
 ·have hc : ∀ l:List Int,(l.filter λx=>!(x==held)).length+(l.filter λx=>x==held).length=l.length:=λl=>by
   induction l with
   |nil=>rfl
   |cons a l ih=>
    rw [filter_cons,filter_cons]
    induction a==held with
    |true=>exact congrArg Nat.succ ih
    |false=>exact (Nat.succ_add _ _).trans (congrArg Nat.succ ih)
  rw [length_append,length_append,hp,<-hc rs,Nat.add_left_comm]
  simp only [natCast_add]
  rw [Int.add_assoc]
 ·rw [nodup_append]
  refine ⟨W.qU.filter _,?_,λa ha b hb e=>?_⟩
  ·rw [nodup_append]
   exact ⟨hn,W.qU.filter _,λa ha b hb e=>((W.jN a).mp (e ▸ ((cf b).mp hb).1)).2.2.1 ha⟩
  ·subst e
   obtain ⟨h3,h4⟩:=(ff a).mp ha
   exact (mem_append.mp hb).elim (λz=>h4 (hh a z)) λz=>h4 ((cf a).mp z).2
 ·exact (mem_append.mp hm).elim (hh h) λz=>((cf h).mp z).2
end
theorem toPys_ints : ∀ (n:Nat) (xs:List Int),toPys n (xs.map .int)=some (xs.map .int)
 |_,[]=>rfl
 |n,x::xs=>by
  show (toPy n (.int x)).bind _=_
  rw [show toPy n (.int x)=some (.int x) by induction n using Nat.casesOn<;>rfl]
  show (toPys n (xs.map .int)).map _=_
  rw [toPys_ints n xs]; rfl
theorem Bz : ∀ (xs ys:List Int),PyData.eqvAll (xs.map .int) (ys.map .int)=decide (xs=ys)
 |[],[]=>rfl
 |[],y::ys=>rfl
 |x::xs,[]=>rfl
 |x::xs,y::ys=>by
  show (PyData.eqv (.int x) (.int y)&&PyData.eqvAll (xs.map .int) (ys.map .int))=_
  rw [Bz xs ys]
  show (x==y&&_)=_
  rw [Bool.eq_iff_iff,and_eq_true,decide_eq_true_eq,decide_eq_true_eq,beq_iff_eq,List.cons.injEq]
theorem Bx {xs ys:List Int}:kZ (.lst (xs.map .int)) (.lst (ys.map .int))=some (decide (xs=ys)):=by
 show (((toPys 7 (xs.map .int)).map PyData.list).bind λx=>((toPys 7 (ys.map .int)).map PyData.list).map λy=>PyData.eqv x y)=_
 rw [toPys_ints,toPys_ints]
 show some (PyData.eqvAll (xs.map .int) (ys.map .int))=_
 rw [Bz]
theorem Ig {C:af} {xs ys:List Int}:eX C .eq (.lst (xs.map .int)) (.lst (ys.map .int))=some (decide (xs=ys)):=Bx
theorem vy {C:af} {xs ys:List Int}:eX C .ne (.lst (xs.map .int)) (.lst (ys.map .int))=some (!decide (xs=ys)):=by
 show (kZ (.lst (xs.map .int)) (.lst (ys.map .int))).map _=_
 rw [Bx]; rfl
theorem rQ {C:af} {xs ys:List Int} (h:xs.length+ys.length<=aD):d6 C .add (.lst (xs.map .int)) (.lst (ys.map .int))=some (.lst ((xs++ys).map .int)):=by
 show (if (xs.map D.int).length+(ys.map D.int).length<=aD then some (D.lst (xs.map .int++ys.map .int)) else none)=_
 rw [length_map,length_map,if_pos h,map_append]
theorem jT.nodup {nd:Int->List Int} : ∀ {l:List Int},jT nd l->l.Nodup
 |[],_=>nodup_nil
 |k::l,⟨_,h,t⟩=>nodup_cons.mpr ⟨h,t.nodup⟩
section
variable {r:List Fn} {fuel n:Nat} {C0:af} {ks:List Int} {lc:Int->Nat} {sc nd:Int->List Int} {i:Nat} {held:Int} {cl:Calls} {sv hv cv bv:Nat} {mk:List Int->List Int->List (Option D)}
noncomputable def H5 (sv hv cv bv:Nat):Ss:=(.cons (.expr (.gn (.var sv) .done .nil (.var bv))) (.cons (.aN cv false (.bin .add (.var cv) (.var bv))) (.cons (.aN bv false (.call (.cst (.fn 7)) (.cons (.bq (.var sv) .jx .nil) (.cons (.list (.cons (.var hv) .nil)) .nil)) .nil)) .nil)))
structure yX (mk:List Int->List Int->List (Option D)) (a:Nat) (held:Int) (sv hv cv bv:Nat):Prop where
 s : ∀ c b,(mk c b)[sv]?=some (some (.inst 2 a))
 h : ∀ c b,(mk c b)[hv]?=some (some (.int held))
 c : ∀ c b,(mk c b)[cv]?=some (some (.lst (c.map .int)))
 b : ∀ c b,(mk c b)[bv]?=some (some (.lst (b.map .int)))
 sc : ∀ c b c',(mk c b).set cv (some (.lst (c'.map .int)))=mk c' b
 sb : ∀ c b b',(mk c b).set bv (some (.lst (b'.map .int)))=mk c b'
theorem tT {α:Type} {l:List α} {i:Nat} {a:α} (h:l[i]?=some a):i<l.length:=(List.getElem?_eq_some_iff.mp h).1
theorem Aw (au:cl=⟨aA (PP r) fuel (n+2),fuel⟩) (hf:64<fuel) (bR:ks.length<64) (G:Gr nd ks sc) (Q:yX mk C0.length held sv hv cv bv) : ∀ (k:Nat) {C:af} {dn bt hs:List Int},ks.length<k+dn.length->ph C0 C ks lc sc nd i held dn bt hs->
  ∃ C' Bs fL,whileLoop (λaa=>ev (PP r) cl (.cmp .ne (.var bv) (.list .nil)) aa) (λaa=>av (PP r) cl (H5 sv hv cv bv) aa) (λaa=>av (PP r) cl .nil aa) k ⟨mk dn.reverse bt,C⟩=.ok .next ⟨mk Bs.reverse [],C'⟩/\ph C0 C' ks lc sc nd i held Bs [] fL
 |0,C,dn,bt,hs,hk,H=>by
  obtain ⟨p,f,np,S,W,_⟩:=H.ex
  rw [zero_add] at hk
  exact absurd (ek W.iG.nodup W.pL) (not_le.mpr hk)
 |k+1,C,dn,[],hs,hk,H=>
  ⟨C,dn,hs,yS (d:=.bool false) (bY (ak (Q.b _ _)) (y:=.lst []) rfl (vy (xs:=[]) (ys:=[]))) rfl,H⟩
 |k+1,C,dn,x::bt,hs,hk,H=>by
  obtain ⟨p,f,np,S,W,hp⟩:=H.ex
  have eZ:fuel≠0:=λz=>by rw [z] at hf; exact not_lt_zero _ hf
  obtain ⟨m1,C1,Ti,Tu,e1,S1,R1,W1⟩:=IV (r:=r) (n:=n+1) eZ G bR S H.jN W H.iE
  have hn:=H.iE
  rw [nodup_append] at hn
  obtain ⟨HQ,fL,C2,e2,H2⟩:=zN (r:=r) (cl:=cl) (n:=n) au eZ hf bR S1 R1 W1 H.hs (λz=>(mem_append.mp z).elim (λy=>H.bt (mem_reverse.mp y)) H.dh) hn.2.1 (by
   rw [hp,length_append,natCast_add,Int.add_assoc]) (m:=mk (dn.reverse++(x::bt)) (x::bt)) (sv:=sv) (hv:=hv) (Q.s _ _) (Q.h _ _)
  have hl:(dn.reverse++(x::bt)).length<=ks.length:=by
   have:=ek W1.iG.nodup W1.pL
   rw [length_append,length_reverse] at this ⊢
   rw [add_comm]; exact this
  obtain ⟨C3,IU,tm,e3,H3⟩:=Aw au hf bR G Q k (dn:=(x::bt).reverse++dn) (by
   rw [length_append,length_reverse,length_cons]
   exact lt_of_lt_of_le hk (by rw [add_assoc]; exact add_le_add_left (add_le_add_right (le_add_left 1 bt.length) _) k)) H2
  refine ⟨C3,IU,tm,?_,H3⟩
  rw [List.reverse_append,List.reverse_reverse] at e3
  subst au
  refine (rA (d:=.bool true) (ae:=⟨mk (dn.reverse++(x::bt)) HQ,C2⟩) (bY (ak (Q.b _ _)) (y:=.lst []) rfl (vy (xs:=x::bt) (ys:=[]))) rfl ?_).trans e3
  refine aP (j0 (BK (ae:=⟨m1,C1⟩) (ak (Q.s _ _)) (ng S.top).2.2.2.2.2.1 (ds:=[]) rfl (ak (Q.b _ _)) rfl e1)) (aP (bx (bh (ak (Q.c _ _)) (ak (Q.b _ _)) (rQ (by rw [<-length_append]; exact le_trans hl (le_of_lt (lt_trans bR (by decide)))))) (tT (Q.c _ _))) ?_)
  rw [Q.sc]
  refine cu ((bx e2 (tT (Q.b _ _))).trans ?_)
  rw [Q.sb]
theorem ph.fin {C:af} {dn hs:List Int} (H:ph C0 C ks lc sc nd i held dn [] hs):(∀ k∈dn,k∈ks/\k ∉ hs)/\(∀ k∈dn,∀ q∈nd k,q∈dn)/\(∀ k∈ks,k ∉ dn->k ∉ hs->∃ q∈nd k,q ∉ dn)/\(∀ h∈hs,h=held/\h∈ks/\h ∉ dn/\∀ q∈nd h,q∈dn):=by
 obtain ⟨p,f,np,S,W,hp⟩:=H.ex
 refine ⟨λk hk=>⟨W.pL k hk,λz=>(W.jL k z).2.1 hk⟩,λk hk q hq=>W.iG.closed hk hq,λk hk h1 h2=>Classical.byContradiction λz=>?_,λh hh=>⟨H.hs h hh,(W.jL h hh).1,(W.jL h hh).2.1,(W.jL h hh).2.2.2⟩⟩
 exact (nomatch (W.jN k).mpr ⟨hk,h1,h2,λq hq=>Classical.byContradiction λy=>z ⟨q,hq,y⟩⟩)
end
section
variable {r:List Fn} {fuel n:Nat} {C0:af} {nd:Int->List Int} {cl:Calls} {mk:Option D->List (Option D)} {e:E} {U:List Int}
theorem QI {a b u:Nat} (h1:a<=u) (h2:b<=u) (h:u<20):a+1+b<64:=lt_of_le_of_lt (add_le_add (succ_le_succ h1) h2) (lt_trans (Nat.add_lt_add (Nat.succ_lt_succ h) h) (by decide))
theorem zx (au:cl=⟨aA (PP r) fuel (n+3),fuel⟩) (hf:fuel≠0) (h2 : ∀ x,(mk x)[2]?=some (some (.inst 2 C0.length))) (h3 : ∀ d,(mk (some d))[3]?=some (some d)) (hb : ∀ x d,fY (.one 3) d (mk x)=some (mk (some d)))
  (hU:U.length<20) (ee : ∀ x∈U,small x=true) (hn : ∀ j∈U,(nd j).Nodup) (hi : ∀ j∈U,∀ q∈nd j,q∈U) {bc:af->af->Bool} (iW : ∀ A B,bc A B=true) : ∀ (js:List Int) {x:Option D} {C:af} {pre ks:List Int} {lc:Int->Nat} {np:Int->Int} {sc:Int->List Int},
  (∀ j∈js,∀ C,ev (PP r) cl e ⟨mk (some (.int j)),C⟩=.ok (.lst ((nd j).map .int)) ⟨mk (some (.int j)),C⟩)->(js.reverse++pre).Nodup->(∀ j∈js,j∈U)->(∀ j∈pre,j∈U)->aY C0 C .none 0 0 ks lc np sc->gX nd pre ks np sc->
  ∃ x' C' tI dG fO uw,forLoop bc (.one 3) (λst=>av (PP r) cl (.cons (.expr (.gn (.var 2) .add (.cons (.var 3) .nil) e)) .nil) st) (js.map .int) ⟨mk x,C⟩=.ok .next ⟨mk x',C'⟩/\aY C0 C' .none 0 0 tI dG fO uw/\gX nd (js.reverse++pre) tI fO uw
 |[],x,C,pre,ks,lc,np,sc,_,_,_,_,S,B=>⟨x,C,ks,lc,np,sc,rfl,S,B⟩
 |j::js,x,C,pre,ks,lc,np,sc,he,iz,hj,hp,S,B=>by
  rw [reverse_cons,append_assoc] at iz
  have om:=hj j (.head _)
  have bR : ∀ x∈ks,x∈U:=λx hx=>((B.kk x).mp hx).elim (hp x) λ⟨k,a,b⟩=>hi k (hp k a) x b
  have sZ:=ek S.nd bR
  have Ly:j ∉ pre:=(nodup_cons.mp ((nodup_append.mp iz).2.1:([j]++pre).Nodup)).1
  obtain ⟨m1,C1,km,e1,S1⟩:=GY (r:=r) (n:=n) hf S (node:=j) (cm:=nd j) (ee j om) (QI sZ (ek (hn j om) (hi j om)) hU) (λq hq=>ee q (hi j om q hq)) (λk hk=>lt_of_le_of_lt (ek (B.iE k) λy hy=>hp y ((B.ss k y).mp hy).1) (lt_trans hU (by decide)))
  obtain ⟨x',C',tI,dG,fO,uw,e2,S2,B2⟩:=zx au hf h2 h3 hb hU ee hn hi iW js (x:=some (.int j)) (λk hk=>he k (.tail _ hk)) iz (λk hk=>hj k (.tail _ hk)) (pre:=j::pre) (λk hk=>(mem_cons.mp hk).elim (λe=>e ▸ om) (hp k)) S1 (B.add Ly (hn j om))
  subst au
  refine ⟨x',C',tI,dG,fO,uw,(eE (hb _ _) (cu (j0 (BK (ae:=⟨m1,C1⟩) (ak (h2 _)) (ng S.top).2.1 (bZ (ak (h3 _))) (he j (.head _) C) rfl e1))) (iW _ _)).trans e2,S2,by rw [reverse_cons,append_assoc]; exact B2⟩
end
section
variable {α:Type} {G:af->af->Prop} {t:T} {g:α->D} {bd:α->List (Option D)} {F:α->List D} {tests:St->aj D} {inner:List D->St->aj D} {bc:af->af->Bool} {m:List (Option D)} {C:af} {L:Nat}
noncomputable def u3 (G:af->af->Prop) (tests:St->aj D) (inner:List D->St->aj D) (m bd:List (Option D)) (C:af) (acc:List D) (ds:List D):Prop := ∃ C',cw tests inner acc ⟨m++bd,C⟩=.ok (.lst (acc++ds)) ⟨m++bd,C'⟩/\G C C'
theorem pU (hr : ∀ A,G A A) (xa : ∀ A B C,G A B->G B C->G A C) (hc : ∀ A B,G C A->G A B->bc A B=true) : ∀ {xs:List α} {acc:List D} {C1:af},G C C1->
  (∀ x∈xs,∀ C2,fF t (g x) ⟨m++replicate t.width none,C2⟩=.ok () ⟨m++bd x,C2⟩)->(∀ x∈xs,(F x).length<=L)->
  (∀ x∈xs,∀ bk C2,G C C2->bk.length<=acc.length+xs.length*L->u3 G tests inner m (bd x) C2 bk (F x))->
  ∃ C',dD t (cw tests inner) bc (xs.map g) acc ⟨m,C1⟩=.ok (.lst (acc++xs.flatMap F)) ⟨m,C'⟩/\G C1 C'
 |[],acc,C1,h1,_,_,_=>⟨C1,by show aj.ok (D.lst acc) _=.ok (.lst (acc++[])) _; rw [append_nil],hr C1⟩
 |x::xs,acc,C1,h1,hb,hL,h=>by
  obtain ⟨C2,e1,g1⟩:=h x (.head _) acc C1 h1 (le_add_right _ _)
  have hlen:(acc++F x).length+xs.length*L<=acc.length+(x::xs).length*L:=by
   rw [length_append,length_cons,succ_mul,add_comm (xs.length*L),<-add_assoc]
   exact add_le_add_right (add_le_add_left (hL x (.head _)) _) _
  obtain ⟨C3,e2,g2⟩:=pU hr xa hc (acc:=acc++F x) (xa _ _ _ h1 g1) (λy hy=>hb y (.tail _ hy)) (λy hy=>hL y (.tail _ hy)) λy hy bk C' hG hl=>h y (.tail _ hy) bk C' hG (le_trans hl hlen)
  refine ⟨C3,?_,xa _ _ _ g1 g2⟩
  rw [flatMap_cons,<-append_assoc,<-e2]
  show (match fF t (g x) ⟨m++replicate t.width none,C1⟩ with
   |.ok _ aa=>match cw tests inner acc aa with
    |.ok (.lst bk) ae=>if bc C1 ae.C then dD t (cw tests inner) bc (xs.map g) bk ⟨ae.m.take m.length,ae.C⟩ else .fail
    |_=>.fail
   |_=>.fail)=_
  rw [hb x (.head _)]; dsimp only; rw [e1]; dsimp only; rw [if_pos (hc _ _ h1 g1),take_left' rfl]
theorem uG {b:Bool} {bd:List (Option D)} {acc ds:List D} (h1:tests ⟨m++bd,C⟩=.ok (.bool b) ⟨m++bd,C⟩) (hr:G C C) (h2:b=true->∃ C',inner acc ⟨m++bd,C⟩=.ok (.lst (acc++ds)) ⟨m++bd,C'⟩/\G C C'):u3 G tests inner m bd C acc (if b then ds else []):=by
 unfold u3 cw
 rw [h1]
 induction b with
 |true=>exact h2 rfl
 |false=>exact ⟨C,by show aj.ok (D.lst acc) _=.ok (.lst (acc++[])) _; rw [append_nil],hr⟩
theorem zK {α:Type} {m:List α} {d:α} {R:List α}:(m++d::R)[m.length]?=some d:=by rw [getElem?_append_right (le_refl _),sub_self]; rfl
theorem vi {d:D} {C2:af}:fF (.one m.length) d ⟨m++replicate (T.one m.length).width none,C2⟩=.ok () ⟨m++[some d],C2⟩:=by
 refine (lQ (show m.length<(m++[none]).length by rw [length_append]; exact lt_succ_self _)).trans ?_
 show aj.ok () ⟨(m++[none]).set m.length _,C2⟩=_
 rw [set_append_right _ _ (le_refl _),sub_self]; rfl
theorem HM {n1:Nat} {d1 d2:D} {C2:af} (h1:n1=m.length+1):fF (.many [m.length,n1]) (.tup [d1,d2]) ⟨m++replicate (T.many [m.length,n1]).width none,C2⟩=.ok () ⟨m++[some d1,some d2],C2⟩:=by
 subst h1
 have hl:(m++[none,none]).length=m.length+2:=by rw [length_append]; rfl
 have e1:(m++[none,none]).set m.length (some d1)=m++[some d1,none]:=by rw [set_append_right _ _ (le_refl _),sub_self]; rfl
 have e2:(m++[some d1,none]).set (m.length+1) (some d2)=m++[some d1,some d2]:=by rw [set_append_right _ _ (le_add_right _ _),add_sub_cancel_left]; rfl
 show (ft m.length d1 ⟨m++[none,none],C2⟩).bind (λ_ aa=>(ft (m.length+1) d2 aa).bind λ_ aa=>.ok () aa)=_
 rw [lQ (by rw [hl]; exact Nat.lt_add_of_pos_right (by decide)),e1]
 show (ft (m.length+1) d2 ⟨m++[some d1,none],C2⟩).bind _=_
 rw [lQ (by rw [length_append]; exact lt_succ_self _),e2]; rfl
end
theorem ER {α:Type} (b:Bool) {a:α}:(if b then [a] else []).length<=1:=by induction b<;>exact le_of_ble_eq_true rfl
theorem Cf {α β:Type} {f:α->β} : ∀ xs:List α,(xs.flatMap λx=>[f x])=xs.map f
 |[]=>rfl
 |x::xs=>by rw [flatMap_cons,Cf xs]; rfl
theorem vX {α β:Type} {p:α->Bool} {f:α->β} : ∀ xs:List α,(xs.flatMap λx=>if p x then [f x] else [])=(xs.filter p).map f
 |[]=>rfl
 |x::xs=>by
  rw [flatMap_cons,filter_cons,vX xs]
  induction p x<;>rfl
section
variable {α:Type} {P:aR} {cl:Calls} {elt it:E} {ifs:Es} {y:D} {g f:α->D} {p:α->Bool} {m:List (Option D)} {C:af} {xs:List α}
theorem xM {a b c n:Nat} (h:a<=b+c*1) (h2:b+c<n):a<n:=lt_of_le_of_lt (by rw [Nat.mul_one] at h; exact h) h2
theorem nW {k:Nat} (hf:cl.fuel≠0) (hk:k=m.length) (hit:ev P cl it ⟨m,C⟩=.ok y ⟨m,C⟩) (hi:bU C y=some (xs.map g)) (hl:xs.length<aD) (hc:aW C C y=true) (ht : ∀ x∈xs,cW P cl ifs ⟨m++[some (g x)],C⟩=.ok (.bool (p x)) ⟨m++[some (g x)],C⟩)
  (he : ∀ x∈xs,p x=true->ev P cl elt ⟨m++[some (g x)],C⟩=.ok (f x) ⟨m++[some (g x)],C⟩):ev P cl (.comp elt (.cons (.one k) it ifs .nil)) ⟨m,C⟩=.ok (.lst ((xs.filter p).map f)) ⟨m,C⟩:=by
 subst hk
 obtain ⟨C',e,rfl⟩:=pU (G:=(· = ·)) (t:=.one m.length) (g:=g) (bd:=λx=>[some (g x)]) (F:=λx=>if p x then [f x] else []) (tests:=λae=>cW P cl ifs ae) (inner:=λacc ae=>d9 P cl (λaG=>ev P cl elt aG) .nil acc ae) (bc:=λA B=>aW A B y) (m:=m) (C:=C) (L:=1) (xs:=xs) (acc:=[])
  (λ_=>rfl) (λ_ _ _=>Eq.trans) (λA B h1 h2=>by rw [<-h2,<-h1]; exact hc) rfl (λ_ _ _=>vi) (λx _=>ER (p x)) (λx hx bk C2 hG eI=>by
   subst hG
   exact uG (ht x hx) rfl λhp=>⟨_,sq (he x hx hp) (xM eI (by rw [length_nil,zero_add]; exact hl)),rfl⟩)
 have:=si hf hit hi e
 rw [this,vX]; rfl
theorem AY {k:Nat} (hf:cl.fuel≠0) (hk:k=m.length) (hit:ev P cl it ⟨m,C⟩=.ok y ⟨m,C⟩) (hi:bU C y=some (xs.map g)) (hl:xs.length<aD) (hc : ∀ A B,C <+: A->A <+: B->aW A B y=true)
  (he : ∀ x∈xs,∀ C2,C <+: C2->∃ C3,ev P cl elt ⟨m++[some (g x)],C2⟩=.ok (f x) ⟨m++[some (g x)],C3⟩/\C2 <+: C3) : ∃ C',ev P cl (.comp elt (.cons (.one k) it .nil .nil)) ⟨m,C⟩=.ok (.lst (xs.map f)) ⟨m,C'⟩/\C <+: C':=by
 subst hk
 obtain ⟨C',e,hp⟩:=pU (G:=(· <+: ·)) (t:=.one m.length) (g:=g) (bd:=λx=>[some (g x)]) (F:=λx=>[f x]) (tests:=λae=>cW P cl .nil ae) (inner:=λacc ae=>d9 P cl (λaG=>ev P cl elt aG) .nil acc ae) (bc:=λA B=>aW A B y) (m:=m) (C:=C) (L:=1) (xs:=xs) (acc:=[])
  (λA=>prefix_refl A) (λ_ _ _=>List.IsPrefix.trans) hc (prefix_refl C) (λ_ _ _=>vi) (λx _=>le_refl 1) (λx hx bk C2 hG eI=>by
   obtain ⟨C3,e3,h3⟩:=he x hx C2 hG
   exact uG (b:=true) rfl (prefix_refl C2) λ_=>⟨C3,sq e3 (xM eI (by rw [length_nil,zero_add]; exact hl)),h3⟩)
 refine ⟨C',?_,hp⟩
 have:=si hf hit hi e
 rw [this,Cf]; rfl
end
theorem vB {α β:Type} {P:aR} {cl:Calls} {elt it mQ:E} {ifs:Es} {y:D} {y2:α->D} {t t2:T} {g:α->D} {g2:β->D} {bd:α->List (Option D)} {jU:β->List (Option D)} {ys:α->List β} {p:α->β->Bool} {f:α->β->D} {m:List (Option D)} {C:af} {xs:List α} {L:Nat}
  (hf:cl.fuel≠0) (hit:ev P cl it ⟨m,C⟩=.ok y ⟨m,C⟩) (hi:bU C y=some (xs.map g)) (hc:aW C C y=true) (hb : ∀ x∈xs,∀ C2,fF t (g x) ⟨m++replicate t.width none,C2⟩=.ok () ⟨m++bd x,C2⟩)
  (Lu : ∀ x∈xs,ev P cl mQ ⟨m++bd x,C⟩=.ok (y2 x) ⟨m++bd x,C⟩) (mD : ∀ x∈xs,bU C (y2 x)=some ((ys x).map g2)) (iU : ∀ x∈xs,aW C C (y2 x)=true) (lp : ∀ x∈xs,∀ z∈ys x,∀ C2,fF t2 (g2 z) ⟨(m++bd x)++replicate t2.width none,C2⟩=.ok () ⟨(m++bd x)++jU z,C2⟩)
  (hL : ∀ x∈xs,(ys x).length<=L) (hl:xs.length*L+L<aD)
  (ht : ∀ x∈xs,∀ z∈ys x,cW P cl ifs ⟨(m++bd x)++jU z,C⟩=.ok (.bool (p x z)) ⟨(m++bd x)++jU z,C⟩) (he : ∀ x∈xs,∀ z∈ys x,p x z=true->ev P cl elt ⟨(m++bd x)++jU z,C⟩=.ok (f x z) ⟨(m++bd x)++jU z,C⟩) :
  ev P cl (.comp elt (.cons t it .nil (.cons t2 mQ ifs .nil))) ⟨m,C⟩=.ok (.lst (xs.flatMap λx=>((ys x).filter (p x)).map (f x))) ⟨m,C⟩:=by
 have Ku : ∀ x∈xs,(((ys x).filter (p x)).map (f x)).length<=L:=λx hx=>by rw [length_map]; exact le_trans (length_filter_le _ _) (hL x hx)
 obtain ⟨C',e,rfl⟩:=pU (G:=(· = ·)) (t:=t) (g:=g) (bd:=bd) (F:=λx=>((ys x).filter (p x)).map (f x)) (tests:=λae=>cW P cl .nil ae) (inner:=λacc ae=>d9 P cl (λaG=>ev P cl elt aG) (.cons t2 mQ ifs .nil) acc ae) (bc:=λA B=>aW A B y) (m:=m) (C:=C) (L:=L) (xs:=xs) (acc:=[])
  (λ_=>rfl) (λ_ _ _=>Eq.trans) (λA B h1 h2=>by rw [<-h2,<-h1]; exact hc) rfl hb Ku (λx hx bk C2 hG eI=>by
   subst hG
   refine uG (b:=true) rfl rfl λ_=>?_
   obtain ⟨C3,e3,rfl⟩:=pU (G:=(· = ·)) (t:=t2) (g:=g2) (bd:=jU) (F:=λz=>if p x z then [f x z] else []) (tests:=λae=>cW P cl ifs ae) (inner:=λacc ae=>d9 P cl (λaG=>ev P cl elt aG) .nil acc ae) (bc:=λA B=>aW A B (y2 x)) (m:=m++bd x) (C:=C) (L:=1) (xs:=ys x) (acc:=bk)
    (λ_=>rfl) (λ_ _ _=>Eq.trans) (λA B h1 h2=>by rw [<-h2,<-h1]; exact iU x hx) rfl (lp x hx) (λz _=>ER (p x z)) (λz hz SP C3 wj dj=>by
     subst wj
     exact uG (ht x hx z hz) rfl λhp=>⟨_,sq (he x hx z hz hp) (xM dj (lt_of_le_of_lt (add_le_add (by rw [length_nil,zero_add] at eI; exact eI) (hL x hx)) hl)),rfl⟩)
   refine ⟨C,?_,rfl⟩
   rw [vX] at e3
   show (ev P cl mQ ⟨m++bd x,C⟩).bind (λy aa=>match bU aa.C y with
    |some items=>dD t2 (cw (λae=>cW P cl ifs ae) (λacc ae=>d9 P cl (λaG=>ev P cl elt aG) .nil acc ae)) (λC C'=>aW C C' y) items bk aa
    |none=>.fail)=_
   rw [Lu x hx]
   show (match bU C (y2 x) with
    |some items=>dD t2 (cw (λae=>cW P cl ifs ae) (λacc ae=>d9 P cl (λaG=>ev P cl elt aG) .nil acc ae)) (λC C'=>aW C C' (y2 x)) items bk ⟨m++bd x,C⟩
    |none=>.fail)=_
   rw [mD x hx]
   exact e3)
 exact si hf hit hi e
end Mine.Lake
end
section
open PySem PyProof.Rows
namespace Mine.Lake
noncomputable abbrev dN (n:Nat):D:=.int (n:Int)
noncomputable def nz (l:List Nat):List Int:=l.map λn:Nat=>(n:Int)
section
variable {C:af}
theorem ji {a b:Nat}:d6 C .add (dN a) (dN b)=some (dN (a+b)):=rfl
theorem ue {a b:Nat} (ha:a<2 ^ 64) (hb:b<2 ^ 64):d6 C .mul (dN a) (dN b)=some (dN (a*b)):=by
 show ((if small (a:Int)&&small (b:Int) then some ((a:Int)*b) else none).map D.int)=_
 rw [if_pos (by unfold small; rw [natAbs_natCast,natAbs_natCast,decide_eq_true ha,decide_eq_true hb]; rfl)]; rfl
theorem EV {a b:Nat} (h:b<=a):d6 C .sub (dN a) (dN b)=some (dN (a - b)):=congrArg (λx=>some (D.int x)) (Int.ofNat_sub h).symm
theorem lM {a b:Nat} (hb:0<b):d6 C .mod (dN a) (dN b)=some (dN (a % b)):=by
 show ((if ((b:Int) != 0)=true then some ((a:Int).fmod b) else none).map D.int)=_
 rw [if_pos (by rw [bne_iff_ne]; exact λe=>ne_of_gt hb (ofNat.inj e)),Int.fmod_eq_emod_of_nonneg _ (natCast_nonneg b)]; rfl
theorem ud {a b:Nat} (hb:0<b) (hs:b<2 ^ 64):d6 C .fdiv (dN a) (dN b)=some (dN (a / b)):=by
 show ((if (small (b:Int)&&((b:Int) != 0))=true then some ((a:Int).fdiv b) else none).map D.int)=_
 rw [if_pos (by rw [and_eq_true,bne_iff_ne]; exact ⟨by unfold small; rw [natAbs_natCast]; exact decide_eq_true hs,λe=>ne_of_gt hb (ofNat.inj e)⟩),Int.fdiv_eq_ediv_of_nonneg _ (natCast_nonneg b)]; rfl
theorem uf {a b:Nat} (ha:a<2 ^ 64) (hb:b<=1000):d6 C .pow (dN a) (dN b)=some (dN (a ^ b)):=by
 show ((if (small (a:Int)&&decide (0<=(b:Int))&&decide ((b:Int)<=1000))=true then some ((a:Int) ^ (b:Int).toNat) else none).map D.int)=_
 rw [if_pos (by rw [decide_eq_true (natCast_nonneg b),decide_eq_true (show (b:Int)<=1000 from ofNat_le.mpr hb)]; unfold small; rw [natAbs_natCast,decide_eq_true ha]; rfl),toNat_natCast,<-Int.natCast_pow]; rfl
theorem OJ {a b:Nat}:d6 C .and (dN a) (dN b)=some (dN (a &&& b)):=congrArg (λx=>some (D.int x)) ((bitAnd_pp (natCast_nonneg a) (natCast_nonneg b)).trans (by rw [toNat_natCast,toNat_natCast]))
theorem EW : ∀ a<64,∀ b<64,a+b - (a &&& b)=(a ||| b)/\(a &&& b)<=a:=by decide +kernel
theorem OK {a b:Nat} (ha:a<64) (hb:b<64):d6 C .or (dN a) (dN b)=some (dN (a ||| b)):=by
 obtain ⟨h1,h2⟩:=EW a ha b hb
 refine congrArg (λx=>some (D.int x)) ((bitOr_and _ _).trans ?_)
 rw [bitAnd_pp (natCast_nonneg a) (natCast_nonneg b),toNat_natCast,toNat_natCast,<-h1,Int.ofNat_sub (le_trans h2 (le_add_right _ _))]; rfl
theorem AN {a b:Nat}:eX C .eq (dN a) (dN b)=some (decide (a=b)):=by
 show some ((a:Int)==(b:Int))=_
 refine congrArg some ?_
 rw [Bool.eq_iff_iff,beq_iff_eq,decide_eq_true_eq]; exact ⟨ofNat.inj,congrArg _⟩
theorem Ij {a b:Nat}:eX C .ne (dN a) (dN b)=some (!decide (a=b)):=by
 show (eX C .eq (dN a) (dN b)).map _=_
 rw [AN]; rfl
theorem Ii {a b:Nat}:eX C .lt (dN a) (dN b)=some (decide (a<b)):=congrArg some (decide_eq_decide.mpr ofNat_lt)
theorem Ih {a b:Nat}:eX C .ge (dN a) (dN b)=some (decide (b<=a)):=congrArg some (decide_eq_decide.mpr ofNat_le)
theorem OC {l:List Nat} {k:Nat}:(nz l)[k]?=(l[k]?).map λn:Nat=>(n:Int):=getElem?_map
theorem gO {l:List Nat} {k n:Nat} (hk:k<1000) (h:l[k]?=some n):gM ((nz l).map .int) (k:Int)=some (dN n):=oD hk (by rw [getElem?_map,OC,h]; rfl)
theorem xI {l:List Nat} {k:Nat}:(nz l).contains (k:Int)=decide (k∈l):=by
 rw [Bool.eq_iff_iff,contains_iff_mem,decide_eq_true_eq]
 unfold nz
 rw [mem_map]
 exact ⟨λ⟨a,h,e⟩=>ofNat.inj e ▸ h,λh=>⟨k,h,rfl⟩⟩
theorem DK {l:List Nat} {k:Nat}:gP (dN k) ((nz l).map .int)=some (decide (k∈l)):=by rw [DJ,xI]
theorem JH {l k:List Nat}:(nz l).filter (λx=>!(nz k).contains x)=nz (l.filter λx=>!decide (x∈k)):=by
 unfold nz
 rw [List.filter_map]
 refine congrArg _ (filter_congr λx _=>?_)
 exact congrArg (!·) xI
theorem OD {l k:List Nat} (h:nz l=nz k):l=k:=by
 induction l generalizing k with
 |nil=>induction k using List.casesOn with|nil=>rfl|cons a k=>exact (nomatch h)
 |cons a l ih=>
  induction k using List.casesOn with
  |nil=>exact (nomatch h)
  |cons b k=>
   obtain ⟨h1,h2⟩:=List.cons.inj h
   rw [ofNat.inj h1,ih h2]
theorem jf {l:List Nat}:(nz l).length=l.length:=length_map _
theorem t9 {l k:List Nat}:nz (l++k)=nz l++nz k:=map_append
end
noncomputable def mP (x:D) (k:Nat) (x3 x4 x5:Option D) (R:List (Option D)):List (Option D):=some x::some (.loc 0)::some (dN k)::x3::x4::x5::R
section
variable {P:aR} {cl:Calls} {x:D} {x4 x5:Option D} {R:List (Option D)} {q:Nat}
theorem qH {k:Nat} {x3 x4 x5:Option D}:6<=(mP x k x3 x4 x5 R).length:=le_add_left 6 R.length
theorem HH {k:Nat} {x3 x4 x5:Option D} {d:D}:fY (.one 3) d (mP x k x3 x4 x5 R)=some (mP x k (some d) x4 x5 R):=by
 show (if 3<(mP x k x3 x4 x5 R).length then some _ else none)=_
 exact if_pos (lt_of_lt_of_le (by decide:3<6) qH)
theorem HI {k:Nat} {x3 x4 x5:Option D} {d:D}:fY (.one 5) d (mP x k x3 x4 x5 R)=some (mP x k x3 x4 (some d) R):=by
 show (if 5<(mP x k x3 x4 x5 R).length then some _ else none)=_
 exact if_pos (lt_of_lt_of_le (by decide:5<6) qH)
noncomputable def EK (q:Nat):Ss:=(.cons (.kP (.var 1) (.bin .mod (.var 2) (.cst (dN q))) (.bin .mod (.bin .add (.idx (.var 1) (.bin .mod (.var 2) (.cst (dN q)))) (.var 3)) (.cst (.int 256)))) (.cons (.aN 2 false (.bin .add (.var 2) (.cst (.int 1)))) .nil))
theorem OF (hq:0<q) (ti:q<1000) {os:List Nat} (hl:os.length=q) (ho : ∀ o∈os,o<256) {k:Nat} {n:Int} : ∃ kx,av P cl (EK q) ⟨mP x k (some (.int n)) x4 x5 R,[.list ((nz os).map .int)]⟩=.ok .next ⟨mP x (k+1) (some (.int n)) x4 x5 R,[.list ((nz kx).map .int)]⟩/\kx.length=q/\∀ o∈kx,o<256:=by
 have hk:k % q<q:=mod_lt _ hq
 refine cps λQQ kQ=>?_
 obtain ⟨o,h1⟩ : ∃ o,os[k % q]?=some o:=⟨os[k % q]'(by rw [hl]; exact hk),getElem?_eq_getElem _⟩
 obtain ⟨o',e,h2⟩ : ∃ o':Nat,((o:Int)+n) % 256=(o':Int)/\o'<256:=⟨(((o:Int)+n) % 256).toNat,(Int.toNat_of_nonneg (Int.emod_nonneg _ (by decide))).symm,by
  have:=Int.emod_lt_of_pos ((o:Int)+n) (show (0:Int)<256 by decide)
  rw [<-Int.toNat_of_nonneg (Int.emod_nonneg ((o:Int)+n) (show (256:Int)≠0 by decide))] at this
  exact ofNat_lt.mp this⟩
 have em:ev P cl (.bin .mod (.var 2) (.cst (dN q))) ⟨mP x k (some (.int n)) x4 x5 R,[.list ((nz os).map .int)]⟩=.ok (dN (k % q)) ⟨mP x k (some (.int n)) x4 x5 R,[.list ((nz os).map .int)]⟩:=bh (x:=dN k) (y:=dN q) (ak rfl) rfl (lM hq)
 have Jj:ev P cl (.bin .mod (.bin .add (.idx (.var 1) (.bin .mod (.var 2) (.cst (dN q)))) (.var 3)) (.cst (.int 256))) ⟨mP x k (some (.int n)) x4 x5 R,[.list ((nz os).map .int)]⟩=.ok (dN o') ⟨mP x k (some (.int n)) x4 x5 R,[.list ((nz os).map .int)]⟩:=by
  refine bh (x:=.int ((o:Int)+n)) (y:=.int 256) (bh (x:=dN o) (y:=.int n) (cN (x:=.loc 0) (y:=dN (k % q)) (ak rfl) em ((mJ rfl).trans (gO (lt_trans hk ti) h1))) (ak rfl) rfl) rfl ?_
  show some (D.int (((o:Int)+n).fmod 256))=_
  rw [Int.fmod_eq_emod_of_nonneg _ (by decide),e]
 refine kQ ⟨os.set (k % q) o',aP (BX Jj (ak (d:=.loc 0) rfl) em (C':=[.list ((nz (os.set (k % q) o')).map .int)]) ?_) (cu (bx (m:=mP x k (some (.int n)) x4 x5 R) (bh (x:=dN k) (y:=dN 1) (ak rfl) rfl ji) (lt_of_lt_of_le (by decide:_<6) qH))),by rw [length_set]; exact hl,λa ha=>?_⟩
 ·show (if 0<=((k % q:Nat):Int)/\((k % q:Nat):Int)<((nz os).map D.int).length then some ([Ch.list ((nz os).map .int)].set 0 (.list (((nz os).map D.int).set ((k % q:Nat):Int).toNat (dN o')))) else none)=_
  rw [if_pos ⟨natCast_nonneg _,by rw [length_map,jf,hl]; exact ofNat_lt.mpr hk⟩,toNat_natCast]
  unfold nz
  rw [map_set,map_set]; rfl
 ·rcases List.mem_or_eq_of_mem_set ha with h|h
  ·exact ho a h
  ·exact h ▸ h2
theorem EL (hq:0<q) (ti:q<1000) {y:D} (hy : ∀ A B,aW A B y=true) : ∀ (ns:List Int) {os:List Nat} {k:Nat} {x3:Option D},os.length=q->(∀ o∈os,o<256)->∃ kx k' SG,forLoop (λA B=>aW A B y) (.one 3) (λst=>av P cl (EK q) st) (ns.map .int) ⟨mP x k x3 x4 x5 R,[.list ((nz os).map .int)]⟩ =
  .ok .next ⟨mP x k' SG x4 x5 R,[.list ((nz kx).map .int)]⟩/\kx.length=q/\∀ o∈kx,o<256
 |[],os,k,x3,hl,ho=>⟨os,k,x3,rfl,hl,ho⟩
 |n::ns,os,k,x3,hl,ho=>by
  obtain ⟨Tp,e1,h1,h2⟩:=OF (P:=P) (cl:=cl) (x:=x) (x4:=x4) (x5:=x5) (R:=R) hq ti hl ho (k:=k) (n:=n)
  obtain ⟨ON,k2,x2,e2,h3,h4⟩:=EL hq ti hy ns (k:=k+1) (x3:=some (.int n)) h1 h2
  exact ⟨ON,k2,x2,(eE (m1:=mP x k (some (.int n)) x4 x5 R) HH e1 (hy _ _)).trans e2,h3,h4⟩
noncomputable def kH (os:List Nat) (w:Nat):Nat:=os.foldl (λw o=>w*256+o) w
theorem GF {all:List D} (h0:all=all) : ∀ (os:List Nat) {w:Nat} {k:Nat} {x3 x5:Option D} {i:Nat} {C:af},(∀ o∈os,o<256)->w<2 ^ (8*i)->i+os.length<=6->aW C C (.loc 0)=true->∃ yV,forLoop (λA B=>aW A B (.loc 0)) (.one 5) (λst=>av P cl (.cons (.aN 4 false (.bin .add (.bin .mul (.var 4) (.cst (.int 256))) (.var 5))) .nil) st) ((nz os).map .int) ⟨mP x k x3 (some (dN w)) x5 R,C⟩ =
  .ok .next ⟨mP x k x3 (some (dN (kH os w))) yV R,C⟩
 |[],w,k,x3,x5,i,C,_,_,_,_=>⟨x5,rfl⟩
 |o::os,w,k,x3,x5,i,C,ho,hw,hi,hC=>by
  have gH:=ho o (.head _)
  have sV:i+1+os.length<=6:=by rw [add_assoc,add_comm 1]; exact hi
  have Mu:w*256+o<2 ^ (8*(i+1)):=by
   show w*256+o<2 ^ (8*i+8)
   rw [Nat.pow_add]
   exact lt_of_lt_of_le (add_lt_add_left gH _) (le_trans (le_of_eq (succ_mul w 256).symm) (mul_le_mul_right 256 hw))
  have Mv:w<2 ^ 64:=lt_of_lt_of_le hw (Nat.pow_le_pow_right (by decide) (le_trans (Nat.mul_le_mul_left 8 (le_trans (le_add_right _ _) hi)) (by decide)))
  obtain ⟨yV,e⟩:=GF h0 os (k:=k) (x3:=x3) (x5:=some (dN o)) (λa ha=>ho a (.tail _ ha)) Mu sV hC
  exact ⟨yV,(eE (m1:=mP x k x3 (some (dN w)) (some (dN o)) R) HI (cu (bx (m:=mP x k x3 (some (dN w)) (some (dN o)) R) (bh (bh (x:=dN w) (y:=dN 256) (ak rfl) rfl (ue Mv (by decide))) (y:=dN o) (ak rfl) ji) (lt_of_lt_of_le (by decide:_<6) qH))) hC).trans e⟩
end
theorem sf {a n b:Nat} (h:b<n):(a*n+b) / n=a:=by
 rw [add_comm,add_mul_div_right _ _ (lt_of_le_of_lt (zero_le _) h),Nat.div_eq_of_lt h,zero_add]
theorem xG {a n b:Nat} (h:b<n):(a*n+b) % n=b:=(mul_add_mod' a n b).trans (mod_eq_of_lt h)
theorem mV {u c n m:Nat} (hu:u<m) (hc:c<n):u*n+c<m*n:=
 lt_of_lt_of_le (add_lt_add_left hc _) (le_trans (le_of_eq (succ_mul u n).symm) (mul_le_mul_right n hu))
theorem vJ {a b c:Nat} {r:List Nat}:bQ (a::b::c::r)=aK (a / 4)::aK (a % 4*16+b / 16)::aK (b % 16*4+c / 64)::aK (c % 64)::bQ r:=by
 unfold bQ
 rw [show (a::b::c::r).length % 3=r.length % 3 from DX _]
 rfl
theorem mh {n p q y:Nat} (hq:q<n):(p*n+q) / (n*y)=p / y:=by rw [<-Nat.div_div_eq_div_mul,sf hq]
theorem se {n p q y z:Nat} (h:n=y*(64*z)) (hy:0<y):(p*n+q) / y % 64=q / y % 64:=by
 rw [h,Nat.mul_left_comm,mul_comm y,add_comm,mul_comm,Nat.add_mul_div_left _ _ hy,Nat.mul_left_comm,Nat.add_mul_mod_self_left]
section
variable {a b c:Nat} (ha:a<256) (hb:b<256) (hc:c<256)
include ha hb hc
theorem g1:((a*256+b)*256+c) / 262144 % 64=a / 4:=by
 rw [show 262144=256*(256*4) from rfl,mh hc,mh hb]; exact mod_eq_of_lt (div_lt_of_lt_mul ha)
theorem g2:((a*256+b)*256+c) / 4096 % 64=a % 4*16+b / 16:=by
 rw [show 4096=256*16 from rfl,mh hc,show a*256=(a*16)*16 from (mul_assoc a 16 16).symm,add_comm,add_mul_div_right _ _ (by decide),add_comm,show 64=16*4 from rfl]
 exact lo (div_lt_of_lt_mul hb)
theorem g3:((a*256+b)*256+c) / 64 % 64=b % 16*4+c / 64:=by
 rw [show (a*256+b)*256=((a*256+b)*4)*64 from (mul_assoc _ 4 64).symm,add_comm,add_mul_div_right _ _ (by decide),add_comm,show 64=4*16 from rfl,lo (div_lt_of_lt_mul (show c<(4*16)*4 from hc)),show a*256=(a*16)*16 from (mul_assoc a 16 16).symm,mul_add_mod']
theorem g4:((a*256+b)*256+c) / 1 % 64=c % 64:=by
 rw [div_one,show (a*256+b)*256=((a*256+b)*4)*64 from (mul_assoc _ 4 64).symm,mul_add_mod']
theorem OS:(a*256+b)*256+c<16777216:=mV (m:=65536) (mV (m:=256) ha hb) hc
end
noncomputable def j3 (w:Nat):List Nat:=(List.range 8).map λk=>w / 64 ^ (7 - k) % 64
theorem Jd {os:List Nat} (hl:os.length=6) (ho : ∀ o∈os,o<256):bQ os=(j3 (kH os 0)).map aK:=by
 obtain ⟨a,os,rfl⟩:=List.exists_cons_of_length_eq_add_one hl
 obtain ⟨b,os,rfl⟩:=List.exists_cons_of_length_eq_add_one (Nat.succ.inj hl)
 obtain ⟨c,os,rfl⟩:=List.exists_cons_of_length_eq_add_one (Nat.succ.inj (Nat.succ.inj hl))
 obtain ⟨d,os,rfl⟩:=List.exists_cons_of_length_eq_add_one (Nat.succ.inj (Nat.succ.inj (Nat.succ.inj hl)))
 obtain ⟨e,os,rfl⟩:=List.exists_cons_of_length_eq_add_one (Nat.succ.inj (Nat.succ.inj (Nat.succ.inj (Nat.succ.inj hl))))
 obtain ⟨f,os,rfl⟩:=List.exists_cons_of_length_eq_add_one (Nat.succ.inj (Nat.succ.inj (Nat.succ.inj (Nat.succ.inj (Nat.succ.inj hl)))))
 obtain rfl:=List.eq_nil_of_length_eq_zero (Nat.succ.inj (Nat.succ.inj (Nat.succ.inj (Nat.succ.inj (Nat.succ.inj (Nat.succ.inj hl))))))
 have ha:=ho a (.head _)
 have hb:=ho b (.tail _ (.head _))
 have hc:=ho c (.tail _ (.tail _ (.head _)))
 have hd:=ho d (.tail _ (.tail _ (.tail _ (.head _))))
 have he:=ho e (.tail _ (.tail _ (.tail _ (.tail _ (.head _)))))
 have hf:=ho f (.tail _ (.tail _ (.tail _ (.tail _ (.tail _ (.head _))))))
 obtain ⟨p,hp⟩ : ∃ p,p=(a*256+b)*256+c:=⟨_,rfl⟩
 obtain ⟨q,hq⟩ : ∃ q,q=(d*256+e)*256+f:=⟨_,rfl⟩
 have tj:q<16777216:=by rw [hq]; exact OS hd he hf
 have hw:kH [a,b,c,d,e,f] 0=p*16777216+q:=by
  show (((((0*256+a)*256+b)*256+c)*256+d)*256+e)*256+f=_
  rw [Nat.zero_mul,zero_add,<-hp,hq,show 16777216=256*256*256 from rfl,<-mul_assoc,<-mul_assoc,Nat.add_mul (p*256) d,add_assoc,Nat.add_mul (p*256*256),add_assoc]
 rw [vJ,vJ,hw]
 show _=[aK ((p*16777216+q) / (16777216*262144) % 64),aK ((p*16777216+q) / (16777216*4096) % 64),aK ((p*16777216+q) / (16777216*64) % 64),aK ((p*16777216+q) / (16777216*1) % 64),aK ((p*16777216+q) / 262144 % 64),aK ((p*16777216+q) / 4096 % 64),aK ((p*16777216+q) / 64 % 64),aK ((p*16777216+q) / 1 % 64)]
 rw [mh tj,mh tj,mh tj,mh tj,se (y:=262144) (z:=1) rfl (by decide),se (y:=4096) (z:=64) rfl (by decide),se (y:=64) (z:=4096) rfl (by decide),se (y:=1) (z:=262144) rfl (by decide),hp,hq,
  g1 ha hb hc,g2 ha hb hc,g3 ha hb hc,g4 ha hb hc,g1 hd he hf,g2 hd he hf,g3 hd he hf,g4 hd he hf]; rfl
theorem B9 {w:Nat} : ∀ f∈j3 w,f<64:=λf h=>by obtain ⟨k,_,rfl⟩:=mem_map.mp h; exact mod_lt _ (by decide)
theorem B8 {w:Nat}:(j3 w).length=8:=rfl
noncomputable def xE {α β:Type} (g:α->β) (l:List α):List β:=l.foldr (λs acc=>g s::acc) []
theorem xF {α β:Type} (g:α->β) : ∀ l:List α,xE g l=l.map g
 |[]=>rfl
 |a::l=>congrArg (g a :: ·) (xF g l)
noncomputable def bD:Fn:={cg:=[0],bM:=[],cp:=[],cq:=none,size:=1,body:=(.cons (.ifs (.cmp .lt (.var 0) (.cst (.int 26))) (.cons (.ret (.bin .add (.cst (.int 65)) (.var 0))) .nil) .nil) (.cons (.ifs (.cmp .lt (.var 0) (.cst (.int 52))) (.cons (.ret (.bin .add (.cst (.int 71)) (.var 0))) .nil) .nil)
 (.cons (.ifs (.cmp .lt (.var 0) (.cst (.int 62))) (.cons (.ret (.bin .sub (.var 0) (.cst (.int 4)))) .nil) .nil) (.cons (.ifs (.cmp .eq (.var 0) (.cst (.int 62))) (.cons (.ret (.cst (.int 43))) .nil) .nil) (.cons (.ret (.cst (.int 47))) .nil)))))}
noncomputable def bK:Fn:={cg:=[0],bM:=[],cp:=[],cq:=none,size:=1,body:=(.cons (.ret (.comp (.var 1) (.cons (.one 1) (.call (.cst (.bn .range)) (.cons (.cst (.int 6)) .nil) .nil) (.cons (.cmp .eq (.bin .mod (.bin .fdiv (.var 0) (.bin .pow (.cst (.int 2)) (.var 1))) (.cst (.int 2))) (.cst (.int 1))) .nil) .nil))) .nil)}
noncomputable def et (k:Nat):List Nat:=(List.range 6).filter λq=>k.testBit q
noncomputable def ES (k:Nat):List Nat:=(List.range 6).filter λq=>k / 2 ^ q % 2==1
theorem OI (k:Nat):ES k=et k:=filter_congr λq _=>by rw [Nat.testBit_eq_decide_div_mod_eq]; rfl
theorem R7:((List.range 64).map λk=>λ(r:List Fn) (fuel n:Nat) (C:af)=>aA (PP (bD::r)) fuel (n+1) 17 [dN k] [] C)=xE (λk=>λ(r:List Fn) (fuel n:Nat) (C:af)=>.ok (.int (aK k)) ⟨[some (dN k)],C⟩) (List.range 64):=by kernel_rfl
theorem R6:((List.range 64).map λk=>λ(r0:Fn) (r:List Fn) (n:Nat) (C:af)=>aA (PP (r0::bK::r)) 10000 (n+1) 18 [dN k] [] C)=xE (λk=>λ(r0:Fn) (r:List Fn) (n:Nat) (C:af)=>.ok (.lst ((nz (ES k)).map .int)) ⟨[some (dN k)],C⟩) (List.range 64):=by kernel_rfl
theorem QF {k:Nat} (h:k<64) (r:List Fn) (fuel n:Nat) (C:af):aA (PP (bD::r)) fuel (n+1) 17 [dN k] [] C=.ok (.int (aK k)) ⟨[some (dN k)],C⟩:=
 congrFun (congrFun (congrFun (congrFun (List.map_inj_left.mp (R7.trans (xF _ _)) k (mem_range.mpr h)) r) fuel) n) C
theorem OH {k:Nat} (h:k<64) (r0:Fn) (r:List Fn) (n:Nat) (C:af):aA (PP (r0::bK::r)) 10000 (n+1) 18 [dN k] [] C=.ok (.lst ((nz (et k)).map .int)) ⟨[some (dN k)],C⟩:=by
 rw [<-OI]
 exact congrFun (congrFun (congrFun (congrFun (List.map_inj_left.mp (R6.trans (xF _ _)) k (mem_range.mpr h)) r0) r) n) C
theorem QG : ∀ a<64,∀ b<64,aK a=aK b->a=b:=by decide +kernel
section
variable {r:List Fn} {fuel n:Nat} {m:List (Option D)} {C:af} {cl:Calls} {v w:Nat} {fs:List Nat}
theorem QH (au:cl=⟨aA (PP (bD::r)) fuel (n+1),fuel⟩) (hf:fuel≠0) (hv:v=m.length) (hw:m[w]?=some (some (.lst ((nz fs).map .int)))) (bH : ∀ f∈fs,f<64) (hl:fs.length<1000) :
  ev (PP (bD::r)) cl (.comp (.call (.cst (.fn 17)) (.cons (.var v) .nil) .nil) (.cons (.one v) (.var w) .nil .nil)) ⟨m,C⟩=.ok (.lst ((fs.map aK).map .int)) ⟨m,C⟩:=by
 subst au hv
 have:=nW (P:=PP (bD::r)) (cl:=⟨aA (PP (bD::r)) fuel (n+1),fuel⟩) (elt:=.call (.cst (.fn 17)) (.cons (.var m.length) .nil) .nil) (ifs:=.nil) (it:=.var w) (k:=m.length) (m:=m) (C:=C) (xs:=fs) (g:=dN) (f:=λk=>.int (aK k)) (p:=λ_=>true) hf rfl (ak hw) (by show some ((nz fs).map D.int)=_; unfold nz; rw [map_map]; rfl) (lt_trans hl (by decide)) rfl (λ_ _=>rfl)
  (λk hk _=>iP (k:=17) (aa:=⟨[some (dN k)],C⟩) rfl (bZ (ak zK)) (QF (bH k hk) r fuel n C))
 rw [this,filter_eq_self.mpr (λ_ _=>rfl),map_map]; rfl
end
section
variable {P:aR} {cl:Calls} {st aa ae:St} {m:List (Option D)} {C:af}
theorem sh {a b:E} {x:D} {o:aj D} (ha:ev P cl a st=.ok x aa) (h:bI aa.C x=some true) (k:ev P cl b aa=o):ev P cl (.and a b) st=o:=by
 refine (aQ ha).trans ?_; rw [h]; exact k
theorem BD {a b:E} {x:D} (ha:ev P cl a st=.ok x aa) (h:bI aa.C x=some false):ev P cl (.and a b) st=.ok x aa:=by
 refine (aQ ha).trans ?_; rw [h]
theorem dY {C C':af} {i:Nat} {c:Ch} (h:C <+: C') (hc:C[i]?=some c):C'[i]?=some c:=by obtain ⟨E,rfl⟩:=h; exact fW hc
theorem BH {e:E} {d:D} {n:Nat} (hf:cl.fuel≠0) (he:ev P cl e st=.ok d st) (hn:tN st.C d=some (n:Int)):ev P cl (.call (.cst (.bn .len)) (.cons e .nil) .nil) st=.ok (dN n) st:=
 df (g:=.bn .len) rfl (bZ he) ((dJ hf).trans (by show aI (tN st.C d) _=_; rw [hn]; rfl))
end
section
variable {r:List Fn} {n:Nat} {m:List (Option D)} {C C1:af} {cl:Calls} {e1 e2:E} {xs ys:List Nat}
theorem sj {a sk:D} (au:cl=⟨aA (PP r) 10000 (n+2),10000⟩) (h1:ev (PP r) cl e1 ⟨m,C⟩=.ok a ⟨m,C⟩) (h2:ev (PP r) cl e2 ⟨m,C⟩=.ok sk ⟨m,C1⟩) (ha:bW C1 a=some ((nz xs).map .int)) (hs:aU C1 sk=some ((nz ys).map .int)) (hl:xs.length<1000) :
  ev (PP r) cl (.call (.cst (.fn 7)) (.cons e1 (.cons e2 .nil)) .nil) ⟨m,C⟩=.ok (.lst ((nz (xs.filter λx=>!decide (x∈ys))).map .int)) ⟨m,MF C1 sk .none 0⟩:=by
 subst au
 obtain ⟨m',e⟩:=Ca (r:=r) (fuel:=10000) (n:=n) (C:=C1) (a:=a) (sk:=sk) (xs:=nz xs) (ys:=nz ys) (succ_ne_zero _) ha hs (by rw [jf]; exact lt_trans hl (by decide)) (by rw [jf]; exact le_of_lt (lt_trans hl (by decide)))
 rw [JH] at e
 exact iP (k:=7) (aa:=⟨m',MF C1 sk .none 0⟩) rfl (iQ h1 h2) e
theorem hW {sk:D}:C <+: MF C sk .none 0:=prefix_append _ _
end
noncomputable def dc (l:List Int):Nat:=(ct l).length
theorem Bi {x:Int} : ∀ {l s:List Int},x∈l.foldl (λs x=>if s.contains x then s else s++[x]) s↔x∈s\/x∈l
 |[],s=>⟨.inl,λh=>h.resolve_right λz=>(nomatch z)⟩
 |a::l,s=>by
  rw [foldl_cons,Bi,mem_cons]
  by_cases h:a∈s
  ·rw [if_pos (contains_iff_mem.mpr h)]
   exact ⟨λz=>z.elim .inl λy=>.inr (.inr y),λz=>z.elim .inl λy=>y.elim (λe=>.inl (e ▸ h)) .inr⟩
  ·rw [if_neg λz=>h (contains_iff_mem.mp z),mem_append,mem_singleton,or_assoc]
theorem Bj : ∀ {l s:List Int},s.Nodup->(l.foldl (λs x=>if s.contains x then s else s++[x]) s).Nodup
 |[],s,h=>h
 |a::l,s,h=>by
  rw [foldl_cons]
  refine Bj ?_
  by_cases z:a∈s
  ·rw [if_pos (contains_iff_mem.mpr z)]; exact h
  ·rw [if_neg λy=>z (contains_iff_mem.mp y),nodup_append]
   exact ⟨h,nodup_cons.mpr ⟨not_mem_nil,nodup_nil⟩,λb hb c hc e=>z (by rw [<-mem_singleton.mp hc,<-e]; exact hb)⟩
theorem xH {l:List Int} {x:Int}:x∈ct l↔x∈l:=Bi.trans ⟨λh=>h.resolve_left λz=>(nomatch z),.inr⟩
theorem ED {l:List Int}:(ct l).Nodup:=Bj nodup_nil
theorem IJ {α:Type} {f g:α->Int} {l:List α} (h : ∀ x∈l,∀ y∈l,(f x=f y↔g x=g y)):dc (l.map f)=dc (l.map g):=by
 have one : ∀ {f g:α->Int},(∀ x∈l,∀ y∈l,(f x=f y↔g x=g y))->dc (l.map f)<=dc (l.map g):=λ{f g} h=>by
  have ex : ∀ a,a∈ct (l.map f)->∃ x,x∈l/\f x=a:=λa ha=>mem_map.mp (xH.mp ha)
  have main : ∀ s:List Int,(∀ a∈s,a∈ct (l.map f))->s.Nodup->∃ t:List Int,t.length=s.length/\t.Nodup/\(∀ b∈t,∃ x,x∈l/\g x=b/\f x∈s):=λs=>by
   induction s with
   |nil=>exact λ_ _=>⟨[],rfl,nodup_nil,λb hb=>(nomatch hb)⟩
   |cons a s ih=>
    intro hs hn
    obtain ⟨h1,h2⟩:=nodup_cons.mp hn
    obtain ⟨t,t1,t2,t3⟩:=ih (λb hb=>hs b (.tail _ hb)) h2
    obtain ⟨x,hx,e⟩:=ex a (hs a (.head _))
    refine ⟨g x::t,congrArg Nat.succ t1,nodup_cons.mpr ⟨λz=>?_,t2⟩,λb hb=>?_⟩
    ·obtain ⟨y,hy,e2,hm⟩:=t3 _ z
     rw [(h y hy x hx).mpr e2,e] at hm
     exact h1 hm
    ·rcases mem_cons.mp hb with rfl|hb
     ·exact ⟨x,hx,rfl,by rw [e]; exact .head _⟩
     ·obtain ⟨y,hy,e2,hm⟩:=t3 b hb
      exact ⟨y,hy,e2,.tail _ hm⟩
  obtain ⟨t,t1,t2,t3⟩:=main (ct (l.map f)) (λ_ h=>h) ED
  show (ct (l.map f)).length<=(ct (l.map g)).length
  rw [<-t1]
  exact ek t2 λb hb=>by obtain ⟨x,hx,e,_⟩:=t3 b hb; exact xH.mpr (mem_map.mpr ⟨x,hx,e⟩)
 exact le_antisymm (one h) (one λx hx y hy=>(h x hx y hy).symm)
section
variable {P:aR} {cl:Calls} {m:List (Option D)} {C:af} {e:E}
theorem Jo {l:List Int} (hf:cl.fuel≠0) (he:ev P cl e ⟨m,C⟩=.ok (.lst (l.map .int)) ⟨m,C⟩) (hl:l.length<=64):ev P cl (.call (.cst (.bn .len)) (.cons (.call (.cst (.bn .set)) (.cons e .nil) .nil) .nil) .nil) ⟨m,C⟩=.ok (dN (dc l)) ⟨m,C++[.set (ct l)]⟩:=by
 have e1:ev P cl (.call (.cst (.bn .set)) (.cons e .nil) .nil) ⟨m,C⟩=.ok (.loc C.length) ⟨m,C++[.set (ct l)]⟩:=df (g:=.bn .set) rfl (bZ he) ((dJ hf).trans (by
  show aI ((aU C (.lst (l.map .int))).bind eh) _=_
  show aI (eh (l.map .int)) _=_
  rw [oG]
  show bo (decide (l.length<=64)) _=_
  rw [decide_eq_true hl]; rfl))
 refine df (g:=.bn .len) rfl (bZ e1) ((dJ hf).trans ?_)
 show aI ((_:Option Ch).bind tM) _=_
 rw [dA]; rfl
theorem BI {b:List UInt8} (hf:cl.fuel≠0) (he:ev P cl e ⟨m,C⟩=.ok (.bytes b) ⟨m,C⟩) (hl:b.length<=64):ev P cl (.call (.cst (.bn .len)) (.cons (.call (.cst (.bn .set)) (.cons e .nil) .nil) .nil) .nil) ⟨m,C⟩=.ok (dN (dc (b.map λc=>(c.toNat:Int)))) ⟨m,C++[.set (ct (b.map λc=>(c.toNat:Int)))]⟩:=by
 have e1:ev P cl (.call (.cst (.bn .set)) (.cons e .nil) .nil) ⟨m,C⟩=.ok (.loc C.length) ⟨m,C++[.set (ct (b.map λc=>(c.toNat:Int)))]⟩:=df (g:=.bn .set) rfl (bZ he) ((dJ hf).trans (by
  show bo (decide (b.length<=64)) _=_
  rw [decide_eq_true hl]; rfl))
 refine df (g:=.bn .len) rfl (bZ e1) ((dJ hf).trans ?_)
 show aI ((_:Option Ch).bind tM) _=_
 rw [dA]; rfl
end
theorem D9 : ∀ j<6,j=0\/j=1\/j=2\/j=3\/j=4\/j=5:=by decide
theorem cy {α:Type} {m E:List α} {i:Nat} {c:α} (h:m[i]?=some c):(m++E)[i]?=some c:=by rw [getElem?_append_left (List.getElem?_eq_some_iff.mp h).1,h]
theorem de {α:Type} {m R:List α} {d:α} {v:Nat} (h:v=m.length):(m++d::R)[v]?=some d:=h ▸ zK
theorem zL {α:Type} {m:List α} {c d:α} {R:List α} {v:Nat} (h:v=m.length):(m++c::d::R)[v+1]?=some d:=by
 rw [h,getElem?_append_right (le_add_right _ _),add_sub_cancel_left]; rfl
section
variable {P:aR} {cl:Calls} {m:List (Option D)} {C:af} {v:Nat}
noncomputable abbrev dK (n:Int):E:=.call (.cst (.bn .range)) (.cons (.cst (.int n)) .nil) .nil
theorem ml (hf:cl.fuel≠0) {st:St}:ev P cl (dK 6) st=.ok (.ck 0 6) st:=df (g:=.bn .range) (ds:=[.int 6]) rfl rfl ((dJ hf).trans rfl)
theorem AW {elt:E} {ifs:Es} {f:Nat->D} {p:Nat->Bool} (hf:cl.fuel≠0) (hv:v=m.length) (ht : ∀ j,j<6->cW P cl ifs ⟨m++[some (dN j)],C⟩=.ok (.bool (p j)) ⟨m++[some (dN j)],C⟩) (he : ∀ j,j<6->p j=true->ev P cl elt ⟨m++[some (dN j)],C⟩=.ok (f j) ⟨m++[some (dN j)],C⟩) :
  ev P cl (.comp elt (.cons (.one v) (dK 6) ifs .nil)) ⟨m,C⟩=.ok (.lst (((List.range 6).filter p).map f)) ⟨m,C⟩:=
 nW (xs:=List.range 6) (g:=dN) hf hv (ml hf) rfl (le_of_ble_eq_true rfl) rfl (λj h=>ht j (mem_range.mp h)) λj h=>he j (mem_range.mp h)
theorem Io {elt:E} {f:Nat->D} (hf:cl.fuel≠0) (hv:v=m.length) (he : ∀ j,j<6->∀ C2,C <+: C2->∃ C3,ev P cl elt ⟨m++[some (dN j)],C2⟩=.ok (f j) ⟨m++[some (dN j)],C3⟩/\C2 <+: C3) :
  ∃ C',ev P cl (.comp elt (.cons (.one v) (dK 6) .nil .nil)) ⟨m,C⟩=.ok (.lst ((List.range 6).map f)) ⟨m,C'⟩/\C <+: C':=
 AY (xs:=List.range 6) (g:=dN) hf hv (ml hf) rfl (le_of_ble_eq_true rfl) (λ_ _ _ _=>rfl) λj h=>he j (mem_range.mp h)
theorem Jq (hf:cl.fuel≠0) {st:St}:ev P cl (dK 8) st=.ok (.ck 0 8) st:=df (g:=.bn .range) (ds:=[.int 8]) rfl rfl ((dJ hf).trans rfl)
theorem JG (hf:cl.fuel≠0) (hv:v=m.length) {w:Nat} (h4:m[4]?=some (some (dN w))) :
  ev P cl (.comp (.bin .mod (.bin .fdiv (.var 4) (.bin .pow (.cst (.int 64)) (.bin .sub (.cst (.int 7)) (.var v)))) (.cst (.int 64))) (.cons (.one v) (dK 8) .nil .nil)) ⟨m,C⟩=.ok (.lst ((nz (j3 w)).map .int)) ⟨m,C⟩:=by
 have:=nW (P:=P) (cl:=cl) (elt:=.bin .mod (.bin .fdiv (.var 4) (.bin .pow (.cst (.int 64)) (.bin .sub (.cst (.int 7)) (.var v)))) (.cst (.int 64))) (ifs:=.nil) (it:=dK 8) (k:=v) (m:=m) (C:=C) (xs:=List.range 8) (g:=dN) (f:=λk=>dN (w / 64 ^ (7 - k) % 64)) (p:=λ_=>true) hf hv (Jq hf) rfl (le_of_ble_eq_true rfl) rfl (λ_ _=>rfl) λk hk _=>by
  have hk:=mem_range.mp hk
  have hp:0<64 ^ (7 - k):=pow_pos (by decide)
  have LY:64 ^ (7 - k)<2 ^ 64:=lt_of_le_of_lt (Nat.pow_le_pow_right (by decide) (sub_le 7 k)) (by decide)
  exact bh (x:=dN (w / 64 ^ (7 - k))) (y:=dN 64) (bh (x:=dN w) (y:=dN (64 ^ (7 - k))) (ak (cy h4)) (bh (x:=dN 64) (y:=dN (7 - k)) rfl (bh (x:=dN 7) (y:=dN k) rfl (ak (de hv)) (EV (le_of_lt_succ hk))) (uf (by decide) (le_trans (sub_le 7 k) (by decide)))) (ud hp LY)) rfl (lM (by decide))
 rw [this,filter_eq_self.mpr (λ_ _=>rfl)]
 unfold j3 nz
 rw [map_map,map_map]; rfl
theorem Jm {e p:E} {a b:Nat} (h1:ev P cl e ⟨m,C⟩=.ok (dN a) ⟨m,C⟩) (h2:ev P cl p ⟨m,C⟩=.ok (dN b) ⟨m,C⟩) (hb:b<60):ev P cl (.bin .mod (.bin .fdiv e (.bin .pow (.cst (.int 2)) p)) (.cst (.int 2))) ⟨m,C⟩=.ok (dN (a / 2 ^ b % 2)) ⟨m,C⟩:=
 bh (x:=dN (a / 2 ^ b)) (y:=dN 2) (bh (x:=dN a) (y:=dN (2 ^ b)) h1 (bh (x:=dN 2) (y:=dN b) rfl h2 (uf (by decide) (le_of_lt (lt_trans hb (by decide))))) (ud (pow_pos (by decide)) (Nat.pow_lt_pow_right (by decide) (lt_trans hb (by decide))))) rfl (lM (by decide))
theorem z8 {a b:Nat}:decide (a / 2 ^ b % 2=1)=a.testBit b:=by rw [Nat.testBit_eq_decide_div_mod_eq]
theorem z9 {a b:Nat}:decide (a / 2 ^ b % 2=0)=!a.testBit b:=by
 rw [<-z8,Bool.eq_iff_iff,decide_eq_true_eq,not_eq_true',decide_eq_false_iff_not]
 exact ⟨λh z=>(by rw [h] at z; exact absurd z (by decide)),λh=>(Nat.mod_two_eq_zero_or_one _).resolve_right h⟩
theorem Jn {e:E} {j:Nat} (hf:cl.fuel≠0) (hj:j<6) (he:ev P cl e ⟨m,C⟩=.ok (dN j) ⟨m,C⟩):ev P cl (.call (.cst (.bn .list)) (.cons (.call (.cst (.bn .range)) (.cons e (.cons (.cst (.int 6)) .nil)) .nil) .nil) .nil) ⟨m,C⟩=.ok (.lst ((nz (range' j (6 - j))).map .int)) ⟨m,C⟩:=by
 have hs : ∀ j:Nat,j<6->(small (j:Int)&&small 6)=true/\oW (j:Int) 6=true/\eN (j:Int) 6=(nz (range' j (6 - j))).map .int:=λj hj=>by
  rcases D9 j hj with rfl|rfl|rfl|rfl|rfl|rfl<;>exact ⟨by decide +kernel,by decide +kernel,rfl⟩
 obtain ⟨h1,h2,h3⟩:=hs j hj
 refine df (g:=.bn .list) rfl (bZ (d:=.ck j 6) (aa:=⟨m,C⟩) (df (g:=.bn .range) rfl (iQ he (d2:=.int 6) rfl) ((dJ hf).trans ?_))) ((dJ hf).trans ?_)
 ·show bo (small (j:Int)&&small 6) _=_
  rw [h1]; rfl
 ·show bo (oW (j:Int) 6) (.ok (.lst (eN (j:Int) 6)) _)=_
  rw [h2,h3]; rfl
end
section
variable {r0:Fn} {r:List Fn} {n:Nat} {m:List (Option D)} {C:af} {cl:Calls} {e:E}
theorem vM {k:Nat} (au:cl=⟨aA (PP (r0::bK::r)) 10000 (n+1),10000⟩) (h:ev (PP (r0::bK::r)) cl e ⟨m,C⟩=.ok (dN k) ⟨m,C⟩) (hk:k<64):ev (PP (r0::bK::r)) cl (.call (.cst (.fn 18)) (.cons e .nil) .nil) ⟨m,C⟩=.ok (.lst ((nz (et k)).map .int)) ⟨m,C⟩:=by
 subst au
 exact iP (k:=18) (aa:=⟨[some (dN k)],C⟩) rfl (bZ h) (OH hk r0 r n C)
theorem tY {k q:Nat}:q∈et k↔q<6/\k.testBit q=true:=by unfold et; rw [mem_filter,mem_range]
theorem ET {k:Nat}:(et k).length<=6:=length_filter_le _ _
end
theorem BQ {r:List Fn} {n:Nat} {m:List (Option D)} {C:af} {cl:Calls} {e:E} {a:D} {os:List Nat} (au:cl=⟨aA (PP r) 10000 (n+3),10000⟩) (he:ev (PP r) cl e ⟨m,C⟩=.ok a ⟨m,C⟩) (ha:aU C a=some ((nz os).map .int)) (ho : ∀ o∈os,o<256) (hl:os.length<1000) :
  ∃ ob C',ev (PP r) cl (.call (.cst (.fn 3)) (.cons (.call (.cst (.bn .bytes)) (.cons e .nil) .nil) .nil) .nil) ⟨m,C⟩=.ok (.bytes ob) ⟨m,C'⟩/\ob.map (λc:UInt8=>(c.toNat:Int))=bQ os/\C <+: C':=by
 refine cps λQQ kQ=>?_
 obtain ⟨tb,h1,h2⟩:=rW (xs:=nz os) λx hx=>by obtain ⟨o,h,rfl⟩:=mem_map.mp hx; exact ⟨natCast_nonneg _,ofNat_lt.mpr (ho o h)⟩
 have h3:tb.map (·.toNat)=os:=OD (by unfold nz; rw [map_map]; exact h2)
 have hf:cl.fuel≠0:=by rw [au]; exact succ_ne_zero _
 have Dz:tb.length=os.length:=by rw [<-h3,length_map]
 obtain ⟨ob,m',g,e1,e2⟩:=Hu (r:=r) (fuel:=10000) (n:=n) (C:=C) (tb:=tb) (by decide) (by rw [Dz]; exact le_trans (add_le_add_right (Nat.mul_le_mul_left 2 (le_of_lt hl)) 8) (by decide))
 rw [h3] at e1
 have e3:ev (PP r) cl (.call (.cst (.bn .bytes)) (.cons e .nil) .nil) ⟨m,C⟩=.ok (.bytes tb) ⟨m,C⟩:=df (g:=.bn .bytes) rfl (bZ he) (HS hf ha (oG _) h1 (by rw [Dz]; exact le_of_lt (lt_trans hl (by decide))))
 refine kQ ⟨ob,C++[g],?_,e1,prefix_append _ _⟩
 subst au
 exact iP (k:=3) (aa:=⟨m',C++[g]⟩) rfl (bZ e3) e2
end Mine.Lake
end
section
open PySem
namespace Mine.Lake
noncomputable def U6:List Int:=[0,1,2,3,4,5]
noncomputable def J6:List Int:=[5,4,3,2,1,0]
noncomputable def zt : ∀ x∈U6,small x=true:=by decide +kernel
theorem uT : ∀ x,x∈J6↔x∈U6:=λx=>mem_reverse (as:=U6)
theorem EC {sc:Int->List Int} {rk:Int->Int} (h : ∀ x j,j∈sc x->rk x<rk j) {u:Int} : ∀ {v:Int},kN sc u v->rk u<rk v
 |_,.one h1=>h _ _ h1
 |_,.more p h2=>Int.lt_trans (EC h p) (h _ _ h2)
structure nD (nd:Int->List Int) (U:List Int) (held:Int) (cj:List Int):Prop where
 fi : ∀ k∈cj,k∈U/\k≠held
 H9 : ∀ k∈cj,∀ q∈nd k,q∈cj
 rest : ∀ k∈U,k ∉ cj->k≠held->∃ q∈nd k,q ∉ cj
 iE:cj.Nodup
noncomputable abbrev kA (rows:List (List Int)):D:=.lst (rows.map λl=>.lst (l.map .int))
theorem MS {rows:List (List Int)} {k:Nat} {l:List Int} (h:rows[k]?=some l) (hk:k<1000) {C:af}:gg C (kA rows) (.int (k:Int))=some (.lst (l.map .int)):=by
 rw [iB]
 exact oD hk (by rw [getElem?_map,h]; rfl)
structure zo (rows:List (List Int)) (nd:Int->List Int) (rk:Int->Int):Prop where
 row : ∀ j∈U6,∀ C,gg C (kA rows) (.int j)=some (.lst ((nd j).map .int))
 iE : ∀ j∈U6,(nd j).Nodup
 fi : ∀ j∈U6,∀ q∈nd j,q∈U6
 down : ∀ j∈U6,∀ q∈nd j,rk q<rk j
theorem H0 {rows:List (List Int)} {nd:Int->List Int} {rk:Int->Int} (K:zo rows nd rk) {held:Int} (hh:held∈U6) {n:Nat} {C:af} :
  ∃ m' C' cj,aA P3 10000 (n+4) 20 [kA rows,.int held] [] C=.ok (.lst (cj.map .int)) ⟨m',C'⟩/\C <+: C'/\nD nd U6 held cj:=by
 refine cps λQ0 k0=>?_
 obtain ⟨cl,au⟩ : ∃ cl:Calls,cl=⟨aA P3 10000 (n+3),10000⟩:=⟨_,rfl⟩
 have N1 : ∃ mk:Option D->List (Option D),mk=λx=>[some (kA rows),some (.int held),some (.inst 2 C.length),x,none,none]:=⟨_,rfl⟩
 obtain ⟨mk,dF⟩:=N1
 obtain ⟨x',C1,ks,lc,np,sc,e1,S1,B1⟩:=zx (r:=[pD,pC,nR,nO,nQ,nN,l8]) (fuel:=10000) (n:=n) (C0:=C) (nd:=nd) (cl:=cl) (mk:=mk) (e:=.idx (.var 0) (.var 3)) (U:=U6) au (by decide) (by subst dF; exact λ_=>rfl) (by subst dF; exact λ_=>rfl) (by subst dF; exact λ_ _=>rfl)
  (by decide) zt K.iE K.fi (bc:=λA B=>aW A B (.lst (J6.map .int))) (λ_ _=>rfl) J6 (x:=none) (λj hj C=>by subst dF; exact cN (ak (d:=kA rows) rfl) (ak (d:=.int j) rfl) (K.row j ((uT j).mp hj) C)) (pre:=[]) (by decide) (λj hj=>(uT j).mp hj) (λj hj=>(nomatch hj)) Od gX.nil
 rw [append_nil] at B1
 have hJ : ∀ x,x∈J6.reverse↔x∈U6:=λx=>mem_reverse.trans (uT x)
 obtain ⟨hk,G⟩:=B1.gr (λj h=>K.iE j ((hJ j).mp h)) (λj h q hq=>(hJ q).mpr (K.fi j ((hJ j).mp h) q hq))
 have qm : ∀ x,x∈ks↔x∈U6:=λx=>(hk x).trans (hJ x)
 have bR:ks.length<64:=lt_of_le_of_lt (ek S1.nd λx h=>(qm x).mp h) (by decide)
 have L3:=OY (r:=[pD,pC,nR,nO,nQ,nN,l8]) (fuel:=10000) (n:=n+1) (by decide) S1 bR (λk h=>zt k ((qm k).mp h)) (λk h v hv=>((G.uC k h v).mp hv).1) G.snd
 induction L3 using rJ.casesOn with
 |d8 h=>
  obtain ⟨u,hu⟩:=h
  exact absurd (EC (rk:=rk) (λx j h=>K.down j ((qm j).mp (((hk j).mpr ((B1.ss x j).mp h).1))) x ((B1.ss x j).mp h).2) hu) (Int.lt_irrefl _)
 |ok m2 C2 i e2 S2 R2 fin T all=>
  obtain ⟨tZ,Dl⟩ : ∃ tZ:List Int->List Int->List (Option D),tZ=λc b=>[some (kA rows),some (.int held),some (.inst 2 C.length),x',some (.lst (c.map .int)),some (.lst (b.map .int))]:=⟨_,rfl⟩
  have Q:yX tZ C.length held 2 1 4 5:=by subst Dl; exact ⟨λ_ _=>rfl,λ_ _=>rfl,λ_ _=>rfl,λ_ _=>rfl,λ_ _ _=>rfl,λ_ _ _=>rfl⟩
  obtain ⟨bt,hs,C3,e3,H3⟩:=zN (r:=[pD,pC,nR,nO,nQ,nN,l8]) (fuel:=10000) (n:=n+1) (cl:=cl) au (by decide) (by decide) bR S2 R2 (B1.run hk S1.nd) (hs:=[]) (held:=held) (λ_ h=>(nomatch h)) (λh=>(nomatch h)) nodup_nil rfl (m:=[some (kA rows),some (.int held),some (.inst 2 C.length),x',some (.lst []),none]) (sv:=2) (hv:=1) rfl rfl
  obtain ⟨C4,dn,fL,e4,H4⟩:=Aw (r:=[pD,pC,nR,nO,nQ,nN,l8]) (fuel:=10000) (n:=n+1) (cl:=cl) au (by decide) bR G Q 10000 (dn:=[]) (lt_of_lt_of_le bR (by decide)) H3
  obtain ⟨f1,f2,f3,f4⟩:=H4.fin
  obtain ⟨p,f,fO,S4,W4,_⟩:=H4.ex
  refine k0 ⟨tZ dn.reverse [],C4,dn.reverse,?_,S4.pre,⟨λk h=>⟨(qm k).mp (f1 k (mem_reverse.mp h)).1,λz=>H4.dh (z ▸ mem_reverse.mp h)⟩,λk h q hq=>mem_reverse.mpr (f2 k (mem_reverse.mp h) q hq),λk h h1 h2=>?_,(List.reverse_perm dn).nodup_iff.mpr W4.iG.nodup⟩⟩
  ·show dt (av P3 ⟨aA P3 10000 (n+3),10000⟩ c3lawcame_10 ⟨[some (kA rows),some (.int held),none,none,none,none],C⟩)=_
   rw [<-au]
   subst dF Dl au
   exact jj (aP (bx (df (g:=.cls 2) (ds:=[]) rfl rfl Oc) (lb rfl)) (aP ((f7 (items:=J6.map .int) (succ_ne_zero 9999) rfl rfl).trans e1) (aP (j0 (pP (aa:=⟨m2,C2⟩) (ak (d:=.inst 2 C.length) rfl) (ng S1.top).2.2.1 (ds:=[]) rfl e2))
    (aP (bx (d:=.lst []) rfl (lb rfl)) (aP (bx e3 (lb rfl)) (aP e4 (jk (ak rfl))))))))
  ·obtain ⟨q,a,b⟩:=f3 k ((qm k).mpr h) (λz=>h1 (mem_reverse.mpr z)) λz=>h2 (f4 k z).1
   exact ⟨q,a,λz=>b (mem_reverse.mp z)⟩
end Mine.Lake
end
section
open PySem PyProof.Rows
namespace Mine.Lake
noncomputable abbrev r3:List Fn:=[nR,nO,nQ,nN,l8]
section
variable {n:Nat} {C:af}
theorem GI {ob:List UInt8} {fs:List Nat} (bH : ∀ f∈fs,f<64) (hl:fs.length<1000) (dT:ob.map (λc:UInt8=>(c.toNat:Int))=fs.map aK) : ∃ m',aA (PP (bD::bK::r3)) 10000 (n+2) 19 [.bytes ob,.lst ((nz fs).map .int)] [] C=.ok (.bool true) ⟨m',C⟩:=by
 obtain ⟨cl,au⟩ : ∃ cl:Calls,cl=⟨aA (PP (bD::bK::r3)) 10000 (n+1),10000⟩:=⟨_,rfl⟩
 have hf:cl.fuel≠0:=by rw [au]; exact succ_ne_zero _
 have e1:ev (PP (bD::bK::r3)) cl (.call (.cst (.bn .isinstance)) (.cons (.var 0) (.cons (.cst (.bn .bytes)) .nil)) .nil) ⟨[some (.bytes ob),some (.lst ((nz fs).map .int))],C⟩=.ok (.bool true) ⟨[some (.bytes ob),some (.lst ((nz fs).map .int))],C⟩:=
  df (g:=.bn .isinstance) rfl (iQ (ak (d:=.bytes ob) rfl) (d2:=.bn .bytes) rfl) (dJ hf)
 have e2:ev (PP (bD::bK::r3)) cl (.call (.cst (.bn .list)) (.cons (.var 0) .nil) .nil) ⟨[some (.bytes ob),some (.lst ((nz fs).map .int))],C⟩=.ok (.lst ((fs.map aK).map .int)) ⟨[some (.bytes ob),some (.lst ((nz fs).map .int))],C⟩:=
  df (g:=.bn .list) rfl (bZ (ak (d:=.bytes ob) rfl)) ((dJ hf).trans (by rw [<-dT,map_map]; rfl))
 have e3:=QH (r:=bK::r3) (m:=[some (.bytes ob),some (.lst ((nz fs).map .int))]) (C:=C) (v:=2) (w:=1) au (succ_ne_zero _) rfl rfl bH hl
 refine ⟨[some (.bytes ob),some (.lst ((nz fs).map .int))],?_⟩
 show dt (av (PP (bD::bK::r3)) ⟨aA (PP (bD::bK::r3)) 10000 (n+1),10000⟩ c3lawwritten_0 ⟨[some (.bytes ob),some (.lst ((nz fs).map .int))],C⟩)=_
 rw [<-au]
 exact jj (jk (sh e1 rfl (bY e2 e3 (by rw [Ig,decide_eq_true rfl]))))
noncomputable abbrev aH (rows:List (List Nat)):List D:=rows.map λl=>.lst ((nz l).map .int)
noncomputable def jq (a b:List Nat):Bool:=!(a.filter λx=>!decide (x∈b)).isEmpty&&!(b.filter λx=>!decide (x∈a)).isEmpty
noncomputable def kr (rows:List (List Nat)):Bool:=(List.range 6).all λk=>(rows.take k).all λrow=>!jq row (rows.getD k [])
theorem Pn {rows:List (List Nat)} {a k:Nat} (h:C[a]?=some (.list (aH rows))) (hk:k<rows.length) (hl:rows.length<1000):gg C (.loc a) (dN k)=some (.lst ((nz (rows.getD k [])).map .int)):=by
 rw [mJ h]
 exact oD (lt_trans hk hl) (by rw [getElem?_map,getElem?_eq_getElem hk,getD_eq_getElem?_getD,getElem?_eq_getElem hk]; rfl)
inductive jQ (C:af) (m:Option D->List (Option D)) (b:Bool) (o:aj Fl):Prop
 |next (x:Option D) (C':af) (e:o=.ok .next ⟨m x,C'⟩) (h:b=true) (p:C <+: C'):jQ C m b o
 |ret (m':List (Option D)) (C':af) (e:o=.ok (.ret (.bool false)) ⟨m',C'⟩) (h:b=false) (p:C <+: C'):jQ C m b o
theorem Ek {l:List Nat} {C:af}:eX C .ne (.lst ((nz l).map .int)) (.lst [])=some (!l.isEmpty):=by
 refine (vy (xs:=nz l) (ys:=[])).trans ?_
 induction l using List.casesOn<;>rfl
theorem xN {rows:List (List Nat)} {a k:Nat} {cl:Calls} (au:cl=⟨aA (PP (bD::bK::r3)) 10000 (n+2),10000⟩) (hk:k<rows.length) (hl:rows.length<1000) (i7 : ∀ l∈rows,l.length<1000) {ys:List D} : ∀ (xs:List (List Nat)) {C:af} {x2:Option D},C[a]?=some (.list (aH rows))->(∀ l∈xs,l.length<1000)->
  jQ C (λx=>[some (.loc a),some (dN k),x]) (xs.all λrow=>!jq row (rows.getD k [])) (forLoop (λA B=>aW A B (.lst ys)) (.one 2) (λst=>av (PP (bD::bK::r3)) cl c3lawnested_0 st) (aH xs) ⟨[some (.loc a),some (dN k),x2],C⟩)
 |[],C,x2,ha,_=>.next x2 C rfl rfl (prefix_refl C)
 |x::xs,C,x2,ha,hx=>by
  have hf:cl.fuel≠0:=by rw [au]; exact succ_ne_zero _
  have tq:=hx x (.head _)
  obtain ⟨y,hy⟩ : ∃ y,y=rows.getD k []:=⟨_,rfl⟩
  have Mx:y.length<1000:=i7 y (by rw [hy,getD_eq_getElem?_getD,getElem?_eq_getElem hk]; exact List.getElem_mem hk)
  have i1 : ∀ {C':af},C'[a]?=some (.list (aH rows))->ev (PP (bD::bK::r3)) cl (.idx (.var 0) (.var 1)) ⟨[some (.loc a),some (dN k),some (.lst ((nz x).map .int))],C'⟩=.ok (.lst ((nz y).map .int)) ⟨[some (.loc a),some (dN k),some (.lst ((nz x).map .int))],C'⟩:=λh=>hy ▸ cN (ak (d:=.loc a) rfl) (ak (d:=dN k) rfl) (Pn h hk hl)
  have f1:=sj (r:=bD::bK::r3) (C:=C) (e1:=.var 2) (xs:=x) (ys:=y) au (ak (d:=.lst ((nz x).map .int)) rfl) (i1 ha) rfl rfl tq
  have pY:(MF C (.lst ((nz y).map .int)) .none 0)[a]?=some (.list (aH rows)):=dY hW ha
  have f2:=sj (r:=bD::bK::r3) (C:=MF C (.lst ((nz y).map .int)) .none 0) (e2:=.var 2) (xs:=y) (ys:=x) au (i1 pY) (ak (d:=.lst ((nz x).map .int)) rfl) rfl rfl Mx
  have c1:=bY (op:=.ne) (b:=.list .nil) f1 (y:=.lst []) rfl Ek
  have c2:=bY (op:=.ne) (b:=.list .nil) f2 (y:=.lst []) rfl Ek
  rw [List.all_cons,<-hy]
  induction h1:(x.filter λz=>!decide (z∈y)).isEmpty with
  |true=>
   rw [h1] at c1
   have ih:=xN au hk hl i7 (ys:=ys) xs (x2:=some (.lst ((nz x).map .int))) pY λl hl=>hx l (.tail _ hl)
   have step:=eE (bc:=λA B=>aW A B (.lst ys)) (t:=.one 2) (f:=λst=>av (PP (bD::bK::r3)) cl c3lawnested_0 st) (d:=.lst ((nz x).map .int)) (ds:=aH xs) (m:=[some (.loc a),some (dN k),x2]) (m1:=[some (.loc a),some (dN k),some (.lst ((nz x).map .int))]) (C:=C) rfl (cu (dk (BD c1 rfl) rfl rfl)) rfl
   have hb:jq x y=false:=by unfold jq; rw [h1]; rfl
   rw [hb]
   rw [<-hy] at ih
   induction ih using jQ.casesOn with
   |next z C' e h p=>exact .next z C' (step.trans e) h (hW.trans p)
   |ret m' C' e h p=>exact .ret m' C' (step.trans e) h (hW.trans p)
  |false=>
   rw [h1] at c1
   induction h2:(y.filter λz=>!decide (z∈x)).isEmpty with
   |true=>
    rw [h2] at c2
    have ih:=xN au hk hl i7 (ys:=ys) xs (C:=MF (MF C (.lst ((nz y).map .int)) .none 0) (.lst ((nz x).map .int)) .none 0) (x2:=some (.lst ((nz x).map .int))) (dY hW pY) λl hl=>hx l (.tail _ hl)
    have step:=eE (bc:=λA B=>aW A B (.lst ys)) (t:=.one 2) (f:=λst=>av (PP (bD::bK::r3)) cl c3lawnested_0 st) (d:=.lst ((nz x).map .int)) (ds:=aH xs) (m:=[some (.loc a),some (dN k),x2]) (m1:=[some (.loc a),some (dN k),some (.lst ((nz x).map .int))]) (C:=C) rfl (cu (dk (sh c1 rfl c2) rfl rfl)) rfl
    have hb:jq x y=false:=by unfold jq; rw [h1,h2]; rfl
    rw [hb]
    rw [<-hy] at ih
    induction ih using jQ.casesOn with
    |next z C' e h p=>exact .next z C' (step.trans e) h ((hW.trans hW).trans p)
    |ret m' C' e h p=>exact .ret m' C' (step.trans e) h ((hW.trans hW).trans p)
   |false=>
    rw [h2] at c2
    exact .ret [some (.loc a),some (dN k),some (.lst ((nz x).map .int))] _ (v3 rfl (cu (lC (sh c1 rfl c2) rfl (jk rfl)))) (by unfold jq; rw [h1,h2]; rfl) (hW.trans hW)
theorem Er {rows:List (List Nat)} {a:Nat} {cl:Calls} (au:cl=⟨aA (PP (bD::bK::r3)) 10000 (n+2),10000⟩) (hr:rows.length=6) (i7 : ∀ l∈rows,l.length<1000) : ∀ (ks:List Nat) {C:af} {x1 x2:Option D},(∀ k∈ks,k<6)->C[a]?=some (.list (aH rows))->
  ∃ jP,jQ C (λx=>[some (.loc a),x,jP]) (ks.all λk=>(rows.take k).all λrow=>!jq row (rows.getD k [])) (forLoop (λA B=>aW A B (.ck 0 6)) (.one 1) (λst=>av (PP (bD::bK::r3)) cl c3lawnested_1 st) (ks.map dN) ⟨[some (.loc a),x1,x2],C⟩)
 |[],C,x1,x2,_,_=>⟨x2,.next x1 C rfl rfl (prefix_refl C)⟩
 |k::ks,C,x1,x2,hk,ha=>by
  have hf:cl.fuel≠0:=by rw [au]; exact succ_ne_zero _
  have wU:=hk k (.head _)
  have i8:ev (PP (bD::bK::r3)) cl (.slice (.var 0) (.cst .none) (.var 1)) ⟨[some (.loc a),some (dN k),x2],C⟩=.ok (.lst (aH (rows.take k))) ⟨[some (.loc a),some (dN k),x2],C⟩:=by
   refine pQ (ak (d:=.loc a) rfl) rfl (ak (d:=dN k) rfl) ?_
   have:=yA (C:=C) (a:=.loc a) (ds:=aH rows) (lo:=.none) (hi:=dN k) (by unfold aU; dsimp only; rw [ha]) (λb z=>(nomatch z)) rU (rT (lt_trans wU (by decide)))
   refine this.trans (congrArg some (congrArg D.lst ?_))
   unfold dg aH
   rw [drop_zero,sub_zero,length_map,hr,min_eq_left (le_of_lt wU),map_take]
  have jC:=xN (n:=n) (a:=a) (k:=k) (cl:=cl) au (by rw [hr]; exact wU) (by rw [hr]; decide) i7 (ys:=aH (rows.take k)) (rows.take k) (C:=C) (x2:=x2) ha λl hl=>i7 l (mem_of_mem_take hl)
  have kX:=f7 (P:=PP (bD::bK::r3)) (cl:=cl) (t:=.one 2) (a:=c3lawnested_0) (items:=aH (rows.take k)) hf i8 rfl
  rw [List.all_cons]
  induction jC using jQ.casesOn with
  |ret m' C' e h p=>exact ⟨x2,.ret m' C' (v3 (m1:=[some (.loc a),some (dN k),x2]) rfl (ic (kX.trans e))) (by rw [h]; rfl) p⟩
  |next z C' e h p=>
   obtain ⟨jP,ih⟩:=Er au hr i7 ks (x1:=some (dN k)) (x2:=z) (λq hq=>hk q (.tail _ hq)) (dY p ha)
   have step:=eE (bc:=λA B=>aW A B (.ck 0 6)) (t:=.one 1) (f:=λst=>av (PP (bD::bK::r3)) cl c3lawnested_1 st) (d:=dN k) (ds:=ks.map dN) (m:=[some (.loc a),x1,x2]) (m1:=[some (.loc a),some (dN k),x2]) (C:=C) rfl (cu (kX.trans e)) rfl
   refine ⟨jP,?_⟩
   rw [h]
   induction ih using jQ.casesOn with
   |next z C' e h p'=>exact .next z C' (step.trans e) h (p.trans p')
   |ret m' C' e h p'=>exact .ret m' C' (step.trans e) h (p.trans p')
theorem Et {rows:List (List Nat)} {a:Nat} (hr:rows.length=6) (i7 : ∀ l∈rows,l.length<1000) (ha:C[a]?=some (.list (aH rows))) : ∃ m' C',aA (PP (bD::bK::r3)) 10000 (n+3) 21 [.loc a] [] C=.ok (.bool (kr rows)) ⟨m',C'⟩/\C <+: C':=by
 obtain ⟨cl,au⟩ : ∃ cl:Calls,cl=⟨aA (PP (bD::bK::r3)) 10000 (n+2),10000⟩:=⟨_,rfl⟩
 have hf:cl.fuel≠0:=by rw [au]; exact succ_ne_zero _
 obtain ⟨x2,h⟩:=Er (n:=n) (cl:=cl) au hr i7 (List.range 6) (x1:=none) (x2:=none) (λk hk=>mem_range.mp hk) ha
 have kX:=f7 (P:=PP (bD::bK::r3)) (cl:=cl) (t:=.one 1) (it:=.call (.cst (.bn .range)) (.cons (.cst (.int 6)) .nil) .nil) (a:=c3lawnested_1) (items:=(List.range 6).map dN) (st:=⟨[some (.loc a),none,none],C⟩) (aa:=⟨[some (.loc a),none,none],C⟩) (y:=.ck 0 6) hf (df (g:=.bn .range) (ds:=[.int 6]) rfl rfl ((dJ hf).trans rfl)) rfl
 have go : ∀ {o:aj Fl},av (PP (bD::bK::r3)) cl c3lawnested_4 ⟨[some (.loc a),none,none],C⟩=o->aA (PP (bD::bK::r3)) 10000 (n+3) 21 [.loc a] [] C=dt o:=λh=>by
  subst au; rw [<-h]; rfl
 induction h using jQ.casesOn with
 |next z C' e h p=>exact ⟨_,C',(go rfl).trans (jj (aP (kX.trans e) (jk (d:=.bool true) rfl))) |>.trans (by rw [show kr rows=true from h]),p⟩
 |ret m' C' e h p=>exact ⟨m',C',(go rfl).trans (jj (ic (kX.trans e))) |>.trans (by rw [show kr rows=false from h]),p⟩
theorem Hw {rows:List (List Nat)} {row:List Nat} {a:Nat} (hr:rows.length<60) (ha:C[a]?=some (.list (aH rows))) : ∃ m' C',aA (PP (bD::bK::r3)) 10000 (n+1) 22 [.loc a,.lst ((nz row).map .int)] [] C=.ok (dN (dc (nz ((rows.filter λl=>decide (l.length<row.length)).map λl=>l.length)))) ⟨m',C'⟩/\C <+: C':=by
 obtain ⟨cl,au⟩ : ∃ cl:Calls,cl=⟨aA (PP (bD::bK::r3)) 10000 n,10000⟩:=⟨_,rfl⟩
 have hf:cl.fuel≠0:=by rw [au]; exact succ_ne_zero _
 have ll : ∀ (l:List Nat),tN C (.lst ((nz l).map .int))=some (l.length:Int):=λl=>by
  show some ((((nz l).map D.int).length:Nat):Int)=_
  rw [length_map,jf]
 have hlen : ∀ (l:List Nat),ev (PP (bD::bK::r3)) cl (.call (.cst (.bn .len)) (.cons (.var 2) .nil) .nil) ⟨[some (.loc a),some (.lst ((nz row).map .int))]++[some (.lst ((nz l).map .int))],C⟩=.ok (dN l.length) ⟨[some (.loc a),some (.lst ((nz row).map .int))]++[some (.lst ((nz l).map .int))],C⟩:=λl=>
  BH hf (ak (d:=.lst ((nz l).map .int)) rfl) (ll l)
 have aO:aW C C (.loc a)=true:=by
  show iF C C a=true
  unfold iF
  rw [ha]
  have beq : ∀ l:List (List Nat),D.gA (aH l) (aH l)=true:=λl=>by
   induction l with
   |nil=>rfl
   |cons x l ih=>
    show (D.gA ((nz x).map .int) ((nz x).map .int)&&D.gA (aH l) (aH l))=true
    rw [ih,rP]; rfl
  exact beq rows
 have hc:=nW (P:=PP (bD::bK::r3)) (cl:=cl) (elt:=.call (.cst (.bn .len)) (.cons (.var 2) .nil) .nil) (ifs:=.cons (.cmp .lt (.call (.cst (.bn .len)) (.cons (.var 2) .nil) .nil) (.call (.cst (.bn .len)) (.cons (.var 1) .nil) .nil)) .nil) (it:=.var 0) (k:=2) (m:=[some (.loc a),some (.lst ((nz row).map .int))]) (C:=C) (xs:=rows) (g:=λl=>.lst ((nz l).map .int)) (f:=λl=>dN l.length) (p:=λl=>decide (l.length<row.length))
  hf rfl (ak (d:=.loc a) rfl) (by show (C[a]?).bind mR=_; rw [ha]; rfl) (lt_trans hr (by decide)) aO (λl _=>mn (bY (hlen l) (BH hf (ak (d:=.lst ((nz row).map .int)) rfl) (ll row)) Ii)) (λl _ _=>hlen l)
 have e:(rows.filter λl=>decide (l.length<row.length)).map (λl=>dN l.length)=(nz ((rows.filter λl=>decide (l.length<row.length)).map λl=>l.length)).map .int:=by
  unfold nz; rw [map_map,map_map]; rfl
 rw [e] at hc
 refine ⟨[some (.loc a),some (.lst ((nz row).map .int))],C++[.set (ct (nz ((rows.filter λl=>decide (l.length<row.length)).map λl=>l.length)))],?_,prefix_append _ _⟩
 show dt (av (PP (bD::bK::r3)) ⟨aA (PP (bD::bK::r3)) 10000 n,10000⟩ c3lawbelow_0 ⟨[some (.loc a),some (.lst ((nz row).map .int))],C⟩)=_
 rw [<-au]
 exact jj (jk (Jo hf hc (by rw [jf,length_map]; exact le_trans (length_filter_le _ _) (le_of_lt (lt_trans hr (by decide))))))
end
end Mine.Lake
end
section
open PySem
namespace Mine.Lake
section
variable {α β:Type} [DecidableEq α] [DecidableEq β]
theorem qL : ∀ {l k:List α},l.Nodup->(∀ x∈l,x∈k)->l.length<=k.length
 |[],_,_,_=>zero_le _
 |a::l,k,hn,h=>by
  obtain ⟨h1,h2⟩:=nodup_cons.mp hn
  have ha:=h a (.head _)
  have ih:=qL (k:=k.erase a) h2 λx hx=>(List.mem_erase_of_ne λe:x=a=>h1 (e ▸ hx)).mpr (h x (.tail _ hx))
  rw [List.length_erase_of_mem ha] at ih
  exact le_trans (succ_le_succ ih) (le_of_eq (Nat.succ_pred_eq_of_pos (length_pos_of_mem ha)))
theorem xQ {l k:List α} (h1:l.Nodup) (h2:k.Nodup) (h : ∀ x,x∈l↔x∈k):l.length=k.length:=le_antisymm (qL h1 λx=>(h x).mp) (qL h2 λx=>(h x).mpr)
theorem tV {f:α->β} : ∀ {l:List α},l.Nodup->(∀ x∈l,∀ y∈l,f x=f y->x=y)->(l.map f).Nodup
 |[],_,_=>nodup_nil
 |a::l,hn,h=>by
  obtain ⟨h1,h2⟩:=nodup_cons.mp hn
  rw [map_cons,nodup_cons]
  refine ⟨λz=>?_,tV h2 λx hx y hy=>h x (.tail _ hx) y (.tail _ hy)⟩
  obtain ⟨b,hb,e⟩:=mem_map.mp z
  exact h1 (h a (.head _) b (.tail _ hb) e.symm ▸ hb)
end
noncomputable def num (n:Nat) (p:Nat->Bool):Nat:=((List.range n).filter p).length
theorem t7 {n:Nat} {p q:Nat->Bool} (h : ∀ x,x<n->p x=true->q x=true):num n p<=num n q:=
 qL (nodup_range.filter _) λx hx=>by rw [mem_filter,mem_range] at hx ⊢; exact ⟨hx.1,h x hx.1 hx.2⟩
theorem t8 {n:Nat} {p q:Nat->Bool} (h : ∀ x,x<n->p x=true->q x=true) {a:Nat} (ha:a<n) (h1:p a=false) (h2:q a=true):num n p<num n q:=by
 have:(a::(List.range n).filter p).length<=num n q:=qL (nodup_cons.mpr ⟨λz=>by rw [mem_filter,h1] at z; exact Bool.false_ne_true z.2,nodup_range.filter _⟩) λx hx=>by
  rw [mem_filter,mem_range]
  rcases mem_cons.mp hx with rfl|hx
  ·exact ⟨ha,h2⟩
  ·rw [mem_filter,mem_range] at hx; exact ⟨hx.1,h x hx.1 hx.2⟩
 exact this
theorem EG {n:Nat} {p q:Nat->Bool} (h : ∀ x,x<n->p x=true->q x=true) (hn:num n q<=num n p) : ∀ x,x<n->q x=true->p x=true:=λx hx hq=>
 Bool.of_not_eq_false λz=>not_lt.mpr hn (t8 h hx z hq)
theorem lK {n:Nat} {p q:Nat->Bool} (h : ∀ x,x<n->p x=q x):num n p=num n q:=le_antisymm (t7 λx hx e=>(h x hx) ▸ e) (t7 λx hx e=>(h x hx).symm ▸ e)
theorem m7 {n:Nat} {p:Nat->Bool}:num n p<=n:=le_trans (length_filter_le _ _) (le_of_eq List.length_range)
section
variable {A:Nat->Nat->Bool}
structure ez (A:Nat->Nat->Bool):Prop where
 nest : ∀ a b c d,a<6->b<6->c<6->d<6->A a b=true->A c d=true->A a d=true\/A c b=true
 last : ∀ j,j<6->A 5 j=false
 first : ∀ i,i<6->A i 0=false
noncomputable def bz (A:Nat->Nat->Bool) (i:Nat):Nat:=num 6 λj=>A i j
noncomputable def eW (A:Nat->Nat->Bool) (j:Nat):Nat:=num 6 λi=>A i j
noncomputable def cY (A:Nat->Nat->Bool) (v:Nat):Bool:=(List.range 6).any λi=>bz A i==v
noncomputable def fm (A:Nat->Nat->Bool) (v:Nat):Bool:=(List.range 6).any λj=>eW A j==v
theorem jH {v:Nat}:cY A v=true ↔ ∃ i,i<6/\bz A i=v:=by
 unfold cY; rw [any_eq_true]
 exact ⟨λ⟨i,h1,h2⟩=>⟨i,mem_range.mp h1,eq_of_beq h2⟩,λ⟨i,h1,h2⟩=>⟨i,mem_range.mpr h1,beq_iff_eq.mpr h2⟩⟩
theorem xr {v:Nat}:fm A v=true ↔ ∃ j,j<6/\eW A j=v:=by
 unfold fm; rw [any_eq_true]
 exact ⟨λ⟨i,h1,h2⟩=>⟨i,mem_range.mp h1,eq_of_beq h2⟩,λ⟨i,h1,h2⟩=>⟨i,mem_range.mpr h1,beq_iff_eq.mpr h2⟩⟩
theorem ez.row (F:ez A) {i i':Nat} (hi:i<6) (iq:i'<6) (h:bz A i<=bz A i') : ∀ j,j<6->A i j=true->A i' j=true:=by
 by_cases hs : ∀ j,j<6->A i j=true->A i' j=true
 ·exact hs
 ·obtain ⟨j,hj⟩:=Classical.not_forall.mp hs
  obtain ⟨h1,h2⟩:=Classical.not_imp.mp hj
  obtain ⟨h2,h3⟩:=Classical.not_imp.mp h2
  refine EG (λx hx qa=>?_) h
  exact (F.nest i j i' x hi h1 iq hx h2 qa).resolve_right h3
noncomputable def up (A:Nat->Nat->Bool) (v:Nat):Nat:=num 6 λi=>decide (v<=bz A i)
theorem ez.least (F:ez A) {j:Nat} (hj:j<6) (h:0<eW A j) : ∃ v,cY A v=true/\0<v/\eW A j=up A v/\∀ i,i<6->(A i j=true↔v<=bz A i):=by
 have hex : ∃ v,∃ i,i<6/\bz A i=v/\A i j=true:=by
  obtain ⟨i,hi⟩:=List.exists_mem_of_length_pos (show 0<((List.range 6).filter λi=>A i j).length from h)
  rw [mem_filter,mem_range] at hi
  exact ⟨_,i,hi.1,rfl,hi.2⟩
 obtain ⟨v,⟨i0,h1,h2,h3⟩,LO⟩ : ∃ v,(∃ i,i<6/\bz A i=v/\A i j=true)/\∀ u,u<v->¬ ∃ i,i<6/\bz A i=u/\A i j=true:=by
  obtain ⟨v,hv⟩:=hex
  induction v using strongRecOn with
  |_ v ih=>
   by_cases z : ∃ u,u<v/\∃ i,i<6/\bz A i=u/\A i j=true
   ·obtain ⟨u,hu,hz⟩:=z; exact ih u hu hz
   ·exact ⟨v,hv,λu hu hz=>z ⟨u,hu,hz⟩⟩
 have De : ∀ i,i<6->(A i j=true↔v<=bz A i):=λi hi=>⟨λha=>le_of_not_lt λz=>LO _ z ⟨i,hi,rfl,ha⟩,λhv=>F.row h1 hi (by rw [h2]; exact hv) j hj h3⟩
 refine ⟨v,jH.mpr ⟨i0,h1,h2⟩,?_,lK λi hi=>?_,De⟩
 ·rw [<-h2]; exact length_pos_of_mem (mem_filter.mpr ⟨mem_range.mpr hj,h3⟩)
 ·rw [Bool.eq_iff_iff,De i hi,decide_eq_true_eq]
theorem uI {u v:Nat} (h:u<v) (hu:cY A u=true):up A v<up A u:=by
 obtain ⟨i,hi,e⟩:=jH.mp hu
 refine t8 (λx _ hx=>?_) hi (a:=i) ?_ ?_
 ·rw [decide_eq_true_eq] at hx ⊢; exact le_trans (le_of_lt h) hx
 ·rw [decide_eq_false_iff_not,e]; exact not_le.mpr h
 ·rw [decide_eq_true_eq,e]; exact le_refl _
theorem ez.Iz (F:ez A) {v:Nat} (hv:cY A v=true) (h0:0<v) : ∃ j,j<6/\eW A j=up A v:=by
 obtain ⟨i,hi,e⟩:=jH.mp hv
 have KN : ∃ k,k<6/\bz A k<v:=⟨5,by decide,by
  have:bz A 5=0:=by unfold bz num; rw [length_eq_zero_iff,filter_eq_nil_iff]; intro j hj; rw [F.last j (mem_range.mp hj)]; exact Bool.false_ne_true
  rw [this]; exact h0⟩
 obtain ⟨k,hk,ot,LM⟩ : ∃ k,k<6/\bz A k<v/\∀ k',k'<6->bz A k'<v->bz A k'<=bz A k:=by
  obtain ⟨k,hk,ot⟩:=KN
  have : ∀ (d k:Nat),v - bz A k=d->k<6->bz A k<v->∃ k,k<6/\bz A k<v/\∀ k',k'<6->bz A k'<v->bz A k'<=bz A k:=λd=>by
   induction d using strongRecOn with
   |_ d ih=>
    intro k hd hk ot
    by_cases z : ∃ k',k'<6/\bz A k'<v/\bz A k<bz A k'
    ·obtain ⟨k',a,b,c⟩:=z
     exact ih (v - bz A k') (by rw [<-hd]; exact sub_lt_sub_left ot c) k' rfl a b
    ·exact ⟨k,hk,ot,λk' a b=>le_of_not_lt λc=>z ⟨k',a,b,c⟩⟩
  exact this _ k rfl hk ot
 have hex : ∃ j,j<6/\A i j=true/\A k j=false:=Classical.byContradiction λz=>by
  have:bz A i<=bz A k:=t7 λj hj ha=>Bool.of_not_eq_false λy=>z ⟨j,hj,ha,y⟩
  rw [e] at this
  exact not_le.mpr ot this
 obtain ⟨j,hj,ha,hb⟩:=hex
 refine ⟨j,hj,lK λx hx=>?_⟩
 rw [Bool.eq_iff_iff,decide_eq_true_eq]
 constructor
 ·intro qa
  refine le_of_not_lt λz=>?_
  rw [F.row hx hk (LM x hx z) j hj qa] at hb
  exact Bool.false_ne_true hb.symm
 ·intro xb
  exact F.row hi hx (by rw [e]; exact xb) j hj ha
theorem ez.count (F:ez A) (P:Nat->Bool):num 7 (λu=>fm A u&&decide (0<u)&&P u)=num 7 (λv=>cY A v&&decide (0<v)&&P (up A v)):=by
 have inj : ∀ x∈(List.range 7).filter (λv=>cY A v&&decide (0<v)&&P (up A v)),∀ y∈(List.range 7).filter (λv=>cY A v&&decide (0<v)&&P (up A v)),up A x=up A y->x=y:=λx hx y hy e=>by
  rw [mem_filter,and_eq_true,and_eq_true] at hx hy
  rcases Nat.lt_trichotomy x y with z|z|z
  ·exact absurd e (ne_of_gt (uI z hx.2.1.1))
  ·exact z
  ·exact absurd e (ne_of_lt (uI z hy.2.1.1))
 have h:=xQ (l:=(List.range 7).filter λu=>fm A u&&decide (0<u)&&P u) (k:=((List.range 7).filter λv=>cY A v&&decide (0<v)&&P (up A v)).map (up A)) (nodup_range.filter _) (tV (nodup_range.filter _) inj) λu=>by
  rw [mem_filter,mem_map,mem_range,and_eq_true,and_eq_true,decide_eq_true_eq]
  constructor
  ·rintro ⟨h7,⟨hc,h0⟩,hp⟩
   obtain ⟨j,hj,e⟩:=xr.mp hc
   obtain ⟨v,h1,h2,h3,_⟩:=F.least hj (by rw [e]; exact h0)
   refine ⟨v,?_,h3.symm.trans e⟩
   obtain ⟨i,_,ei⟩:=jH.mp h1
   rw [mem_filter,mem_range,and_eq_true,and_eq_true,decide_eq_true_eq,<-h3,e]
   exact ⟨by rw [<-ei]; exact lt_succ_of_le m7,⟨h1,h2⟩,hp⟩
  ·rintro ⟨v,hv,e⟩
   rw [mem_filter,mem_range,and_eq_true,and_eq_true,decide_eq_true_eq] at hv
   obtain ⟨_,⟨h1,h2⟩,h3⟩:=hv
   obtain ⟨j,hj,ej⟩:=F.Iz h1 h2
   obtain ⟨i,hi,ei⟩:=jH.mp h1
   rw [e] at ej h3
   refine ⟨by rw [<-ej]; exact lt_succ_of_le m7,⟨xr.mpr ⟨j,hj,ej⟩,?_⟩,h3⟩
   rw [<-e]
   exact length_pos_of_mem (a:=i) (mem_filter.mpr ⟨mem_range.mpr hi,by rw [decide_eq_true_eq,ei]; exact le_refl _⟩)
 rw [length_map] at h
 exact h
theorem xU {n:Nat} {p:Nat->Bool} (q:Nat->Bool):num n p=num n (λx=>p x&&q x)+num n (λx=>p x&&!q x):=by
 have : ∀ l:List Nat,(l.filter p).length=(l.filter λx=>p x&&q x).length+(l.filter λx=>p x&&!q x).length:=λl=>by
  induction l with
  |nil=>rfl
  |cons a l ih=>
   rw [filter_cons,filter_cons,filter_cons]
   induction p a with
   |false=>exact ih
   |true=>
    induction q a with
    |true=>exact (congrArg Nat.succ ih).trans (Nat.succ_add _ _).symm
    |false=>exact congrArg Nat.succ ih
 exact this _
theorem EF {n:Nat} {p:Nat->Bool} {a:Nat} (ha:a<n) (h:p a=true) (h1 : ∀ x,x<n->p x=true->x=a):num n p=1:=
 xQ (k:=[a]) (nodup_range.filter _) (nodup_cons.mpr ⟨not_mem_nil,nodup_nil⟩) λx=>by
  rw [mem_filter,mem_range,mem_singleton]
  exact ⟨λz=>h1 x z.1 z.2,λe=>e ▸ ⟨ha,h⟩⟩
theorem xV {n:Nat} {p:Nat->Bool} (hn:0<n) (h:p 0=true):num n p=num n (λx=>p x&&decide (0<x))+1:=by
 rw [xU λx=>decide (0<x)]
 refine congrArg _ (EF hn (by rw [h]; rfl) λx _ hx=>?_)
 rw [and_eq_true,not_eq_true',decide_eq_false_iff_not] at hx
 exact Nat.eq_zero_of_not_pos hx.2
theorem ez.r0 (F:ez A):cY A 0=true:=jH.mpr ⟨5,by decide,by
 unfold bz num; rw [length_eq_zero_iff,filter_eq_nil_iff]; intro j hj; rw [F.last j (mem_range.mp hj)]; exact Bool.false_ne_true⟩
theorem ez.c0 (F:ez A):fm A 0=true:=xr.mpr ⟨0,by decide,by
 unfold eW num; rw [length_eq_zero_iff,filter_eq_nil_iff]; intro j hj; rw [F.first j (mem_range.mp hj)]; exact Bool.false_ne_true⟩
theorem ez.kinds (F:ez A):num 7 (fm A)=num 7 (cY A):=by
 rw [xV (by decide) F.c0,xV (by decide) F.r0]
 have:=F.count λ_=>true
 simp only [Bool.and_true] at this
 rw [this]
theorem DQ {i:Nat} (hi:i<6):cY A (bz A i)=true:=jH.mpr ⟨i,hi,rfl⟩
theorem Pg {i v:Nat} (hi:i<6) (h:bz A i<v):num 7 (λw=>cY A w&&decide (w<bz A i))<num 7 (λw=>cY A w&&decide (w<v)):=by
 refine t8 (a:=bz A i) (λx _ hx=>?_) (lt_succ_of_le m7) ?_ ?_
 ·rw [and_eq_true,decide_eq_true_eq] at hx ⊢; exact ⟨hx.1,lt_trans hx.2 h⟩
 ·rw [decide_eq_false (lt_irrefl _),Bool.and_false]
 ·rw [DQ hi,decide_eq_true h]; rfl
theorem ez.main (F:ez A) {i j:Nat} (hi:i<6) (hj:j<6):A i j=true↔num 7 (fm A)<=num 7 (λv=>cY A v&&decide (v<bz A i))+num 7 (λu=>fm A u&&decide (u<eW A j)):=by
 rw [xU (p:=fm A) λu=>decide (u<eW A j),add_comm,Nat.add_le_add_iff_right]
 by_cases hc:0<eW A j
 ·obtain ⟨v,h1,h2,h3,h4⟩:=F.least hj hc
  obtain ⟨iv,qk,ev⟩:=jH.mp h1
  rw [h4 i hi]
  have e1:num 7 (λu=>fm A u&&!decide (u<eW A j))=num 7 (λu=>fm A u&&decide (0<u)&&decide (eW A j<=u)):=lK λu _=>by
   rw [Bool.eq_iff_iff,and_eq_true,and_eq_true,and_eq_true,not_eq_true',decide_eq_false_iff_not,decide_eq_true_eq,decide_eq_true_eq]
   exact ⟨λ⟨a,b⟩=>⟨⟨a,lt_of_lt_of_le hc (le_of_not_lt b)⟩,le_of_not_lt b⟩,λ⟨⟨a,_⟩,b⟩=>⟨a,not_lt.mpr b⟩⟩
  have e2:num 7 (λw=>cY A w&&decide (0<w)&&decide (eW A j<=up A w))=num 7 (λw=>(cY A w&&decide (w<=v))&&decide (0<w)):=lK λw _=>by
   rw [Bool.eq_iff_iff,and_eq_true,and_eq_true,and_eq_true,and_eq_true,decide_eq_true_eq,decide_eq_true_eq,decide_eq_true_eq,h3]
   refine ⟨λ⟨⟨a,b⟩,c⟩=>⟨⟨a,le_of_not_lt λz=>not_lt.mpr c (uI z h1)⟩,b⟩,λ⟨⟨a,c⟩,b⟩=>⟨⟨a,b⟩,?_⟩⟩
   rcases Nat.lt_or_eq_of_le c with z|z
   ·exact le_of_lt (uI z a)
   ·exact z ▸ le_refl _
  have e3:num 7 (λw=>cY A w&&decide (w<=v))=num 7 (λw=>cY A w&&decide (w<v))+1:=by
   rw [xU λw=>decide (w<v)]
   refine congr (congrArg _ (lK λw _=>?_)) (EF (a:=v) (by rw [<-ev]; exact lt_succ_of_le m7) ?_ λw _ hw=>?_)
   ·rw [Bool.eq_iff_iff,and_eq_true,and_eq_true,and_eq_true,decide_eq_true_eq,decide_eq_true_eq]
    exact ⟨λ⟨⟨a,_⟩,b⟩=>⟨a,b⟩,λ⟨a,b⟩=>⟨⟨a,le_of_lt b⟩,b⟩⟩
   ·rw [h1,decide_eq_true (le_refl v),decide_eq_false (lt_irrefl v)]; rfl
   ·rw [and_eq_true,and_eq_true,decide_eq_true_eq,not_eq_true',decide_eq_false_iff_not] at hw
    exact le_antisymm hw.1.2 (le_of_not_lt hw.2)
  have e4:=xV (n:=7) (p:=λw=>cY A w&&decide (w<=v)) (by decide) (by rw [F.r0,decide_eq_true (zero_le v)]; rfl)
  have e5:num 7 (λu=>fm A u&&!decide (u<eW A j))=num 7 (λw=>cY A w&&decide (w<v)):=by
   rw [e1,F.count,e2]
   exact Nat.succ.inj (e4.symm.trans e3)
  rw [e5]
  exact ⟨λh=>t7 λx _ hx=>by rw [and_eq_true,decide_eq_true_eq] at hx ⊢; exact ⟨hx.1,lt_of_lt_of_le hx.2 h⟩,λh=>le_of_not_lt λz=>not_lt.mpr h (Pg hi z)⟩
 ·have h0:eW A j=0:=Nat.eq_zero_of_not_pos hc
  constructor
  ·intro ha
   exact absurd (length_pos_of_mem (mem_filter.mpr ⟨mem_range.mpr hi,ha⟩)) hc
  ·intro h
   exfalso
   have e1:num 7 (λu=>fm A u&&!decide (u<eW A j))=num 7 (cY A):=by
    rw [<-F.kinds]
    refine lK λu _=>?_
    rw [h0,decide_eq_false (not_lt_zero u)]; exact Bool.and_true _
   rw [e1] at h
   refine not_lt.mpr h (t8 (a:=bz A i) (λx _ hx=>?_) (lt_succ_of_le m7) ?_ (DQ hi))
   ·rw [and_eq_true] at hx; exact hx.1
   ·rw [decide_eq_false (lt_irrefl _),Bool.and_false]
end
structure jn (T A:Nat->Nat->Bool):Prop where
 down : ∀ q j,j<6->T q j=true->q<j
 step : ∀ q j,q<6->j<6->(A q j=true↔T q j=true\/∃ o,o<6/\T o j=true/\A q o=true)
section
variable {T A:Nat->Nat->Bool}
theorem jn.lt (K:jn T A) {q:Nat} (hq:q<6) : ∀ j,j<6->A q j=true->q<j:=λj=>by
 induction j using strongRecOn with
 |_ j ih=>
  intro hj h
  rcases (K.step q j hq hj).mp h with h|⟨o,ho,h1,h2⟩
  ·exact K.down q j hj h
  ·have:=K.down o j hj h1
   exact lt_trans (ih o this ho h2) this
theorem jn.back (K:jn T A) {q:Nat} (hq:q<6) : ∀ j,j<6->(A q j=true↔T q j=true\/∃ o,o<6/\T q o=true/\A o j=true):=λj=>by
 induction j using strongRecOn with
 |_ j ih=>
  intro hj
  rw [K.step q j hq hj]
  constructor
  ·rintro (h|⟨o,ho,h1,h2⟩)
   ·exact .inl h
   ·rcases (ih o (K.down o j hj h1) ho).mp h2 with h3|⟨o',cK,h3,h4⟩
    ·exact .inr ⟨o,ho,h3,(K.step o j ho hj).mpr (.inl h1)⟩
    ·exact .inr ⟨o',cK,h3,(K.step o' j cK hj).mpr (.inr ⟨o,ho,h1,h4⟩)⟩
  ·rintro (h|⟨o,ho,h1,h2⟩)
   ·exact .inl h
   ·rcases (K.step o j ho hj).mp h2 with h3|⟨o',cK,h3,h4⟩
    ·exact .inr ⟨o,ho,h3,(K.step q o hq ho).mpr (.inl h1)⟩
    ·exact .inr ⟨o',cK,h3,(ih o' (K.down o' j hj h3) cK).mpr (.inr ⟨o,ho,h1,h4⟩)⟩
noncomputable def jI (R:Nat->Nat->Bool) (k:Int):List Int:=((List.range 6).filter λq=>R k.toNat q).map λq:Nat=>(q:Int)
theorem mX {x:Int}:x∈U6 ↔ ∃ k:Nat,k<6/\(k:Int)=x:=by
 show x∈(List.range 6).map (λk:Nat=>(k:Int))↔_
 rw [mem_map]
 exact ⟨λ⟨k,a,b⟩=>⟨k,mem_range.mp a,b⟩,λ⟨k,a,b⟩=>⟨k,mem_range.mpr a,b⟩⟩
theorem tX {R:Nat->Nat->Bool} {k:Nat} {x:Int}:x∈jI R (k:Int) ↔ ∃ q:Nat,q<6/\(q:Int)=x/\R k q=true:=by
 unfold jI
 rw [mem_map,toNat_natCast]
 exact ⟨λ⟨q,a,b⟩=>⟨q,mem_range.mp (mem_filter.mp a).1,b,(mem_filter.mp a).2⟩,λ⟨q,a,b,c⟩=>⟨q,mem_filter.mpr ⟨mem_range.mpr a,c⟩,b⟩⟩
theorem nD.iff {R:Nat->Nat->Bool} {h:Nat} {cj:List Int} (C:nD (jI R) U6 (h:Int) cj) {k:Nat} (hk:k<6):((k:Int) ∉ cj/\k≠h)↔(k≠h/\∃ q,q<6/\R k q=true/\(q=h\/((q:Int) ∉ cj/\q≠h))):=by
 constructor
 ·rintro ⟨h1,h2⟩
  obtain ⟨x,hx,hn⟩:=C.rest k (mX.mpr ⟨k,hk,rfl⟩) h1 λe=>h2 (ofNat.inj e)
  obtain ⟨q,hq,rfl,hr⟩:=tX.mp hx
  refine ⟨h2,q,hq,hr,?_⟩
  by_cases e:q=h
  ·exact .inl e
  ·exact .inr ⟨hn,e⟩
 ·rintro ⟨h2,q,hq,hr,h3⟩
  refine ⟨λz=>?_,h2⟩
  have hm:=C.H9 k z q (tX.mpr ⟨q,hq,rfl,hr⟩)
  rcases h3 with e|⟨h3,_⟩
  ·exact (C.fi _ hm).2 (congrArg _ e)
  ·exact h3 hm
theorem Nn (K:jn T A) {h:Nat} (hh:h<6) {cj:List Int} (C:nD (jI λk q=>T q k) U6 (h:Int) cj) : ∀ k:Nat,k<6->(((k:Int) ∉ cj/\k≠h)↔A h k=true):=λk=>by
 induction k using strongRecOn with
 |_ k ih=>
  intro hk
  rw [C.iff hk,K.step h k hh hk]
  constructor
  ·rintro ⟨_,q,hq,hr,e|h3⟩
   ·exact .inl (e ▸ hr)
   ·exact .inr ⟨q,hq,hr,(ih q (K.down q k hk hr) hq).mp h3⟩
  ·intro z
   refine ⟨λe=>lt_irrefl h (K.lt hh h hh ((K.step h h hh hh).mpr (e ▸ z))),?_⟩
   rcases z with z|⟨o,ho,h1,h2⟩
   ·exact ⟨h,hh,z,.inl rfl⟩
   ·exact ⟨o,ho,h1,.inr ((ih o (K.down o k hk h1) ho).mpr h2)⟩
theorem Jb (K:jn T A) {h:Nat} (hh:h<6) {cj:List Int} (C:nD (jI T) U6 (h:Int) cj) : ∀ d k:Nat,6 - k=d->k<6->(((k:Int) ∉ cj/\k≠h)↔A k h=true):=λd=>by
 induction d using strongRecOn with
 |_ d ih=>
  intro k hd hk
  rw [C.iff hk,K.back hk h hh]
  have dec : ∀ q,q<6->T k q=true->6 - q<d:=λq hq hr=>by rw [<-hd]; exact sub_lt_sub_left hk (K.down k q hq hr)
  constructor
  ·rintro ⟨_,q,hq,hr,e|h3⟩
   ·exact .inl (e ▸ hr)
   ·exact .inr ⟨q,hq,hr,(ih _ (dec q hq hr) q rfl hq).mp h3⟩
  ·intro z
   refine ⟨λe=>lt_irrefl h (K.lt hh h hh ((K.back hh h hh).mpr (e ▸ z))),?_⟩
   rcases z with z|⟨o,ho,h1,h2⟩
   ·exact ⟨h,hh,z,.inl rfl⟩
   ·exact ⟨o,ho,h1,.inr ((ih _ (dec o ho h1) o rfl ho).mpr h2)⟩
end
section
variable (fs:List Nat)
noncomputable def fg (j:Nat):Nat:=fs.getD j 0
noncomputable def ew (j:Nat):Nat:=(fg fs j - (fg fs j &&& fg fs (6+j % 2))) % 2 ^ j
noncomputable def T3 (q j:Nat):Bool:=decide (q<j)&&((fg fs j).testBit q&&!(fg fs (6+j % 2)).testBit q)
noncomputable def n4 (l:List Nat) (t:Nat):Nat:=(et t).foldl (λacc o=>acc ||| l.getD o 0) t
noncomputable def al:Nat->List Nat
 |0=>[]
 |j+1=>al j++[n4 (al j) (ew fs j)]
noncomputable def A3 (q j:Nat):Bool:=((al fs 6).getD j 0).testBit q
theorem hY : ∀ j,(al fs j).length=j
 |0=>rfl
 |j+1=>by rw [al,length_append,hY j]; rfl
theorem nG : ∀ (k j:Nat),j<k->(al fs k).getD j 0=n4 (al fs j) (ew fs j)
 |k+1,j,h=>by
  rw [al,getD_eq_getElem?_getD]
  rcases Nat.lt_or_eq_of_le (le_of_lt_succ h) with h|h
  ·rw [getElem?_append_left (by rw [hY]; exact h),<-getD_eq_getElem?_getD]; exact nG k j h
  ·subst h; rw [getElem?_append_right (by rw [hY]; exact le_refl _),hY,sub_self]; rfl
end
theorem RX : ∀ a<64,∀ b<64,a - (a &&& b)=a ^^^ (a &&& b):=by decide +kernel
theorem RY {a b q:Nat} (ha:a<64) (hb:b<64):(a - (a &&& b)).testBit q=(a.testBit q&&!b.testBit q):=by
 rw [RX a ha b hb,Nat.testBit_xor,Nat.testBit_and]
 induction a.testBit q<;>cases b.testBit q<;>rfl
theorem B3 {l:List Nat} {q:Nat} : ∀ (os:List Nat) (t:Nat),(os.foldl (λacc o=>acc ||| l.getD o 0) t).testBit q=(t.testBit q||os.any λo=>(l.getD o 0).testBit q)
 |[],t=>(Bool.or_false _).symm
 |o::os,t=>by rw [foldl_cons,B3 os,Nat.testBit_or,any_cons,Bool.or_assoc]
section
variable {fs:List Nat} (bH : ∀ f∈fs,f<64)
include bH
theorem mv {j:Nat}:fg fs j<64:=by
 unfold fg
 rw [getD_eq_getElem?_getD]
 induction h:fs[j]? with
 |none=>decide
 |some f=>exact bH f (mem_of_getElem? h)
theorem uD {q j:Nat}:(ew fs j).testBit q=T3 fs q j:=by
 unfold ew T3
 rw [Nat.testBit_mod_two_pow,RY (mv bH) (mv bH)]
theorem yJ {j:Nat}:ew fs j<64:=lt_of_le_of_lt (Nat.mod_le _ _) (lt_of_le_of_lt (sub_le _ _) (mv bH))
theorem B5 {l:List Nat} (hl : ∀ o,l.getD o 0<64) : ∀ (os:List Nat) {t:Nat},t<64->os.foldl (λacc o=>acc ||| l.getD o 0) t<64
 |[],t,h=>h
 |o::os,t,h=>B5 hl os (Nat.or_lt_two_pow (n:=6) h (hl o))
theorem u6 : ∀ k o,(al fs k).getD o 0<64
 |0,o=>by rw [al,List.getD_nil]; decide
 |k+1,o=>by
  rw [al,getD_eq_getElem?_getD]
  by_cases h:o<k
  ·rw [getElem?_append_left (by rw [hY]; exact h),<-getD_eq_getElem?_getD]; exact u6 k o
  ·rw [getElem?_append_right (by rw [hY]; exact le_of_not_lt h),hY]
   induction o - k using Nat.casesOn with
   |zero=>exact B5 bH (u6 k) _ (yJ bH)
   |succ n=>exact (show 0<64 by decide)
theorem vr:jn (T3 fs) (A3 fs):=by
 refine ⟨λq j _ h=>?_,λq j hq hj=>?_⟩
 ·unfold T3 at h
  rw [and_eq_true,decide_eq_true_eq] at h
  exact h.1
 ·unfold A3
  rw [nG fs 6 j hj,n4,B3,or_eq_true,uD bH,any_eq_true]
  refine or_congr_right ⟨λ⟨o,h1,h2⟩=>?_,λ⟨o,ho,h1,h2⟩=>?_⟩
  ·obtain ⟨h3,h4⟩:=tY.mp h1
   rw [uD bH] at h4
   have w6:o<j:=by unfold T3 at h4; rw [and_eq_true,decide_eq_true_eq] at h4; exact h4.1
   exact ⟨o,h3,h4,by rw [nG fs 6 o h3,<-nG fs j o w6]; exact h2⟩
  ·have w6:o<j:=by unfold T3 at h1; rw [and_eq_true,decide_eq_true_eq] at h1; exact h1.1
   exact ⟨o,tY.mpr ⟨ho,by rw [uD bH]; exact h1⟩,by rw [nG fs j o w6,<-nG fs 6 o ho]; exact h2⟩
end
section
variable {A:Nat->Nat->Bool}
noncomputable def bp (A:Nat->Nat->Bool) (h:Nat):List Nat:=(List.range 6).filter λk=>A h k
noncomputable def bS (A:Nat->Nat->Bool) (h:Nat):List Nat:=(List.range 6).filter λk=>A k h
noncomputable def cH (A:Nat->Nat->Bool):List (Nat × Nat):=(List.range 6).flatMap λi=>((List.range 6).filter λj=>A i j).map λj=>(i,j)
theorem oO {i j:Nat}:(i,j)∈cH A↔i<6/\j<6/\A i j=true:=by
 unfold cH
 rw [List.mem_flatMap]
 constructor
 ·rintro ⟨a,ha,h⟩
  obtain ⟨b,hb,e⟩:=mem_map.mp h
  obtain ⟨rfl,rfl⟩:=Prod.mk.inj e
  obtain ⟨h1,h2⟩:=mem_filter.mp hb
  exact ⟨mem_range.mp ha,mem_range.mp h1,h2⟩
 ·rintro ⟨h1,h2,h3⟩
  exact ⟨i,mem_range.mpr h1,mem_map.mpr ⟨j,mem_filter.mpr ⟨mem_range.mpr h2,h3⟩,rfl⟩⟩
noncomputable def eR (A:Nat->Nat->Bool):List (Nat × Nat):=(cH A).flatMap λx=>((cH A).filter λy=>!A x.1 y.2&&!A y.1 x.2).map λy=>(x.1,y.1)
noncomputable def kM (A:Nat->Nat->Bool):Prop := ∀ a b c d,a<6->b<6->c<6->d<6->A a b=true->A c d=true->A a d=true\/A c b=true
theorem zD:eR A=[]↔kM A:=by
 unfold eR
 rw [List.flatMap_eq_nil_iff]
 constructor
 ·intro h a b c d ha hb hc hd h1 h2
  have:=h (a,b) (oO.mpr ⟨ha,hb,h1⟩)
  rw [List.map_eq_nil_iff,filter_eq_nil_iff] at this
  have:=this (c,d) (oO.mpr ⟨hc,hd,h2⟩)
  dsimp only at this
  induction e1:A a d with
  |true=>exact .inl rfl
  |false=>induction e2:A c b with
   |true=>exact .inr rfl
   |false=>rw [e1,e2] at this; exact absurd rfl this
 ·rintro h ⟨a,b⟩ hx
  rw [List.map_eq_nil_iff,filter_eq_nil_iff]
  rintro ⟨c,d⟩ hy
  obtain ⟨ha,hb,h1⟩:=oO.mp hx
  obtain ⟨hc,hd,h2⟩:=oO.mp hy
  dsimp only
  rcases h a b c d ha hb hc hd h1 h2 with e|e<;>rw [e]
  ·exact Bool.false_ne_true
  ·rw [Bool.not_true,Bool.and_false]; exact Bool.false_ne_true
theorem zC {R:Nat->Nat->Bool} {i k:Nat}:jq ((List.range 6).filter λq=>R i q) ((List.range 6).filter λq=>R k q)=true↔(∃ b,b<6/\R i b=true/\R k b=false)/\(∃ d,d<6/\R k d=true/\R i d=false):=by
 have one : ∀ i k,(!(((List.range 6).filter λq=>R i q).filter λx=>!decide (x∈(List.range 6).filter λq=>R k q)).isEmpty)=true ↔ ∃ b,b<6/\R i b=true/\R k b=false:=λi k=>by
  rw [not_eq_true',<-not_eq_true,isEmpty_iff,filter_eq_nil_iff]
  constructor
  ·intro h
   obtain ⟨b,hb⟩:=Classical.not_forall.mp h
   obtain ⟨h1,h2⟩:=Classical.not_imp.mp hb
   obtain ⟨h3,h4⟩:=mem_filter.mp h1
   refine ⟨b,mem_range.mp h3,h4,eq_false_iff.mpr λz=>h2 λy=>?_⟩
   rw [decide_eq_true (mem_filter.mpr ⟨h3,z⟩)] at y
   exact Bool.false_ne_true y
  ·rintro ⟨b,h1,h2,h3⟩ h
   refine h b (mem_filter.mpr ⟨mem_range.mpr h1,h2⟩) ?_
   rw [decide_eq_false λz=>by rw [mem_filter,h3] at z; exact Bool.false_ne_true z.2]; rfl
 unfold jq
 rw [and_eq_true,one,one]
theorem CA {f:Nat->List Nat} : ∀ k<6,((List.range 6).map f).getD k []=f k:=λk hk=>by
 rw [getD_eq_getElem?_getD,getElem?_map,getElem?_range hk]; rfl
theorem Eo {R:Nat->Nat->Bool}:kr ((List.range 6).map λi=>(List.range 6).filter λq=>R i q)=true↔kM R:=by
 have ht : ∀ k,k<6->((List.range 6).map λi=>(List.range 6).filter λq=>R i q).take k=(List.range k).map λi=>(List.range 6).filter λq=>R i q:=λk hk=>by
  rw [<-map_take,List.take_range,min_eq_left (le_of_lt hk)]
 unfold kr
 rw [all_eq_true]
 constructor
 ·intro h a b c d ha hb hc hd h1 h2
  have key : ∀ i k,i<k->k<6->¬ ((∃ b,b<6/\R i b=true/\R k b=false)/\(∃ d,d<6/\R k d=true/\R i d=false)):=λi k Lo hk z=>by
   have:=h k (mem_range.mpr hk)
   rw [ht k hk,CA k hk,all_eq_true] at this
   have:=this _ (mem_map_of_mem (mem_range.mpr Lo))
   rw [not_eq_true',<-not_eq_true] at this
   exact this (zC.mpr z)
  induction e1:R a d with
  |true=>exact .inl rfl
  |false=>induction e2:R c b with
   |true=>exact .inr rfl
   |false=>
    rcases Nat.lt_trichotomy a c with z|z|z
    ·exact absurd ⟨⟨b,hb,h1,e2⟩,⟨d,hd,h2,e1⟩⟩ (key a c z hc)
    ·subst z; rw [h1] at e2; exact absurd e2.symm Bool.false_ne_true
    ·exact absurd ⟨⟨d,hd,h2,e1⟩,⟨b,hb,h1,e2⟩⟩ (key c a z ha)
 ·intro h k hk
  have hk:=mem_range.mp hk
  rw [ht k hk,CA k hk,all_eq_true]
  intro row i7
  obtain ⟨i,hi,rfl⟩:=mem_map.mp i7
  have hi:=lt_trans (mem_range.mp hi) hk
  rw [not_eq_true',<-not_eq_true]
  intro z
  obtain ⟨⟨b,hb,h1,h2⟩,⟨d,hd,h3,h4⟩⟩:=zC.mp z
  rcases h i b k d hi hb hk hd h1 h3 with e|e
  ·rw [e] at h4; exact Bool.false_ne_true h4.symm
  ·rw [e] at h2; exact Bool.false_ne_true h2.symm
theorem Ep:kM (λi q=>A q i)↔kM A:=
 ⟨λh a b c d ha hb hc hd h1 h2=>(h b a d c hb ha hd hc h1 h2).symm,λh a b c d ha hb hc hd h1 h2=>(h b a d c hb ha hd hc h1 h2).symm⟩
end
noncomputable def c9 (l:List Nat):Nat:=(l.map λk=>2 ^ k).sum
noncomputable def sC (b0 b1 b2 b3 b4 b5:Bool):List Nat:=(List.range 6).filter λk=>[b0,b1,b2,b3,b4,b5].getD k false
theorem Cj : ∀ b0 b1 b2 b3 b4 b5:Bool,et (c9 (sC b0 b1 b2 b3 b4 b5))=sC b0 b1 b2 b3 b4 b5/\c9 (sC b0 b1 b2 b3 b4 b5)<64:=by decide +kernel
theorem Ci (p:Nat->Bool):(List.range 6).filter p=sC (p 0) (p 1) (p 2) (p 3) (p 4) (p 5):=filter_congr λk hk=>by
 rcases D9 k (mem_range.mp hk) with rfl|rfl|rfl|rfl|rfl|rfl<;>rfl
theorem Fp (p:Nat->Bool):et (c9 ((List.range 6).filter p))=(List.range 6).filter p:=by rw [Ci]; exact (Cj _ _ _ _ _ _).1
theorem yh (p:Nat->Bool):c9 ((List.range 6).filter p)<64:=by rw [Ci]; exact (Cj _ _ _ _ _ _).2
section
variable {A:Nat->Nat->Bool}
theorem Bd {l:List Nat} (h : ∀ x∈l,x<7):dc (nz l)=num 7 λu=>decide (u∈l):=by
 have:=xQ (l:=ct (nz l)) (k:=((List.range 7).filter λu=>decide (u∈l)).map λu:Nat=>(u:Int)) ED (tV (nodup_range.filter _) λx _ y _ e=>ofNat.inj e) λx=>by
  rw [xH,mem_map]
  unfold nz
  rw [mem_map]
  constructor
  ·rintro ⟨a,ha,e⟩
   exact ⟨a,mem_filter.mpr ⟨mem_range.mpr (h a ha),decide_eq_true ha⟩,e⟩
  ·rintro ⟨a,ha,e⟩
   exact ⟨a,of_decide_eq_true (mem_filter.mp ha).2,e⟩
 rw [length_map] at this
 exact this
theorem N9 (N:kM A) {i i':Nat} (hi:i<6) (iq:i'<6) (h:bz A i=bz A i'):bp A i=bp A i':=by
 have sub : ∀ {i i'},i<6->i'<6->bz A i<=bz A i'->∀ j,j<6->A i j=true->A i' j=true:=λ{i i'} hi iq h=>by
  by_cases hs : ∀ j,j<6->A i j=true->A i' j=true
  ·exact hs
  ·obtain ⟨j,hj⟩:=Classical.not_forall.mp hs
   obtain ⟨h1,h2⟩:=Classical.not_imp.mp hj
   obtain ⟨h2,h3⟩:=Classical.not_imp.mp h2
   refine EG (λx hx qa=>?_) h
   exact (N i j i' x hi h1 iq hx h2 qa).resolve_right h3
 refine filter_congr λj hj=>?_
 have hj:=mem_range.mp hj
 rw [Bool.eq_iff_iff]
 exact ⟨sub hi iq (le_of_eq h) j hj,sub iq hi (le_of_eq h.symm) j hj⟩
theorem Be (N:kM A):dc (((List.range 6).map λh=>c9 (bp A h)).map aK)=num 7 (cY A):=by
 rw [map_map]
 have:=IJ (f:=aK∘λh=>c9 (bp A h)) (g:=λh=>((bz A h:Nat):Int)) (l:=List.range 6) λx hx y hy=>by
  have hx:=mem_range.mp hx
  have hy:=mem_range.mp hy
  constructor
  ·intro e
   have e1:=QG _ (yh _) _ (yh _) e
   have e2:bp A x=bp A y:=by
    have:=congrArg et e1
    unfold bp at this ⊢
    rw [Fp,Fp] at this
    exact this
   exact congrArg (λl:List Nat=>((l.length:Nat):Int)) e2
  ·intro e
   exact congrArg (λl=>aK (c9 l)) (N9 N hx hy (ofNat.inj e))
 rw [this,show (List.range 6).map (λh=>((bz A h:Nat):Int))=nz ((List.range 6).map (bz A)) by unfold nz; rw [map_map]; rfl,
  Bd λx hx=>by obtain ⟨a,_,rfl⟩:=mem_map.mp hx; exact lt_succ_of_le m7]
 refine lK λu _=>?_
 rw [Bool.eq_iff_iff,decide_eq_true_eq,jH,mem_map]
 exact ⟨λ⟨i,a,b⟩=>⟨i,mem_range.mp a,b⟩,λ⟨i,a,b⟩=>⟨i,mem_range.mpr a,b⟩⟩
noncomputable def gz (rows:List (List Nat)) (row:List Nat):Nat:=dc (nz ((rows.filter λl=>decide (l.length<row.length)).map λl=>l.length))
theorem zQ {h:Nat}:gz ((List.range 6).map (bp A)) (bp A h)=num 7 λv=>cY A v&&decide (v<bz A h):=by
 unfold gz
 rw [Bd λx hx=>by
  obtain ⟨l,hl,rfl⟩:=mem_map.mp hx
  obtain ⟨i,_,rfl⟩:=mem_map.mp (mem_filter.mp hl).1
  exact lt_succ_of_le m7]
 refine lK λu _=>?_
 rw [Bool.eq_iff_iff,decide_eq_true_eq,and_eq_true,jH,decide_eq_true_eq,mem_map]
 constructor
 ·rintro ⟨l,hl,e⟩
  obtain ⟨h1,h2⟩:=mem_filter.mp hl
  obtain ⟨i,hi,rfl⟩:=mem_map.mp h1
  rw [decide_eq_true_eq,e] at h2
  exact ⟨⟨i,mem_range.mp hi,e⟩,h2⟩
 ·rintro ⟨⟨i,hi,e⟩,h2⟩
  exact ⟨bp A i,mem_filter.mpr ⟨mem_map_of_mem (mem_range.mpr hi),by rw [decide_eq_true_eq]; exact lt_of_le_of_lt (le_of_eq e) h2⟩,e⟩
theorem JI {T:Nat->Nat->Bool} (K:jn T A) (N:kM A):dc (((List.range 6).map λh=>c9 (bp A h)).map aK)=dc (((List.range 6).map λh=>c9 (bS A h)).map aK)/\
  ∀ i j,i<6->j<6->(A i j=true↔dc (((List.range 6).map λh=>c9 (bS A h)).map aK)<=gz ((List.range 6).map (bp A)) (bp A i)+gz ((List.range 6).map (bS A)) (bS A j)):=by
 have F:ez A:=⟨N,λj hj=>eq_false_iff.mpr λz=>absurd (K.lt (by decide) j hj z) (not_lt.mpr (le_of_lt_succ hj)),λi hi=>eq_false_iff.mpr λz=>not_lt_zero _ (K.lt hi 0 (by decide) z)⟩
 have hc : ∀ v,cY (λi q=>A q i) v=fm A v:=λ_=>rfl
 have e1:=Be N
 have e2:dc (((List.range 6).map λh=>c9 (bS A h)).map aK)=num 7 (fm A):=Be (Ep.mpr N)
 refine ⟨by rw [e1,e2,F.kinds],λi j hi hj=>?_⟩
 rw [e2,zQ,F.main hi hj]
 have e3:gz ((List.range 6).map (bS A)) (bS A j)=num 7 λu=>fm A u&&decide (u<eW A j):=zQ (A:=λi q=>A q i)
 rw [e3]
end
end Mine.Lake
end
section
open PySem PyProof.Rows
namespace Mine.Lake
noncomputable abbrev Q3:aR:=PP (bD::bK::r3)
theorem cl3_0 {cl:Calls} {n:Nat} (h:cl=⟨aA Q3 10000 n,10000⟩):cl.fuel≠0:=by rw [h]; exact succ_ne_zero _
noncomputable def iD (fs:List Nat) (j:Nat):List Nat:=(List.range 6).filter λq=>T3 fs q j
noncomputable def nB (fs:List Nat) (j:Nat):List Nat:=(List.range 6).filter λo=>T3 fs j o
theorem MT {rows:List (List Nat)} {k:Nat} {l:List Nat} (h:rows[k]?=some l) (hk:k<1000) {C:af}:gg C (.lst (aH rows)) (dN k)=some (.lst ((nz l).map .int)):=by
 rw [iB]
 exact oD hk (by rw [getElem?_map,h]; rfl)
theorem n7 {α:Type} {f:Nat->α} {k:Nat} (hk:k<6):((List.range 6).map f)[k]?=some (f k):=by rw [getElem?_map,getElem?_range hk]; rfl
section
variable {n:Nat} {m:List (Option D)} {C:af} {cl:Calls} {fs:List Nat}
theorem sA (hl:fs.length=8) {j:Nat} (hj:j<8):fs[j]?=some (fg fs j):=by
 unfold fg
 rw [getD_eq_getElem?_getD,getElem?_eq_getElem (by rw [hl]; exact hj)]; rfl
theorem N5 {j:Nat} (hj:j<6):(et (fg fs j)).filter (λx=>!decide (x∈et (fg fs (6+j % 2))++range' j (6 - j)))=iD fs j:=by
 unfold iD
 rw [show et (fg fs j)=(List.range 6).filter λq=>(fg fs j).testBit q from rfl,List.filter_filter]
 refine filter_congr λq hq=>?_
 have hq:=mem_range.mp hq
 unfold T3
 have e1:decide (q∈et (fg fs (6+j % 2))++range' j (6 - j))=((fg fs (6+j % 2)).testBit q||decide (j<=q)):=by
  rw [Bool.eq_iff_iff,decide_eq_true_eq,or_eq_true,decide_eq_true_eq,mem_append,tY,List.mem_range'_1,Nat.add_sub_cancel' (le_of_lt hj)]
  exact ⟨λh=>h.elim (λa=>.inl a.2) λa=>.inr a.1,λh=>h.elim (λa=>.inl ⟨hq,a⟩) λa=>.inr ⟨a,hq⟩⟩
 rw [e1]
 by_cases h:j<=q
 ·rw [decide_eq_true h,decide_eq_false (not_lt.mpr h),Bool.or_true]; rfl
 ·rw [decide_eq_false h,decide_eq_true (Nat.lt_of_not_le h),Bool.or_false,Bool.true_and,Bool.and_comm]
theorem N6 (au:cl=⟨aA Q3 10000 (n+2),10000⟩) (h7:m[7]?=some (some (.lst ((nz fs).map .int)))) (hl:27=m.length) (bH : ∀ f∈fs,f<64) (iZ:fs.length=8) :
  ∃ C',ev Q3 cl (.comp (.call (.cst (.fn 7)) (.cons (.call (.cst (.fn 18)) (.cons (.idx (.var 7) (.var 27)) .nil) .nil) (.cons (.bin .add (.call (.cst (.fn 18)) (.cons (.idx (.var 7) (.bin .add (.cst (.int 6)) (.bin .mod (.var 27) (.cst (.int 2))))) .nil) .nil) (.call (.cst (.bn .list)) (.cons (.call (.cst (.bn .range)) (.cons (.var 27) (.cons (.cst (.int 6)) .nil)) .nil) .nil) .nil)) .nil)) .nil) (.cons (.one 27) (dK 6) .nil .nil)) ⟨m,C⟩ =
   .ok (.lst (aH ((List.range 6).map (iD fs)))) ⟨m,C'⟩/\C <+: C':=by
 have hf:=cl3_0 au
 have:=Io (P:=Q3) (cl:=cl) (m:=m) (C:=C) (v:=27) (elt:=(.call (.cst (.fn 7)) (.cons (.call (.cst (.fn 18)) (.cons (.idx (.var 7) (.var 27)) .nil) .nil) (.cons (.bin .add (.call (.cst (.fn 18)) (.cons (.idx (.var 7) (.bin .add (.cst (.int 6)) (.bin .mod (.var 27) (.cst (.int 2))))) .nil) .nil) (.call (.cst (.bn .list)) (.cons (.call (.cst (.bn .range)) (.cons (.var 27) (.cons (.cst (.int 6)) .nil)) .nil) .nil) .nil)) .nil)) .nil)) (f:=λj=>.lst ((nz (iD fs j)).map .int)) hf hl λj hj C2 hp=>by
  have ql:j<8:=lt_trans hj (by decide)
  have cf:j % 2<2:=mod_lt _ (by decide)
  have lu:6+j % 2<8:=add_lt_add_left cf 6
  have yO:ev Q3 cl (.var 27) ⟨m++[some (dN j)],C2⟩=.ok (dN j) ⟨m++[some (dN j)],C2⟩:=ak (de hl)
  have v7:ev Q3 cl (.var 7) ⟨m++[some (dN j)],C2⟩=.ok (.lst ((nz fs).map .int)) ⟨m++[some (dN j)],C2⟩:=ak (cy h7)
  have o1:=vM (r0:=bD) (r:=r3) (n:=n+1) au (cN v7 yO ((iB).trans (gO (lt_trans ql (by decide)) (sA iZ ql)))) (mv bH)
  have o2:=vM (r0:=bD) (r:=r3) (n:=n+1) (e:=.idx (.var 7) (.bin .add (.cst (.int 6)) (.bin .mod (.var 27) (.cst (.int 2))))) au (cN v7 (bh (x:=dN 6) (y:=dN (j % 2)) rfl (bh (x:=dN j) (y:=dN 2) yO rfl (lM (by decide))) ji) ((iB).trans (gO (lt_trans lu (by decide)) (sA iZ lu)))) (mv bH)
  have Dx:=bh (op:=.add) o2 (Jn hf hj yO) (rQ (by rw [jf,jf,List.length_range']; exact le_trans (add_le_add ET (sub_le 6 j)) (le_of_ble_eq_true rfl)))
  rw [<-t9] at Dx
  have C5:=sj (r:=bD::bK::r3) (n:=n) au o1 Dx rfl rfl (lt_of_le_of_lt ET (by decide))
  rw [N5 hj] at C5
  exact ⟨_,C5,hW⟩
 obtain ⟨C',e,hp⟩:=this
 exact ⟨C',by rw [e]; unfold aH; rw [map_map]; rfl,hp⟩
theorem Sm (au:cl=⟨aA Q3 10000 n,10000⟩) (h9:m[9]?=some (some (.lst (aH ((List.range 6).map (iD fs)))))) (hl:27=m.length) :
  ev Q3 cl (.comp (.comp (.var 28) (.cons (.one 28) (dK 6) (.cons (.cmp .eK (.var 27) (.idx (.var 9) (.var 28))) .nil) .nil)) (.cons (.one 27) (dK 6) .nil .nil)) ⟨m,C⟩=.ok (.lst (aH ((List.range 6).map (nB fs)))) ⟨m,C⟩:=by
 have hf:=cl3_0 au
 have:=AW (P:=Q3) (cl:=cl) (m:=m) (C:=C) (v:=27) (elt:=.comp (.var 28) (.cons (.one 28) (dK 6) (.cons (.cmp .eK (.var 27) (.idx (.var 9) (.var 28))) .nil) .nil)) (ifs:=.nil) (f:=λj=>.lst ((nz (nB fs j)).map .int)) (p:=λ_=>true) hf hl (λ_ _=>rfl) λj hj _=>by
  have dj:28=(m++[some (dN j)]).length:=by rw [length_append,<-hl]; rfl
  have:=AW (P:=Q3) (cl:=cl) (m:=m++[some (dN j)]) (C:=C) (v:=28) (elt:=.var 28) (ifs:=.cons (.cmp .eK (.var 27) (.idx (.var 9) (.var 28))) .nil) (f:=dN) (p:=λo=>T3 fs j o) hf dj (λo ho=>mn (bY (x:=dN j) (ak (cy (de hl))) (cN (ak (cy (cy h9))) (ak (d:=dN o) (de dj)) (MT (n7 ho) (lt_trans ho (by decide)))) (by
    show gP (dN j) ((nz (iD fs o)).map .int)=_
    rw [DK]
    refine congrArg some ?_
    rw [Bool.eq_iff_iff,decide_eq_true_eq]
    unfold iD
    rw [mem_filter,mem_range]
    exact ⟨λh=>h.2,λh=>⟨hj,h⟩⟩))) λo ho _=>ak (de dj)
  rw [this]
  unfold nB nz
  rw [map_map]; rfl
 rw [this,filter_eq_self.mpr (λ_ _=>rfl)]
 unfold aH
 rw [map_map]; rfl
end
theorem Pk {R:Nat->Nat->Bool}:kA ((List.range 6).map λk:Nat=>jI R k)=.lst (aH ((List.range 6).map λk=>(List.range 6).filter λq=>R k q)):=by
 unfold aH
 rw [map_map]
 show D.lst (((List.range 6).map λk:Nat=>jI R k).map λl=>D.lst (l.map .int))=_
 rw [map_map]; rfl
theorem Pl {R:Nat->Nat->Bool} {rk:Int->Int} (hd : ∀ k q:Nat,k<6->q<6->R k q=true->rk q<rk k):zo ((List.range 6).map λk:Nat=>jI R k) (jI R) rk:=by
 refine ⟨λj hj C=>?_,λj hj=>?_,λj hj q hq=>?_,λj hj q hq=>?_⟩
 ·obtain ⟨k,hk,rfl⟩:=mX.mp hj
  exact MS (n7 hk) (lt_trans hk (by decide))
 ·exact tV (nodup_range.filter _) λx _ y _ e=>ofNat.inj e
 ·obtain ⟨k,hk,rfl⟩:=mX.mp hj
  obtain ⟨a,h1,h2,_⟩:=tX.mp hq
  exact mX.mpr ⟨a,h1,h2⟩
 ·obtain ⟨k,hk,rfl⟩:=mX.mp hj
  obtain ⟨a,h1,rfl,h3⟩:=tX.mp hq
  exact hd k a hk h1 h3
theorem Sd {l:List Int} (h : ∀ x∈l,x∈U6):l=nz (l.map Int.toNat):=by
 unfold nz
 rw [map_map]
 refine (map_id l).symm.trans (map_congr_left λx hx=>?_)
 obtain ⟨k,_,rfl⟩:=mX.mp (h x hx)
 rfl
section
variable {n:Nat} {m:List (Option D)} {C:af} {cl:Calls} {R:Nat->Nat->Bool}
theorem Fo {rk:Int->Int} (au:cl=⟨aA Q3 10000 (n+4),10000⟩) (hd : ∀ k q:Nat,k<6->q<6->R k q=true->rk q<rk k) {v:Nat} (hv:m[v]?=some (some (.lst (aH ((List.range 6).map λk=>(List.range 6).filter λq=>R k q))))) {h:Nat} (ig:m[14]?=some (some (dN h))) (hh:h<6) :
  ∃ cj C',ev Q3 cl (.call (.cst (.fn 7)) (.cons (.list (.cons (.cst (.int 0)) (.cons (.cst (.int 1)) (.cons (.cst (.int 2)) (.cons (.cst (.int 3)) (.cons (.cst (.int 4)) (.cons (.cst (.int 5)) .nil))))))) (.cons (.bin .add (.call (.cst (.fn 20)) (.cons (.var v) (.cons (.var 14) .nil)) .nil) (.list (.cons (.var 14) .nil))) .nil)) .nil) ⟨m,C⟩ =
   .ok (.lst ((nz ((List.range 6).filter λk:Nat=>decide ((k:Int) ∉ cj/\k≠h))).map .int)) ⟨m,C'⟩/\C <+: C'/\nD (jI R) U6 (h:Int) cj:=by
 obtain ⟨m1,C1,cj,e1,p1,K⟩:=H0 (Pl hd) (held:=(h:Int)) (mX.mpr ⟨h,hh,rfl⟩) (n:=n) (C:=C)
 have Dp:cj=nz (cj.map Int.toNat):=Sd λx hx=>(K.fi x hx).1
 have hlen:cj.length<=6:=ek K.iE λx hx=>(K.fi x hx).1
 have a1:ev Q3 cl (.call (.cst (.fn 20)) (.cons (.var v) (.cons (.var 14) .nil)) .nil) ⟨m,C⟩=.ok (.lst (cj.map .int)) ⟨m,C1⟩:=by
  subst au
  rw [Pk] at e1
  exact iP (k:=20) (aa:=⟨m1,C1⟩) rfl (iQ (ak hv) (ak (d:=dN h) ig)) e1
 have a2:=bh (op:=.add) a1 (BJ (ak (C:=C1) (d:=dN h) ig)) (rQ (xs:=cj) (ys:=nz [h]) (le_trans (add_le_add_right hlen 1) (le_of_ble_eq_true rfl)))
 rw [Dp,<-t9] at a2
 have a3:=sj (r:=bD::bK::r3) (n:=n+2) (C:=C) (e1:=(.list (.cons (.cst (.int 0)) (.cons (.cst (.int 1)) (.cons (.cst (.int 2)) (.cons (.cst (.int 3)) (.cons (.cst (.int 4)) (.cons (.cst (.int 5)) .nil)))))))) (a:=.lst ((nz (List.range 6)).map .int)) (xs:=List.range 6) au rfl a2 rfl rfl (by decide)
 have e:(List.range 6).filter (λx=>!decide (x∈cj.map Int.toNat++[h]))=(List.range 6).filter λk:Nat=>decide ((k:Int) ∉ cj/\k≠h):=filter_congr λk _=>by
  rw [Bool.eq_iff_iff,not_eq_true',decide_eq_false_iff_not,decide_eq_true_eq,mem_append,mem_singleton,not_or]
  have:(k:Int)∈cj↔k∈cj.map Int.toNat:=by
   have h2:=xI (l:=cj.map Int.toNat) (k:=k)
   rw [<-Dp,Bool.eq_iff_iff,contains_iff_mem,decide_eq_true_eq] at h2
   exact h2
  rw [this]
 rw [e] at a3
 exact ⟨cj,_,a3,p1.trans hW,K⟩
end
section
variable {n:Nat} {cl:Calls} {fs:List Nat} {mk:Option D->List (Option D)} {a b:Nat}
theorem ur {l:List (List Nat)}:(aH l).length=l.length:=length_map _
theorem yi {l k:List (List Nat)}:aH (l++k)=aH l++aH k:=map_append
theorem K7 (au:cl=⟨aA Q3 10000 (n+4),10000⟩) (bH : ∀ f∈fs,f<64) {m:List (Option D)} {h:Nat} (h9:m[9]?=some (some (.lst (aH ((List.range 6).map (iD fs)))))) (j5:m[11]?=some (some (.lst (aH ((List.range 6).map (nB fs))))))
  (cX:m[12]?=some (some (.loc a))) (di:m[13]?=some (some (.loc b))) (ig:m[14]?=some (some (dN h))) (eF:a≠b) (hh:h<6) {C:af} {L E:List (List Nat)} (hL:C[a]?=some (.list (aH L))) (hE:C[b]?=some (.list (aH E))) (lL:L.length<1000) (lE:E.length<1000) :
  ∃ C',av Q3 cl c3law_4 ⟨m,C⟩=.ok .next ⟨m,C'⟩/\C'[a]?=some (.list (aH (L++[bp (A3 fs) h])))/\C'[b]?=some (.list (aH (E++[bS (A3 fs) h]))):=by
 have K:=vr bH
 refine cps λQQ kQ=>?_
 obtain ⟨c1,C1,e1,p1,k1⟩:=Fo (R:=λk q=>T3 fs q k) (rk:=λx=>x) au (λk q hk _ hr=>ofNat_lt.mpr (K.down q k hk hr)) (v:=9) (m:=m) (C:=C) h9 ig hh
 have L6:(List.range 6).filter (λk:Nat=>decide ((k:Int) ∉ c1/\k≠h))=bp (A3 fs) h:=filter_congr λk hk=>by
  rw [Bool.eq_iff_iff,decide_eq_true_eq]; exact Nn K hh k1 k (mem_range.mp hk)
 rw [L6] at e1
 have sJ:=dY p1 hL
 have s1:=mq (P:=Q3) (cl:=cl) (v:=12) (m:=m) cX hL e1 sJ (by rw [ur]; exact lt_trans lL (by decide))
 have sL:(C1.set a (.list (aH L++[.lst ((nz (bp (A3 fs) h)).map .int)])))[a]?=some (.list (aH (L++[bp (A3 fs) h]))):=by rw [yi]; exact iK sJ
 have pV:(C1.set a (.list (aH L++[.lst ((nz (bp (A3 fs) h)).map .int)])))[b]?=some (.list (aH E)):=gy (dY p1 hE) (Ne.symm eF)
 obtain ⟨c2,C2,e2,p2,k2⟩:=Fo (R:=T3 fs) (rk:=λx => -x) au (λk q _ hq hr=>Int.neg_lt_neg (ofNat_lt.mpr (K.down k q hq hr))) (v:=11) (m:=m) (C:=C1.set a (.list (aH L++[.lst ((nz (bp (A3 fs) h)).map .int)]))) j5 ig hh
 have L8:(List.range 6).filter (λk:Nat=>decide ((k:Int) ∉ c2/\k≠h))=bS (A3 fs) h:=filter_congr λk hk=>by
  rw [Bool.eq_iff_iff,decide_eq_true_eq]; exact Jb K hh k2 _ k rfl (mem_range.mp hk)
 rw [L8] at e2
 have CI:=dY p2 pV
 have s2:=mq (P:=Q3) (cl:=cl) (v:=13) (m:=m) di pV e2 CI (by rw [ur]; exact lt_trans lE (by decide))
 exact kQ ⟨_,aP s1 (cu s2),gy (dY p2 sL) eF,by rw [yi]; exact iK CI⟩
theorem CV (au:cl=⟨aA Q3 10000 (n+4),10000⟩) (bH : ∀ f∈fs,f<64) (h9 : ∀ x,(mk x)[9]?=some (some (.lst (aH ((List.range 6).map (iD fs)))))) (j5 : ∀ x,(mk x)[11]?=some (some (.lst (aH ((List.range 6).map (nB fs))))))
  (cX : ∀ x,(mk x)[12]?=some (some (.loc a))) (di : ∀ x,(mk x)[13]?=some (some (.loc b))) (ig : ∀ d,(mk (some d))[14]?=some (some d)) (hb : ∀ x d,fY (.one 14) d (mk x)=some (mk (some d))) (eF:a≠b) : ∀ (hs:List Nat) {C:af} {L E:List (List Nat)} {x:Option D},(∀ h∈hs,h<6)->C[a]?=some (.list (aH L))->C[b]?=some (.list (aH E))->L.length+hs.length<1000->E.length+hs.length<1000->
  ∃ x' C',forLoop (λA B=>aW A B (.ck 0 6)) (.one 14) (λst=>av Q3 cl c3law_4 st) (hs.map dN) ⟨mk x,C⟩=.ok .next ⟨mk x',C'⟩/\C'[a]?=some (.list (aH (L++hs.map (bp (A3 fs)))))/\C'[b]?=some (.list (aH (E++hs.map (bS (A3 fs)))))
 |[],C,L,E,x,_,hL,hE,_,_=>⟨x,C,rfl,by rw [map_nil,append_nil]; exact hL,by rw [map_nil,append_nil]; exact hE⟩
 |h::hs,C,L,E,x,hh,hL,hE,lL,lE=>by
  obtain ⟨C1,e1,sJ,Kt⟩:=K7 (n:=n) au bH (h9 (some (dN h))) (j5 _) (cX _) (di _) (ig (dN h)) eF (hh h (.head _)) hL hE (lt_of_le_of_lt (le_add_right _ _) lL) (lt_of_le_of_lt (le_add_right _ _) lE)
  have one : ∀ {l:List (List Nat)} {y:List Nat},l.length+(h::hs).length<1000->(l++[y]).length+hs.length<1000:=λ{l y} z=>by rw [length_append,add_assoc,add_comm [y].length]; exact z
  obtain ⟨x',C2,e2,sL,pV⟩:=CV au bH h9 j5 cX di ig hb eF hs (x:=some (dN h)) (λk hk=>hh k (.tail _ hk)) sJ Kt (one lL) (one lE)
  rw [append_assoc] at sL pV
  exact ⟨x',C2,(eE (hb _ _) e1 rfl).trans e2,sL,pV⟩
end
theorem Jv {P:aR} {cl:Calls} {n:Nat} {e:E} {d:D} {m:List (Option D)} {C:af} {st:St} (h:ev P cl e st=.ok d ⟨m,C⟩) (hn:n<m.length) (hf:cO e=false):ex P cl (.aN n true e) st=.ok .next ⟨m.set n (some d),C⟩:=
 (aQ (a:=d) ((aQ h).trans (by rw [hf]; rfl))).trans (aQ (lQ hn))
section
variable {n:Nat} {cl:Calls} {fs:List Nat} {mk:Option D->Option D->Option D->Option D->List (Option D)} {c:Nat}
structure kI (mk:Option D->Option D->Option D->Option D->List (Option D)) (fs:List Nat) (c:Nat):Prop where
 l : ∀ x y z w,18<=(mk x y z w).length
 f : ∀ x y z w,(mk x y z w)[7]?=some (some (.lst ((nz fs).map .int)))
 c : ∀ x y z w,(mk x y z w)[15]?=some (some (.loc c))
 g8 : ∀ d y z w,(mk (some d) y z w)[8]?=some (some d)
 JY : ∀ x d z w,(mk x (some d) z w)[10]?=some (some d)
 Cv : ∀ x y d w,(mk x y (some d) w)[16]?=some (some d)
 Cw : ∀ x y z d,(mk x y z (some d))[17]?=some (some d)
 s8 : ∀ x y z w d,(mk x y z w).set 8 (some d)=mk (some d) y z w
 Pr : ∀ x y z w d,(mk x y z w).set 10 (some d)=mk x (some d) z w
 Pt : ∀ x y z w d,(mk x y z w).set 16 (some d)=mk x y (some d) w
 Fu : ∀ x y z w d,(mk x y z w).set 17 (some d)=mk x y z (some d)
theorem kI.b8 (Q:kI mk fs c) {x y z w:Option D} {d:D}:fY (.one 8) d (mk x y z w)=some (mk (some d) y z w):=by
 rw [<-Q.s8 x y z w d]; exact if_pos (lt_of_lt_of_le (by decide) (Q.l _ _ _ _))
theorem kI.Ht (Q:kI mk fs c) {x y z w:Option D} {d:D}:fY (.one 10) d (mk x y z w)=some (mk x (some d) z w):=by
 rw [<-Q.Pr x y z w d]; exact if_pos (lt_of_lt_of_le (by decide) (Q.l _ _ _ _))
theorem B4 (Q:kI mk fs c) {C:af} {l:List Nat} (hC:C[c]?=some (.list ((nz l).map .int))) (hl : ∀ o,l.getD o 0<64) (hlen:l.length<1000) {ys:List D} {x z:Option D} : ∀ (os:List Nat) {t:Nat} {y:Option D},(∀ o∈os,o<l.length)->t<64->
  ∃ y',forLoop (λA B=>aW A B (.lst ys)) (.one 10) (λst=>av Q3 cl c3law_6 st) (os.map dN) ⟨mk x y z (some (dN t)),C⟩=.ok .next ⟨mk x y' z (some (dN (os.foldl (λacc o=>acc ||| l.getD o 0) t))),C⟩
 |[],t,y,_,_=>⟨y,rfl⟩
 |o::os,t,y,ho,ht=>by
  have tg:=ho o (.head _)
  have e:l[o]?=some (l.getD o 0):=by rw [getD_eq_getElem?_getD,getElem?_eq_getElem tg]; rfl
  obtain ⟨y',ih⟩:=B4 Q hC hl hlen os (t:=t ||| l.getD o 0) (y:=some (dN o)) (λk hk=>ho k (.tail _ hk)) (Nat.or_lt_two_pow (n:=6) ht (hl o))
  refine ⟨y',(eE (aa:=⟨mk x (some (dN o)) z (some (dN (t ||| l.getD o 0))),C⟩) Q.Ht ?_ rfl).trans ih⟩
  rw [<-Q.Fu x (some (dN o)) z (some (dN t)) (dN (t ||| l.getD o 0))]
  exact cu (bx (bh (x:=dN t) (y:=dN (l.getD o 0)) (ak (Q.Cw _ _ _ _)) (cN (ak (d:=.loc c) (Q.c _ _ _ _)) (ak (d:=dN o) (Q.JY _ _ _ _)) ((mJ hC).trans (gO (lt_trans tg hlen) e))) (OK ht (hl o))) (lt_of_lt_of_le (by decide:17<18) (Q.l _ _ _ _)))
theorem G0 (au:cl=⟨aA Q3 10000 (n+1),10000⟩) (Q:kI mk fs c) (bH : ∀ f∈fs,f<64) (iZ:fs.length=8) {C:af} {j:Nat} (hj:j<6) (hC:C[c]?=some (.list ((nz (al fs j)).map .int))) {y z w:Option D} :
  ∃ y' z' w',av Q3 cl c3law_7 ⟨mk (some (dN j)) y z w,C⟩=.ok .next ⟨mk (some (dN j)) y' z' w',C.set c (.list ((nz (al fs (j+1))).map .int))⟩:=by
 have hf:=cl3_0 au
 have ql:j<8:=lt_trans hj (by decide)
 have lu:6+j % 2<8:=add_lt_add_left (mod_lt _ (by decide)) 6
 have v8:ev Q3 cl (.var 8) ⟨mk (some (dN j)) y z w,C⟩=.ok (dN j) ⟨mk (some (dN j)) y z w,C⟩:=ak (Q.g8 _ _ _ _)
 have v7:ev Q3 cl (.var 7) ⟨mk (some (dN j)) y z w,C⟩=.ok (.lst ((nz fs).map .int)) ⟨mk (some (dN j)) y z w,C⟩:=ak (Q.f _ _ _ _)
 have i1:ev Q3 cl (.idx (.var 7) (.var 8)) ⟨mk (some (dN j)) y z w,C⟩=.ok (dN (fg fs j)) ⟨mk (some (dN j)) y z w,C⟩:=cN v7 v8 ((iB).trans (gO (lt_trans ql (by decide)) (sA iZ ql)))
 have i2:ev Q3 cl (.idx (.var 7) (.bin .add (.cst (.int 6)) (.bin .mod (.var 8) (.cst (.int 2))))) ⟨mk (some (dN j)) y z w,C⟩=.ok (dN (fg fs (6+j % 2))) ⟨mk (some (dN j)) y z w,C⟩:=cN v7 (bh (x:=dN 6) (y:=dN (j % 2)) rfl (bh (x:=dN j) (y:=dN 2) v8 rfl (lM (by decide))) ji) ((iB).trans (gO (lt_trans lu (by decide)) (sA iZ lu)))
 have hle:fg fs j &&& fg fs (6+j % 2)<=fg fs j:=(EW _ (mv bH) _ (mv bH)).2
 have e1:ev Q3 cl (.bin .mod (.bin .sub (.idx (.var 7) (.var 8)) (.bin .and (.idx (.var 7) (.var 8)) (.idx (.var 7) (.bin .add (.cst (.int 6)) (.bin .mod (.var 8) (.cst (.int 2))))))) (.bin .pow (.cst (.int 2)) (.var 8))) ⟨mk (some (dN j)) y z w,C⟩=.ok (dN (ew fs j)) ⟨mk (some (dN j)) y z w,C⟩:=
  bh (bh i1 (bh i1 i2 OJ) (EV hle)) (bh (x:=dN 2) (y:=dN j) rfl v8 (uf (by decide) (le_of_lt (lt_trans hj (by decide))))) (lM (pow_pos (by decide)))
 have oz : ∀ o∈et (ew fs j),o<(al fs j).length:=λo ho=>by
  rw [hY]
  have:=(tY.mp ho).2
  rw [uD bH] at this
  exact (vr bH).down o j hj this
 obtain ⟨y',e2⟩:=B4 (cl:=cl) Q hC (u6 bH j) (by rw [hY]; exact lt_trans hj (by decide)) (ys:=(nz (et (ew fs j))).map .int) (x:=some (dN j)) (z:=some (dN (ew fs j))) (et (ew fs j)) (y:=y) oz (yJ bH)
 have e3:=vM (r0:=bD) (r:=r3) (e:=.var 16) (m:=mk (some (dN j)) y (some (dN (ew fs j))) (some (dN (ew fs j)))) (C:=C) au (ak (Q.Cv _ _ _ _)) (yJ bH)
 have e4:=f7 (P:=Q3) (cl:=cl) (t:=.one 10) (a:=c3law_6) (items:=(et (ew fs j)).map dN) hf e3 (by show some _=_; unfold nz; rw [map_map]; rfl)
 have e5:=mq (P:=Q3) (cl:=cl) (v:=15) (i:=c) (e:=.var 17) (C:=C) (m:=mk (some (dN j)) y' (some (dN (ew fs j))) (some (dN (n4 (al fs j) (ew fs j))))) (Q.c _ _ _ _) hC (ak (Q.Cw _ _ _ _)) hC (by rw [length_map,jf,hY]; exact lt_trans hj (by decide))
 have e6:(nz (al fs (j+1))).map D.int=(nz (al fs j)).map .int++[dN (n4 (al fs j) (ew fs j))]:=by rw [al,t9,map_append]; rfl
 rw [<-e6] at e5
 refine ⟨y',some (dN (ew fs j)),some (dN (n4 (al fs j) (ew fs j))),aP (Jv e1 (lt_of_lt_of_le (by decide) (Q.l _ _ _ _)) rfl) ?_⟩
 rw [Q.Pt]
 refine aP (bx (ak (Q.Cv _ _ _ _)) (lt_of_lt_of_le (by decide) (Q.l _ _ _ _))) ?_
 rw [Q.Fu]
 exact aP (e4.trans e2) (cu e5)
theorem GZ (au:cl=⟨aA Q3 10000 (n+1),10000⟩) (Q:kI mk fs c) (bH : ∀ f∈fs,f<64) (iZ:fs.length=8) {C:af} (hC:C[c]?=some (.list [])) {x y z w:Option D} :
  ∃ x' y' z' w',forLoop (λA B=>aW A B (.ck 0 6)) (.one 8) (λst=>av Q3 cl c3law_7 st) ((List.range 6).map dN) ⟨mk x y z w,C⟩=.ok .next ⟨mk x' y' z' w',C.set c (.list ((nz (al fs 6)).map .int))⟩:=by
 have main : ∀ (d j:Nat),j+d=6->∀ {x y z w:Option D},∃ x' y' z' w',forLoop (λA B=>aW A B (.ck 0 6)) (.one 8) (λst=>av Q3 cl c3law_7 st) ((range' j d).map dN) ⟨mk x y z w,C.set c (.list ((nz (al fs j)).map .int))⟩=.ok .next ⟨mk x' y' z' w',C.set c (.list ((nz (al fs 6)).map .int))⟩:=λd=>by
  induction d with
  |zero=>intro j hj x y z w; rw [Nat.add_zero] at hj; subst hj; exact ⟨x,y,z,w,rfl⟩
  |succ d ih=>
   intro j hj x y z w
   obtain ⟨y1,z1,w1,e1⟩:=G0 au Q bH iZ (C:=C.set c (.list ((nz (al fs j)).map .int))) (j:=j) (lt_of_lt_of_le (Nat.lt_add_of_pos_right (succ_pos d)) (le_of_eq hj)) (iK hC) (y:=y) (z:=z) (w:=w)
   obtain ⟨x2,y2,z2,w2,e2⟩:=ih (j+1) (by rw [add_assoc,add_comm 1]; exact hj) (x:=some (dN j)) (y:=y1) (z:=z1) (w:=w1)
   rw [set_set] at e1
   exact ⟨x2,y2,z2,w2,(eE Q.b8 e1 rfl).trans e2⟩
 have h0:C.set c (.list ((nz (al fs 0)).map .int))=C:=by
  refine ext_getElem? λi=>?_
  by_cases e:i=c
  ·subst e; rw [iK hC,hC]; rfl
  ·rw [getElem?_set_ne (Ne.symm e)]
 have:=main 6 0 rfl (x:=x) (y:=y) (z:=z) (w:=w)
 rw [h0] at this
 exact this
end
noncomputable abbrev bJ (x:Nat × Nat):D:=.tup [dN x.1,dN x.2]
theorem toPys_tups : ∀ (l:List (Nat × Nat)),toPys 7 (l.map bJ)=some (l.map λx=>.tuple [.int x.1,.int x.2])
 |[]=>rfl
 |x::l=>by
  show (toPy 7 (bJ x)).bind (λa=>(toPys 7 (l.map bJ)).map λb=>a::b)=_
  rw [toPys_tups l]; rfl
theorem BA : ∀ (l k:List (Nat × Nat)),PyData.eqvAll (l.map λx=>.tuple [.int x.1,.int x.2]) (k.map λx=>.tuple [.int x.1,.int x.2])=decide (l=k)
 |[],[]=>rfl
 |[],y::ys=>rfl
 |x::xs,[]=>rfl
 |x::xs,y::ys=>by
  show ((((x.1:Int)==y.1)&&(((x.2:Int)==y.2)&&true))&&PyData.eqvAll (xs.map λx=>.tuple [.int x.1,.int x.2]) (ys.map λx=>.tuple [.int x.1,.int x.2]))=_
  rw [BA xs ys,Bool.eq_iff_iff,and_eq_true,and_eq_true,and_eq_true,decide_eq_true_eq,decide_eq_true_eq,beq_iff_eq,beq_iff_eq,List.cons.injEq]
  refine and_congr_left λ_=>⟨λh=>Prod.ext (ofNat.inj h.1) (ofNat.inj h.2.1),λh=>by rw [h]; exact ⟨rfl,rfl,rfl⟩⟩
theorem By {l k:List (Nat × Nat)}:kZ (.lst (l.map bJ)) (.lst (k.map bJ))=some (decide (l=k)):=by
 show (((toPys 7 (l.map bJ)).map PyData.list).bind λx=>((toPys 7 (k.map bJ)).map PyData.list).map λy=>PyData.eqv x y)=_
 rw [toPys_tups,toPys_tups]
 show some (PyData.eqvAll _ _)=_
 rw [BA]
section
variable {P:aR} {cl:Calls} {st:St} {m:List (Option D)} {C:af}
theorem vx {l k:List (Nat × Nat)}:eX C .eq (.lst (l.map bJ)) (.lst (k.map bJ))=some (decide (l=k)):=By
theorem Ik {l k:List (Nat × Nat)}:eX C .ne (.lst (l.map bJ)) (.lst (k.map bJ))=some (!decide (l=k)):=by
 show (kZ (.lst (l.map bJ)) (.lst (k.map bJ))).map _=_
 rw [By]; rfl
theorem Jl {a b:E} {p q:Bool} (ha:ev P cl a st=.ok (.bool p) st) (hb:ev P cl b st=.ok (.bool q) st):ev P cl (.and a b) st=.ok (.bool (p&&q)) st:=by
 induction p with
 |true=>exact sh ha rfl hb
 |false=>exact BD ha rfl
theorem rR {v:Nat} {d:D} {C2:af} (hv:v=m.length):fF (.one v) d ⟨m++replicate (T.one v).width none,C2⟩=.ok () ⟨m++[some d],C2⟩:=by subst hv; exact vi
theorem z0 {v v1:Nat} {d1 d2:D} {C2:af} (hv:v=m.length) (h1:v1=m.length+1):fF (.many [v,v1]) (.tup [d1,d2]) ⟨m++replicate (T.many [v,v1]).width none,C2⟩=.ok () ⟨m++[some d1,some d2],C2⟩:=by subst hv; exact HM h1
theorem vO {a b:E} {x y:D} (ha:ev P cl a st=.ok x st) (hb:ev P cl b st=.ok y st):ev P cl (.tup (.cons a (.cons b .nil))) st=.ok (.tup [x,y]) st:=by
 show (match bG P cl (.cons a (.cons b .nil)) st with
  |.ok (.lst ds) aa=>if ds.length<=aD then (aj.ok (D.tup ds) aa:aj D) else .fail
  |.exc x aa=>.exc x aa
  |_=>.fail)=_
 rw [iQ ha hb]; exact if_pos (le_of_ble_eq_true rfl)
theorem E2 {A:Nat->Nat->Bool}:(cH A).length<=36:=by
 unfold cH
 rw [List.length_flatMap]
 have : ∀ l:List Nat,((l.map λi=>(((List.range 6).filter λj=>A i j).map λj=>(i,j)).length).sum)<=l.length*6:=λl=>by
  induction l with
  |nil=>exact le_refl _
  |cons a l ih=>
   rw [map_cons,List.sum_cons,length_cons,succ_mul,add_comm]
   exact add_le_add ih (by rw [length_map]; exact length_filter_le _ _)
 exact this (List.range 6)
theorem vz {ifs:Es} {p:Nat->Nat->Bool} (hf:cl.fuel≠0) (hl:27=m.length) (ht : ∀ i,i<6->∀ j,j<6->cW P cl ifs ⟨(m++[some (dN i)])++[some (dN j)],C⟩=.ok (.bool (p i j)) ⟨(m++[some (dN i)])++[some (dN j)],C⟩) :
  ev P cl (.comp (.tup (.cons (.var 27) (.cons (.var 28) .nil))) (.cons (.one 27) (dK 6) .nil (.cons (.one 28) (dK 6) ifs .nil))) ⟨m,C⟩=.ok (.lst ((cH p).map bJ)) ⟨m,C⟩:=by
 have dj : ∀ i,28=(m++[some (dN i)]).length:=λi=>by rw [length_append,<-hl]; rfl
 have:=vB (P:=P) (cl:=cl) (elt:=.tup (.cons (.var 27) (.cons (.var 28) .nil))) (it:=dK 6) (mQ:=dK 6) (ifs:=ifs) (y:=.ck 0 6) (y2:=λ_=>.ck 0 6) (t:=.one 27) (t2:=.one 28) (g:=dN) (g2:=dN) (bd:=λi=>[some (dN i)]) (jU:=λj=>[some (dN j)]) (ys:=λ_=>List.range 6) (p:=p) (f:=λi j=>bJ (i,j)) (m:=m) (C:=C) (xs:=List.range 6) (L:=6)
  hf (ml hf) rfl rfl (λi _ C2=>rR hl) (λ_ _=>ml hf) (λ_ _=>rfl) (λ_ _=>rfl) (λi _ j _ C2=>rR (dj i)) (λ_ _=>le_refl 6) (le_of_ble_eq_true rfl) (λi hi j hj=>ht i (mem_range.mp hi) j (mem_range.mp hj)) λi _ j _ _=>vO (ak (cy (de hl))) (ak (de (dj i)))
 rw [this]
 unfold cH
 rw [map_flatMap]
 refine congrArg (λl=>aj.ok (D.lst l) _) (congrArg (λf=>(List.range 6).flatMap f) (funext λi=>?_))
 rw [map_map]; rfl
theorem vL {c:Nat} {l:List Nat} (hC:C[c]?=some (.list ((nz l).map .int))) (hl:l.length=6) {e p:E} {i j:Nat} (lg:m[15]?=some (some (.loc c))) (he:ev P cl e ⟨m,C⟩=.ok (dN j) ⟨m,C⟩) (hp:ev P cl p ⟨m,C⟩=.ok (dN i) ⟨m,C⟩) (hj:j<6) (hi:i<6) {k:Nat} {bb:Bool} (hk:decide ((l.getD j 0) / 2 ^ i % 2=k)=bb) :
  ev P cl (.cmp .eq (.bin .mod (.bin .fdiv (.idx (.var 15) e) (.bin .pow (.cst (.int 2)) p)) (.cst (.int 2))) (.cst (dN k))) ⟨m,C⟩=.ok (.bool bb) ⟨m,C⟩:=by
 have e1:l[j]?=some (l.getD j 0):=by rw [getD_eq_getElem?_getD,getElem?_eq_getElem (by rw [hl]; exact hj)]; rfl
 exact bY (Jm (cN (ak (d:=.loc c) lg) he ((mJ hC).trans (gO (lt_trans hj (by decide)) e1))) hp (lt_trans hi (by decide))) (y:=dN k) rfl (by rw [AN,hk])
theorem OU {c:Nat} {l:List Nat} (hf:cl.fuel≠0) (hm:27=m.length) (hC:C[c]?=some (.list ((nz l).map .int))) (hl:l.length=6) (lg:m[15]?=some (some (.loc c))) :
  ev P cl (.comp (.tup (.cons (.var 27) (.cons (.var 28) .nil))) (.cons (.one 27) (dK 6) .nil (.cons (.one 28) (dK 6) (.cons (.cmp .eq (.bin .mod (.bin .fdiv (.idx (.var 15) (.var 28)) (.bin .pow (.cst (.int 2)) (.var 27))) (.cst (.int 2))) (.cst (.int 1))) .nil) .nil))) ⟨m,C⟩=.ok (.lst ((cH λi j=>(l.getD j 0).testBit i).map bJ)) ⟨m,C⟩:=
 vz hf hm λi hi j hj=>mn (vL (k:=1) hC hl (cy (cy lg)) (ak (de (by rw [length_append,<-hm]; rfl))) (ak (cy (de hm))) hj hi z8)
theorem G8 {c:Nat} {l:List Nat} (hf:cl.fuel≠0) (hm:27=m.length) (hC:C[c]?=some (.list ((nz l).map .int))) (hl:l.length=6) (lg:m[15]?=some (some (.loc c))) (ij:m[18]?=some (some (.lst ((cH λi j=>(l.getD j 0).testBit i).map bJ)))) :
  ev P cl (.comp (.tup (.cons (.var 27) (.cons (.var 29) .nil))) (.cons (.many [27,28]) (.var 18) .nil (.cons (.many [29,30]) (.var 18) (.cons (.and (.cmp .eq (.bin .mod (.bin .fdiv (.idx (.var 15) (.var 30)) (.bin .pow (.cst (.int 2)) (.var 27))) (.cst (.int 2))) (.cst (.int 0))) (.cmp .eq (.bin .mod (.bin .fdiv (.idx (.var 15) (.var 28)) (.bin .pow (.cst (.int 2)) (.var 29))) (.cst (.int 2))) (.cst (.int 0)))) .nil) .nil))) ⟨m,C⟩ =
   .ok (.lst ((eR λi j=>(l.getD j 0).testBit i).map bJ)) ⟨m,C⟩:=by
 obtain ⟨A,hA⟩ : ∃ A:Nat->Nat->Bool,A=λi j=>(l.getD j 0).testBit i:=⟨_,rfl⟩
 rw [<-hA] at ij ⊢
 have dj : ∀ x:Nat × Nat,29=(m++[some (dN x.1),some (dN x.2)]).length:=λx=>by rw [length_append,<-hm]; rfl
 have:=vB (P:=P) (cl:=cl) (elt:=.tup (.cons (.var 27) (.cons (.var 29) .nil))) (it:=.var 18) (mQ:=.var 18) (ifs:=.cons (.and (.cmp .eq (.bin .mod (.bin .fdiv (.idx (.var 15) (.var 30)) (.bin .pow (.cst (.int 2)) (.var 27))) (.cst (.int 2))) (.cst (.int 0))) (.cmp .eq (.bin .mod (.bin .fdiv (.idx (.var 15) (.var 28)) (.bin .pow (.cst (.int 2)) (.var 29))) (.cst (.int 2))) (.cst (.int 0)))) .nil)
  (y:=.lst ((cH A).map bJ)) (y2:=λ_=>.lst ((cH A).map bJ)) (t:=.many [27,28]) (t2:=.many [29,30]) (g:=bJ) (g2:=bJ) (bd:=λx:Nat × Nat=>[some (dN x.1),some (dN x.2)]) (jU:=λx:Nat × Nat=>[some (dN x.1),some (dN x.2)]) (ys:=λ_=>cH A) (p:=λx y=>!A x.1 y.2&&!A y.1 x.2) (f:=λx y=>bJ (x.1,y.1)) (m:=m) (C:=C) (xs:=cH A) (L:=36)
  hf (ak ij) rfl rfl (λx _ C2=>z0 hm (by rw [<-hm])) (λx _=>ak (cy ij)) (λ_ _=>rfl) (λ_ _=>rfl) (λx _ y _ C2=>z0 (dj x) (by rw [<-dj x])) (λ_ _=>E2) (lt_of_le_of_lt (add_le_add_right (mul_le_mul_right 36 E2) 36) (by decide)) (λx hx y hy=>?_) λx _ y _ _=>vO (ak (cy (de hm))) (ak (de (dj x)))
 ·rw [this]
  unfold eR
  rw [map_flatMap]
  refine congrArg (λl=>aj.ok (D.lst l) _) (congrArg (λf=>(cH A).flatMap f) (funext λx=>?_))
  rw [map_map]; rfl
 ·obtain ⟨a,b⟩:=x
  obtain ⟨c',d⟩:=y
  obtain ⟨h1,h2,_⟩:=oO.mp hx
  obtain ⟨h3,h4,_⟩:=oO.mp hy
  have b1:decide ((l.getD d 0) / 2 ^ a % 2=0)=!A a d:=by rw [z9,hA]
  have b2:decide ((l.getD b 0) / 2 ^ c' % 2=0)=!A c' b:=by rw [z9,hA]
  exact mn (Jl (vL (k:=0) hC hl (cy (cy lg)) (ak (zL (dj (a,b)))) (ak (cy (de hm))) h4 h1 b1) (vL (k:=0) hC hl (cy (cy lg)) (ak (cy (zL hm))) (ak (de (dj (a,b)))) h2 h3 b2))
end
theorem EI : ∀ l:List Nat,(nz l).sum=(l.sum:Int)
 |[]=>rfl
 |a::l=>by
  show (a:Int)+(nz l).sum=((a+l.sum:Nat):Int)
  rw [EI l]; rfl
section
variable {P:aR} {cl:Calls} {m:List (Option D)} {C:af}
theorem Js {e:E} {l:List Nat} (hf:cl.fuel≠0) (he:ev P cl e ⟨m,C⟩=.ok (.lst ((nz l).map .int)) ⟨m,C⟩) (hs : ∀ x∈l,x<2 ^ 32) (hl:l.length<=aD):ev P cl (.call (.cst (.bn .sum)) (.cons e .nil) .nil) ⟨m,C⟩=.ok (dN l.sum) ⟨m,C⟩:=
 df (g:=.bn .sum) rfl (bZ he) ((dJ hf).trans (by
  show aI (eh ((nz l).map .int)) (λxs=>bo (xs.all (λx=>decide (x.natAbs<2 ^ 32))&&decide (xs.length<=aD)) (.ok (.int xs.sum) ⟨m,C⟩))=_
  rw [oG]
  show bo ((nz l).all (λx=>decide (x.natAbs<2 ^ 32))&&decide ((nz l).length<=aD)) (.ok (.int (nz l).sum) ⟨m,C⟩)=_
  rw [jf,decide_eq_true hl,show (nz l).all (λx=>decide (x.natAbs<2 ^ 32))=true from all_eq_true.mpr λx hx=>by obtain ⟨k,hk,rfl⟩:=mem_map.mp hx; exact decide_eq_true (hs k hk),EI]; rfl))
theorem Jr {v w:Nat} {l:List Nat} (hf:cl.fuel≠0) (hv:v=m.length) (hw:m[w]?=some (some (.lst ((nz l).map .int)))) (hs : ∀ x∈l,x<6) (hl:l.length<1000):ev P cl (.call (.cst (.bn .sum)) (.cons (.comp (.bin .pow (.cst (.int 2)) (.var v)) (.cons (.one v) (.var w) .nil .nil)) .nil) .nil) ⟨m,C⟩=.ok (dN (c9 l)) ⟨m,C⟩:=by
 have:=nW (P:=P) (cl:=cl) (elt:=.bin .pow (.cst (.int 2)) (.var v)) (ifs:=.nil) (it:=.var w) (k:=v) (m:=m) (C:=C) (xs:=l) (g:=dN) (f:=λk=>dN (2 ^ k)) (p:=λ_=>true) hf hv (ak hw) (by show some ((nz l).map D.int)=_; unfold nz; rw [map_map]; rfl) (lt_trans hl (by decide)) rfl (λ_ _=>rfl)
  λk hk _=>bh (x:=dN 2) (y:=dN k) rfl (ak (de hv)) (uf (by decide) (le_of_lt (lt_trans (hs k hk) (by decide))))
 rw [filter_eq_self.mpr (λ_ _=>rfl),show l.map (λk=>dN (2 ^ k))=(nz (l.map λk=>2 ^ k)).map .int by unfold nz; rw [map_map,map_map]; rfl] at this
 exact Js hf this (λx hx=>by obtain ⟨k,hk,rfl⟩:=mem_map.mp hx; exact Nat.pow_lt_pow_right (by decide) (lt_trans (hs k hk) (by decide))) (by rw [length_map]; exact le_of_lt (lt_trans hl (by decide)))
theorem Pm {a b:Nat} {L E:List (List Nat)} (hf:cl.fuel≠0) (hm:27=m.length) (hL:C[a]?=some (.list (aH L))) (hE:C[b]?=some (.list (aH E))) (cX:m[12]?=some (some (.loc a))) (di:m[13]?=some (some (.loc b))) (lL:L.length=6) (lE:E.length=6) (hr : ∀ l∈E++L,(∀ x∈l,x<6)/\l.length<=6) :
  ev P cl (.comp (.call (.cst (.bn .sum)) (.cons (.comp (.bin .pow (.cst (.int 2)) (.var 28)) (.cons (.one 28) (.var 27) .nil .nil)) .nil) .nil) (.cons (.one 27) (.bin .add (.var 13) (.var 12)) .nil .nil)) ⟨m,C⟩=.ok (.lst ((nz ((E++L).map c9)).map .int)) ⟨m,C⟩:=by
 have e1:ev P cl (.bin .add (.var 13) (.var 12)) ⟨m,C⟩=.ok (.lst (aH (E++L))) ⟨m,C⟩:=bh (x:=.loc b) (y:=.loc a) (ak di) (ak cX) (by
  show (aU C (.loc b)).bind _=_
  rw [show aU C (.loc b)=some (aH E) by unfold aU; dsimp only; rw [hE]]
  show (aU C (.loc a)).bind _=_
  rw [show aU C (.loc a)=some (aH L) by unfold aU; dsimp only; rw [hL]]
  show (if (aH E).length+(aH L).length<=aD then some (D.lst (aH E++aH L)) else none)=_
  rw [ur,ur,lL,lE,if_pos (le_of_ble_eq_true rfl),yi])
 have:=nW (P:=P) (cl:=cl) (elt:=.call (.cst (.bn .sum)) (.cons (.comp (.bin .pow (.cst (.int 2)) (.var 28)) (.cons (.one 28) (.var 27) .nil .nil)) .nil) .nil) (ifs:=.nil) (it:=.bin .add (.var 13) (.var 12)) (k:=27) (m:=m) (C:=C) (xs:=E++L) (g:=λl=>.lst ((nz l).map .int)) (f:=λl=>dN (c9 l)) (p:=λ_=>true) hf hm e1 rfl (by rw [length_append,lL,lE]; exact le_of_ble_eq_true rfl) rfl (λ_ _=>rfl)
  λl hl _=>Jr hf (by rw [length_append,<-hm]; rfl) (de hm) (hr l hl).1 (lt_of_le_of_lt (hr l hl).2 (by decide))
 rw [this,filter_eq_self.mpr (λ_ _=>rfl)]
 unfold nz
 rw [map_map,map_map]; rfl
end
noncomputable def eM (r0 r1 r2 r3:Nat):Nat:=((r0*64+r1)*64+r2)*64+r3
noncomputable def jg (p:Nat):List Nat:=[p / 65536,p / 256 % 256,p % 256]
theorem OE (p:Nat):(p / 65536*256+p / 256 % 256)*256+p % 256=p:=by
 have h1:p / 65536=p / 256 / 256:=(Nat.div_div_eq_div_mul p 256 256).symm
 rw [h1,mul_comm (p / 256 / 256),Nat.div_add_mod,mul_comm (p / 256),Nat.div_add_mod]
theorem x8 {r0 r1 r2 r3:Nat} (h0:r0<64) (h1:r1<64) (h2:r2<64) (h3:r3<64) {r:List Nat}:bQ (jg (eM r0 r1 r2 r3)++r)=aK r0::aK r1::aK r2::aK r3::bQ r/\∀ o∈jg (eM r0 r1 r2 r3),o<256:=by
 obtain ⟨p,hp⟩ : ∃ p,p=eM r0 r1 r2 r3:=⟨_,rfl⟩
 have d1:p / 64=(r0*64+r1)*64+r2:=by rw [hp]; exact sf h3
 have d2:p / 4096=r0*64+r1:=by rw [show 4096=64*64 from rfl,<-Nat.div_div_eq_div_mul,d1,sf h2]
 have d3:p / 262144=r0:=by rw [show 262144=4096*64 from rfl,<-Nat.div_div_eq_div_mul,d2,sf h1]
 have b7:p<16777216:=by rw [hp]; exact mV (m:=262144) (mV (m:=4096) (mV (m:=64) h0 h1) h2) h3
 rw [<-hp]
 have ha:p / 65536<256:=div_lt_of_lt_mul b7
 have hb:p / 256 % 256<256:=mod_lt _ (by decide)
 have hc:p % 256<256:=mod_lt _ (by decide)
 have k1:=g1 ha hb hc
 have k2:=g2 ha hb hc
 have k3:=g3 ha hb hc
 have k4:=g4 ha hb hc
 rw [OE] at k1 k2 k3 k4
 refine ⟨?_,λo ho=>?_⟩
 ·show bQ (p / 65536::p / 256 % 256::p % 256::r)=_
  rw [vJ,<-k1,<-k2,<-k3,<-k4,d3,d2,d1,mod_eq_of_lt h0,xG h1,xG h2,hp,div_one,show eM r0 r1 r2 r3 % 64=r3 from xG h3]
 ·rcases mem_cons.mp ho with rfl|ho
  ·exact ha
  ·rcases mem_cons.mp ho with rfl|ho
   ·exact hb
   ·rw [mem_singleton.mp ho]; exact hc
theorem NJ : ∀ k<12,k=0\/k=1\/k=2\/k=3\/k=4\/k=5\/k=6\/k=7\/k=8\/k=9\/k=10\/k=11:=by decide
theorem Jp {P:aR} {cl:Calls} {es:Es} {ds:List D} {st aa:St} (h:bG P cl es st=.ok (.lst ds) aa) (hl:ds.length<=aD):ev P cl (.list es) st=.ok (.lst ds) aa:=by
 show (match bG P cl es st with
  |.ok (.lst ds) aa=>if ds.length<=aD then (aj.ok (D.lst ds) aa:aj D) else .fail
  |.exc x aa=>.exc x aa
  |_=>.fail)=_
 rw [h]; exact if_pos hl
structure uW (mk:Option D->Option D->List Nat->List (Option D)) (rs:List Nat):Prop where
 l : ∀ x y z,23<=(mk x y z).length
 r : ∀ x y z,(mk x y z)[20]?=some (some (.lst ((nz rs).map .int)))
 g6 : ∀ d y z,(mk (some d) y z)[6]?=some (some d)
 J3 : ∀ x d z,(mk x (some d) z)[22]?=some (some d)
 sH : ∀ x y z,(mk x y z)[21]?=some (some (.lst ((nz z).map .int)))
 s6 : ∀ x y z d,(mk x y z).set 6 (some d)=mk (some d) y z
 yl : ∀ x y z d,(mk x y z).set 22 (some d)=mk x (some d) z
 Pu : ∀ x y z z',(mk x y z).set 21 (some (.lst ((nz z').map .int)))=mk x y z'
section
variable {P:aR} {cl:Calls} {C:af} {mk:Option D->Option D->List Nat->List (Option D)} {rs:List Nat}
theorem xY (Q:uW mk rs) {k r0 r1 r2 r3:Nat} (g0:rs[k]?=some r0) (g1:rs[k+1]?=some r1) (g2:rs[k+2]?=some r2) (g3:rs[k+3]?=some r3) (hk:k<900) (h0:r0<64) (h1:r1<64) (h2:r2<64) {y:Option D} {z:List Nat} (hz:z.length<1000) :
  av P cl c3law_9 ⟨mk (some (dN k)) y z,C⟩=.ok .next ⟨mk (some (dN k)) (some (dN (eM r0 r1 r2 r3))) (z++jg (eM r0 r1 r2 r3)),C⟩:=by
 have v6:ev P cl (.var 6) ⟨mk (some (dN k)) y z,C⟩=.ok (dN k) ⟨mk (some (dN k)) y z,C⟩:=ak (Q.g6 _ _ _)
 have v20:ev P cl (.var 20) ⟨mk (some (dN k)) y z,C⟩=.ok (.lst ((nz rs).map .int)) ⟨mk (some (dN k)) y z,C⟩:=ak (Q.r _ _ _)
 have b : ∀ {j:Nat},j<=3->k+j<1000:=λ{j} hj=>lt_of_le_of_lt (add_le_add_left hj k) (lt_of_lt_of_le (Nat.add_lt_add_right hk 3) (by decide))
 have i0:ev P cl (.idx (.var 20) (.var 6)) ⟨mk (some (dN k)) y z,C⟩=.ok (dN r0) ⟨mk (some (dN k)) y z,C⟩:=cN v20 v6 ((iB).trans (gO (lt_trans hk (by decide)) g0))
 have i1:ev P cl (.idx (.var 20) (.bin .add (.var 6) (.cst (.int 1)))) ⟨mk (some (dN k)) y z,C⟩=.ok (dN r1) ⟨mk (some (dN k)) y z,C⟩:=cN v20 (bh (y:=dN 1) v6 rfl ji) ((iB).trans (gO (b (by decide)) g1))
 have i2:ev P cl (.idx (.var 20) (.bin .add (.var 6) (.cst (.int 2)))) ⟨mk (some (dN k)) y z,C⟩=.ok (dN r2) ⟨mk (some (dN k)) y z,C⟩:=cN v20 (bh (y:=dN 2) v6 rfl ji) ((iB).trans (gO (b (by decide)) g2))
 have i3:ev P cl (.idx (.var 20) (.bin .add (.var 6) (.cst (.int 3)))) ⟨mk (some (dN k)) y z,C⟩=.ok (dN r3) ⟨mk (some (dN k)) y z,C⟩:=cN v20 (bh (y:=dN 3) v6 rfl ji) ((iB).trans (gO (b (by decide)) g3))
 have m1:r0*64+r1<4096:=mV (m:=64) h0 h1
 have m2:(r0*64+r1)*64+r2<262144:=mV (m:=4096) m1 h2
 have e:=bh (bh (bh (bh (bh (bh i0 (b:=.cst (.int 64)) (y:=dN 64) rfl (ue (lt_trans h0 (by decide)) (by decide))) i1 ji) (b:=.cst (.int 64)) (y:=dN 64) rfl (ue (lt_trans m1 (by decide)) (by decide))) i2 ji) (b:=.cst (.int 64)) (y:=dN 64) rfl (ue (lt_trans m2 (by decide)) (by decide))) i3 ji
 refine aP (bx e (lt_of_lt_of_le (by decide:22<23) (Q.l _ _ _))) ?_
 rw [Q.yl]
 have yN:ev P cl (.var 22) ⟨mk (some (dN k)) (some (dN (((r0*64+r1)*64+r2)*64+r3))) z,C⟩=.ok (dN (eM r0 r1 r2 r3)) ⟨mk (some (dN k)) (some (dN (((r0*64+r1)*64+r2)*64+r3))) z,C⟩:=ak (Q.J3 _ _ _)
 have o1:=bh (op:=.fdiv) (b:=.cst (.int 65536)) yN (y:=dN 65536) rfl (ud (by decide) (by decide))
 have o2:=bh (op:=.mod) (b:=.cst (.int 256)) (bh (op:=.fdiv) (b:=.cst (.int 256)) yN (y:=dN 256) rfl (ud (by decide) (by decide))) (y:=dN 256) rfl (lM (by decide))
 have o3:=bh (op:=.mod) (b:=.cst (.int 256)) yN (y:=dN 256) rfl (lM (by decide))
 have ol:=Jp (vP o1 (iQ o2 o3)) (le_of_ble_eq_true rfl)
 rw [<-Q.Pu (some (dN k)) (some (dN (eM r0 r1 r2 r3))) z (z++jg (eM r0 r1 r2 r3))]
 refine cu (bx (bh (ak (Q.sH _ _ _)) ol ?_) (lt_of_lt_of_le (by decide:21<23) (Q.l _ _ _)))
 rw [t9]
 exact rQ (xs:=nz z) (ys:=nz (jg (eM r0 r1 r2 r3))) (by rw [jf,jf]; exact le_trans (add_le_add_right (le_of_lt hz) 3) (le_of_ble_eq_true rfl))
theorem OT (Q:uW mk rs) (hl:rs.length=12) (hr : ∀ f∈rs,f<64) {x y:Option D} :
  ∃ x' y' z,forLoop (λA B=>aW A B (.lst [dN 0,dN 4,dN 8])) (.one 6) (λst=>av P cl c3law_9 st) [dN 0,dN 4,dN 8] ⟨mk x y [],C⟩=.ok .next ⟨mk x' y' z,C⟩/\z.length=9/\(∀ o∈z,o<256)/\bQ z=rs.map aK:=by
 have g : ∀ k,k<12->∃ r,rs[k]?=some r/\r<64:=λk hk=>⟨rs[k]'(by rw [hl]; exact hk),getElem?_eq_getElem _,hr _ (List.getElem_mem _)⟩
 refine cps λQQ kQ=>?_
 obtain ⟨a0,p0,q0⟩:=g 0 (by decide)
 obtain ⟨a1,p1,q1⟩:=g 1 (by decide)
 obtain ⟨a2,p2,q2⟩:=g 2 (by decide)
 obtain ⟨a3,p3,q3⟩:=g 3 (by decide)
 obtain ⟨a4,p4,q4⟩:=g 4 (by decide)
 obtain ⟨a5,p5,q5⟩:=g 5 (by decide)
 obtain ⟨a6,p6,q6⟩:=g 6 (by decide)
 obtain ⟨a7,p7,q7⟩:=g 7 (by decide)
 obtain ⟨a8,p8,q8⟩:=g 8 (by decide)
 obtain ⟨a9,p9,q9⟩:=g 9 (by decide)
 obtain ⟨pn,OQ,uj⟩:=g 10 (by decide)
 obtain ⟨pq,OR,O0⟩:=g 11 (by decide)
 have oA:rs=[a0,a1,a2,a3,a4,a5,a6,a7,a8,a9,pn,pq]:=ext_getElem? λk=>by
  by_cases hk:k<12
  ·have:k=0\/k=1\/k=2\/k=3\/k=4\/k=5\/k=6\/k=7\/k=8\/k=9\/k=10\/k=11:=NJ k hk
   rcases this with rfl|rfl|rfl|rfl|rfl|rfl|rfl|rfl|rfl|rfl|rfl|rfl<;>assumption
  ·rw [getElem?_eq_none (by rw [hl]; exact le_of_not_lt hk),getElem?_eq_none (le_of_not_lt hk)]
 have b6 : ∀ {d:D} {x y:Option D} {z:List Nat},fY (.one 6) d (mk x y z)=some (mk (some d) y z):=λ{d x y z}=>by
  rw [<-Q.s6 x y z d]; exact if_pos (lt_of_lt_of_le (by decide) (Q.l _ _ _))
 obtain ⟨e1,f1⟩:=x8 q0 q1 q2 q3 (r:=jg (eM a4 a5 a6 a7)++(jg (eM a8 a9 pn pq)++[]))
 obtain ⟨e2,f2⟩:=x8 q4 q5 q6 q7 (r:=jg (eM a8 a9 pn pq)++[])
 obtain ⟨e3,f3⟩:=x8 q8 q9 uj O0 (r:=[])
 refine kQ ⟨some (dN 8),some (dN (eM a8 a9 pn pq)),jg (eM a0 a1 a2 a3)++(jg (eM a4 a5 a6 a7)++(jg (eM a8 a9 pn pq)++[])),?_,rfl,λo ho=>?_,?_⟩
 ·exact (eE b6 (xY Q (k:=0) p0 p1 p2 p3 (by decide) q0 q1 q2 (by decide)) rfl).trans ((eE b6 (xY Q (k:=4) p4 p5 p6 p7 (by decide) q4 q5 q6 (le_of_ble_eq_true rfl)) rfl).trans ((eE b6 (xY Q (k:=8) p8 p9 OQ OR (by decide) q8 q9 uj (le_of_ble_eq_true rfl)) rfl).trans rfl))
 ·rcases mem_append.mp ho with h|h
  ·exact f1 o h
  ·rcases mem_append.mp h with h|h
   ·exact f2 o h
   ·rw [append_nil] at h; exact f3 o h
 ·rw [e1,e2,e3,oA]; rfl
end
theorem aT {α:Type} {m:List α} {i j:Nat} {c x:α} (h:m[i]?=some c) (ne:i≠j):(m.set j x)[i]?=some c:=by rw [getElem?_set_ne (Ne.symm ne)]; exact h
theorem dp {α:Type} {m:List α} {j:Nat} {x:α} (h:j<m.length):(m.set j x)[j]?=some x:=List.getElem?_set_self h
theorem zV : ∀ l:List (List Nat),D.gA (aH l) (aH l)=true
 |[]=>rfl
 |x::l=>by
  show (D.gA ((nz x).map .int) ((nz x).map .int)&&D.gA (aH l) (aH l))=true
  rw [zV l,rP]; rfl
theorem RS {A B:af} {a:Nat} {l:List (List Nat)} (h:A[a]?=some (.list (aH l))) (h':B[a]?=some (.list (aH l))):aW A B (.loc a)=true:=by
 show iF A B a=true
 unfold iF
 rw [h,h']; exact zV l
section
variable {n:Nat} {cl:Calls} {m:List (Option D)} {C:af} {A:Nat->Nat->Bool}
theorem zP {rows:List (List Nat)} {v a:Nat} (au:cl=⟨aA Q3 10000 (n+1),10000⟩) (hm:27=m.length) (hv:m[v]?=some (some (.loc a))) (ha:C[a]?=some (.list (aH rows))) (hl:rows.length<60) :
  ∃ C',ev Q3 cl (.comp (.call (.cst (.fn 22)) (.cons (.var v) (.cons (.var 27) .nil)) .nil) (.cons (.one 27) (.var v) .nil .nil)) ⟨m,C⟩=.ok (.lst ((nz (rows.map λl=>gz rows l)).map .int)) ⟨m,C'⟩/\C <+: C':=by
 have hf:=cl3_0 au
 obtain ⟨C',e,hp⟩:=AY (P:=Q3) (cl:=cl) (elt:=.call (.cst (.fn 22)) (.cons (.var v) (.cons (.var 27) .nil)) .nil) (it:=.var v) (k:=27) (m:=m) (C:=C) (xs:=rows) (g:=λl=>.lst ((nz l).map .int)) (f:=λl=>dN (gz rows l)) hf hm (ak hv) (by show (C[a]?).bind mR=_; rw [ha]; rfl) (lt_trans hl (by decide))
  (λA B h1 h2=>RS (dY h1 ha) (dY (h1.trans h2) ha)) λl eI C2 hp=>by
   obtain ⟨m',C3,e3,p3⟩:=Hw (n:=n) (C:=C2) (rows:=rows) (row:=l) (a:=a) hl (dY hp ha)
   subst au
   exact ⟨C3,iP (k:=22) (aa:=⟨m',C3⟩) rfl (iQ (ak (cy hv)) (ak (de hm))) e3,p3⟩
 refine ⟨C',?_,hp⟩
 rw [e]
 unfold nz
 rw [map_map,map_map]; rfl
theorem E1 {p:Nat->Nat->Bool} (h : ∀ i j,i<6->j<6->p i j=A i j):cH p=cH A:=by
 unfold cH
 rw [List.flatMap_def,List.flatMap_def]
 refine congrArg List.flatten (map_congr_left λi hi=>congrArg (List.map λj=>(i,j)) (filter_congr λj hj=>h i j (mem_range.mp hi) (mem_range.mp hj)))
theorem Nl {a:Nat} (hf:cl.fuel≠0) (hm:27=m.length) (cX:m[12]?=some (some (.loc a))) (ha:C[a]?=some (.list (aH ((List.range 6).map (bp A))))):ev Q3 cl (.comp (.tup (.cons (.var 27) (.cons (.var 28) .nil))) (.cons (.one 27) (dK 6) .nil (.cons (.one 28) (.idx (.var 12) (.var 27)) .nil .nil))) ⟨m,C⟩=.ok (.lst ((cH A).map bJ)) ⟨m,C⟩:=by
 have dj : ∀ i,28=(m++[some (dN i)]).length:=λi=>by rw [length_append,<-hm]; rfl
 have:=vB (P:=Q3) (cl:=cl) (elt:=.tup (.cons (.var 27) (.cons (.var 28) .nil))) (it:=dK 6) (mQ:=.idx (.var 12) (.var 27)) (ifs:=.nil) (y:=.ck 0 6) (y2:=λi=>.lst ((nz (bp A i)).map .int)) (t:=.one 27) (t2:=.one 28) (g:=dN) (g2:=dN) (bd:=λi=>[some (dN i)]) (jU:=λj=>[some (dN j)]) (ys:=bp A) (p:=λ_ _=>true) (f:=λi j=>bJ (i,j)) (m:=m) (C:=C) (xs:=List.range 6) (L:=6)
  hf (ml hf) rfl rfl (λi _ C2=>rR hm) (λi hi=>cN (ak (d:=.loc a) (cy cX)) (ak (d:=dN i) (de hm)) ((mJ ha).trans (oD (lt_trans (mem_range.mp hi) (by decide)) (by rw [getElem?_map,n7 (mem_range.mp hi)]; rfl))))
  (λi _=>by show some ((nz (bp A i)).map D.int)=_; unfold nz; rw [map_map]; rfl) (λ_ _=>rfl) (λi _ j _ C2=>rR (dj i)) (λ_ _=>length_filter_le _ _) (le_of_ble_eq_true rfl) (λ_ _ _ _=>rfl) λi _ j _ _=>vO (ak (cy (de hm))) (ak (de (dj i)))
 rw [this]
 unfold cH
 rw [map_flatMap]
 refine congrArg (λl=>aj.ok (D.lst l) _) (congrArg (λf=>(List.range 6).flatMap f) (funext λi=>?_))
 rw [map_map,filter_eq_self.mpr (λ_ _=>rfl)]; rfl
theorem Jc {b:Nat} (hf:cl.fuel≠0) (hm:27=m.length) (di:m[13]?=some (some (.loc b))) (hb:C[b]?=some (.list (aH ((List.range 6).map (bS A))))):ev Q3 cl (.comp (.tup (.cons (.var 27) (.cons (.var 28) .nil))) (.cons (.one 27) (dK 6) .nil (.cons (.one 28) (dK 6) (.cons (.cmp .eK (.var 27) (.idx (.var 13) (.var 28))) .nil) .nil))) ⟨m,C⟩=.ok (.lst ((cH A).map bJ)) ⟨m,C⟩:=by
 have:=vz (P:=Q3) (cl:=cl) (m:=m) (C:=C) (ifs:=.cons (.cmp .eK (.var 27) (.idx (.var 13) (.var 28))) .nil) (p:=λi j=>decide (i∈bS A j)) hf hm λi hi j hj=>mn (bY (x:=dN i) (y:=.lst ((nz (bS A j)).map .int)) (ak (cy (de hm))) (cN (ak (d:=.loc b) (cy (cy di))) (ak (d:=dN j) (de (by rw [length_append,<-hm]; rfl))) ((mJ hb).trans (oD (lt_trans hj (by decide)) (by rw [getElem?_map,n7 hj]; rfl)))) DK)
 rw [this,E1 λi j hi hj=>?_]
 rw [Bool.eq_iff_iff,decide_eq_true_eq]
 unfold bS
 rw [mem_filter,mem_range]
 exact ⟨λh=>h.2,λh=>⟨hi,h⟩⟩
theorem El {l:List (Nat × Nat)} {C:af}:eX C .ne (.lst (l.map bJ)) (.lst (l.map bJ))=some false:=by rw [Ik,decide_eq_true rfl]; rfl
theorem Gl {a b:Nat} (hf:cl.fuel≠0) (hm:27=m.length) (cX:m[12]?=some (some (.loc a))) (di:m[13]?=some (some (.loc b))) (ij:m[18]?=some (some (.lst ((cH A).map bJ)))) (ha:C[a]?=some (.list (aH ((List.range 6).map (bp A))))) (hb:C[b]?=some (.list (aH ((List.range 6).map (bS A))))) :
  av Q3 cl c3law_12 ⟨m,C⟩=.ok (.ret (.bool true)) ⟨m,C⟩:=
 aP (dk (bY (Nl hf hm cX ha) (ak ij) El) rfl rfl) (jk (bY (Jc hf hm di hb) (ak ij) (by rw [vx,decide_eq_true rfl])))
theorem R8 {T:Nat->Nat->Bool} (K:jn T A) {a b:Nat} {ob:List UInt8} (au:cl=⟨aA Q3 10000 (n+1),10000⟩) (hm:27=m.length) (cX:m[12]?=some (some (.loc a))) (di:m[13]?=some (some (.loc b))) (ij:m[18]?=some (some (.lst ((cH A).map bJ)))) (wd:m[19]?=some (some (.lst ((eR A).map bJ)))) (CF:m[23]?=some (some (.bytes ob)))
  (ha:C[a]?=some (.list (aH ((List.range 6).map (bp A))))) (hb:C[b]?=some (.list (aH ((List.range 6).map (bS A))))) (dT:ob.map (λc:UInt8=>(c.toNat:Int))=(((List.range 6).map (bS A)++(List.range 6).map (bp A)).map c9).map aK) :
  ∃ st,av Q3 cl c3law_13 ⟨m,C⟩=.ok (.ret (.bool true)) st:=by
 have hf:=cl3_0 au
 have c1:ev Q3 cl (.cmp .eq (.var 19) (.list .nil)) ⟨m,C⟩=.ok (.bool (decide (eR A=[]))) ⟨m,C⟩:=bY (y:=.lst []) (ak wd) rfl (vx (k:=[]))
 by_cases hn:eR A=[]
 ·rw [decide_eq_true hn] at c1
  obtain ⟨F1,F2⟩:=JI K (zD.mp hn)
  obtain ⟨kd,lx⟩ : ∃ kd,kd=dc (((List.range 6).map λh=>c9 (bS A h)).map aK):=⟨_,rfl⟩
  rw [<-lx] at F1 F2
  have hlen:ob.length=12:=by rw [<-length_map (f:=λc:UInt8=>(c.toNat:Int)),dT]; rfl
  have CU : ∀ l h,(dg ob l h).map (λc:UInt8=>(c.toNat:Int))=dg ((((List.range 6).map (bS A)++(List.range 6).map (bp A)).map c9).map aK) l h:=λl h=>by
   rw [<-dT]; unfold dg; rw [map_take,List.map_drop]
  have t1:ev Q3 cl (.slice (.var 23) (.cst .none) (.cst (.int 6))) ⟨m,C⟩=.ok (.bytes (dg ob 0 6)) ⟨m,C⟩:=pQ (ak CF) rfl rfl (FV rU (Ak (k:=6) (by decide) (by rw [hlen]; decide)))
  have k1:=BI (P:=Q3) hf t1 (le_trans (List.length_take_le _ _) (le_of_ble_eq_true rfl))
  rw [CU 0 6,show dg ((((List.range 6).map (bS A)++(List.range 6).map (bp A)).map c9).map aK) 0 6=((List.range 6).map λh=>c9 (bS A h)).map aK from rfl,<-lx] at k1
  obtain ⟨C1,jy⟩ : ∃ C1,C1=C++[Ch.set (ct (((List.range 6).map λh=>c9 (bS A h)).map aK))]:=⟨_,rfl⟩
  rw [<-jy] at k1
  have p1:C <+: C1:=by rw [jy]; exact prefix_append _ _
  obtain ⟨m1,bC⟩ : ∃ m1,m1=m.set 24 (some (dN kd)):=⟨_,rfl⟩
  have xA:24<m.length:=by rw [<-hm]; decide
  have t2:ev Q3 cl (.slice (.var 23) (.cst (.int 6)) (.cst .none)) ⟨m1,C1⟩=.ok (.bytes (dg ob 6 12)) ⟨m1,C1⟩:=pQ (ak (by rw [bC]; exact aT CF (by decide))) rfl rfl (FV (Ak (k:=6) (by decide) (by rw [hlen]; decide)) (by rw [hlen]; rfl))
  have k2:=BI (P:=Q3) hf t2 (le_trans (List.length_take_le _ _) (le_of_ble_eq_true rfl))
  rw [CU 6 12,show dg ((((List.range 6).map (bS A)++(List.range 6).map (bp A)).map c9).map aK) 6 12=((List.range 6).map λh=>c9 (bp A h)).map aK from rfl,F1] at k2
  obtain ⟨C2,n9⟩ : ∃ C2,C2=C1++[Ch.set (ct (((List.range 6).map λh=>c9 (bp A h)).map aK))]:=⟨_,rfl⟩
  rw [<-n9] at k2
  have p2:C <+: C2:=by rw [n9]; exact p1.trans (prefix_append _ _)
  have s7:27=m1.length:=by rw [bC,length_set]; exact hm
  obtain ⟨C3,b1,p3⟩:=zP (n:=n) (m:=m1) (C:=C2) (rows:=(List.range 6).map (bS A)) (v:=13) (a:=b) au s7 (by rw [bC]; exact aT di (by decide)) (dY p2 hb) (lb rfl)
  obtain ⟨lo,ka⟩ : ∃ lo,lo=((List.range 6).map (bS A)).map λl=>gz ((List.range 6).map (bS A)) l:=⟨_,rfl⟩
  rw [<-ka] at b1
  obtain ⟨m2,cf⟩ : ∃ m2,m2=m1.set 25 (some (.lst ((nz lo).map .int))):=⟨_,rfl⟩
  have s9:27=m2.length:=by rw [cf,length_set]; exact s7
  obtain ⟨C4,b2,p4⟩:=zP (n:=n) (m:=m2) (C:=C3) (rows:=(List.range 6).map (bp A)) (v:=12) (a:=a) au s9 (by rw [cf,bC]; exact aT (aT cX (by decide)) (by decide)) (dY (p2.trans p3) ha) (lb rfl)
  obtain ⟨hi,mC⟩ : ∃ hi,hi=((List.range 6).map (bp A)).map λl=>gz ((List.range 6).map (bp A)) l:=⟨_,rfl⟩
  rw [<-mC] at b2
  obtain ⟨m3,cG⟩ : ∃ m3,m3=m2.set 26 (some (.lst ((nz hi).map .int))):=⟨_,rfl⟩
  have tc:27=m3.length:=by rw [cG,length_set]; exact s9
  have J4:m3[24]?=some (some (dN kd)):=by rw [cG,cf,bC]; exact aT (aT (dp xA) (by decide)) (by decide)
  have J5:m3[25]?=some (some (.lst ((nz lo).map .int))):=by rw [cG,cf]; exact aT (dp (by rw [<-s7]; decide)) (by decide)
  have J7:m3[26]?=some (some (.lst ((nz hi).map .int))):=by rw [cG]; exact dp (by rw [<-s9]; decide)
  have up : ∀ {i:Nat} {c:Option D},m[i]?=some c->i<24->m3[i]?=some c:=λh hi=>by rw [cG,cf,bC]; exact aT (aT (aT h (ne_of_lt hi)) (ne_of_lt (lt_trans hi (by decide)))) (ne_of_lt (lt_trans hi (by decide)))
  have gl : ∀ j,j<6->lo[j]?=some (gz ((List.range 6).map (bS A)) (bS A j)):=λj hj=>by rw [ka,getElem?_map,n7 hj]; rfl
  have gh : ∀ j,j<6->hi[j]?=some (gz ((List.range 6).map (bp A)) (bp A j)):=λj hj=>by rw [mC,getElem?_map,n7 hj]; rfl
  have q:=vz (P:=Q3) (cl:=cl) (m:=m3) (C:=C4) (ifs:=.cons (.cmp .ge (.bin .add (.idx (.var 26) (.var 27)) (.idx (.var 25) (.var 28))) (.var 24)) .nil) (p:=λi j=>decide (kd<=gz ((List.range 6).map (bp A)) (bp A i)+gz ((List.range 6).map (bS A)) (bS A j))) hf tc λi sV j lu=>
   mn (bY (bh (cN (ak (cy (cy J7))) (ak (d:=dN i) (cy (de tc))) ((iB).trans (gO (lt_trans sV (by decide)) (gh i sV)))) (cN (ak (cy (cy J5))) (ak (d:=dN j) (de (by rw [length_append,<-tc]; rfl))) ((iB).trans (gO (lt_trans lu (by decide)) (gl j lu)))) ji) (ak (cy (cy J4))) Ih)
  rw [E1 (A:=A) λi j hi hj=>by rw [Bool.eq_iff_iff,decide_eq_true_eq]; exact (F2 i j hi hj).symm] at q
  have last:=Gl (cl:=cl) (m:=m3) (C:=C4) (A:=A) hf tc (up cX (by decide)) (up di (by decide)) (up ij (by decide)) (dY ((p2.trans p3).trans p4) ha) (dY ((p2.trans p3).trans p4) hb)
  refine ⟨⟨m3,C4⟩,aP (lC c1 rfl (aP (bx k1 xA) ?_)) last⟩
  rw [<-bC]
  refine aP (dk (bY k2 (ak (by rw [bC]; exact dp xA)) (by rw [Ij,decide_eq_true rfl]; rfl)) rfl rfl) (aP (bx b1 (by rw [<-s7]; decide)) ?_)
  rw [<-cf]
  refine aP (bx b2 (by rw [<-s9]; decide)) ?_
  rw [<-cG]
  exact cu (dk (bY q (ak (up ij (by decide))) El) rfl rfl)
 ·rw [decide_eq_false hn] at c1
  exact ⟨⟨m,C⟩,aP (dk c1 rfl rfl) (Gl hf hm cX di ij ha hb)⟩
end
theorem nt {α:Type} {m:List α} {i:Nat} {c:α} (h:m[i]?=some c):m.set i c=m:=ext_getElem? λj=>by
 by_cases e:j=i
 ·subst e; rw [dp (tT h),h]
 ·rw [getElem?_set_ne (Ne.symm e)]
theorem NY {n:Nat} {cl:Calls} {fs:List Nat} {m:List (Option D)} {C:af} (au:cl=⟨aA Q3 10000 (n+4),10000⟩) (bH : ∀ f∈fs,f<64) (iZ:fs.length=8) (hm:27=m.length) (h7:m[7]?=some (some (.lst ((nz fs).map .int)))) (ig:m[14]?=some none) :
  ∃ m' C' a b,av Q3 cl c3law_28 ⟨m,C⟩=av Q3 cl c3law_23 ⟨m',C'⟩/\27=m'.length/\(∀ i c,i<9->m[i]?=some c->m'[i]?=some c)/\(∀ i c,15<=i->m[i]?=some c->m'[i]?=some c)/\m'[10]?=m[10]?/\m'[12]?=some (some (.loc a))/\m'[13]?=some (some (.loc b))/\
   C'[a]?=some (.list (aH ((List.range 6).map (bp (A3 fs)))))/\C'[b]?=some (.list (aH ((List.range 6).map (bS (A3 fs))))):=by
 have hf:=cl3_0 au
 refine cps λQQ kQ=>?_
 obtain ⟨C1,e1,p1⟩:=N6 (n:=n+2) (C:=C) au h7 hm bH iZ
 obtain ⟨m1,bC⟩ : ∃ m1,m1=m.set 9 (some (.lst (aH ((List.range 6).map (iD fs))))):=⟨_,rfl⟩
 have l1:27=m1.length:=by rw [bC,length_set]; exact hm
 have g9:m1[9]?=some (some (.lst (aH ((List.range 6).map (iD fs))))):=by rw [bC]; exact dp (by rw [<-hm]; decide)
 have e2:=Sm (n:=n+4) (C:=C1) au g9 l1
 obtain ⟨m2,cf⟩ : ∃ m2,m2=m1.set 11 (some (.lst (aH ((List.range 6).map (nB fs))))):=⟨_,rfl⟩
 have l2:27=m2.length:=by rw [cf,length_set]; exact l1
 obtain ⟨m3,cG⟩ : ∃ m3,m3=m2.set 12 (some (.loc C1.length)):=⟨_,rfl⟩
 have l3:27=m3.length:=by rw [cG,length_set]; exact l2
 obtain ⟨m4,e9⟩ : ∃ m4,m4=m3.set 13 (some (.loc (C1++[Ch.list []]).length)):=⟨_,rfl⟩
 have l4:27=m4.length:=by rw [e9,length_set]; exact l3
 have lt : ∀ {k:Nat} {m:List (Option D)},k<27->27=m.length->k<m.length:=λh e=>by rw [<-e]; exact h
 have k9:m4[9]?=some (some (.lst (aH ((List.range 6).map (iD fs))))):=by rw [e9,cG,cf]; exact aT (aT (aT g9 (by decide)) (by decide)) (by decide)
 have Nf:m4[11]?=some (some (.lst (aH ((List.range 6).map (nB fs))))):=by rw [e9,cG,cf]; exact aT (aT (dp (lt (by decide) l1)) (by decide)) (by decide)
 have mS:m4[12]?=some (some (.loc C1.length)):=by rw [e9,cG]; exact aT (dp (lt (by decide) l2)) (by decide)
 have mT:m4[13]?=some (some (.loc (C1++[Ch.list []]).length)):=by rw [e9]; exact dp (lt (by decide) l3)
 have Ng:m4[14]?=some none:=by rw [e9,cG,cf,bC]; exact aT (aT (aT (aT ig (by decide)) (by decide)) (by decide)) (by decide)
 have hb : ∀ (x:Option D) (d:D),fY (.one 14) d (m4.set 14 x)=some (m4.set 14 (some d)):=λx d=>by
  rw [show m4.set 14 (some d)=(m4.set 14 x).set 14 (some d) from (set_set _).symm]
  exact if_pos (by rw [length_set,<-l4]; decide)
 obtain ⟨C2,n9⟩ : ∃ C2,C2=(C1++[Ch.list []])++[Ch.list []]:=⟨_,rfl⟩
 have ca:C2[C1.length]?=some (.list (aH [])):=by rw [n9]; exact fW dA
 have cb:C2[(C1++[Ch.list []]).length]?=some (.list (aH [])):=by rw [n9]; exact dA
 obtain ⟨x',C3,e3,ra,rb⟩:=CV (n:=n) (cl:=cl) (fs:=fs) (mk:=λx=>m4.set 14 x) au bH (λ_=>aT k9 (by decide)) (λ_=>aT Nf (by decide)) (λ_=>aT mS (by decide)) (λ_=>aT mT (by decide)) (λ_=>dp (lt (by decide) l4)) hb (by rw [length_append]; exact ne_of_lt (lt_succ_self _)) (List.range 6) (C:=C2) (L:=[]) (E:=[]) (x:=none) (λh hh=>mem_range.mp hh) ca cb (lb rfl) (lb rfl)
 rw [nt Ng] at e3
 refine kQ ⟨m4.set 14 x',C3,C1.length,(C1++[Ch.list []]).length,?_,by rw [length_set]; exact l4,λi c hi h=>?_,λi c hi h=>?_,?_,aT mS (by decide),aT mT (by decide),ra,rb⟩
 ·refine (bl (bx e1 (lt (by decide) hm))).trans ?_
  rw [<-bC]
  refine (bl (bx e2 (lt (by decide) l1))).trans ?_
  rw [<-cf]
  refine (bl (n3 (ds:=[]) rfl (lt (by decide) l2) rfl)).trans ?_
  rw [<-cG]
  refine (bl (n3 (ds:=[]) rfl (lt (by decide) l3) rfl)).trans ?_
  rw [<-e9,<-n9]
  exact bl ((f7 (items:=(List.range 6).map dN) hf (ml hf) rfl).trans e3)
 ·rw [e9,cG,cf,bC]
  have o : ∀ {k:Nat},9<=k->i≠k:=λhk=>ne_of_lt (lt_of_lt_of_le hi hk)
  exact aT (aT (aT (aT (aT h (o (by decide))) (o (by decide))) (o (by decide))) (o (by decide))) (o (by decide))
 ·rw [e9,cG,cf,bC]
  have o : ∀ {k:Nat},k<15->i≠k:=λhk=>ne_of_gt (lt_of_lt_of_le hk hi)
  exact aT (aT (aT (aT (aT h (o (by decide))) (o (by decide))) (o (by decide))) (o (by decide))) (o (by decide))
 ·rw [e9,cG,cf,bC,getElem?_set_ne (by decide),getElem?_set_ne (by decide),getElem?_set_ne (by decide),getElem?_set_ne (by decide),getElem?_set_ne (by decide)]
theorem NZ {n:Nat} {cl:Calls} {fs:List Nat} {m:List (Option D)} {C:af} {a b:Nat} (au:cl=⟨aA Q3 10000 (n+4),10000⟩) (bH : ∀ f∈fs,f<64) (iZ:fs.length=8) (hm:27=m.length) (h7:m[7]?=some (some (.lst ((nz fs).map .int)))) (h8:m[8]?=some none) (k8:m[10]?=some none) (Kl:m[16]?=some none) (Km:m[17]?=some none)
  (cX:m[12]?=some (some (.loc a))) (di:m[13]?=some (some (.loc b))) (ha:C[a]?=some (.list (aH ((List.range 6).map (bp (A3 fs)))))) (hb:C[b]?=some (.list (aH ((List.range 6).map (bS (A3 fs)))))) :
  ∃ m' C',av Q3 cl c3law_23 ⟨m,C⟩=av Q3 cl c3law_18 ⟨m',C'⟩/\27=m'.length/\(∀ i c,i<8->m[i]?=some c->m'[i]?=some c)/\(∀ i c,20<=i->m[i]?=some c->m'[i]?=some c)/\m'[12]?=some (some (.loc a))/\m'[13]?=some (some (.loc b))/\m'[18]?=some (some (.lst ((cH (A3 fs)).map bJ)))/\m'[19]?=some (some (.lst ((eR (A3 fs)).map bJ)))/\
   C'[a]?=some (.list (aH ((List.range 6).map (bp (A3 fs)))))/\C'[b]?=some (.list (aH ((List.range 6).map (bS (A3 fs))))):=by
 have hf:=cl3_0 au
 have lt : ∀ {k:Nat} {m:List (Option D)},k<27->27=m.length->k<m.length:=λh e=>by rw [<-e]; exact h
 refine cps λQQ kQ=>?_
 obtain ⟨m1,bC⟩ : ∃ m1,m1=m.set 15 (some (.loc C.length)):=⟨_,rfl⟩
 have l1:27=m1.length:=by rw [bC,length_set]; exact hm
 have up : ∀ {i:Nat} {c:Option D},m[i]?=some c->i≠15->m1[i]?=some c:=λh hi=>by rw [bC]; exact aT h hi
 have Cu:m1[15]?=some (some (.loc C.length)):=by rw [bC]; exact dp (lt (by decide) hm)
 obtain ⟨mk,dF⟩ : ∃ mk:Option D->Option D->Option D->Option D->List (Option D),mk=λx y z w=>(((m1.set 8 x).set 10 y).set 16 z).set 17 w:=⟨_,rfl⟩
 have qE : ∀ x y z w,27=(mk x y z w).length:=λx y z w=>by rw [dF]; show 27=((((m1.set 8 x).set 10 y).set 16 z).set 17 w).length; rw [length_set,length_set,length_set,length_set]; exact l1
 have pd : ∀ {i:Nat} {c x y z w:Option D},m1[i]?=some c->i≠8->i≠10->i≠16->i≠17->(mk x y z w)[i]?=some c:=λh q1 q2 q3 q4=>by rw [dF]; exact aT (aT (aT (aT h q1) q2) q3) q4
 have e0:mk none none none none=m1:=by
  rw [dF]
  show (((m1.set 8 none).set 10 none).set 16 none).set 17 none=m1
  rw [nt (up h8 (by decide)),nt (up k8 (by decide)),nt (up Kl (by decide)),nt (up Km (by decide))]
 have Q:kI mk fs C.length:=by
  refine ⟨λx y z w=>by rw [<-qE x y z w]; decide,λ_ _ _ _=>pd (up h7 (by decide)) (by decide) (by decide) (by decide) (by decide),λ_ _ _ _=>pd Cu (by decide) (by decide) (by decide) (by decide),?_,?_,?_,?_,?_,?_,?_,?_⟩
  all_goals (rw [dF]; intros)
  ·exact aT (aT (aT (dp (lt (by decide) l1)) (by decide)) (by decide)) (by decide)
  ·exact aT (aT (dp (by rw [length_set,<-l1]; decide)) (by decide)) (by decide)
  ·exact aT (dp (by rw [length_set,length_set,<-l1]; decide)) (by decide)
  ·exact dp (by rw [length_set,length_set,length_set,<-l1]; decide)
  ·dsimp only; rw [set_comm w (some d) (by decide:17≠8),set_comm z (some d) (by decide:16≠8),set_comm y (some d) (by decide:10≠8),set_set]
  ·dsimp only; rw [set_comm w (some d) (by decide:17≠10),set_comm z (some d) (by decide:16≠10),set_set]
  ·dsimp only; rw [set_comm w (some d) (by decide:17≠16),set_set]
  ·dsimp only; rw [set_set]
 have hc:(C++[Ch.list []])[C.length]?=some (.list []):=dA
 obtain ⟨x',y',z',w',e1⟩:=GZ (n:=n+3) (cl:=cl) au Q bH iZ hc (x:=none) (y:=none) (z:=none) (w:=none)
 rw [e0] at e1
 obtain ⟨C1,jy⟩ : ∃ C1,C1=(C++[Ch.list []]).set C.length (.list ((nz (al fs 6)).map .int)):=⟨_,rfl⟩
 obtain ⟨m2,cf⟩ : ∃ m2,m2=mk x' y' z' w':=⟨_,rfl⟩
 rw [<-jy,<-cf] at e1
 have l2:27=m2.length:=by rw [cf]; exact qE _ _ _ _
 have ne : ∀ {i:Nat} {c:Ch},C[i]?=some c->i≠C.length:=λh=>ne_of_lt (tT h)
 have ca:C1[a]?=some (.list (aH ((List.range 6).map (bp (A3 fs))))):=by rw [jy]; exact gy (fW ha) (ne ha)
 have cb:C1[b]?=some (.list (aH ((List.range 6).map (bS (A3 fs))))):=by rw [jy]; exact gy (fW hb) (ne hb)
 have cc:C1[C.length]?=some (.list ((nz (al fs 6)).map .int)):=by rw [jy]; exact iK hc
 have Gw : ∀ {i:Nat} {c:Option D},m1[i]?=some c->i≠8->i≠10->i≠16->i≠17->m2[i]?=some c:=λh q1 q2 q3 q4=>by rw [cf]; exact pd h q1 q2 q3 q4
 have DR:=Gw Cu (by decide) (by decide) (by decide) (by decide)
 have e2:=OU (P:=Q3) (cl:=cl) (m:=m2) (C:=C1) hf l2 cc (hY fs 6) DR
 obtain ⟨m3,cG⟩ : ∃ m3,m3=m2.set 18 (some (.lst ((cH (A3 fs)).map bJ))):=⟨_,rfl⟩
 have l3:27=m3.length:=by rw [cG,length_set]; exact l2
 have tF:m3[18]?=some (some (.lst ((cH (A3 fs)).map bJ))):=by rw [cG]; exact dp (lt (by decide) l2)
 have e3:=G8 (P:=Q3) (cl:=cl) (m:=m3) (C:=C1) hf l3 cc (hY fs 6) (by rw [cG]; exact aT DR (by decide)) tF
 obtain ⟨m4,e9⟩ : ∃ m4,m4=m3.set 19 (some (.lst ((eR (A3 fs)).map bJ))):=⟨_,rfl⟩
 have l4:27=m4.length:=by rw [e9,length_set]; exact l3
 have tG:m4[19]?=some (some (.lst ((eR (A3 fs)).map bJ))):=by rw [e9]; exact dp (lt (by decide) l3)
 have all : ∀ {i:Nat} {c:Option D},m[i]?=some c->i≠15->i≠8->i≠10->i≠16->i≠17->i≠18->i≠19->m4[i]?=some c:=λh q0 q1 q2 q3 q4 q5 q6=>by rw [e9,cG]; exact aT (aT (Gw (up h q0) q1 q2 q3 q4) q5) q6
 have mS:=all cX (by decide) (by decide) (by decide) (by decide) (by decide) (by decide) (by decide)
 have mT:=all di (by decide) (by decide) (by decide) (by decide) (by decide) (by decide) (by decide)
 have rl : ∀ {R:Nat->Nat->Bool},∀ l∈(List.range 6).map (bp R),l.length<1000:=λl hl=>by obtain ⟨h,_,rfl⟩:=mem_map.mp hl; exact lt_of_le_of_lt (length_filter_le _ _) (by decide)
 obtain ⟨m5,C2,f1,p1⟩:=Et (n:=n+1) (C:=C1) (a:=a) (by rw [length_map]; rfl) rl ca
 obtain ⟨m6,C3,f2,p2⟩:=Et (n:=n+1) (C:=C2) (a:=b) (by rw [length_map]; rfl) (rl (R:=λi q=>A3 fs q i)) (dY p1 cb)
 have hN : ∀ rows,(kr rows=true↔kM (A3 fs))->kr rows=decide (eR (A3 fs)=[]):=λrows h=>by rw [Bool.eq_iff_iff,h,decide_eq_true_eq,zD]
 have KC:kr ((List.range 6).map (bp (A3 fs)))=decide (eR (A3 fs)=[]):=hN _ Eo
 have KD:kr ((List.range 6).map (bp λi q=>A3 fs q i))=decide (eR (A3 fs)=[]):=hN _ (Iff.trans (Eo (R:=λi q=>A3 fs q i)) Ep)
 rw [KC] at f1
 rw [KD] at f2
 have ce : ∀ {C:af},ev Q3 cl (.cmp .eq (.var 19) (.list .nil)) ⟨m4,C⟩=.ok (.bool (decide (eR (A3 fs)=[]))) ⟨m4,C⟩:=bY (y:=.lst []) (ak tG) rfl (vx (k:=[]))
 have bne : ∀ (x:Bool) {C:af},eX C .ne (.bool x) (.bool x)=some false:=λx C=>by induction x<;>rfl
 have c1:ev Q3 cl (.cmp .ne (.call (.cst (.fn 21)) (.cons (.var 12) .nil) .nil) (.cmp .eq (.var 19) (.list .nil))) ⟨m4,C1⟩=.ok (.bool false) ⟨m4,C2⟩:=by
  subst au
  exact bY (iP (k:=21) (aa:=⟨m5,C2⟩) rfl (bZ (ak mS)) f1) ce (bne _)
 have c2:ev Q3 cl (.cmp .ne (.call (.cst (.fn 21)) (.cons (.var 13) .nil) .nil) (.cmp .eq (.var 19) (.list .nil))) ⟨m4,C2⟩=.ok (.bool false) ⟨m4,C3⟩:=by
  subst au
  exact bY (iP (k:=21) (aa:=⟨m6,C3⟩) rfl (bZ (ak mT)) f2) ce (bne _)
 refine kQ ⟨m4,C3,?_,l4,λi c hi h=>?_,λi c hi h=>?_,mS,mT,by rw [e9]; exact aT tF (by decide),tG,dY (p1.trans p2) ca,dY (p1.trans p2) cb⟩
 ·refine (bl (n3 (ds:=[]) rfl (lt (by decide) hm) rfl)).trans ?_
  rw [<-bC]
  refine (bl ((f7 (items:=(List.range 6).map dN) hf (ml hf) rfl).trans e1)).trans ((bl (bx e2 (lt (by decide) l2))).trans ?_)
  show av Q3 cl c3law_20 ⟨m2.set 18 (some (.lst ((cH (A3 fs)).map bJ))),C1⟩=_
  rw [<-cG]
  refine (bl (bx e3 (lt (by decide) l3))).trans ?_
  show av Q3 cl c3law_19 ⟨m3.set 19 (some (.lst ((eR (A3 fs)).map bJ))),C1⟩=_
  rw [<-e9]
  exact bl (dk ((BO c1 rfl).trans c2) rfl rfl)
 ·have o : ∀ {k:Nat},8<=k->i≠k:=λhk=>ne_of_lt (lt_of_lt_of_le hi hk)
  exact all h (o (by decide)) (o (by decide)) (o (by decide)) (o (by decide)) (o (by decide)) (o (by decide)) (o (by decide))
 ·have o : ∀ {k:Nat},k<20->i≠k:=λhk=>ne_of_gt (lt_of_lt_of_le hk hi)
  exact all h (o (by decide)) (o (by decide)) (o (by decide)) (o (by decide)) (o (by decide)) (o (by decide)) (o (by decide))
theorem N0 {n:Nat} {cl:Calls} {T A:Nat->Nat->Bool} (K:jn T A) {m:List (Option D)} {C:af} {a b:Nat} (au:cl=⟨aA Q3 10000 (n+4),10000⟩) (hm:27=m.length) {x6:Option D} (h6:m[6]?=some x6) (Kn:m[22]?=some none)
  (cX:m[12]?=some (some (.loc a))) (di:m[13]?=some (some (.loc b))) (ij:m[18]?=some (some (.lst ((cH A).map bJ)))) (wd:m[19]?=some (some (.lst ((eR A).map bJ)))) (ha:C[a]?=some (.list (aH ((List.range 6).map (bp A))))) (hb:C[b]?=some (.list (aH ((List.range 6).map (bS A))))) :
  ∃ st,av Q3 cl c3law_18 ⟨m,C⟩=.ok (.ret (.bool true)) st:=by
 have hf:=cl3_0 au
 have lt : ∀ {k:Nat} {m:List (Option D)},k<27->27=m.length->k<m.length:=λh e=>by rw [<-e]; exact h
 have rr : ∀ l∈(List.range 6).map (bS A)++(List.range 6).map (bp A),∃ p:Nat->Bool,l=(List.range 6).filter p:=λl hl=>by
  rcases mem_append.mp hl with h|h
  ·obtain ⟨i,_,rfl⟩:=mem_map.mp h; exact ⟨_,rfl⟩
  ·obtain ⟨i,_,rfl⟩:=mem_map.mp h; exact ⟨_,rfl⟩
 have e1:=Pm (P:=Q3) (cl:=cl) (m:=m) (C:=C) hf hm ha hb cX di rfl rfl λl hl=>by
  obtain ⟨p,rfl⟩:=rr l hl
  exact ⟨λx hx=>mem_range.mp (mem_filter.mp hx).1,length_filter_le _ _⟩
 refine cps λQQ kQ=>?_
 obtain ⟨rs,oA⟩ : ∃ rs,rs=((List.range 6).map (bS A)++(List.range 6).map (bp A)).map c9:=⟨_,rfl⟩
 rw [<-oA] at e1
 have D8:rs.length=12:=by rw [oA]; rfl
 have Ds : ∀ f∈rs,f<64:=λf hf=>by
  rw [oA] at hf
  obtain ⟨l,hl,rfl⟩:=mem_map.mp hf
  obtain ⟨p,rfl⟩:=rr l hl
  exact yh p
 obtain ⟨m1,bC⟩ : ∃ m1,m1=m.set 20 (some (.lst ((nz rs).map .int))):=⟨_,rfl⟩
 have l1:27=m1.length:=by rw [bC,length_set]; exact hm
 obtain ⟨mk,dF⟩ : ∃ mk:Option D->Option D->List Nat->List (Option D),mk=λx y z=>((m1.set 6 x).set 22 y).set 21 (some (.lst ((nz z).map .int))):=⟨_,rfl⟩
 have qE : ∀ x y z,27=(mk x y z).length:=λx y z=>by rw [dF]; show 27=(((m1.set 6 x).set 22 y).set 21 _).length; rw [length_set,length_set,length_set]; exact l1
 have pd : ∀ {i:Nat} {c x y:Option D} {z:List Nat},m1[i]?=some c->i≠6->i≠22->i≠21->(mk x y z)[i]?=some c:=λh q1 q2 q3=>by rw [dF]; exact aT (aT (aT h q1) q2) q3
 have JZ:m1[20]?=some (some (.lst ((nz rs).map .int))):=by rw [bC]; exact dp (lt (by decide) hm)
 have Q:uW mk rs:=by
  refine ⟨λx y z=>by rw [<-qE x y z]; decide,λ_ _ _=>pd JZ (by decide) (by decide) (by decide),?_,?_,?_,?_,?_,?_⟩
  all_goals (rw [dF]; intros)
  ·exact aT (aT (dp (lt (by decide) l1)) (by decide)) (by decide)
  ·exact aT (dp (by rw [length_set,<-l1]; decide)) (by decide)
  ·exact dp (by rw [length_set,length_set,<-l1]; decide)
  ·dsimp only; rw [set_comm (some (D.lst ((nz z).map .int))) (some d) (by decide:21≠6),set_comm y (some d) (by decide:22≠6),set_set]
  ·dsimp only; rw [set_comm (some (D.lst ((nz z).map .int))) (some d) (by decide:21≠22),set_set]
  ·dsimp only; rw [set_set]
 have e0:mk x6 none []=m1.set 21 (some (.lst [])):=by
  rw [dF]
  show ((m1.set 6 x6).set 22 none).set 21 (some (.lst []))=_
  have s6:m1.set 6 x6=m1:=nt (by rw [bC]; exact aT h6 (by decide))
  have yl:m1.set 22 none=m1:=nt (by rw [bC]; exact aT Kn (by decide))
  rw [s6,yl]
 obtain ⟨x',y',z,e2,lz,hz,K8⟩:=OT (P:=Q3) (cl:=cl) (C:=C) Q D8 Ds (x:=x6) (y:=none)
 rw [e0] at e2
 obtain ⟨m2,cf⟩ : ∃ m2,m2=mk x' y' z:=⟨_,rfl⟩
 rw [<-cf] at e2
 have l2:27=m2.length:=by rw [cf]; exact qE _ _ _
 have sH:m2[21]?=some (some (.lst ((nz z).map .int))):=by rw [cf]; exact Q.sH _ _ _
 have all : ∀ {i:Nat} {c:Option D},m[i]?=some c->i≠20->i≠6->i≠22->i≠21->m2[i]?=some c:=λh q0 q1 q2 q3=>by rw [cf]; exact pd (by rw [bC]; exact aT h q0) q1 q2 q3
 obtain ⟨ob,C1,e3,dT,p1⟩:=BQ (r:=bD::bK::r3) (n:=n+1) (m:=m2) (C:=C) (cl:=cl) (e:=.var 21) (os:=z) au (ak sH) rfl hz (by rw [lz]; decide)
 rw [K8] at dT
 obtain ⟨m3,cG⟩ : ∃ m3,m3=m2.set 23 (some (.bytes ob)):=⟨_,rfl⟩
 have l3:27=m3.length:=by rw [cG,length_set]; exact l2
 have Cx:m3[23]?=some (some (.bytes ob)):=by rw [cG]; exact dp (lt (by decide) l2)
 have J0:m3[20]?=some (some (.lst ((nz rs).map .int))):=by rw [cG]; exact aT (by rw [cf]; exact Q.r _ _ _) (by decide)
 obtain ⟨m4,w4⟩:=GI (n:=n+2) (C:=C1) (ob:=ob) (fs:=rs) Ds (by rw [D8]; decide) dT
 have c4:ev Q3 cl (.call (.cst (.fn 19)) (.cons (.var 23) (.cons (.var 20) .nil)) .nil) ⟨m3,C1⟩=.ok (.bool true) ⟨m3,C1⟩:=by
  subst au
  exact iP (k:=19) (aa:=⟨m4,C1⟩) rfl (iQ (ak Cx) (ak J0)) w4
 have rO : ∀ {i:Nat} {c:Option D},m[i]?=some c->i≠20->i≠6->i≠22->i≠21->i≠23->m3[i]?=some c:=λh q0 q1 q2 q3 q4=>by rw [cG]; exact aT (all h q0 q1 q2 q3) q4
 obtain ⟨st,e5⟩:=R8 (n:=n+3) (cl:=cl) (m:=m3) (C:=C1) K au l3 (rO cX (by decide) (by decide) (by decide) (by decide) (by decide)) (rO di (by decide) (by decide) (by decide) (by decide) (by decide)) (rO ij (by decide) (by decide) (by decide) (by decide) (by decide)) (rO wd (by decide) (by decide) (by decide) (by decide) (by decide)) Cx (dY p1 ha) (dY p1 hb) (by rw [dT,oA])
 refine kQ ⟨st,(bl (bx e1 (lt (by decide) hm))).trans ?_⟩
 rw [<-bC]
 refine (bl (bx (d:=.lst []) rfl (lt (by decide) l1))).trans ((bl ((f7 (items:=[dN 0,dN 4,dN 8]) hf rfl rfl).trans e2)).trans ((bl (bx e3 (lt (by decide) l2))).trans ?_))
 rw [<-cG]
 exact (bl (dk (so c4 rfl) rfl rfl)).trans e5
theorem K6 {n:Nat} {cl:Calls} (au:cl=⟨aA Q3 10000 (n+4),10000⟩) {ns:List Int} (hz:ns.length<=63) :
  ∃ m fs C,av Q3 cl c3law_35 ⟨some (.lst (ns.map .int))::replicate 26 none,[]⟩=av Q3 cl c3law_28 ⟨m,C⟩/\27=m.length/\(∀ f∈fs,f<64)/\fs.length=8/\m[7]?=some (some (.lst ((nz fs).map .int)))/\(∀ i,8<=i->i<27->m[i]?=some none)/\m[6]?=some none:=by
 have hf:=cl3_0 au
 refine cps λQQ kQ=>?_
 obtain ⟨x,hx⟩ : ∃ x:D,x=.lst (ns.map .int):=⟨_,rfl⟩
 obtain ⟨os,k,x3,e1,lo,ho⟩:=EL (P:=Q3) (cl:=cl) (x:=x) (x4:=none) (x5:=none) (R:=replicate 21 none) (q:=6) (by decide) (by decide) (y:=.lst (ns.map .int)) (λ_ _=>rfl) ns (os:=[37,34,67,57,194,16]) (k:=0) (x3:=none) rfl (by decide)
 have i8:ev Q3 cl (.slice (.var 0) (.cst .none) (.cst (.int 63))) ⟨mP x 0 none none none (replicate 21 none),[.list ((nz [37,34,67,57,194,16]).map .int)]⟩=.ok (.lst (ns.map .int)) ⟨mP x 0 none none none (replicate 21 none),[.list ((nz [37,34,67,57,194,16]).map .int)]⟩:=by
  refine pQ (ak (d:=.lst (ns.map .int)) (by rw [hx]; rfl)) rfl rfl ?_
  refine (yA (a:=.lst (ns.map .int)) (ds:=ns.map .int) rfl (λb z=>(nomatch z)) rU (rT (k:=63) (by decide))).trans ?_
  unfold dg
  rw [drop_zero,sub_zero,length_map,Nat.min_eq_right hz,List.take_of_length_le (by rw [length_map]; exact le_refl _)]
 obtain ⟨C1,jy⟩ : ∃ C1,C1=[Ch.list ((nz os).map .int)]:=⟨_,rfl⟩
 rw [<-jy] at e1
 have c0:C1[0]?=some (.list ((nz os).map .int)):=by rw [jy]; rfl
 obtain ⟨x5,e2⟩:=GF (P:=Q3) (cl:=cl) (x:=x) (R:=replicate 21 none) (all:=[]) rfl os (w:=0) (k:=k) (x3:=x3) (x5:=none) (i:=0) (C:=C1) ho (by decide) (by rw [lo]; decide) (Ge c0 c0)
 obtain ⟨m,hm⟩ : ∃ m,m=mP x k x3 (some (dN (kH os 0))) x5 (replicate 21 none):=⟨_,rfl⟩
 rw [<-hm] at e2
 have lm:27=m.length:=by rw [hm]; rfl
 have e3:=JG (P:=Q3) (cl:=cl) (m:=m) (C:=C1) (v:=27) hf lm (w:=kH os 0) (by rw [hm]; rfl)
 obtain ⟨m1,bC⟩ : ∃ m1,m1=m.set 7 (some (.lst ((nz (j3 (kH os 0))).map .int))):=⟨_,rfl⟩
 have l1:27=m1.length:=by rw [bC,length_set]; exact lm
 have g7:m1[7]?=some (some (.lst ((nz (j3 (kH os 0))).map .int))):=by rw [bC]; exact dp (by rw [<-lm]; decide)
 have g1:m1[1]?=some (some (.loc 0)):=by rw [bC]; exact aT (by rw [hm]; rfl) (by decide)
 obtain ⟨ob,C2,e4,dT,p2⟩:=BQ (r:=bD::bK::r3) (n:=n+1) (m:=m1) (C:=C1) (cl:=cl) (e:=.var 1) (os:=os) au (ak g1) (by unfold aU; dsimp only; rw [c0]) ho (by rw [lo]; decide)
 rw [Jd lo ho] at dT
 obtain ⟨m4,w4⟩:=GI (n:=n+2) (C:=C2) (ob:=ob) (fs:=j3 (kH os 0)) B9 (by rw [B8]; decide) dT
 have c5:ev Q3 cl (.call (.cst (.fn 19)) (.cons (.call (.cst (.fn 3)) (.cons (.call (.cst (.bn .bytes)) (.cons (.var 1) .nil) .nil) .nil) .nil) (.cons (.var 7) .nil)) .nil) ⟨m1,C1⟩=.ok (.bool true) ⟨m1,C2⟩:=by
  subst au
  exact iP (k:=19) (aa:=⟨m4,C2⟩) rfl (iQ e4 (ak g7)) w4
 refine kQ ⟨m1,j3 (kH os 0),C2,?_,l1,B9,B8,g7,λi h1 h2=>?_,by rw [bC]; exact aT (by rw [hm]; rfl) (by decide)⟩
 ·rw [<-hx]
  refine (bl (n3 (ds:=(nz [37,34,67,57,194,16]).map .int) rfl (lb rfl) rfl)).trans ((bl (bx (d:=.int 0) rfl (lb rfl))).trans ?_)
  show av Q3 cl c3law_33 ⟨mP x 0 none none none (replicate 21 none),[.list ((nz [37,34,67,57,194,16]).map .int)]⟩=_
  refine (bl ((f7 (items:=ns.map .int) hf i8 rfl).trans e1)).trans ((bl (bx (d:=.int 0) rfl (lt_of_lt_of_le (by decide:4<6) qH))).trans ?_)
  show av Q3 cl c3law_31 ⟨mP x k x3 (some (dN 0)) none (replicate 21 none),C1⟩=_
  refine (bl ((f7 (items:=(nz os).map .int) hf (ak (d:=.loc 0) rfl) (by show (C1[0]?).bind mR=_; rw [c0]; rfl)).trans e2)).trans ((bl (bx e3 (by rw [<-lm]; decide))).trans ?_)
  rw [<-bC]
  exact bl (dk (so c5 rfl) rfl rfl)
 ·rw [bC]
  refine aT ?_ (ne_of_gt (lt_of_lt_of_le (by decide) h1))
  rw [hm]
  obtain ⟨j,rfl⟩:=Nat.exists_eq_add_of_le h1
  rw [add_comm 8]
  show (replicate 21 none)[j+2]?=some none
  exact List.getElem?_replicate_of_lt (Nat.lt_of_add_lt_add_right (n:=6) (by rw [add_assoc,add_comm j]; exact h2))
theorem Pp (ns:List Int) (hz:ns.length<=63) : ∃ st,aA P3 10000 12 23 [.lst (ns.map .int)] [] []=.ok (.bool true) st:=by
 refine cps λQ0 k0=>?_
 obtain ⟨cl,au⟩ : ∃ cl:Calls,cl=⟨aA Q3 10000 (7+4),10000⟩:=⟨_,rfl⟩
 obtain ⟨m,fs,C,e1,lm,bH,DZ,h7,i5,h6⟩:=K6 au hz
 obtain ⟨m1,C1,a,b,e2,l1,u1,v1,w1,cX,di,ra,rb⟩:=NY (C:=C) au bH DZ lm h7 (i5 14 (by decide) (by decide))
 obtain ⟨m2,C2,e3,l2,u2,v2,mS,mT,tF,tG,O2,O7⟩:=NZ (C:=C1) au bH DZ l1 (u1 7 _ (by decide) h7) (u1 8 _ (by decide) (i5 8 (by decide) (by decide))) (by rw [w1]; exact i5 10 (by decide) (by decide)) (v1 16 _ (by decide) (i5 16 (by decide) (by decide))) (v1 17 _ (by decide) (i5 17 (by decide) (by decide))) cX di ra rb
 obtain ⟨st,e4⟩:=N0 (C:=C2) (vr bH) au l2 (u2 6 _ (by decide) (u1 6 _ (by decide) h6)) (v2 22 _ (by decide) (v1 22 _ (by decide) (i5 22 (by decide) (by decide)))) mS mT tF tG O2 O7
 have go:aA P3 10000 12 23 [.lst (ns.map .int)] [] []=dt (av Q3 cl c3law_35 ⟨some (.lst (ns.map .int))::replicate 26 none,[]⟩):=by subst au; kernel_rfl
 exact k0 ⟨st,go.trans (jj (e1.trans (e2.trans (e3.trans e4))))⟩
end Mine.Lake
end
open PySem PySem.W PyProof.Rows
set_option Elab.async false
namespace Mine.Lake
noncomputable def Nq (fs:List (Str × D)):List (Str × D):=[(Str.ofString "_buffer",.fn 0),(Str.ofString "_truth",.fn 1),(Str.ofString "b2a_base64",.fn 2),(Str.ofString "b64encode",.fn 3),(Str.ofString "_filter",.fn 7)]++fs ++
 [(Str.ofString "_NodeInfo",.cls 0),(Str.ofString "CycleError",.cls 1),(Str.ofString "TopologicalSorter",.cls 2),(Str.ofString "filterfalse",.cls 3),(Str.ofString "_NODE_OUT",.int (-1)),(Str.ofString "_NODE_DONE",.int (-2)),(Str.ofString "_B64",.bytes ia),
 (Str.ofString "len",.bn .len),(Str.ofString "list",.bn .list),(Str.ofString "range",.bn .range),(Str.ofString "tuple",.bn .tuple),(Str.ofString "sum",.bn .sum),(Str.ofString "min",.bn .min),(Str.ofString "sorted",.bn .sorted),
 (Str.ofString "isinstance",.bn .isinstance),(Str.ofString "bool",.bn .bool),(Str.ofString "bytes",.bn .bytes),(Str.ofString "str",.bn .str),(Str.ofString "type",.bn .type),(Str.ofString "set",.bn .set),(Str.ofString "iter",.bn .iter),(Str.ofString "next",.bn .next),
 (Str.ofString "int",.bn .int),(Str.ofString "float",.bn .float),(Str.ofString "complex",.bn .complex),(Str.ofString "bytearray",.bn .bytearray),(Str.ofString "dict",.bn .dict),(Str.ofString "frozenset",.bn .frozenset),(Str.ofString "repr",.bn .repr),
 (Str.ofString "ValueError",.bn .uJ),(Str.ofString "StopIteration",.bn .stopIteration)]
noncomputable def Nr:List Str:=[Str.ofString "out",Str.ofString "successors",Str.ofString "_ready_nodes",Str.ofString "stack",Str.ofString "itstack",Str.ofString "gone",Str.ofString "sizes",Str.ofString "waiting",Str.ofString "active",Str.ofString "told",Str.ofString "octets",
 Str.ofString "known",Str.ofString "sets",Str.ofString "lost",Str.ofString "won",Str.ofString "later",Str.ofString "earlier",Str.ofString "ahead"]
noncomputable def Np (fs:List (Str × D)):aV:={glob:=Nq fs,mu:=Nr,AE:=[(Str.ofString "_law_spread",0)]}
noncomputable def slots:List (List Nat):=[[0,1,2],[],[],[1,0]]
noncomputable def vq:aV:=Np [(Str.ofString "_law_sign",.fn 17),(Str.ofString "_law_ones",.fn 18),(Str.ofString "_law_written",.fn 19),(Str.ofString "_law_came",.fn 20),(Str.ofString "_law_nested",.fn 21),(Str.ofString "_law_below",.fn 22),(Str.ofString "law",.fn 23)]
noncomputable def vY:List Addr:=[148,155,163,171,186,193,200,215,36,73,80,87,92,99,106,120,127,222,227,232,239,246,251,256]
noncomputable def AK:List Addr:=[40,55,137,204]
noncomputable def loose:List Str:=["_wall","_buffer","_truth","_B64","b2a_base64","b64encode","filterfalse","_filter","_NODE_OUT","_NODE_DONE","_NodeInfo","CycleError","TopologicalSorter","_law_sign","_law_ones","_law_written","_law_came","_law_nested","_law_below"].map Str.ofString
noncomputable def q3:Program:=view PySem.Challenge.rw_kt0039_03.row.toRowW.prog [25]
theorem Nx:LeftO PySem.Challenge.rw_kt0039_03.row.toRowW.prog q3 loose (λs=>xlAt q3 [] s&&recOk (RowW.records PySem.Challenge.rw_kt0039_03.row.toRowW) s) (DV P3 vq vY AK slots) (DW P3 vY 23) 2000:=by
 intro w
 kernel_rfl
end Mine.Lake
set_option tactic.hygienic true in
set_option maxRecDepth 100000 in
set_option maxHeartbeats 8000000 in
theorem PySem.Challenge.cw_kt0039_03_holds : PySem.Challenge.rw_kt0039_03.Holds := by
 w_on
 refine holds_law (by kernel_rfl) λTv=>?_
 refine holds_open (q:=Mine.Lake.q3) (loose:=Mine.Lake.loose) (Xt:=λs=>xlAt Mine.Lake.q3 [] s&&recOk (RowW.records PySem.Challenge.rw_kt0039_03.row.toRowW) s) (XP:=XL Mine.Lake.q3 []) (YP:=Mine.Lake.tJ Mine.Lake.P3 Mine.Lake.vq Mine.Lake.vY Mine.Lake.AK Mine.Lake.slots 23) Mine.Lake.Nx Mine.Lake.Nu Mine.Lake.Nt
  (λs e=>xl_of s (and_eq_true_iff.mp e).1) XL.keeps (by rfl) (by rfl) (by rfl) (λs e=>recFacts_of (and_eq_true_iff.mp e).2) (by rfl) (by first|assumption|decide +kernel) (by decide +kernel) ⟨rfl,rfl,rfl,rfl,rfl,by decide +kernel⟩ ?hw ?hc
 (case hw=>w_witness2)
 w_strict (
  intro w s₀ s₁ mg mb G Y fa o pm cd doc dV kV ho hd sO hD LN hg args vals as LZ LI L9 Mw ka
  obtain ⟨K,KX,L,wW⟩:=Y
  refine Ground.open G ?_
  intro T B D TE TW
  wrow_args LZ LI L9 Mw ka
  all_goals (first|refine callC_kw (enter_call ?_)|refine enter_call ?_|refine callC_kw (enter_callW ?_)|refine enter_callW ?_|w_how)
  all_goals (
     rename_i ns _ _ _ _ _ _ _ sa vs _ hL ra w1 r0 hI _ hz _
     refine Mine.Lake.Nc (P:=Mine.Lake.P3) (G:=Mine.Lake.vq) (k:=23) (f:=Mine.Lake.l8) KX LN T.g T.b T.nolimit T.builtins (T.seer ?_) hg (Mine.Lake.Nz w1 hL) hI ?_ L ⟨?_,?_,?_⟩ wW ?_ ?_ ?_ ?_ ?_ (Mine.Lake.Pp ns (by omega)) ?_
     ·kernel_rfl
     ·omega
     ·kernel_rfl
     ·kernel_rfl
     ·kernel_rfl
     ·rfl
     ·rfl
     ·rfl
     ·rfl
     ·rfl
     ·intro s' hk mA ho
      exact GoodW.toG ⟨.inl ⟨_,.bool true,[],rfl,λu'=>by first|rfl|kernel_rfl,.bool true,by first|rfl|kernel_rfl,unshared_nil⟩,hk,ho,mA⟩))
