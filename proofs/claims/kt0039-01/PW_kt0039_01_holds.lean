import PyProof.Rows.All
import Wide.All
import OpenK.AllK
import Wide.FinOn
import PySem.Challenge.RW_kt0039_01
open Nat (add_assoc add_comm add_le_add add_le_add_left add_le_add_right add_lt_add_left add_mul_div_right add_right_comm add_sub_assoc add_sub_cancel' add_sub_cancel_left ble div_lt_of_lt_mul div_one le_add_left le_add_right le_antisymm le_of_ble_eq_true le_of_eq le_of_lt le_of_lt_succ le_of_not_lt le_refl le_succ le_trans lt_irrefl lt_min lt_of_le_of_lt lt_of_le_of_ne lt_of_lt_of_le lt_of_not_le lt_of_succ_lt lt_or_eq_of_le lt_succ_of_lt lt_succ_self lt_trans min_eq_left min_eq_right min_le_right mod_eq_of_lt mod_lt mul_add_mod' mul_assoc mul_comm mul_le_mul_left ne_of_gt ne_of_lt not_lt not_lt_zero one_pos pow_pos sub_eq_zero_of_le sub_le sub_lt sub_pos_of_lt sub_self sub_sub sub_sub_self sub_zero succ_le_succ succ_mul succ_ne_zero succ_pos testBit_and zero_add zero_le zero_lt_one)
open Bool (and_eq_true and_eq_true_iff false_eq_true not_eq_true not_eq_true' or_eq_false_iff or_eq_true)
open List (IsPrefix all_eq_true any_cons any_eq_true append_assoc append_nil cons_append contains_iff_mem drop_drop drop_zero exists_cons_of_length_eq_add_one ext_getElem? filter_congr filter_cons filter_eq_self find?_some flatMap_cons foldl_cons forIn_cons getD_eq_getElem?_getD getElem?_append_right getElem?_drop getElem?_eq_getElem getElem?_eq_none getElem?_map getElem?_range getElem?_set getElem?_take isEmpty_iff length_append length_cons length_drop length_map length_nil length_pos_of_mem length_range length_reverse length_set length_take lookup_cons mapM_cons map_append map_congr_left map_cons map_map map_set mem_append mem_append_left mem_append_right mem_cons mem_filter mem_iff_getElem? mem_map mem_map_of_mem mem_of_find?_eq_some mem_of_getElem? mem_of_mem_take mem_range mem_reverse mem_singleton nodup_append nodup_cons nodup_nil nodup_range not_mem_nil pairwise_append pairwise_cons prefix_append prefix_refl range' replicate reverse_cons set_append set_append_right size_toArray take_append_drop take_left' take_length take_nil take_of_length_le zipIdx_cons)
open Int (add_zero le_natAbs natAbs_natCast natCast_add natCast_nonneg not_le ofNat ofNat_le ofNat_lt toNat_natCast)
open Option (isNone_iff_eq_none isSome_iff_exists isSome_some)
set_option Elab.async false
set_option linter.all false
set_option genSizeOf false
set_option genInjectivity false
set_option tactic.hygienic false
set_option genCtorIdx false
set_option backward.linearNoConfusionType false
set_option bootstrap.genMatcherCode false
set_option backward.eqns.nonrecursive false
set_option backward.eqns.deepRecursiveSplit false
section
open PySem PyProof.Rows
namespace Mine.Lake
theorem ad.{u} {α:Type u} {a b:α} (h:some a=some b):a=b:=Option.some.inj h
theorem al {a b c:Nat} (h:a<=b) (k:b<c):a<c:=Nat.lt_of_le_of_lt h k
theorem am {a b c:Nat} (h:a<b) (k:b<=c):a<c:=Nat.lt_of_lt_of_le h k
theorem an {a b c:Nat} (h:a<=b) (k:b<=c):a<=c:=Nat.le_trans h k
theorem be.{u} {α:Type u} {l:List α} {i:Nat} {a:α} (h:l[i]?=some a): ∃ h:i<l.length,l[i]=a:=List.getElem?_eq_some_iff.mp h
theorem bi.{u} {α:Type u} {a b:α} {l:List α} (h:a∈b::l):a=b\/a∈l:=List.mem_cons.mp h
theorem ca.{u} {α:Type u} {a b:α} (h:a∈[b]):a=b:=List.mem_singleton.mp h
def ce:=@wpAny_bind
def cr:=@wpAny_pure
def dL:=@Heap.get?_push_of_some
def f8:=@Heap.get?_none_of_le
def ga:=@wpS_bind
def gl:=@wpAny_mono
def ii:=@lt_trans
def im:=@eq_of_beq
def io:=@of_decide_eq_true
def jp:=@le_add_right
def kt:=@Nat.succ.inj
def ln:=@le_of_lt
def ls:=@wpAny_holding
def lv:=@wpS_pure
def lw:=@Heap.get?_push_size
def mo:=@Heap.SameBut.update
def mt:=@le_of_lt_succ
def nw:=@wpS_mono
end Mine.Lake
end
section
set_option backward.match.sparseCases false
open PySem
namespace Mine.Lake
mutual
inductive Bn where
 |len|list|range|tuple|sum|min|sorted|isinstance|bool|bytes|str|type|set|iter|next
 |int|float|complex|bytearray|dict|frozenset|vv|stopIteration|repr
inductive WN where
 |x
end
noncomputable def Bn.ctorIdx (x:Bn):Nat:=Bn.casesOn x 0 1 2 3 4 5 6 7 8 9 10 11 12 13 14 15 16 17 18 19 20 21 22 23
noncomputable def H0:List Bn:=[.len,.list,.range,.tuple,.sum,.min,.sorted,.isinstance,.bool,.bytes,.str,.type,.set,.iter,.next,.int,.float,.complex,.bytearray,.dict,.frozenset,.vv,.stopIteration,.repr]
theorem Bn.iC (x:Bn):H0[x.ctorIdx]?=some x:=by induction x using Bn.casesOn<;>rfl
noncomputable instance:DecidableEq Bn:=λa b=>decidable_of_iff (a.ctorIdx=b.ctorIdx) ⟨λh=>ad (by rw [<-Bn.iC a,h,Bn.iC]),λh=>h ▸ rfl⟩
mutual
inductive Nm where
 |append|pop|clear|get|values|add|nD|prepare|pa|jT|nY|done
 |cO|cf|d4|eM|node|eN|succ|it|func|bk|bX|newline|init|i8
inductive WR where
 |x
end
noncomputable def Nm.ctorIdx (x:Nm):Nat:=Nm.casesOn x 0 1 2 3 4 5 6 7 8 9 10 11 12 13 14 15 16 17 18 19 20 21 22 23 24 25
noncomputable def vT:List Nm:=[.append,.pop,.clear,.get,.values,.add,.nD,.prepare,.pa,.jT,.nY,.done,.cO,.cf,.d4,.eM,.node,.eN,.succ,.it,.func,.bk,.bX,.newline,.init,.i8]
theorem Nm.iC (x:Nm):vT[x.ctorIdx]?=some x:=by induction x using Nm.casesOn<;>rfl
noncomputable instance:DecidableEq Nm:=λa b=>decidable_of_iff (a.ctorIdx=b.ctorIdx) ⟨λh=>ad (by rw [<-Nm.iC a,h,Nm.iC]),λh=>h ▸ rfl⟩
inductive D where
 |none
 |bool (b:Bool)
 |int (i:Int)
 |str (s:Str)
 |bytes (b:List UInt8)
 |bn (b:Bn)
 |fn (k:Nat)
 |cls (k:Nat)
 |tup (ds:List D)
 |lst (ds:List D)
 |cP (a b:Int)
 |loc (i:Nat)
 |inst (k i:Nat)
 |bm (n:Nm) (self:D)
 |di (i:Nat)
 |iW (msg:Str)
noncomputable def D.ctorIdx (x:D):Nat:=D.casesOn x 0 (λ_=>1) (λ_=>2) (λ_=>3) (λ_=>4) (λ_=>5) (λ_=>6) (λ_=>7) (λ_=>8) (λ_=>9) (λ_ _=>10) (λ_=>11) (λ_ _=>12) (λ_ _=>13) (λ_=>14) (λ_=>15)
inductive Ch where
 |list (ds:List D)
 |dict (b:Bool) (es:List (Int × D))
 |cL (es:List (Nm × D))
 |set (es:List Int)
 |slots (k:Nat) (fs:List (Option D))
 |bq (src:D) (pos:Nat)
noncomputable def Ch.ctorIdx (x:Ch):Nat:=Ch.casesOn x (λ_=>0) (λ_ _=>1) (λ_=>2) (λ_=>3) (λ_ _=>4) (λ_ _=>5)
abbrev ah:=List Ch
structure St where
 m:List (Option D)
 C:ah
inductive X where
 |stop|iG|value (msg:Str)
noncomputable def X.ctorIdx (x:X):Nat:=X.casesOn x 0 1 (λ_=>2)
inductive ak (α:Type) where
 |ok (a:α) (st:St)
 |exc (x:X) (st:St)
 |fail
noncomputable def ak.ctorIdx {α:Type} (x:ak α):Nat:=ak.casesOn x (λ_ _=>0) (λ_ _=>1) 2
inductive Fl where
 |next|brk|cont|ret (d:D)
noncomputable def Fl.ctorIdx (x:Fl):Nat:=Fl.casesOn x 0 1 2 (λ_=>3)
mutual
inductive Op where
 |add|sub|mul|fdiv|mod|pow|shl|shr|and|or
inductive WS where
 |x
end
noncomputable def Op.ctorIdx (x:Op):Nat:=Op.casesOn x 0 1 2 3 4 5 6 7 8 9
noncomputable def H7:List Op:=[.add,.sub,.mul,.fdiv,.mod,.pow,.shl,.shr,.and,.or]
theorem Op.iC (x:Op):H7[x.ctorIdx]?=some x:=by induction x using Op.casesOn<;>rfl
noncomputable instance:DecidableEq Op:=λa b=>decidable_of_iff (a.ctorIdx=b.ctorIdx) ⟨λh=>ad (by rw [<-Op.iC a,h,Op.iC]),λh=>h ▸ rfl⟩
mutual
inductive Cm where
 |eq|ne|lt|le|gt|ge|is|n5|ez|zm
inductive WO where
 |x
end
noncomputable def Cm.ctorIdx (x:Cm):Nat:=Cm.casesOn x 0 1 2 3 4 5 6 7 8 9
noncomputable def H5:List Cm:=[.eq,.ne,.lt,.le,.gt,.ge,.is,.n5,.ez,.zm]
theorem Cm.iC (x:Cm):H5[x.ctorIdx]?=some x:=by induction x using Cm.casesOn<;>rfl
noncomputable instance:DecidableEq Cm:=λa b=>decidable_of_iff (a.ctorIdx=b.ctorIdx) ⟨λh=>ad (by rw [<-Cm.iC a,h,Cm.iC]),λh=>h ▸ rfl⟩
inductive T where
 |one (n:Nat)
 |many (ns:List Nat)
noncomputable def T.ctorIdx (x:T):Nat:=T.casesOn x (λ_=>0) (λ_=>1)
mutual
inductive E where
 |bad
 |cst (d:D)
 |var (n:Nat)
 |bin (op:Op) (a b:E)
 |cmp (op:Cm) (a b:E)
 |not (a:E)
 |and (a b:E)
 |or (a b:E)
 |ite (c a b:E)
 |list (es:Es)
 |tup (es:Es)
 |nu
 |idx (a i:E)
 |slice (a lo hi:E)
 |comp (elt:E) (g:Gs)
 |attr (a:E) (n:Nm)
 |call (f:E) (es:Es) (ks:Ks)
 |bo (o:E) (n:Nm) (es:Es)
 |gE (o:E) (n:Nm) (es:Es) (star:E)
 |lF (n:Nat) (a:E)
 |tT (es:Es)
 |SH (a:E)
 |nc (a:E)
inductive Es where
 |nil
 |cons (e:E) (es:Es)
inductive Ks where
 |nil
 |cons (n:Nm) (e:E) (ks:Ks)
inductive Gs where
 |nil
 |cons (t:T) (it:E) (ifs:Es) (g:Gs)
end
mutual
inductive S where
 |bad
 |pass
 |brk
 |cont
 |expr (e:E)
 |aR (n:Nat) (mu:Bool) (e:E)
 |oP (ns:List Nat) (e:E)
 |cW (o:E) (a:Nm) (mu:Bool) (e:E)
 |kr (o i e:E)
 |qp (o i:E) (n:Nat) (e:E)
 |lP (o:E) (a:Nm) (op:Op) (e:E)
 |ifs (c:E) (a b:Ss)
 |lG (c:E) (a b:Ss)
 |fA (t:T) (it:E) (a:Ss)
 |ret (e:E)
 |Sv (e:E)
 |sd (a b:E)
 |oI (b:Ss) (x:Nat) (n:Option Nat) (h:Ss)
 |qx (o i:E)
inductive Ss where
 |nil
 |cons (s:S) (ss:Ss)
end
structure Fn where
 cb:List Nat
 bS:List D
 ck:List (Nm × Nat)
 cA:Option Nat
 size:Nat
 body:Ss
structure iy where
 init:Nat
 meths:List (Nm × Nat)
 slots:Option (List Nm)
structure aX where
 fns:List Fn
 oZ:List iy
noncomputable def Nm.nZ:Nm->Bool
 |.cO|.cf|.d4|.eM=>true
 |_=>false
noncomputable def aX.dw (P:aX) (k:Nat):Option iy:=match P.oZ[k]? with
 |some c=>if c.init<P.fns.length then some c else none
 |none=>none
noncomputable def D.isInt:D->Option Int
 |.int i=>some i
 |_=>Option.none
noncomputable def uG:D->Option Bool
 |.bool b=>some b
 |_=>none
noncomputable def pK:D->Option Nat
 |.loc j=>some j
 |_=>none
noncomputable def n4:D->Option Str
 |.str s=>some s
 |_=>none
noncomputable def bW (C:ah):D->Option (List D)
 |.lst ds=>some ds
 |.tup ds=>some ds
 |.loc i=>match C[i]? with
  |some (.list ds)=>some ds
  |_=>none
 |_=>none
noncomputable def a9 (C:ah):D->Option (List D)
 |.lst ds=>some ds
 |.loc i=>match C[i]? with
  |some (.list ds)=>some ds
  |_=>none
 |_=>none
noncomputable def oO (C:ah) (i:Nat):Option (List D):=match C[i]? with
 |some (.bq src _)=>a9 C src
 |_=>none
mutual
noncomputable def toPy:Nat->D->Option PyData
 |_,.int i=>some (.int i)
 |n+1,.lst ds=>(toPys n ds).map .list
 |n+1,.tup ds=>(toPys n ds).map .tuple
 |_,_=>none
noncomputable def toPys:Nat->List D->Option (List PyData)
 |_,[]=>some []
 |n,d::ds=>(toPy n d).bind λx=>(toPys n ds).map λxs=>x::xs
end
noncomputable def qB (a b:D):Option Bool:=(toPy 8 a).bind λx=>(toPy 8 b).map λy=>PyData.eqv x y
noncomputable def o7 (a b:D):Option Bool:=match a with
 |.int x=>match b.isInt with
  |some y=>some (x==y)
  |none=>qB (.int x) b
 |.bool x=>(uG b).map λy=>x==y
 |.str x=>(n4 b).map λy=>decide (x=y)
 |a=>qB a b
noncomputable def gS (C:ah) (d:D):D:=match d with
 |.loc i=>match C[i]? with
  |some (.list ds)=>.lst ds
  |_=>.loc i
 |d=>d
noncomputable def eA:List D->Option (List Int)
 |[]=>some []
 |.int i::r=>(eA r).map (i :: ·)
 |_=>none
noncomputable def iR (x:D) (ds:List D):Option Bool:=x.isInt.bind λi=>(eA ds).map λxs=>xs.contains i
noncomputable def aH:Nat:=100000
noncomputable def small (a:Int):Bool:=decide (a.natAbs<2 ^ 64)
noncomputable def hW (op:Op) (a b:Int):Option Int:=match op with
 |.add=>some (a+b)
 |.sub=>some (a - b)
 |.mul=>if small a&&small b then some (a*b) else none
 |.fdiv=>if small b&&b != 0 then some (a.fdiv b) else none
 |.mod=>if b != 0 then some (a.fmod b) else none
 |.pow=>if small a&&decide (0<=b)&&decide (b<=1000) then some (a ^ b.toNat) else none
 |.shl=>if small a&&decide (0<=b)&&decide (b<=1000) then some (a*2 ^ b.toNat) else none
 |.shr=>if decide (0<=b)&&decide (b<=1000) then some (a.fdiv (2 ^ b.toNat)) else none
 |.and=>some (Builtin.bitAnd a b)
 |.or=>some (Builtin.bitOr a b)
noncomputable def ql (x y:Str):Option D:=if x.length+y.length<=aH then some (.str (x++y)) else none
noncomputable def tc (C:ah) (a b:D):Option D:=(a9 C a).bind λxs=>(a9 C b).bind λys=>if xs.length+ys.length<=aH then some (.lst (xs++ys)) else none
noncomputable def we (C:ah) (a b:D):Option D:=match n4 a with
 |some x=>(n4 b).bind λy=>ql x y
 |none=>tc C a b
noncomputable def eH (C:ah) (op:Op) (a b:D):Option D:=match a.isInt with
 |some x=>b.isInt.bind λy=>(hW op x y).map .int
 |none=>match op with
  |.add=>we C a b
  |_=>none
noncomputable def Bn.k8:Bn->Bool
 |.list|.range|.tuple|.bool|.bytes|.str|.type|.set|.int|.float|.complex|.bytearray|.dict|.frozenset=>true
 |_=>false
noncomputable def Fe:D->Option Bool
 |.none=>some true
 |.int _|.bool _|.lst _|.tup _|.loc _|.bm .. => some false
 |_=>none
noncomputable def yU (x:D) (b:Bn):Option Bool:=match x with
 |.bn a=>if a.k8 then some (a==b) else none
 |.bm .. => some false
 |_=>none
noncomputable def uH (x y:D):Option Bool:=match y with
 |.none=>Fe x
 |.bn b=>if b.k8 then yU x b else none
 |_=>none
noncomputable def PR (x:D):Ch->Option Bool
 |.list ds=>iR x ds
 |.set es=>x.isInt.map es.contains
 |.dict _ es=>x.isInt.map λk=>es.any (·.1==k)
 |_=>none
noncomputable def yP (C:ah) (x c:D):Option Bool:=match c with
 |.loc i=>C[i]?.bind (PR x)
 |.lst ds=>iR x ds
 |.tup ds=>iR x ds
 |_=>none
noncomputable def rZ (f:Int->Int->Bool) (a b:D):Option Bool:=a.isInt.bind λx=>b.isInt.map λy=>f x y
noncomputable def jN (C:ah) (op:Cm) (a b:D):Option Bool:=match op with
 |.eq=>o7 (gS C a) (gS C b)
 |.ne=>(o7 (gS C a) (gS C b)).map (!·)
 |.lt=>rZ (λx y=>decide (x<y)) a b
 |.le=>rZ (λx y=>decide (x<=y)) a b
 |.gt=>rZ (λx y=>decide (x > y)) a b
 |.ge=>rZ (λx y=>decide (x ≥ y)) a b
 |.is=>uH a b
 |.n5=>(uH a b).map (!·)
 |.ez=>yP C a b
 |.zm=>(yP C a b).map (!·)
noncomputable def vr:Ch->Option Bool
 |.list ds=>some (!ds.isEmpty)
 |_=>none
noncomputable def bH (C:ah):D->Option Bool
 |.none=>some false
 |.bool b=>some b
 |.int i=>some (i != 0)
 |.lst ds=>some (!ds.isEmpty)
 |.tup ds=>some (!ds.isEmpty)
 |.loc i=>C[i]?.bind vr
 |_=>none
noncomputable def hV (ds:List D) (i:Int):Option D:=
 if 0<=i then (if i<2 ^ 62 then ds[i.toNat]? else none)
 else if 0<=i+ds.length then ds[(i+ds.length).toNat]? else none
noncomputable def pF (b:List UInt8) (k:Int):Option D:=if 0<=k/\k<2 ^ 62 then (b[k.toNat]?).map λc=>.int c.toNat else none
noncomputable def yI (k:Int):Ch->Option D
 |.list ds=>hV ds k
 |.dict _ es=>es.lookup k
 |_=>none
noncomputable def PI (C:ah) (a:D) (k:Int):Option D:=match a with
 |.bytes b=>pF b k
 |.loc j=>C[j]?.bind (yI k)
 |.lst ds=>hV ds k
 |.tup ds=>hV ds k
 |_=>none
noncomputable def g9 (C:ah) (a i:D):Option D:=i.isInt.bind λk=>PI C a k
noncomputable def bound (d:D) (dflt n:Nat):Option Nat:=match d with
 |.none=>some dflt
 |.int k=>if 0<=k/\k<2 ^ 62 then some (min k.toNat n) else none
 |_=>none
noncomputable def gQ {α:Type} (xs:List α) (lo hi:Nat):List α:=(xs.drop lo).take (hi - lo)
noncomputable def vj (C:ah) (a lo hi:D):Option D:=(a9 C a).bind λds=>(bound lo 0 ds.length).bind λl=>(bound hi ds.length ds.length).map λh=>.lst (gQ ds l h)
noncomputable def p6 (C:ah) (a lo hi:D):Option D:=match a with
 |.bytes b=>(bound lo 0 b.length).bind λl=>(bound hi b.length b.length).map λh=>.bytes (gQ b l h)
 |a=>vj C a lo hi
noncomputable def eQ (C:ah) (i:Nat):Option (List (Nm × D)):=match C[i]? with
 |some (.cL es)=>some es
 |_=>none
noncomputable def Iu (P:aX) (C:ah) (i:Nat) (n:Nm):Ch->Option D
 |.slots k fs=>(P.dw k).bind λc=>c.slots.bind λns=>if ns.contains n then (fs[ns.idxOf n]?).join else none
 |.list _=>match n with
  |.bk=>some (.bm .bk (.loc i))
  |_=>none
 |.bq src _=>match n with
  |.bX=>if (a9 C src).isSome then some (.bm .bX (.loc i)) else none
  |_=>none
 |_=>none
noncomputable def ft (P:aX) (C:ah) (o:D) (n:Nm):Option D:=match o with
 |.inst k i=>(P.dw k).bind λc=>(eQ C i).bind λes=>if c.slots.isNone&&n.nZ then es.lookup n else none
 |.loc i=>C[i]?.bind (Iu P C i n)
 |.lst ds=>match n with
  |.bk=>some (.bm .bk (.lst ds))
  |_=>none
 |_=>none
noncomputable def jY (x:Int):List Int->List Int
 |[]=>[x]
 |y::r=>if x<y then x::y::r else y::jY x r
theorem E8 {x y:Int} {r:List Int}:jY x (y::r)=if x<y then x::y::r else y::jY x r:=rfl
noncomputable def oE (xs:List Int):List Int:=xs.foldl (λacc x=>jY x acc) []
noncomputable def pT:List Int->Option Int
 |[]=>none
 |x::r=>some (r.foldl (λa b=>if b<a then b else a) x)
noncomputable def gP:List Int->Option (List UInt8)
 |[]=>some []
 |i::r=>if 0<=i/\i<256 then (gP r).map (i.toNat.toUInt8 :: ·) else none
noncomputable def vf (a b:Int):Bool:=decide (a.natAbs<2 ^ 60)&&decide (b.natAbs<2 ^ 60)&&decide (b - a<=aH)
noncomputable def fZ (a b:Int):List D:=(List.range (b - a).toNat).map λ(i:Nat)=>.int (a+(i:Int))
noncomputable def pL:Ch->Option (List D)
 |.list ds=>some ds
 |.dict true es=>some (es.map λe=>.int e.1)
 |_=>none
noncomputable def Ai:Ch->Option (List D)
 |.dict true es=>some (es.map (·.2))
 |_=>none
noncomputable def bV (C:ah):D->Option (List D)
 |.lst ds=>some ds
 |.tup ds=>some ds
 |.cP a b=>if vf a b then some (fZ a b) else none
 |.bytes b=>some (b.map λc=>.int c.toNat)
 |.loc i=>C[i]?.bind pL
 |.di i=>C[i]?.bind Ai
 |_=>none
noncomputable def Fc:D->Option (Nat × Nat)
 |.inst k i=>some (k,i)
 |_=>none
mutual
noncomputable def D.beq:D->D->Bool
 |.int x,b=>b.isInt==some x
 |.bool x,b=>uG b==some x
 |.str x,b=>n4 b==some x
 |.loc x,b=>pK b==some x
 |.inst k i,b=>Fc b==some (k,i)
 |.lst as,b=>match b with
  |.lst bs=>D.mY as bs
  |_=>false
 |_,_=>false
noncomputable def D.mY:List D->List D->Bool
 |[],bs=>bs.isEmpty
 |a::as,bs=>match bs with
  |[]=>false
  |b::bs=>D.beq a b&&D.mY as bs
end
noncomputable def oS:List (Int × D)->List (Int × D)->Bool
 |[],bs=>bs.isEmpty
 |a::as,bs=>match bs with
  |[]=>false
  |b::bs=>a.1==b.1&&D.beq a.2 b.2&&oS as bs
noncomputable def Gy (c c':Ch):Bool:=match c with
 |.list a=>match c' with
  |.list b=>D.mY a b
  |_=>false
 |.dict true a=>match c' with
  |.dict true b=>oS a b
  |_=>false
 |_=>false
noncomputable def kj (C C':ah) (i:Nat):Bool:=match C[i]? with
 |some c=>match C'[i]? with
  |some c'=>Gy c c'
  |none=>false
 |none=>false
noncomputable def br (C C':ah):D->Bool
 |.loc i=>kj C C' i
 |.di i=>kj C C' i
 |_=>true
noncomputable def iE (t:T) (d:D) (m:List (Option D)):Option (List (Option D)):=match t with
 |.one n=>if n<m.length then some (m.set n (some d)) else none
 |.many ns=>match d with
  |.tup ds=>if ns.length==ds.length&&ns.all (· < m.length) then some ((ns.zip ds).foldl (λm x=>m.set x.1 (some x.2)) m) else none
  |_=>none
structure Calls where
 call:Nat->List D->List (Nm × D)->ah->ak D
 fuel:Nat
noncomputable def ja (cl:Calls) (k nx i:Nat):Nat->ah->List D->ak D
 |0,_,_=>.fail
 |n+1,C,acc=>match C[i]? with
  |some (.slots k' _)=>if k'==k then match cl.call nx [.loc i] [] C with
   |.ok d st=>if acc.length<aH then ja cl k nx i n st.C (acc++[d]) else .fail
   |.exc .stop st=>.ok (.lst acc) st
   |_=>.fail else .fail
  |_=>.fail
noncomputable def WV (xs:List Int):List Int:=xs.foldl (λs x=>if s.contains x then s else s++[x]) []
noncomputable def Xi (d:D) (m:List (Option D)) (C:ah):ak D:=.ok d ⟨m,C⟩
noncomputable def dp (o:Option D) (st:St):ak D:=match o with
 |some d=>.ok d st
 |none=>.fail
noncomputable def fF (C:ah) (m:List (Option D)) (i:Nat):ak D:=match C[i]? with
  |some (.bq src p)=>match bW C src with
   |some ds=>match ds[p]? with
    |some d=>.ok d ⟨m,C.set i (.bq src (p+1))⟩
    |none=>.exc .stop ⟨m,C.set i (.bq .none 0)⟩
   |none=>.fail
  |_=>.fail
noncomputable def one (args:List D) (f:D->ak D):ak D:=match args with
 |[a]=>f a
 |_=>.fail
noncomputable def two (args:List D) (f:D->D->ak D):ak D:=match args with
 |[a,b]=>f a b
 |_=>.fail
noncomputable def aL {α:Type} (o:Option α) (f:α->ak D):ak D:=match o with
 |some x=>f x
 |none=>.fail
noncomputable def bJ (b:Bool) (o:ak D):ak D:=match b with
 |true=>o
 |false=>.fail
noncomputable def jZ (C:ah) (a:D):Option (List Int):=(a9 C a).bind eA
noncomputable def Fp:Ch->Option Int
 |.list ds=>some ds.length
 |.set es=>some es.length
 |_=>none
noncomputable def yZ (C:ah):D->Option Int
 |.bytes x=>some x.length
 |.loc i=>C[i]?.bind Fp
 |.lst ds=>some ds.length
 |.tup ds=>some ds.length
 |_=>none
noncomputable def Bh (a:D) (st:St):ak D:=aL (yZ st.C a) λn=>.ok (.int n) st
noncomputable def th (P:aX) (cl:Calls) (i k:Nat) (st:St):ak D:=match P.dw k with
 |some c=>aL (c.meths.lookup .i8) λni=>aL (c.meths.lookup .bX) λnx=>match cl.call ni [.loc i] [] st.C with
  |.ok (.loc j) aa=>bJ (decide (j=i)) (match ja cl k nx i cl.fuel aa.C [] with
   |.ok d ae=>.ok d ⟨st.m,ae.C⟩
   |_=>.fail)
  |_=>.fail
 |none=>.fail
noncomputable def Bj (P:aX) (cl:Calls) (i:Nat) (st:St):Ch->ak D
 |.slots k _=>th P cl i k st
 |.list ds=>.ok (.lst ds) st
 |_=>.fail
noncomputable def Bi (P:aX) (cl:Calls) (a:D) (st:St):ak D:=match a with
 |.cP x y=>bJ (vf x y) (.ok (.lst (fZ x y)) st)
 |.bytes x=>.ok (.lst (x.map λc=>.int c.toNat)) st
 |.loc i=>aL st.C[i]? (Bj P cl i st)
 |.lst ds=>.ok (.lst ds) st
 |.tup ds=>.ok (.lst ds) st
 |_=>.fail
noncomputable def Bl (args:List D) (st:St):ak D:=match args with
 |[a]=>aL a.isInt λn=>bJ (small n) (.ok (.cP 0 n) st)
 |[a,b]=>aL a.isInt λx=>aL b.isInt λy=>bJ (small x&&small y) (.ok (.cP x y) st)
 |_=>.fail
noncomputable def Bg (a t:D) (st:St):ak D:=match a with
 |.bytes _=>match t with
  |.bn .bytes=>.ok (.bool true) st
  |_=>.fail
 |.bool _=>match t with
  |.bn .bool=>.ok (.bool true) st
  |_=>.fail
 |_=>.fail
noncomputable def Bo (a:D) (st:St):ak D:=match a with
 |.iW msg=>.ok (.str msg) st
 |.int i=>bJ (small i) (.ok (.str (Str.ofString (toString i))) st)
 |_=>.fail
noncomputable def Bp (a:D) (st:St):ak D:=match a with
 |.bytes _=>.ok (.bn .bytes) st
 |.bool _=>.ok (.bn .bool) st
 |_=>.fail
noncomputable def Bm (_:List D) (_:St):ak D:=.fail
noncomputable def Bk (a:D) (st:St):ak D:=match a with
 |.loc i=>fF st.C st.m i
 |_=>.fail
noncomputable def vq (xs:List Int):Bool:=(decide (xs.getD 0 0<xs.getD 1 0)&&(xs.drop 2).all λx=>decide (x<xs.getD 1 0))||(decide (xs.getD 1 0<xs.getD 2 0)&&(xs.drop 2).all λx=>decide (x<xs.getD 0 0))
noncomputable def jE (xs:List Int):Bool:=decide (xs.length<64)||(decide (xs.length=64)&&vq xs)
noncomputable def wh (P:aX) (cl:Calls) (b:Bn) (args:List D) (st:St):ak D:=match b with
 |.len=>one args λa=>Bh a st
 |.list=>one args λa=>Bi P cl a st
 |.tuple=>one args λa=>aL (a9 st.C a) λds=>.ok (.tup ds) st
 |.range=>Bl args st
 |.sum=>one args λa=>aL (jZ st.C a) λxs=>bJ (xs.all (λx=>decide (x.natAbs<2 ^ 32))&&decide (xs.length<=aH)) (.ok (.int xs.sum) st)
 |.min=>one args λa=>aL (jZ st.C a) λxs=>aL (pT xs) λx=>.ok (.int x) st
 |.sorted=>one args λa=>aL (jZ st.C a) λxs=>bJ (jE xs) (.ok (.lst ((oE xs).map .int)) st)
 |.isinstance=>two args λa t=>Bg a t st
 |.bool=>one args λa=>aL (a9 st.C a) λds=>.ok (.bool (!ds.isEmpty)) st
 |.bytes=>one args λa=>aL ((jZ st.C a).bind gP) λb=>bJ (decide (b.length<=aH)) (.ok (.bytes b) st)
 |.str=>one args λa=>Bo a st
 |.type=>one args λa=>Bp a st
 |.set=>match args with
  |[]=>.ok (.loc st.C.length) ⟨st.m,st.C++[.set []]⟩
  |args=>Bm args st
 |.iter=>one args λa=>aL (bW st.C a) λu'=>.ok (.loc st.C.length) ⟨st.m,st.C++[.bq a 0]⟩
 |.next=>one args λa=>Bk a st
 |_=>.fail
noncomputable def jM (P:aX) (cl:Calls) (b:Bn) (args:List D) (st:St):ak D:=if cl.fuel==0&&b != .str then .fail else wh P cl b args st
noncomputable def nX (o:D) (m:List (Option D)) (r:ak D):ak D:=match r with
 |.ok .none ao=>.ok o ⟨m,ao.C⟩
 |_=>.fail
noncomputable def oY (P:aX) (cl:Calls) (k:Nat) (args:List D) (st:St):ak D:=match P.dw k with
 |some c=>match c.slots with
  |some ns=>nX (.loc st.C.length) st.m (cl.call c.init (.loc st.C.length::args) [] (st.C++[.slots k (replicate ns.length none)]))
  |none=>nX (.inst k st.C.length) st.m (cl.call c.init (.inst k st.C.length::args) [] (st.C++[.cL []]))
 |none=>.fail
noncomputable def bR (m:List (Option D)):ak D->ak D
 |.ok d st=>.ok d ⟨m,st.C⟩
 |.exc x st=>.exc x ⟨m,st.C⟩
 |.fail=>.fail
noncomputable def JM (P:aX) (cl:Calls) (n:Nm) (s:D) (args:List D) (st:St):ak D:=match n with
 |.bk=>one args λx=>aL ((a9 st.C s).bind (iR x)) λb=>.ok (.bool b) st
 |.bX=>aL (pK s) λi=>bJ (args.isEmpty&&(oO st.C i).isSome) (jM P cl .next [.loc i] st)
 |_=>.fail
noncomputable def m7 (P:aX) (cl:Calls) (f:D) (args:List D) (k9:List (Nm × D)) (st:St):ak D:=match f with
 |.fn k=>bR st.m (cl.call k args k9 st.C)
 |.cls k=>if k9.isEmpty then oY P cl k args st else .fail
 |.bn b=>if k9.isEmpty then jM P cl b args st else .fail
 |.bm n s=>if k9.isEmpty then JM P cl n s args st else .fail
 |_=>.fail
noncomputable def putL {α β:Type} [BEq α] (k:α) (v:β):List (α × β)->List (α × β)
 |[]=>[(k,v)]
 |e::r=>if e.1==k then (e.1,v)::r else e::putL k v r
theorem ot {α β:Type} [BEq α] {k:α} {v:β} {e:α × β} {r:List (α × β)}:putL k v (e::r)=if e.1==k then (e.1,v)::r else e::putL k v r:=rfl
noncomputable def fy {α β:Type} [BEq α] (k:α):List (α × β)->List (α × β)
 |[]=>[]
 |e::r=>if e.1==k then r else e::fy k r
theorem tB {α β:Type} [BEq α] {k:α} {e:α × β} {r:List (α × β)}:fy k (e::r)=if e.1==k then r else e::fy k r:=rfl
inductive MK where
 |own (k f:Nat)|mw|pR|pM|nr|o6|oz
noncomputable def MK.ctorIdx (x:MK):Nat:=MK.casesOn x (λ_ _=>0) 1 2 3 4 5 6
noncomputable def lp (n:Nm):Ch->Option MK
 |.list _=>match n with
  |.append=>some .mw
  |.pop=>some .pR
  |.clear=>some .pM
  |_=>none
 |.dict _ _=>match n with
  |.get=>some .nr
  |.values=>some .o6
  |_=>none
 |.set _=>match n with
  |.add=>some .oz
  |_=>none
 |_=>none
noncomputable def dK (P:aX) (C:ah) (o:D) (n:Nm):Option MK:=match o with
 |.inst k i=>(P.dw k).bind λc=>(eQ C i).bind λes=>(c.meths.lookup n).bind λf=>if (es.lookup n).isNone&&c.slots.isNone then some (.own k f) else none
 |.loc i=>C[i]?.bind (lp n)
 |_=>none
noncomputable def e9 (C:ah) (i:Nat):Option (List D):=match C[i]? with
 |some (.list ds)=>some ds
 |_=>none
noncomputable def dictAt (C:ah) (i:Nat):Option (List (Int × D)):=match C[i]? with
 |some (.dict _ es)=>some es
 |_=>none
noncomputable def pX (C:ah) (i:Nat):Option (List Int):=match C[i]? with
 |some (.set es)=>some es
 |_=>none
noncomputable def Q7 (mk:MK) (i:Nat) (args:List D) (st:St):ak D:=match mk with
 |.own _ _=>.fail
 |.mw=>one args λd=>aL (e9 st.C i) λds=>bJ (decide (ds.length<aH)) (.ok .none ⟨st.m,st.C.set i (.list (ds++[d]))⟩)
 |.pR=>bJ args.isEmpty (aL (e9 st.C i) λds=>aL ds.getLast? λd=>.ok d ⟨st.m,st.C.set i (.list ds.dropLast)⟩)
 |.pM=>bJ args.isEmpty (aL (e9 st.C i) λu'=>.ok .none ⟨st.m,st.C.set i (.list [])⟩)
 |.nr=>one args λd=>aL d.isInt λk=>aL (dictAt st.C i) λes=>.ok ((es.lookup k).getD .none) st
 |.o6=>bJ args.isEmpty (aL (dictAt st.C i) λu'=>.ok (.di i) st)
 |.oz=>one args λd=>aL d.isInt λk=>aL (pX st.C i) λes=>bJ (decide (es.length<64)) (.ok .none ⟨st.m,st.C.set i (.set (if es.contains k then es else es++[k]))⟩)
noncomputable def pS (cl:Calls) (mk:MK) (o:D) (args:List D) (st:St):ak D:=match mk with
 |.own _ f=>bR st.m (cl.call f (o::args) [] st.C)
 |mk=>aL (pK o) λi=>Q7 mk i args st
noncomputable def T9 (P:aX) (i:Nat) (n:Nm) (d:D) (C:ah):Ch->Option ah
 |.slots k fs=>(P.dw k).bind λc=>c.slots.bind λns=>if ns.contains n&&decide (fs.length=ns.length) then some (C.set i (.slots k (fs.set (ns.idxOf n) (some d)))) else none
 |_=>none
noncomputable def fG (P:aX) (o:D) (n:Nm) (d:D) (C:ah):Option ah:=match o with
 |.inst k i=>(P.dw k).bind λc=>(eQ C i).bind λes=>if c.slots.isNone&&n.nZ&&decide (es.length<64) then some (C.set i (.cL (putL n d es))) else none
 |.loc i=>C[i]?.bind (T9 P i n d C)
 |_=>none
noncomputable def hZ (o:Option ah) (m:List (Option D)):ak Unit:=match o with
 |some C=>.ok () ⟨m,C⟩
 |none=>.fail
noncomputable def fH (k:Nat) (d:D) (st:St):ak Unit:=if k<st.m.length then .ok () ⟨st.m.set k (some d),st.C⟩ else .fail
noncomputable def lQ (op:Op) (a b:D):Option D:=a.isInt.bind λx=>b.isInt.bind λy=>match op with
 |.add=>some (.int (x+y))
 |.sub=>some (.int (x - y))
 |_=>none
noncomputable def Ud (j:Nat) (k:Int) (d:D) (C:ah):Ch->Option ah
 |.list ds=>if 0<=k/\k<ds.length then some (C.set j (.list (ds.set k.toNat d))) else none
 |.dict b es=>if es.length<64/\small k then some (C.set j (.dict b (putL k d es))) else none
 |_=>none
noncomputable def Ue (j:Nat) (k:Int) (d:D) (C:ah):Option ah:=C[j]?.bind (Ud j k d C)
noncomputable def ki (o i d:D) (C:ah):Option ah:=(pK o).bind λj=>i.isInt.bind λk=>Ue j k d C
noncomputable def CO (j:Nat) (k:Int) (C:ah):Ch->Option ah
 |.dict _ es=>if (es.lookup k).isSome then some (C.set j (.dict false (fy k es))) else none
 |_=>none
noncomputable def Lu (j:Nat) (k:Int) (C:ah):Option ah:=C[j]?.bind (CO j k C)
noncomputable def o4 (o i:D) (C:ah):Option ah:=(pK o).bind λj=>i.isInt.bind λk=>Lu j k C
noncomputable def gk (mu:Bool) (d:D) (st:St):ak D:=match mu with
 |true=>match d with
  |.lst ds=>.ok (.loc st.C.length) ⟨st.m,st.C++[.list ds]⟩
  |_=>.fail
 |false=>.ok d st
noncomputable def cN:E->Bool
 |.list _=>true
 |.comp _ _=>true
 |.bin .add _ _=>true
 |_=>false
set_option backward.match.sparseCases true
noncomputable def ak.bind {α β:Type} (o:ak α) (f:α->St->ak β):ak β:=match o with
 |.ok a st=>f a st
 |.exc x st=>.exc x st
 |.fail=>.fail
noncomputable def mH:List Nat->List D->St->ak Unit
 |n::ns,d::ds,st=>(fH n d st).bind λu' aa=>mH ns ds aa
 |_,_,st=>.ok () st
noncomputable def T.width:T->Nat
 |.one _=>1
 |.many ns=>ns.length
noncomputable def jL (t:T) (d:D) (st:St):ak Unit:=match t with
 |.one n=>fH n d st
 |.many ns=>match d with
  |.tup ds=>if ns.length==ds.length then mH ns ds st else .fail
  |_=>.fail
noncomputable def cw (tests:St->ak D) (inner:List D->St->ak D) (acc:List D) (st:St):ak D:=match tests st with
 |.ok (.bool true) ae=>inner acc ae
 |.ok (.bool false) ae=>.ok (.lst acc) ae
 |_=>.fail
noncomputable def eh (t:T) (turn:List D->St->ak D) (a7:ah->ah->Bool):List D->List D->St->ak D
 |[],acc,st=>.ok (.lst acc) st
 |d::ds,acc,st=>match jL t d ⟨st.m++replicate t.width none,st.C⟩ with
  |.ok _ aa=>match turn acc aa with
   |.ok (.lst bu) ae=>if a7 st.C ae.C then eh t turn a7 ds bu ⟨ae.m.take st.m.length,ae.C⟩ else .fail
   |_=>.fail
  |_=>.fail
mutual
noncomputable def ev (P:aX) (cl:Calls):E->St->ak D
 |.bad,_=>.fail
 |.cst d,st=>.ok d st
 |.var n,st=>match st.m[n]? with
  |some (some d)=>.ok d st
  |_=>.fail
 |.bin op a b,st=>(ev P cl a st).bind λx aa=>(ev P cl b aa).bind λy ae=>dp (eH ae.C op x y) ae
 |.cmp op a b,st=>(ev P cl a st).bind λx aa=>(ev P cl b aa).bind λy ae=>dp ((jN ae.C op x y).map .bool) ae
 |.not a,st=>(ev P cl a st).bind λx aa=>dp ((bH aa.C x).map λb=>.bool (!b)) aa
 |.and a b,st=>(ev P cl a st).bind λx aa=>match bH aa.C x with
  |some true=>ev P cl b aa
  |some false=>.ok x aa
  |none=>.fail
 |.or a b,st=>(ev P cl a st).bind λx aa=>match bH aa.C x with
  |some true=>.ok x aa
  |some false=>ev P cl b aa
  |none=>.fail
 |.ite c a b,st=>(ev P cl c st).bind λx aa=>match bH aa.C x with
  |some true=>ev P cl a aa
  |some false=>ev P cl b aa
  |none=>.fail
 |.list es,st=>match bM P cl es st with
  |.ok (.lst ds) aa=>if ds.length<=aH then .ok (.lst ds) aa else .fail
  |.exc x aa=>.exc x aa
  |_=>.fail
 |.tup es,st=>match bM P cl es st with
  |.ok (.lst ds) aa=>if ds.length<=aH then .ok (.tup ds) aa else .fail
  |.exc x aa=>.exc x aa
  |_=>.fail
 |.nu,st=>.ok (.loc st.C.length) ⟨st.m,st.C++[.dict true []]⟩
 |.idx a i,st=>(ev P cl a st).bind λx aa=>(ev P cl i aa).bind λy ae=>dp (g9 ae.C x y) ae
 |.slice a lo hi,st=>(ev P cl a st).bind λx aa=>(ev P cl lo aa).bind λy ae=>(ev P cl hi ae).bind λz aK=>dp (p6 aK.C x y z) aK
 |.comp _ .nil,_=>.fail
 |.comp elt (.cons t it ifs g),st=>if cl.fuel==0 then .fail else (ev P cl it st).bind λy aa=>match bV aa.C y with
  |some items=>match eh t (cw (λae=>c9 P cl ifs ae) (λacc ae=>fU P cl (λaK=>ev P cl elt aK) g acc ae)) (λC C'=>br C C' y) items [] aa with
   |.ok (.lst ds) ae=>.ok (.lst ds) ⟨aa.m,ae.C⟩
   |_=>.fail
  |none=>.fail
 |.attr a n,st=>(ev P cl a st).bind λx aa=>dp (ft P aa.C x n) aa
 |.call f es ks,st=>(ev P cl f st).bind λg aa=>match bM P cl es aa with
  |.ok (.lst ds) ae=>tF P cl g ds [] ks ae
  |.exc x ae=>.exc x ae
  |_=>.fail
 |.bo o n es,st=>(ev P cl o st).bind λx aa=>match dK P aa.C x n with
  |none=>.fail
  |some mk=>(bM P cl es aa).bind λd ae=>match d with
   |.lst ds=>pS cl mk x ds ae
   |_=>.fail
 |.gE o n es e,st=>(ev P cl o st).bind λx aa=>match dK P aa.C x n with
  |some (.own k f)=>((bM P cl es aa).bind λd ae=>match d with
   |.lst ds=>(ev P cl e ae).bind λy aK=>match bW aK.C y with
    |some ys=>(.ok (D.lst (ds++ys)) aK:ak D)
    |none=>.fail
   |_=>.fail).bind λ(d:D) aK=>match d with
    |.lst ds=>pS cl (.own k f) x ds aK
    |_=>.fail
  |_=>.fail
 |.lF n a,st=>(ev P cl a st).bind λx aa=>if n<aa.m.length then .ok x ⟨aa.m.set n (some x),aa.C⟩ else .fail
 |.tT es,st=>lX P cl Str.empty es st
 |.SH a,st=>(ev P cl a st).bind λx aa=>match x with
  |.int i=>if small i then .ok (.str (Str.ofString (toString i))) aa else .fail
  |_=>.fail
 |.nc a,st=>(ev P cl a st).bind λx aa=>gk (cN a) x aa
noncomputable def bM (P:aX) (cl:Calls):Es->St->ak D
 |.nil,st=>.ok (.lst []) st
 |.cons e es,st=>(ev P cl e st).bind λx aa=>match bM P cl es aa with
  |.ok (.lst ds) ae=>.ok (.lst (x::ds)) ae
  |.exc x ae=>.exc x ae
  |_=>.fail
noncomputable def lX (P:aX) (cl:Calls) (acc:Str):Es->St->ak D
 |.nil,st=>.ok (.str acc) st
 |.cons e es,st=>(ev P cl e st).bind λx aa=>match x with
  |.str y=>if acc.length+y.length<=aH then lX P cl (acc++y) es aa else .fail
  |_=>.fail
noncomputable def tF (P:aX) (cl:Calls) (g:D) (ds:List D) (acc:List (Nm × D)):Ks->St->ak D
 |.nil,st=>m7 P cl g ds acc st
 |.cons n e ks,st=>(ev P cl e st).bind λx aa=>tF P cl g ds (acc++[(n,x)]) ks aa
noncomputable def fU (P:aX) (cl:Calls) (elt:St->ak D):Gs->List D->St->ak D
 |.nil,acc,st=>(elt st).bind λx aa=>if acc.length<aH then .ok (.lst (acc++[x])) aa else .fail
 |.cons t it ifs g,acc,st=>(ev P cl it st).bind λy aa=>match bV aa.C y with
  |some items=>eh t (cw (λae=>c9 P cl ifs ae) (λacc ae=>fU P cl elt g acc ae)) (λC C'=>br C C' y) items acc aa
  |none=>.fail
noncomputable def c9 (P:aX) (cl:Calls):Es->St->ak D
 |.nil,st=>.ok (.bool true) st
 |.cons e es,st=>(ev P cl e st).bind λx aa=>match bH aa.C x with
  |some true=>c9 P cl es aa
  |some false=>.ok (.bool false) aa
  |none=>.fail
end
noncomputable def forLoop (a7:ah->ah->Bool) (t:T) (f:St->ak Fl):List D->St->ak Fl
 |[],st=>.ok .next st
 |d::ds,st=>match iE t d st.m with
  |some m1=>match f ⟨m1,st.C⟩ with
   |.ok .next aa=>if a7 st.C aa.C then forLoop a7 t f ds aa else .fail
   |.ok .cont aa=>if a7 st.C aa.C then forLoop a7 t f ds aa else .fail
   |.ok .brk aa=>.ok .next aa
   |o=>o
  |none=>.fail
variable {ds:List D}
theorem xA {a7:ah->ah->Bool} {t:T} {f:St->ak Fl} {d:D} {st:St}:forLoop a7 t f (d::ds) st=match iE t d st.m with
  |some m1=>match f ⟨m1,st.C⟩ with
   |.ok .next aa=>if a7 st.C aa.C then forLoop a7 t f ds aa else .fail
   |.ok .cont aa=>if a7 st.C aa.C then forLoop a7 t f ds aa else .fail
   |.ok .brk aa=>.ok .next aa
   |o=>o
  |none=>.fail:=rfl
noncomputable def whileLoop (c:St->ak D) (f:St->ak Fl) (eU:St->ak Fl):Nat->St->ak Fl
 |0,_=>.fail
 |n+1,st=>match c st with
  |.ok d aa=>match bH aa.C d with
   |some true=>match f aa with
    |.ok .next ae=>whileLoop c f eU n ae
    |.ok .cont ae=>whileLoop c f eU n ae
    |.ok .brk ae=>.ok .next ae
    |o=>o
   |some false=>eU aa
   |none=>.fail
  |.exc x aa=>.exc x aa
  |.fail=>.fail
noncomputable def jA:Calls:=⟨λu' u' u' u'=>.fail,0⟩
noncomputable def qs (k:Nat) (x:X):Bool:=match k,x with
 |0,.stop=>true
 |1,.iG=>true
 |2,.value _=>true
 |_,_=>false
mutual
noncomputable def ex (P:aX) (cl:Calls):S->St->ak Fl
 |.bad,_=>.fail
 |.pass,st=>.ok .next st
 |.brk,st=>.ok .brk st
 |.cont,st=>.ok .cont st
 |.expr e,st=>(ev P cl e st).bind λu' aa=>.ok .next aa
 |.aR n mu e,st=>((ev P cl e st).bind λx aa=>gk (mu&&cN e) x aa).bind λd ae=>(fH n d ae).bind λu' aK=>.ok .next aK
 |.oP ns e,st=>if cl.fuel==0 then .fail else (ev P cl e st).bind λx aa=>match x with
  |.tup ds=>if ns.length==ds.length then (mH ns ds aa).bind λu' ae=>.ok .next ae else .fail
  |_=>.fail
 |.cW o a mu e,st=>((ev P cl e st).bind λx aa=>gk (mu&&cN e) x aa).bind λd ae=>(ev P cl o ae).bind λy aK=>
   (hZ (fG P y a d aK.C) aK.m).bind λu' dt=>.ok .next dt
 |.kr o i e,st=>(ev P cl e st).bind λx aa=>(ev P cl o aa).bind λy ae=>(ev P cl i ae).bind λz aK=>
   (hZ (ki y z x aK.C) aK.m).bind λu' dt=>.ok .next dt
 |.qp o i n e,st=>(ev P cl e st).bind λx aa=>((ev P cl o aa).bind λy ae=>(ev P cl i ae).bind λz aK=>
   hZ (ki y z x aK.C) aK.m).bind λu' dt=>(fH n x dt).bind λu' zZ=>.ok .next zZ
 |.lP o a op e,st=>(ev P cl o st).bind λy aa=>(dp (ft P aa.C y a) aa).bind λold ae=>(ev P cl e ae).bind λx aK=>
   match lQ op old x with
   |some d=>(hZ (fG P y a d aK.C) aK.m).bind λu' dt=>.ok .next dt
   |none=>.fail
 |.ifs c a b,st=>(ev P cl c st).bind λx aa=>match bH aa.C x with
  |some true=>ax P cl a aa
  |some false=>ax P cl b aa
  |none=>.fail
 |.lG c a b,st=>whileLoop (λaa=>ev P cl c aa) (λaa=>ax P cl a aa) (λaa=>ax P cl b aa) cl.fuel st
 |.fA t it a,st=>if cl.fuel==0 then .fail else (ev P cl it st).bind λy aa=>match bV aa.C y with
  |some items=>forLoop (λC C'=>br C C' y) t (λae=>ax P cl a ae) items aa
  |none=>.fail
 |.ret e,st=>(ev P cl e st).bind λx aa=>.ok (.ret x) aa
 |.Sv e,st=>if cl.fuel==0 then .fail else (ev P cl e st).bind λx aa=>match x with
  |.str s=>.exc (.value s) aa
  |_=>.fail
 |.sd a b,st=>if cl.fuel==0 then .fail else (ev P cl a st).bind λu' aa=>(ev P cl b aa).bind λu' ae=>.exc .iG ae
 |.oI b k n h,st=>if cl.fuel==0 then .fail else match ax P cl b st with
  |.exc x aa=>if qs k x then
    match n with
    |none=>match ax P jA h aa with
     |.ok f ae=>.ok f ae
     |_=>.fail
    |some n=>match x with
     |.value s=>if n<aa.m.length then (match ax P jA h ⟨aa.m.set n (some (.iW s)),aa.C⟩ with
      |.ok f ae=>.ok f ⟨ae.m.set n none,ae.C⟩
      |_=>.fail) else .fail
     |_=>.fail
   else .fail
  |o=>o
 |.qx o i,st=>(ev P cl o st).bind λy aa=>(ev P cl i aa).bind λz ae=>(hZ (o4 y z ae.C) ae.m).bind λu' aK=>.ok .next aK
noncomputable def ax (P:aX) (cl:Calls):Ss->St->ak Fl
 |.nil,st=>.ok .next st
 |.cons s ss,st=>match ex P cl s st with
  |.ok .next aa=>ax P cl ss aa
  |o=>o
end
noncomputable def ie (xs:List (Nat × D)) (m:List (Option D)):List (Option D):=xs.foldl (λm x=>m.set x.1 (some x.2)) m
noncomputable def gh (f:Fn) (pos:List D) (k9:List (Nm × D)):Option (List (Option D)):=
 let np:=f.cb.length
 let miss:=np - pos.length
 let vals:=pos.take np++f.bS.drop (f.bS.length - miss)
 let m0:=replicate f.size none
 if vals.length==np&&decide (pos.length<=aH)&&decide (miss<=f.bS.length)&&(f.cA.isSome||decide (pos.length<=np))&&decide (k9.map (·.1)=f.ck.map (·.1)) then
  let m1:=ie (f.cb.zip vals) m0
  let m2:=ie ((f.ck.map (·.2)).zip (k9.map (·.2))) m1
  match f.cA with
  |some v=>some (m2.set v (some (.tup (pos.drop np))))
  |none=>some m2
 else none
noncomputable def dq:ak Fl->ak D
 |.ok (.ret d) st=>.ok d st
 |.ok .next st=>.ok .none st
 |.ok _ _=>.fail
 |.exc x st=>.exc x st
 |.fail=>.fail
noncomputable def aE (P:aX) (fuel:Nat):Nat->Nat->List D->List (Nm × D)->ah->ak D
 |0,_,_,_,_=>.fail
 |n+1,k,pos,k9,C=>match P.fns[k]? with
  |some f=>match gh f pos k9 with
   |some m=>dq (ax P ⟨aE P fuel n,fuel⟩ f.body ⟨m,C⟩)
   |none=>.fail
  |none=>.fail
theorem mX {C:ah} {i:Nat} (h:C[i]?=some (.list ds)):a9 C (.loc i)=some ds:=by
 unfold a9; dsimp only; rw [h]
theorem Iq {C:ah} {i:Nat} (h:C[i]?=some (.list ds)):bW C (.loc i)=some ds:=by
 unfold bW; dsimp only; rw [h]
theorem cps {G:Prop} (h : ∀ Q:Prop,(G->Q)->Q):G:=h G id
end Mine.Lake
end
section
open PySem
namespace Mine.Lake
structure a0 where
 glob:List (Str × D)
 mu:List Str
 BX:List (Str × Nat)
noncomputable def FN:List (Str × Nm):=[("append",.append),("pop",.pop),("clear",.clear),("get",.get),("values",.values),("add",.add),("_get_nodeinfo",.nD),
 ("prepare",.prepare),("_find_cycle",.pa),("get_ready",.jT),("is_active",.nY),("done",.done),
 ("_node2info",.cO),("_ready_nodes",.cf),("_npassedout",.d4),("_nfinished",.eM),("node",.node),("npredecessors",.eN),
 ("successors",.succ),("_it",.it),("_func",.func),("__contains__",.bk),("__next__",.bX),("newline",.newline),("__init__",.init),("__iter__",.i8)]
noncomputable def df (x:Str):Option Nm:=FN.lookup x
noncomputable def jB:Operator->Option Op
 |.Add=>some .add|.Sub=>some .sub|.Mult=>some .mul|.FloorDiv=>some .fdiv|.Mod=>some .mod|.Pow=>some .pow
 |.LShift=>some .shl|.RShift=>some .shr|.BitAnd=>some .and|.BitOr=>some .or
 |_=>none
noncomputable def tv:CmpOp->Cm
 |.Eq=>.eq|.NotEq=>.ne|.Lt=>.lt|.LtE=>.le|.Gt=>.gt|.GtE=>.ge|.Is=>.is|.IsNot=>.n5|.In=>.ez|.NotIn=>.zm
structure aN where
 names:List (Str × NameKind)
 slots:List (Str × Nat)
 base:Nat
noncomputable def mC (G:a0) (c:aN) (x:Str):E:=match c.names.lookup x with
 |some .local|some .cell|some .free=>match c.slots.lookup x with
  |some n=>.var n
  |none=>.bad
 |some .globalImplicit=>match G.glob.lookup x with
  |some d=>.cst d
  |none=>.bad
 |_=>.bad
noncomputable def dA (c:aN) (x:Str):Option Nat:=match c.names.lookup x with
 |some .local|some .cell=>c.slots.lookup x
 |_=>none
noncomputable def tw:Const->E
 |.none=>.cst .none
 |.bool b=>.cst (.bool b)
 |.int i=>.cst (.int i)
 |.str s=>.cst (.str s)
 |_=>.bad
noncomputable def cZ:List (Str × NameKind)->List Str
 |[]=>[]
 |(x,.local)::r=>x::cZ r
 |(x,.cell)::r=>x::cZ r
 |_::r=>cZ r
set_option backward.match.sparseCases false in
noncomputable def gb:Expr->Option Str
 |.Name x _=>some x
 |_=>none
set_option backward.match.sparseCases false in
noncomputable def qb:Expr->Option (List Str)
 |.Name x _=>some [x]
 |.Tuple es _ _=>es.mapM gb
 |_=>none
noncomputable def cJ (xs:List Str) (b:Nat):List (Str × Nat):=xs.zipIdx.map λp=>(p.1,b+p.2)
noncomputable def lq (xs:List Str) (one:Bool) (b:Nat):T:=if one then .one b else .many (xs.zipIdx.map λp=>b+p.2)
set_option backward.match.sparseCases false in
noncomputable def rK:Expr->Nat
 |.Set .. => 1
 |.Starred .. => 2
 |.Tuple .. => 3
 |.List .. => 3
 |.ListComp .. => 4
 |.SetComp .. => 4
 |.DictComp .. => 4
 |.Name .. => 5
 |_=>0
noncomputable def j3 (e:Expr):Bool:=rK e==5
noncomputable def mr (e:Expr):Bool:=rK e==1
set_option backward.match.sparseCases false in
noncomputable def wA:Expr->Option (Expr × List Expr × List Keyword)
 |.Call f args ks _=>some (f,args,ks)
 |_=>none
noncomputable def n3 (e:Expr):Bool:=match wA e with
 |some (f,args,ks)=>j3 f&&args.isEmpty&&ks.isEmpty
 |none=>false
noncomputable def P6 (e:Expr):Bool:=match gb e with
 |some x=>x==("_wall":Str)
 |none=>false
noncomputable def dI (e:Expr):Bool:=rK e==2
noncomputable def yT (e:Expr):Bool:=rK e==3
noncomputable def k7 (e:Expr):Bool:=rK e==4
noncomputable def bD (f:Expr->E):List Expr->Es
 |[]=>.nil
 |e::r=>.cons (f e) (bD f r)
noncomputable def lR (f:Expr->E) (es:List Expr):Es:=if es.any dI then .cons .bad .nil else bD f es
noncomputable def qq (f:Expr->E):Option Expr->E
 |none=>.cst .none
 |some e=>f e
noncomputable def wz (f:Nat->Expr->E) (i:Nat):List Expr->Es
 |[]=>.nil
 |e::r=>.cons (f i e) (wz f (i+1) r)
noncomputable def mZ (f:Expr->E):List Keyword->Ks
 |[]=>.nil
 |⟨k,v,_⟩::r=>match k.bind df with
  |some a=>.cons a (f v) (mZ f r)
  |none=>.cons .init .bad .nil
noncomputable def kx (f:Expr->E):List Expr->E
 |[]=>.bad
 |[e]=>f e
 |e::r=>.and (f e) (kx f r)
noncomputable def kA (f:Expr->E):List Expr->E
 |[]=>.bad
 |[e]=>f e
 |e::r=>.or (f e) (kA f r)
set_option backward.match.sparseCases false in
noncomputable def sD:Expr->Option Expr
 |.Starred e _=>some e
 |_=>none
noncomputable def jF:List Expr->Option (List Expr × Option Expr)
 |[]=>some ([],none)
 |e::r=>match sD e with
  |some x=>if r.isEmpty then some ([],some x) else none
  |none=>(jF r).map λp=>(e::p.1,p.2)
noncomputable def own (names:List (Str × NameKind)) (x:Str):Bool:=match names.lookup x with
 |some .local|some .cell=>true
 |_=>false
noncomputable def kG (c:aN) (xs:List Str):Bool:=decide xs.Nodup&&xs.all λx=>own c.names x&&(c.slots.lookup x).isNone
noncomputable def eI (c:aN) (xs:List Str):aN:={c with slots:=cJ xs c.base++c.slots,base:=c.base+xs.length}
noncomputable def oX (f:aN->Expr->E):aN->List Comprehension->Option (Gs × aN)
 |c,[]=>some (.nil,c)
 |c,⟨t,it,ifs,a⟩::r=>match qb t with
  |some xs=>if a==0&&!mr it&&kG c xs then (oX f (eI c xs) r).map λp=>(.cons (lq xs (j3 t) c.base) (f c it) (bD (f (eI c xs)) ifs) p.1,p.2) else none
  |none=>none
noncomputable def fw (f:aN->Expr->E) (ci co:aN) (elt:Expr):List Comprehension->E
 |[]=>.bad
 |⟨t,it,ifs,a⟩::r=>match qb t with
  |some xs=>if a==0&&!mr it&&kG ci xs then (match oX f (eI ci xs) r with
   |some (rest,cz)=>.comp (f cz elt) (.cons (lq xs (j3 t) ci.base) (f co it) (bD (f (eI ci xs)) ifs) rest)
   |none=>.bad) else .bad
  |none=>.bad
noncomputable def cX (c:aN) (sc:Scope):aN:={names:=sc.names,slots:=c.slots.filter λp=>!own sc.names p.1,base:=c.base}
noncomputable def nq (c:aN) (sc:Scope):Bool:=sc.kind==.function&&decide ((sc.names.map (·.1)).Nodup)&&(sc.names.all λp=>p.2 != .free||c.names.lookup p.1==some .cell||c.names.lookup p.1==some .free) &&
 (sc.names.lookup ("__debug__":Str)).isNone&&(sc.names.lookup ("__classdict__":Str)).isNone
noncomputable def dv {α:Type} (o:Option α) (f:α->E):E:=match o with
 |some x=>f x
 |none=>.bad
noncomputable def ew (b:Bool) (e:E):E:=match b with
 |true=>e
 |false=>.bad
noncomputable def bI {α:Type} (o:Option α) (f:α->S):S:=match o with
 |some x=>f x
 |none=>.bad
noncomputable def da (b:Bool) (e:S):S:=match b with
 |true=>e
 |false=>.bad
noncomputable def rW {α:Type}:List α->Option α
 |[x]=>some x
 |_=>none
set_option backward.match.sparseCases false in
noncomputable def lO:Expr->Option (Expr × Str × Pos)
 |.Attribute o a p=>some (o,a,p)
 |_=>none
set_option backward.match.sparseCases false in
noncomputable def Ab:Expr->Option (Expr × Expr)
 |.Subscript o i _=>some (o,i)
 |_=>none
set_option backward.match.sparseCases false in
noncomputable def vk:Expr->Option (Option Expr × Option Expr × Option Expr)
 |.Slice lo hi st _=>some (lo,hi,st)
 |_=>none
set_option backward.match.sparseCases false in
noncomputable def FG:Expr->Option Int
 |.Constant k _ _=>match k with
  |.int i=>some i
  |_=>none
 |_=>none
noncomputable def Ca (f:Expr->E) (l:Expr) (ops:List CmpOp) (rs:List Expr):E:=dv (rW ops) λop=>dv (rW rs) λr=>ew (!mr r) (.cmp (tv op) (f l) (f r))
noncomputable def Ae (f:Expr->E) (op:UnaryOp) (x:Expr):E:=match op with
 |.Not=>.not (f x)
 |.USub=>dv (FG x) λi=>.cst (.int (-i))
 |_=>.bad
noncomputable def IZ (f:Expr->E) (op:BoolOp) (es:List Expr):E:=match op with
 |.And=>kx f es
 |.Or=>kA f es
noncomputable def sF (f:Expr->E) (v i:Expr):E:=match vk i with
 |none=>.idx (f v) (f i)
 |some (lo,hi,st)=>ew st.isNone (.slice (f v) (qq f lo) (qq f hi))
noncomputable def VI (f:Expr->E) (o:Expr) (a:Nm) (ps:List Expr) (st:Option Expr):E:=match st with
 |none=>.bo (f o) a (bD f ps)
 |some e=>.gE (f o) a (bD f ps) (f e)
noncomputable def Fz (f:Expr->E) (o:Expr) (a:Str) (apos:Pos) (args:List Expr) (ks:List Keyword) (pos:Pos):E:=
 ew (!n3 o&&ks.isEmpty&&(apos.endLine==pos.line)&&decide (args.length<20)) (dv (df a) λa=>dv (jF args) λp=>VI f o a p.1 p.2)
noncomputable def BW (G:a0) (fe:Expr) (i:Nat):Bool:=match gb fe with
 |some x=>G.BX.contains (x,i)
 |none=>false
noncomputable def AZ (G:a0) (f:Expr->E) (fe:Expr) (i:Nat) (e:Expr):E:=match BW G fe i with
 |true=>.nc (f e)
 |false=>f e
noncomputable def Ge (G:a0) (f:Expr->E) (fe:Expr) (args:List Expr) (ks:List Keyword):E:=
 ew (!P6 fe&&!args.any dI&&ks.all λk=>(k.arg.bind df).isSome) (.call (f fe) (wz (AZ G f fe) 0 args) (mZ f ks))
noncomputable def qr (G:a0) (f:Expr->E) (fe:Expr) (args:List Expr) (ks:List Keyword) (pos:Pos):E:=match lO fe with
 |some (o,a,apos)=>Fz f o a apos args ks pos
 |none=>Ge G f fe args ks
set_option backward.match.sparseCases false in
noncomputable def cE (G:a0):Nat->aN->Expr->E
 |0,_,_=>.bad
 |n+1,c,e=>match e with
  |.Constant k _ _=>tw k
  |.Name x _=>mC G c x
  |.BinOp l op r _=>dv (jB op) λo=>.bin o (cE G n c l) (cE G n c r)
  |.Compare l ops rs _=>Ca (cE G n c) l ops rs
  |.UnaryOp op x _=>Ae (cE G n c) op x
  |.BoolOp op es _=>IZ (cE G n c) op es
  |.IfExp t a b _=>.ite (cE G n c t) (cE G n c a) (cE G n c b)
  |.List es _=>.list (lR (cE G n c) es)
  |.Tuple es _ _=>.tup (lR (cE G n c) es)
  |.Dict ks vs _=>ew (ks.isEmpty&&vs.isEmpty) .nu
  |.Subscript v i _=>sF (cE G n c) v i
  |.ListComp elt gens sc _=>ew (nq c sc) (fw (cE G n) (cX c sc) c elt gens)
  |.Attribute v a _=>ew (!n3 v) (dv (df a) λa=>.attr (cE G n c v) a)
  |.NamedExpr t v _=>dv (gb t) λx=>dv (dA c x) λk=>.lF k (cE G n c v)
  |.JoinedStr vs _=>.tT (bD (cE G n c) vs)
  |.Call f args ks pos=>qr G (cE G n c) f args ks pos
  |_=>.bad
noncomputable def Fd (G:a0) (x:Str):Bool:=G.mu.contains x
noncomputable def iF (f:Stmt->S):List Stmt->Ss
 |[]=>.nil
 |s::r=>.cons (f s) (iF f r)
noncomputable def kF (x:Str):Nat:=if x==("StopIteration":Str) then 0 else if x==("CycleError":Str) then 1 else if x==("ValueError":Str) then 2 else 9
noncomputable def oi (c:aN) (x:Str):Bool:=c.names.lookup x==some .globalImplicit
noncomputable def MC (f:Expr->E) (e:Expr):S:=da (!k7 e) (.expr (f e))
set_option backward.match.sparseCases false in
noncomputable def A1 (G:a0) (c:aN) (f:Expr->E) (t e:Expr):S:=match t with
 |.Name x _=>bI (dA c x) λk=>.aR k (Fd G x) (f e)
 |.Tuple es _ _=>da (!yT e&&!k7 e) (bI ((es.mapM gb).bind (·.mapM (dA c))) λns=>.oP ns (f e))
 |.Attribute o a _=>da (!n3 o) (bI (df a) λb=>.cW (f o) b (Fd G a) (f e))
 |.Subscript o i _=>da (!k7 e) (.kr (f o) (f i) (f e))
 |_=>.bad
noncomputable def Ir (c:aN) (f:Expr->E) (t u e:Expr):S:=bI (Ab t) λp=>bI (gb u) λx=>bI (dA c x) λk=>.qp (f p.1) (f p.2) k (f e)
noncomputable def A2 (G:a0) (c:aN) (f:Expr->E) (ts:List Expr) (e:Expr):S:=match ts with
 |[t]=>A1 G c f t e
 |[t,u]=>Ir c f t u e
 |_=>.bad
noncomputable def Iy (f:Expr->E) (t:Expr) (op:Operator) (e:Expr):S:=bI (lO t) λp=>bI (df p.2.1) λb=>bI (jB op) λo=>.lP (f p.1) b o (f e)
noncomputable def MW (c:aN) (f:Expr->E) (t it:Expr) (a:Ss) (Rx:Bool):S:=da (Rx&&!mr it) (bI (gb t) λx=>bI (dA c x) λk=>.fA (.one k) (f it) a)
noncomputable def Su (c:aN) (f:Expr->E) (x:Str) (args:List Expr):S:=da (oi c x) (match args with
 |[a,b]=>da (x==("CycleError":Str)&&!dI a&&!dI b) (.sd (f a) (f b))
 |_=>.bad)
noncomputable def Gp (c:aN) (f:Expr->E) (exc cause:Option Expr):S:=da cause.isNone (bI exc λe=>bI (wA e) λp=>bI (gb p.1) λx=>da p.2.2.isEmpty (Su c f x p.2.1))
noncomputable def Ec:ExceptHandler->Option (Expr × Option Str × List Stmt)
 |.ExceptHandler t nm h _=>t.map λt=>(t,nm,h)
noncomputable def Wb (c:aN) (x:Str) (nm:Option Str) (b h:Ss):S:=match nm with
 |none=>.oI b (kF x) none h
 |some _=>.bad
noncomputable def Hn (c:aN) (g:List Stmt->Ss) (b:List Stmt) (hs:List ExceptHandler) (Rz:Bool):S:=
 da Rz (bI (rW hs) λh=>bI (Ec h) λp=>bI (gb p.1) λx=>da (oi c x&&!p.2.2.isEmpty) (Wb c x p.2.1 (g b) (g p.2.2)))
noncomputable def Ly (f:Expr->E) (ts:List Expr):S:=bI (rW ts) λt=>bI (Ab t) λp=>.qx (f p.1) (f p.2)
set_option backward.match.sparseCases false in
noncomputable def cS (G:a0):Nat->aN->Stmt->S
 |0,_,_=>.bad
 |n+1,c,s=>match s with
  |.Pass _=>.pass
  |.Break _=>.brk
  |.Continue _=>.cont
  |.Expr e _=>MC (cE G n c) e
  |.Return v _=>bI v λe=>.ret (cE G n c e)
  |.Assign ts e _=>A2 G c (cE G n c) ts e
  |.AugAssign t op e _=>Iy (cE G n c) t op e
  |.If t a b _=>.ifs (cE G n c t) (iF (cS G n c) a) (iF (cS G n c) b)
  |.While t a b _=>.lG (cE G n c t) (iF (cS G n c) a) (iF (cS G n c) b)
  |.For t it a orelse _=>MW c (cE G n c) t it (iF (cS G n c) a) orelse.isEmpty
  |.Raise exc cause _=>Gp c (cE G n c) exc cause
  |.Try b hs orelse fin _=>Hn c (iF (cS G n c)) b hs (orelse.isEmpty&&fin.isEmpty)
  |.Delete ts _=>Ly (cE G n c) ts
  |_=>.bad
noncomputable def lU (sc:Scope):aN:=let ns:=cZ sc.names; {names:=sc.names,slots:=cJ ns 0,base:=ns.length}
set_option backward.match.sparseCases false in
noncomputable def w8:Expr->D
 |.Constant .none _ _=>.none
 |.Constant (.bool b) _ _=>.bool b
 |.Constant (.int i) _ _=>.int i
 |_=>.bn .repr
noncomputable def fh (sc:Scope) (x:Arg):Nat:=((lU sc).slots.lookup x.arg).getD 999
noncomputable def eC (G:a0) (a:Arguments) (body:List Stmt) (sc:Scope):Fn:=
 {cb:=(a.posonlyargs++a.args).map (fh sc),bS:=a.defaults.map w8,ck:=a.kwonlyargs.map λx=>((df x.arg).getD .init,fh sc x),
  cA:=a.vararg.map (fh sc),size:=(lU sc).base,body:=iF (cS G 40 (lU sc)) body}
noncomputable def tQ (a:Arguments) (sc:Scope):Bool:=sc.kind==.function&&!sc.isCoroutine&&!sc.isGenerator&&decide ((sc.names.map (·.1)).Nodup)&&(sc.names.all λp=>p.2 != .free)&&(sc.names.lookup ("__debug__":Str)).isNone &&
 (sc.names.lookup ("__classdict__":Str)).isNone&&a.kwarg.isNone&&decide (((a.posonlyargs.map (·.arg)++a.args.map (·.arg))++a.kwonlyargs.map (·.arg)++(a.vararg.map (·.arg)).toList).Nodup) &&
 (((a.posonlyargs.map (·.arg)++a.args.map (·.arg))++a.kwonlyargs.map (·.arg)++(a.vararg.map (·.arg)).toList).all (own sc.names))&&decide (a.defaults.length<=(a.posonlyargs.map (·.arg)++a.args.map (·.arg)).length) &&
 (a.kwonlyargs.all λx=>(df x.arg).isSome)
structure av where
 prog:Program
 w:World
 h₀:Heap
 os:OsState
 P:aX
 K:W.Frag
 bh:Nat->Addr
 ba:Nat->Addr
 ij:Nat->Nat->Nat
abbrev av.M (V:av):Model:=model V.prog V.w
noncomputable def Bn.val:Bn->Value
 |.len=>.builtin "len"|.list=>.type "list"|.range=>.type "range"|.tuple=>.type "tuple"|.sum=>.builtin "sum"|.min=>.builtin "min"
 |.sorted=>.builtin "sorted"|.isinstance=>.builtin "isinstance"|.bool=>.type "bool"|.bytes=>.type "bytes"|.str=>.type "str"|.type=>.type "type"
 |.set=>.type "set"|.iter=>.builtin "iter"|.next=>.builtin "next"|.int=>.type "int"|.float=>.type "float"|.complex=>.type "complex"
 |.bytearray=>.type "bytearray"|.dict=>.type "dict"|.frozenset=>.type "frozenset"|.vv=>.type "ValueError"|.stopIteration=>.type "StopIteration"
 |.repr=>.builtin "repr"
noncomputable def Nm.str:Nm->Str
 |.append=>"append"|.pop=>"pop"|.clear=>"clear"|.get=>"get"|.values=>"values"|.add=>"add"|.nD=>"_get_nodeinfo"
 |.prepare=>"prepare"|.pa=>"_find_cycle"|.jT=>"get_ready"|.nY=>"is_active"|.done=>"done"
 |.cO=>"_node2info"|.cf=>"_ready_nodes"|.d4=>"_npassedout"|.eM=>"_nfinished"|.node=>"node"|.eN=>"npredecessors"
 |.succ=>"successors"|.it=>"_it"|.func=>"_func"|.bk=>"__contains__"|.bX=>"__next__"|.newline=>"newline"|.init=>"__init__"|.i8=>"__iter__"
inductive GO where
 |aB (o:Obj)
 |cell (i:Nat)
 |az (o:Obj)
 |locals
 |cj (x:Str)
noncomputable def GO.ctorIdx (x:GO):Nat:=GO.casesOn x (λ_=>0) (λ_=>1) (λ_=>2) 3 (λ_=>4)
abbrev Gh:=Addr->Option GO
structure Gh.Le (g g':Gh):Prop where
 aB : ∀ a o,g a=some (.aB o)->g' a=some (.aB o)
 cell : ∀ a i,g a=some (.cell i)->g' a=some (.cell i)
structure Gh.Step (g g':Gh):Prop extends Gh.Le g g' where
 az : ∀ a o,g a=some (.az o)↔g' a=some (.az o)
theorem Gh.Le.refl (g:Gh):g.Le g:=⟨λu' u' h=>h,λu' u' h=>h⟩
theorem Gh.Le.trans {aV bl dD:Gh} (x:aV.Le bl) (y:bl.Le dD):aV.Le dD:=⟨λa o h=>y.aB a o (x.aB a o h),λa i h=>y.cell a i (x.cell a i h)⟩
theorem Gh.Step.refl (g:Gh):g.Step g:=⟨.refl g,λu' u'=>.rfl⟩
theorem Gh.Step.trans {aV bl dD:Gh} (x:aV.Step bl) (y:bl.Step dD):aV.Step dD:=⟨x.toLe.trans y.toLe,λa o=>(x.az a o).trans (y.az a o)⟩
noncomputable def lM (T:String) (vs:List Value) (o:Obj):Prop:=vs.length<=aH/\∃ n,o={cls:=.type T,dict:=none,data:=.seq vs.toArray n,slots := #[]}
noncomputable def fm (T:String) (vs:List Value) (o:Obj):Prop:=o={cls:=.type T,dict:=none,data:=.fields vs.toArray,slots := #[]}
mutual
inductive af (V:av) (g:Gh):D->Value->Prop
 |none:af V g .none .none
 |bool (b:Bool):af V g (.bool b) (.bool b)
 |int (i:Int) (t:Tok):af V g (.int i) (.int i t)
 |str (s:Str) (t:Tok):af V g (.str s) (.str s t)
 |bytes {b:List UInt8} (t:Tok):b.length<=aH->af V g (.bytes b) (.bytes b.toArray t)
 |bn (b:Bn):af V g (.bn b) b.val
 |fn (k:Nat):af V g (.fn k) (.ref (V.bh k))
 |cls (k:Nat):af V g (.cls k) (.ref (V.ba k))
 |tup {ds:List D} {a:Addr} {o:Obj} {vs:List Value}:g a=some (.aB o)->lM "tuple" vs o->aI V g ds vs->af V g (.tup ds) (.ref a)
 |lst {ds:List D} {a:Addr} {o:Obj} {vs:List Value}:g a=some (.aB o)->lM "list" vs o->aI V g ds vs->af V g (.lst ds) (.ref a)
 |cP {a b:Int} {r:Addr} {o:Obj} {lC lD lE:Tok}:g r=some (.aB o)->fm "range" [.int a lC,.int b lD,.int 1 lE] o->af V g (.cP a b) (.ref r)
 |loc {i:Nat} {a:Addr}:g a=some (.cell i)->af V g (.loc i) (.ref a)
 |inst {k i:Nat} {x dx:Addr} {sl:Array (Option Value)}:g x=some (.aB ⟨.ref (V.ba k),some dx,.plain,sl⟩)->g dx=some (.cell i)->af V g (.inst k i) (.ref x)
 |oV {s:D} {v:Value} {a:Addr} {o:Obj}:g a=some (.aB o)->fm "method-wrapper" [.builtin "list.__contains__",v] o->af V g s v->af V g (.bm .bk s) (.ref a)
 |oW {s:D} {v:Value} {a:Addr} {o:Obj}:g a=some (.aB o)->fm "method-wrapper" [.builtin "list_iterator.__next__",v] o->af V g s v->af V g (.bm .bX s) (.ref a)
 |di {i:Nat} {a d:Addr} {o:Obj}:g a=some (.aB o)->fm "dict_values" [.ref d] o->g d=some (.cell i)->af V g (.di i) (.ref a)
 |iW {msg:Str} {a:Addr} {t:Addr} {o o':Obj} {u:Tok} {vs:List Value}:g a=some (.aB o)->o.cls=.type "ValueError"->o.data=.fields (.ref t::vs).toArray->
   g t=some (.aB o')->(o'.cls=.type "tuple"/\∃ n,o'.data=.seq [Value.str msg u].toArray n)->af V g (.iW msg) (.ref a)
inductive aI (V:av) (g:Gh):List D->List Value->Prop
 |nil:aI V g [] []
 |cons {d:D} {v:Value} {ds:List D} {vs:List Value}:af V g d v->aI V g ds vs->aI V g (d::ds) (v::vs)
end
variable {V:av} {g g':Gh} {d:D} {v:Value}
theorem af.mono (L:g.Le g') (h:af V g d v):af V g' d v:=
 af.rec (motive_1:=λd v u'=>af V g' d v) (motive_2:=λds vs u'=>aI V g' ds vs) .none (λb=>.bool b) (λi t=>.int i t) (λs t=>.str s t) (λt h=>.bytes t h) (λb=>.bn b) (λk=>.fn k) (λk=>.cls k)
  (λh a u' b=>.tup (L.aB _ _ h) a b) (λh a u' b=>.lst (L.aB _ _ h) a b) (λh a=>.cP (L.aB _ _ h) a) (λh=>.loc (L.cell _ _ h)) (λh a=>.inst (L.aB _ _ h) (L.cell _ _ a))
  (λh a u' b=>.oV (L.aB _ _ h) a b) (λh a u' b=>.oW (L.aB _ _ h) a b) (λh a b=>.di (L.aB _ _ h) a (L.cell _ _ b)) (λh a b c d=>.iW (L.aB _ _ h) a b (L.aB _ _ c) d) .nil (λu' u' a b=>.cons a b) h
variable {ds:List D} {vs:List Value}
theorem aI.mono (L:g.Le g') (h:aI V g ds vs):aI V g' ds vs:=
 aI.rec (motive_1:=λd v u'=>af V g' d v) (motive_2:=λds vs u'=>aI V g' ds vs) .none (λb=>.bool b) (λi t=>.int i t) (λs t=>.str s t) (λt h=>.bytes t h) (λb=>.bn b) (λk=>.fn k) (λk=>.cls k)
  (λh a u' b=>.tup (L.aB _ _ h) a b) (λh a u' b=>.lst (L.aB _ _ h) a b) (λh a=>.cP (L.aB _ _ h) a) (λh=>.loc (L.cell _ _ h)) (λh a=>.inst (L.aB _ _ h) (L.cell _ _ a))
  (λh a u' b=>.oV (L.aB _ _ h) a b) (λh a u' b=>.oW (L.aB _ _ h) a b) (λh a b=>.di (L.aB _ _ h) a (L.cell _ _ b)) (λh a b c d=>.iW (L.aB _ _ h) a b (L.aB _ _ c) d) .nil (λu' u' a b=>.cons a b) h
noncomputable def HN (V:av) (g:Gh):D->Value->Prop
 |.none,v=>v=.none
 |.bool b,v=>v=.bool b
 |.int i,v => ∃ t,v=.int i t
 |.str s,v => ∃ t,v=.str s t
 |.bytes b,v => ∃ t,b.length<=aH/\v=.bytes b.toArray t
 |.bn b,v=>v=b.val
 |.fn k,v=>v=.ref (V.bh k)
 |.cls k,v=>v=.ref (V.ba k)
 |.tup ds,v => ∃ a o vs,g a=some (.aB o)/\lM "tuple" vs o/\aI V g ds vs/\v=.ref a
 |.lst ds,v => ∃ a o vs,g a=some (.aB o)/\lM "list" vs o/\aI V g ds vs/\v=.ref a
 |.cP a b,v => ∃ r o lC lD lE,g r=some (.aB o)/\fm "range" [.int a lC,.int b lD,.int 1 lE] o/\v=.ref r
 |.loc i,v => ∃ a,g a=some (.cell i)/\v=.ref a
 |.inst k i,v => ∃ x dx sl,g x=some (.aB ⟨.ref (V.ba k),some dx,.plain,sl⟩)/\g dx=some (.cell i)/\v=.ref x
 |.di i,v => ∃ a d o,g a=some (.aB o)/\fm "dict_values" [.ref d] o/\g d=some (.cell i)/\v=.ref a
 |_,_=>True
theorem af.inv (h:af V g d v):HN V g d v:=by
 induction h using af.casesOn with
 |none=>exact rfl
 |bool b=>exact rfl
 |int i t=>exact ⟨_,rfl⟩
 |str s t=>exact ⟨_,rfl⟩
 |bytes t h=>exact ⟨_,h,rfl⟩
 |bn b=>exact rfl
 |fn k=>exact rfl
 |cls k=>exact rfl
 |tup a b c=>exact ⟨_,_,_,a,b,c,rfl⟩
 |lst a b c=>exact ⟨_,_,_,a,b,c,rfl⟩
 |cP a b=>exact ⟨_,_,_,_,_,a,b,rfl⟩
 |loc a=>exact ⟨_,a,rfl⟩
 |inst a b=>exact ⟨_,_,_,a,b,rfl⟩
 |di a b c=>exact ⟨_,_,_,a,b,c,rfl⟩
 |oV=>exact trivial
 |oW=>exact trivial
 |iW=>exact trivial
variable {i:Nat} {α β:Type} {A:Around} {P:Prop} {C:ah} {st:St} {x:X}
theorem af.yH (h:af V g .none v):v=.none:=h.inv
theorem af.pE {b:Bool} (h:af V g (.bool b) v):v=.bool b:=h.inv
theorem af.jx {i:Int} (h:af V g (.int i) v) : ∃ t,v=.int i t:=h.inv
theorem af.ux {s:Str} (h:af V g (.str s) v) : ∃ t,v=.str s t:=h.inv
theorem af.nW {b:List UInt8} (h:af V g (.bytes b) v) : ∃ t,b.length<=aH/\v=.bytes b.toArray t:=h.inv
theorem af.yG {b:Bn} (h:af V g (.bn b) v):v=b.val:=h.inv
theorem af.PC {k:Nat} (h:af V g (.fn k) v):v=.ref (V.bh k):=h.inv
theorem af.EY {k:Nat} (h:af V g (.cls k) v):v=.ref (V.ba k):=h.inv
theorem af.PF (h:af V g (.tup ds) v) : ∃ a o vs,g a=some (.aB o)/\lM "tuple" vs o/\aI V g ds vs/\v=.ref a:=h.inv
theorem af.PD (h:af V g (.lst ds) v) : ∃ a o vs,g a=some (.aB o)/\lM "list" vs o/\aI V g ds vs/\v=.ref a:=h.inv
theorem af.PE {a b:Int} (h:af V g (.cP a b) v) : ∃ r o lC lD lE,g r=some (.aB o)/\fm "range" [.int a lC,.int b lD,.int 1 lE] o/\v=.ref r:=h.inv
theorem af.gA (h:af V g (.loc i) v) : ∃ a,g a=some (.cell i)/\v=.ref a:=h.inv
theorem af.PG (h:af V g (.di i) v) : ∃ a d o,g a=some (.aB o)/\fm "dict_values" [.ref d] o/\g d=some (.cell i)/\v=.ref a:=h.inv
theorem af.EW (h:af V g (.bm .bk d) v) : ∃ u a,g a=some (.aB {cls:=.type "method-wrapper",dict:=Option.none,data:=.fields #[.builtin "list.__contains__",u],slots := #[]})/\af V g d u/\v=.ref a:=by
 cases h with
 |oV h1 h2 h3=>unfold fm at h2; subst h2; exact ⟨_,_,h1,h3,rfl⟩
theorem af.EX (h:af V g (.bm .bX d) v) : ∃ u a,g a=some (.aB {cls:=.type "method-wrapper",dict:=Option.none,data:=.fields #[.builtin "list_iterator.__next__",u],slots := #[]})/\af V g d u/\v=.ref a:=by
 cases h with
 |oW h1 h2 h3=>unfold fm at h2; subst h2; exact ⟨_,_,h1,h3,rfl⟩
theorem aI.jy (h:aI V g [] vs):vs=[]:=by cases h; rfl
inductive Au (V:av) (g:Gh) (d:D) (ds:List D) (vs:List Value):Prop
 |mk (v:Value) (ws:List Value) (h1:af V g d v) (h2:aI V g ds ws) (e:vs=v::ws):Au V g d ds vs
theorem aI.kZ (h:aI V g (d::ds) vs):Au V g d ds vs:=by cases h; exact ⟨_,_,by assumption,by assumption,rfl⟩
theorem aI.ind {P:List D->List Value->Prop} (h0:P [] []) (h1 : ∀ {d v ds vs},af V g d v->aI V g ds vs->P ds vs->P (d::ds) (v::vs)) : ∀ {vs:List Value},aI V g ds vs->P ds vs:=by
 induction ds with
 |nil=>intro vs r; obtain rfl:=r.jy; exact h0
 |cons d ds ih=>intro vs r; obtain ⟨v,ws,a,b,rfl⟩:=r.kZ; exact h1 a b (ih b)
inductive vA {α β:Type} (o:Option α) (f:α->Option β) (b:β):Prop
 |mk (a:α) (h1:o=some a) (h2:f a=some b):vA o f b
inductive AI {α β:Type} (o:Option α) (f:α->β) (b:β):Prop
 |mk (a:α) (h1:o=some a) (h2:f a=b):AI o f b
theorem aS {o:Option α} {f:α->Option β} {b:β} (h:o.bind f=some b):vA o f b:=let ⟨a,h1,h2⟩:=Option.bind_eq_some_iff.mp h; ⟨a,h1,h2⟩
theorem cq {o:Option α} {f:α->β} {b:β} (h:o.map f=some b):AI o f b:=let ⟨a,h1,h2⟩:=Option.map_eq_some_iff.mp h; ⟨a,h1,h2⟩
theorem pG {M:Model} {c:Prop} [Decidable c] {f k:Sem α} {Q E s} (h : ¬c) (q:wpAny M A k Q E s):wpAny M A (if c then f else k) Q E s:=by rw [if_neg h]; exact q
theorem E4 {M:Model} {c:Prop} [Decidable c] {f k:Sem α} {Q E s} (h:c) (q:wpAny M A f Q E s):wpAny M A (if c then f else k) Q E s:=by rw [if_pos h]; exact q
theorem aq {a:α} (h:Option.none=some a):P:=by cases h
theorem eZ {c:Prop} [Decidable c] {a:Option α} {b:α} (h:(if c then a else Option.none)=some b):c/\a=some b:=by
 by_cases q:c
 ·rw [if_pos q] at h; exact ⟨q,h⟩
 ·rw [if_neg q] at h; exact aq h
set_option tactic.hygienic true in
theorem vS {es:List (Nm × D)} (h:eQ C i=some es):C[i]?=some (.cL es):=by
 unfold eQ at h
 split at h
 ·rename_i e q; rw [Option.some.inj h] at q; exact q
 ·exact aq h
set_option tactic.hygienic true in
theorem y2 {es:List D} (h:e9 C i=some es):C[i]?=some (.list es):=by
 unfold e9 at h
 split at h
 ·rename_i e q; rw [Option.some.inj h] at q; exact q
 ·exact aq h
set_option tactic.hygienic true in
theorem T8 {es:List Int} (h:pX C i=some es):C[i]?=some (.set es):=by
 unfold pX at h
 split at h
 ·rename_i e q; rw [Option.some.inj h] at q; exact q
 ·exact aq h
set_option tactic.hygienic true in
theorem CP {es:List (Int × D)} (h:dictAt C i=some es) : ∃ b,C[i]?=some (.dict b es):=by
 unfold dictAt at h
 split at h
 ·rename_i b e q; rw [Option.some.inj h] at q; exact ⟨b,q⟩
 ·exact aq h
theorem lA {a:α} (h:some a=Option.none):P:=by cases h
theorem bA (h:false=true):P:=by cases h
theorem fJ (h:true=false):P:=by cases h
theorem ak.ok.inj {a b:α} {s t:St} (h:ak.ok a s=ak.ok b t):a=b/\s=t:=by cases h; exact ⟨rfl,rfl⟩
theorem cC {a:α} (h:ak.fail=ak.ok a st):P:=by cases h
theorem xl {a:α} {ao:St} (h:ak.exc x ao=ak.ok a st):P:=by cases h
theorem FW {a:α} (h:ak.ok a st=ak.fail):P:=by cases h
theorem Ds (h:(ak.exc x st:ak α)=ak.fail):P:=by cases h
theorem Dw (h:(ak.fail:ak α)=ak.exc x st):P:=by cases h
noncomputable def fN (V:av) (g:Gh) (e:Int × D) (kv:Int × Value):Prop:=e.1=kv.1/\af V g e.2 kv.2
noncomputable def iA (V:av) (g:Gh) (e:Nm × D) (en:DictEntry):Prop:=(∃ t,en.key=.str e.1.str t)/\af V g e.2 en.val
noncomputable def i0 (V:av) (g:Gh):Option D->Option Value->Prop
 |none,none=>True
 |some d,some v=>af V g d v
 |_,_=>False
noncomputable def aY {α β:Type} (R:α->β->Prop):List α->List β->Prop
 |[],[]=>True
 |a::as,b::bs=>R a b/\aY R as bs
 |_,_=>False
theorem aY.ind {R:α->β->Prop} {P:List α->List β->Prop} {as:List α} {bs:List β} (h:aY R as bs) (h0:P [] []) (h1 : ∀ a b as bs,R a b->aY R as bs->P as bs->P (a::as) (b::bs)):P as bs:=by
 induction as generalizing bs with
 |nil=>
  induction bs using List.casesOn with
  |nil=>exact h0
  |cons=>exact h.elim
 |cons a as ih=>
  induction bs using List.casesOn with
  |nil=>exact h.elim
  |cons b bs=>exact h1 a b as bs h.1 h.2 (ih h.2)
theorem aY.append {R:α->β->Prop} {as vX:List α} {bs wi:List β} (h:aY R as bs) (h':aY R vX wi):aY R (as++vX) (bs++wi):=
 h.ind (P:=λas bs=>aY R (as++vX) (bs++wi)) h' λ_ _ _ _ r _ ih=>⟨r,ih⟩
theorem aY.imp {R R':α->β->Prop} (f : ∀ a b,R a b->R' a b) {as:List α} {bs:List β} (h:aY R as bs):aY R' as bs:=
 h.ind (P:=aY R') trivial λ_ _ _ _ r _ ih=>⟨f _ _ r,ih⟩
noncomputable def lJ (V:av) (g:Gh):Ch->Obj->Prop
 |.list ds,o => ∃ vs,lM "list" vs o/\aI V g ds vs
 |.dict b es,o=>es.length<=64/\∃ ents ep ay,o.ExactDict/\o.data=.dict ents ep/\KeysOf (intKind V.prog V.w) ents/\Pairs (intKind V.prog V.w) ents.toList ay/\(ay.map (·.1)).Nodup/\aY (fN V g) es ay/\(b=true->ep=es.length)
 |.cL es,o=>es.length<=64/\∃ ents n,o=W.dictOf ents n/\aY (iA V g) es ents/\(es.map (·.1)).Nodup
 |.set es,o=>es.length<=64/\∃ ents ep t,o.ExactSet/\o.data=.set ents ep t/\ElemsOf (intKind V.prog V.w) ents.toList/\(∀ k,es.contains k=true ↔ ∃ e∈ents.toList,(intKind V.prog V.w).is k e.2=true)/\
   ents.size<scanBound/\t.fits ents.size=true/\ents.size=es.length
 |.slots k fs,o=>o.cls=.ref (V.ba k)/\(∃ dx,o.dict=some dx/\g dx=some (.aB W.emptyDict))/\o.data=.plain/\∀ j,j<fs.length->i0 V g (fs[j]?).join (o.slots[V.ij k j]?).join
 |.bq src pos,o=>match src with
  |.none=>True
  |.tup ds => ∃ v t,fm "tuple_iterator" [v,.int pos t] o/\af V g (.tup ds) v
  |src => ∃ v t,fm "list_iterator" [v,.int pos t] o/\af V g src v
structure aD where
 env:Env
 names:List (Str × NameKind)
 slots:List (Str × Nat)
 base:Nat
 stack:List Env
noncomputable def AE (k:NameKind) (r:Option NameKind):Prop:=match k with
 |.free=>r=some .free\/r=some .cell
 |k=>r=some k
structure aD.Ok (F:aD):Prop where
 fn:F.env.scope.kind=.function
 glob:F.env.globals=mainGlobals
 blt:F.env.builtins=builtinsNs
 kinds : ∀ x k,F.names.lookup x=some k->AE k (F.env.kindOf x)
 inj : ∀ x y n,F.slots.lookup x=some n->F.slots.lookup y=some n->x=y
 bound : ∀ x n,F.slots.lookup x=some n->n<F.base
 frame : ∃ L,F.env.frame=some L
 cells : ∀ x k,F.names.lookup x=some k->k=.cell\/k=.free->(F.env.cells.lookup x).isSome=true
 debug:F.names.lookup ("__debug__":Str)=none
 m8:F.names.lookup ("__classdict__":Str)=none
noncomputable def HO (g:Gh) (L:Addr):Prop:=g L=some .locals\/∃ o es n,g L=some (.az o)/\o.data=.dict es n
noncomputable def eP (F:aD) (g:Gh) (L:Addr):Prop:=L=F.env.locals\/∃ o es n,g L=some (.az o)/\o.data=.dict es n
noncomputable def kq (o:Obj):Prop:=(∀ v,o.data≠.cell v)/\∀ es n,o.data≠.dict es n
structure lK (V:av) (F:aD) (m:List (Option D)) (g:Gh) (h:Heap):Prop where
 len:m.length=F.base
 above:V.h₀.objs.size<=F.env.locals
 out : ∀ e∈F.stack,e.scope.kind≠.module/\∃ L,e.frame=some L/\eP F g L
 here:g F.env.locals=some .locals
 loc : ∃ M,h.Ns F.env.locals M/\∀ x n d,F.names.lookup x=some .local->F.slots.lookup x=some n->m[n]?=some (some d)->∃ v,M x=some v/\af V g d v
 cell : ∀ x,F.names.lookup x=some .cell->∃ c v,F.env.cells.lookup x=some c/\g c=some (.cj x)/\h.IsCell c v/\
  ∀ n d,F.slots.lookup x=some n->m[n]?=some (some d)->∃ v',v=some v'/\af V g d v'
 free : ∀ x n d,F.names.lookup x=some .free->F.slots.lookup x=some n->m[n]?=some (some d)->∃ c o v,F.env.cells.lookup x=some c/\g c=some (.az o)/\o.data=.cell (some v)/\af V g d v
inductive Ap (V:av) (g:Gh) (h:Heap) (i:Nat) (c:Ch):Prop
 |mk (a:Addr) (o:Obj) (h1:g a=some (.cell i)) (h2:h.get? a=some o) (h3:lJ V g c o):Ap V g h i c
structure ai (V:av) (F:aD) (m:List (Option D)) (C:ah) (g:Gh) (s:Shared):Prop where
 keep : ∀ b o,V.h₀.get? b=some o->s.heap.get? b=some o
 new : ∀ a x,g a=some x->V.h₀.get? a=none
 live : ∀ a x,g a=some x->∃ o,s.heap.get? a=some o
 aB : ∀ a o,g a=some (.aB o)->s.heap.get? a=some o
 az : ∀ a o,g a=some (.az o)->∃ sl,s.heap.get? a=some {o with slots:=sl}/\(kq o->sl=o.slots)
 cell : ∀ i c,C[i]?=some c->Ap V g s.heap i c
 uniq : ∀ a b i,g a=some (.cell i)->g b=some (.cell i)->a=b
 dC : ∀ a i,g a=some (.cell i)->i<C.length
 fr:lK V F m g s.heap
 gens:s.gens = #[]
 os:s.os=V.os
theorem fN.mono (L:g.Le g') (e:Int × D) (en:Int × Value) (h:fN V g e en):fN V g' e en:=⟨h.1,h.2.mono L⟩
theorem iA.mono (L:g.Le g') (e:Nm × D) (en:DictEntry) (h:iA V g e en):iA V g' e en:=⟨h.1,h.2.mono L⟩
theorem i0.mono (L:g.Le g') : ∀ {d:Option D} {v:Option Value},i0 V g d v->i0 V g' d v
 |none,none,_=>trivial
 |some _,some _,h=>af.mono L h
 |none,some _,h=>h.elim
 |some _,none,h=>h.elim
theorem lJ.mono (L:g.Le g') {c:Ch} {o:Obj} (h:lJ V g c o):lJ V g' c o:=by
 induction c using Ch.casesOn with
 |list ds=>obtain ⟨vs,a,b⟩:=h; exact ⟨vs,a,b.mono L⟩
 |dict _ _=>obtain ⟨a,ents,ep,ay,b,c,d,e,f,q,y⟩:=h; exact ⟨a,ents,ep,ay,b,c,d,e,f,q.imp (fN.mono L),y⟩
 |cL _=>obtain ⟨a,ents,n,c,d,e⟩:=h; exact ⟨a,ents,n,c,d.imp (iA.mono L),e⟩
 |set _=>exact h
 |slots _ _=>obtain ⟨a,⟨dx,b,b'⟩,c,d⟩:=h; exact ⟨a,⟨dx,b,L.aB _ _ b'⟩,c,λj hj=>(d j hj).mono L⟩
 |bq src p=>induction src using D.casesOn<;>first|exact trivial|(obtain ⟨v,t,a,b⟩:=h; exact ⟨v,t,a,b.mono L⟩)
variable {F:aD} {s:Shared} {a:Addr} {h':Heap} {t:Nat}
section
variable {m:List (Option D)}
theorem ai.apart (I:ai V F m C g s) (h:s.heap.get? a=none):g a=none:=by
 induction e:g a with
 |none=>rfl
 |some x=>obtain ⟨o,ho⟩:=I.live a x e; rw [h] at ho; cases ho
theorem ai.fI (I:ai V F m C g s):g s.heap.objs.size=none:=I.apart (f8 (le_refl _))
theorem lK.keeps (x:lK V F m g s.heap) (k : ∀ b o,s.heap.get? b=some o->h'.get? b=some o):lK V F m g h':=
 ⟨x.len,x.above,x.out,x.here,by obtain ⟨M,a,b⟩:=x.loc; exact ⟨M,a.keeps k,b⟩,λy hy=>by obtain ⟨c,v,a,b,d,e⟩:=x.cell y hy; exact ⟨c,v,a,b,d.keeps k,e⟩,x.free⟩
theorem lK.mono {h:Heap} (x:lK V F m g h) (L:g.Le g') (yq : ∀ c,g c=some .locals->g' c=some .locals) (hc : ∀ c y,g c=some (.cj y)->g' c=some (.cj y))
  (hp : ∀ c o,g c=some (.az o)->g' c=some (.az o)):lK V F m g' h:=by
 refine ⟨x.len,x.above,λe he=>let ⟨k,L',q,r⟩:=x.out e he; ⟨k,L',q,?_⟩,yq _ x.here,?_,λy hy=>?_,λy n d a b e=>?_⟩
 ·rcases r with r|⟨o,es,n,r,z⟩
  ·exact .inl r
  ·exact .inr ⟨o,es,n,hp _ _ r,z⟩
 ·obtain ⟨M,a,b⟩:=x.loc
  exact ⟨M,a,λy n d h1 h2 h3=>(b y n d h1 h2 h3).imp λv q=>⟨q.1,q.2.mono L⟩⟩
 ·obtain ⟨c,v,a,b,d,e⟩:=x.cell y hy
  exact ⟨c,v,a,hc c y b,d,λn d' h1 h2=>(e n d' h1 h2).imp λv q=>⟨q.1,q.2.mono L⟩⟩
 ·obtain ⟨c,o,v,h1,h2,h3,h4⟩:=x.free y n d a b e
  exact ⟨c,o,v,h1,hp c o h2,h3,h4.mono L⟩
theorem ai.keeps (I:ai V F m C g s) {d:Drawn} (k : ∀ b o,s.heap.get? b=some o->h'.get? b=some o):ai V F m C g {s with heap:=h',toks:=t,drawn:=d} where
 keep b o h:=k b o (I.keep b o h)
 new:=I.new
 live a x h:=(I.live a x h).imp λo=>k a o
 aB a o h:=k a o (I.aB a o h)
 az a o h:=(I.az a o h).imp λsl q=>⟨k a _ q.1,q.2⟩
 cell i c h:=by obtain ⟨a,o,x,y,z⟩:=I.cell i c h; exact ⟨a,o,x,k a o y,z⟩
 uniq:=I.uniq
 dC:=I.dC
 fr:=I.fr.keeps k
 gens:=I.gens
 os:=I.os
theorem ai.tok (I:ai V F m C g s) (t:Nat):ai V F m C g {s with toks:=t}:=I.keeps (h':=s.heap) (d:=s.drawn) λu' u' h=>h
theorem ai.heap (I:ai V F m C g s) (k : ∀ b o,s.heap.get? b=some o->h'.get? b=some o):ai V F m C g {s with heap:=h'}:=I.keeps (t:=s.toks) (d:=s.drawn) k
theorem ai.both (I:ai V F m C g s) (t:Nat) (k : ∀ b o,s.heap.get? b=some o->h'.get? b=some o):ai V F m C g {s with heap:=h',toks:=t}:=I.keeps (d:=s.drawn) k
noncomputable def Gh.put (g:Gh) (a:Addr) (x:Option GO):Gh:=λb=>if b=a then x else g b
theorem Gh.bz (g:Gh) (a:Addr) (x:Option GO):g.put a x a=x:=by simp [Gh.put]
theorem Gh.bf (g:Gh) {b:Addr} (x:Option GO) (h:b≠a):g.put a x b=g b:=by simp [Gh.put,h]
theorem Gh.bG {b:Addr} {x:Option GO} {y:GO} (h:g.put a x b=some y):(b=a/\x=some y)\/(b≠a/\g b=some y):=by
 by_cases e:b=a
 ·left; subst e; rw [Gh.bz] at h; exact ⟨rfl,h⟩
 ·right; rw [Gh.bf _ _ e] at h; exact ⟨e,h⟩
theorem Gh.gB (x:Option GO) (h:g a=none):g.Le (g.put a x):=
 ⟨λb o e=>(by rw [Gh.bf]; exact e; intro q; subst q; rw [h] at e; cases e),λb i e=>(by rw [Gh.bf]; exact e; intro q; subst q; rw [h] at e; cases e)⟩
theorem ai.more (I:ai V F m C g s) {o:Obj} {x:GO} (k : ∀ b o,s.heap.get? b=some o->h'.get? b=some o) (ha:s.heap.get? a=none) (ho:h'.get? a=some o)
  (hx:x=.aB o\/x=.az o):ai V F m C (g.put a (some x)) {s with heap:=h',toks:=t}:=by
 have hg:=I.apart ha
 have L:g.Le (g.put a (some x)):=Gh.gB _ hg
 have I':=I.both t k
 have other : ∀ {b y},g b=some y->g.put a (some x) b=some y:=λ{b y} e=>by
  rw [Gh.bf]; exact e; intro q; subst q; rw [hg] at e; cases e
 refine ⟨I'.keep,λb y e=>?_,λb y e=>?_,λb o' e=>?_,λb o' e=>?_,λi c e=>?_,λb c i e e'=>?_,λb i e=>?_,?_,I'.gens,I'.os⟩
 ·rcases Gh.bG e with ⟨rfl,_⟩|⟨_,q⟩
  ·induction q:V.h₀.get? b with
   |none=>rfl
   |some o'=>rw [I.keep _ _ q] at ha; cases ha
  ·exact I.new b y q
 ·rcases Gh.bG e with ⟨rfl,_⟩|⟨_,q⟩
  ·exact ⟨o,ho⟩
  ·exact I'.live b y q
 ·rcases Gh.bG e with ⟨rfl,q⟩|⟨_,q⟩
  ·rcases hx with rfl|rfl<;>cases q
   exact ho
  ·exact I'.aB b o' q
 ·rcases Gh.bG e with ⟨rfl,q⟩|⟨_,q⟩
  ·rcases hx with rfl|rfl<;>cases q
   exact ⟨o.slots,ho,λu'=>rfl⟩
  ·exact I'.az b o' q
 ·obtain ⟨b,o',h1,h2,h3⟩:=I'.cell i c e
  exact ⟨b,o',other h1,h2,h3.mono L⟩
 ·rcases Gh.bG e with ⟨rfl,q⟩|⟨_,q⟩
  ·rcases hx with rfl|rfl<;>cases q
  ·rcases Gh.bG e' with ⟨rfl,q'⟩|⟨_,q'⟩
   ·rcases hx with rfl|rfl<;>cases q'
   ·exact I.uniq b c i q q'
 ·rcases Gh.bG e with ⟨rfl,q⟩|⟨_,q⟩
  ·rcases hx with rfl|rfl<;>cases q
  ·exact I.dC b i q
 ·exact I'.fr.mono L (λc e=>other e) (λc y e=>other e) (λc o e=>other e)
theorem ai.wL (I:ai V F m C g s) {o:Obj} {c:Ch} (k : ∀ b o,s.heap.get? b=some o->h'.get? b=some o) (ha:s.heap.get? a=none) (ho:h'.get? a=some o)
  (hc:lJ V (g.put a (some (.cell C.length))) c o):ai V F m (C++[c]) (g.put a (some (.cell C.length))) {s with heap:=h',toks:=t}:=by
 have hg:=I.apart ha
 have L:g.Le (g.put a (some (.cell C.length))):=Gh.gB _ hg
 have I':=I.both t k
 have other : ∀ {b y},g b=some y->g.put a (some (.cell C.length)) b=some y:=λ{b y} e=>by
  rw [Gh.bf]; exact e; intro q; subst q; rw [hg] at e; cases e
 refine ⟨I'.keep,λb y e=>?_,λb y e=>?_,λb o' e=>?_,λb o' e=>?_,λi c' e=>?_,λb c' i e e'=>?_,λb i e=>?_,?_,I'.gens,I'.os⟩
 ·rcases Gh.bG e with ⟨rfl,_⟩|⟨_,q⟩
  ·induction q:V.h₀.get? b with
   |none=>rfl
   |some o'=>rw [I.keep _ _ q] at ha; cases ha
  ·exact I.new b y q
 ·rcases Gh.bG e with ⟨rfl,_⟩|⟨_,q⟩
  ·exact ⟨o,ho⟩
  ·exact I'.live b y q
 ·rcases Gh.bG e with ⟨rfl,q⟩|⟨_,q⟩
  ·cases q
  ·exact I'.aB b o' q
 ·rcases Gh.bG e with ⟨rfl,q⟩|⟨_,q⟩
  ·cases q
  ·exact I'.az b o' q
 ·rw [List.getElem?_append] at e
  split at e
  ·obtain ⟨b,o',h1,h2,h3⟩:=I'.cell i c' e
   exact ⟨b,o',other h1,h2,h3.mono L⟩
  ·rename_i hi
   have jV:i=C.length:=by
    induction hq:i - C.length using Nat.casesOn with
    |zero=>exact le_antisymm (Nat.le_of_sub_eq_zero hq) (not_lt.mp hi)
    |succ n=>rw [hq] at e; simp at e
   subst jV
   simp at e
   subst e
   exact ⟨a,o,Gh.bz ..,ho,hc⟩
 ·rcases Gh.bG e with ⟨rfl,q⟩|⟨_,q⟩
  ·cases q
   rcases Gh.bG e' with ⟨rfl,_⟩|⟨_,q'⟩
   ·rfl
   ·exact absurd (I.dC _ _ q') (lt_irrefl _)
  ·rcases Gh.bG e' with ⟨rfl,q'⟩|⟨_,q'⟩
   ·cases q'; exact absurd (I.dC _ _ q) (lt_irrefl _)
   ·exact I.uniq b c' i q q'
 ·rw [length_append]
  rcases Gh.bG e with ⟨rfl,q⟩|⟨_,q⟩
  ·cases q; simp
  ·exact am (I.dC b i q) (jp ..)
 ·exact I'.fr.mono L (λc e=>other e) (λc y e=>other e) (λc o e=>other e)
theorem ai.cellSet (I:ai V F m C g s) {o:Obj} {c:Ch} (hg:g a=some (.cell i)) (hs:Heap.SameBut a s.heap h') (ho:h'.get? a=some o) (hc:lJ V g c o) :
  ai V F m (C.set i c) g {s with heap:=h',toks:=t}:=by
 have ne : ∀ {b y},g b=some y->y≠.cell i->b≠a:=λ{b y} e q z=>by subst z; rw [hg] at e; cases e; exact q rfl
 refine ⟨λb o' e=>?_,I.new,λb y e=>?_,λb o' e=>?_,λb o' e=>?_,λj c' e=>?_,I.uniq,λb j e=>?_,?_,I.gens,I.os⟩
 ·refine (hs.2 b λz=>?_).trans (I.keep b o' e)
  subst z; rw [I.new _ _ hg] at e; cases e
 ·by_cases z:b=a
  ·subst z; exact ⟨o,ho⟩
  ·obtain ⟨o',q⟩:=I.live b y e; exact ⟨o',(hs.2 b z).trans q⟩
 ·exact (hs.2 b (ne e (by intro z; cases z))).trans (I.aB b o' e)
 ·obtain ⟨sl,q,q'⟩:=I.az b o' e
  exact ⟨sl,(hs.2 b (ne e (by intro z; cases z))).trans q,q'⟩
 ·rw [getElem?_set] at e
  split at e
  ·rename_i gu
   subst gu
   split at e
   ·cases e; exact ⟨a,o,hg,ho,hc⟩
   ·cases e
  ·rename_i gu
   obtain ⟨b,o',h1,h2,h3⟩:=I.cell j c' e
   refine ⟨b,o',h1,(hs.2 b λz=>?_).trans h2,h3⟩
   subst z; rw [hg] at h1; cases h1; exact gu rfl
 ·rw [length_set]; exact I.dC b j e
 ·have x:=I.fr
  refine ⟨x.len,x.above,x.out,x.here,?_,λy hy=>?_,x.free⟩
  ·obtain ⟨M,q,r⟩:=x.loc
   exact ⟨M,q.sameBut hs (ne x.here (by intro z; cases z)),r⟩
  ·obtain ⟨c',v,q1,q2,q3,q4⟩:=x.cell y hy
   exact ⟨c',v,q1,q2,q3.sameBut hs (ne q2 (by intro z; cases z)),q4⟩
theorem ai.pW (I:ai V F m C g s) {r6 o:Obj} (hg:g a=some (.az r6)) (ht:kq r6)
  (hs:Heap.ExtBut a s.heap h') (ho:h'.get? a=some o):ai V F m C (g.put a (some (.az o))) {s with heap:=h',toks:=t}:=by
 have ne : ∀ {b y},g b=some y->(∀ o,y≠.az o)->b≠a:=λ{b y} e q z=>by subst z; rw [hg] at e; cases e; exact q _ rfl
 have L:g.Le (g.put a (some (.az o))):=⟨λb o' e=>by rw [Gh.bf _ _ (ne e (by intro _ z; cases z))]; exact e,λb o' e=>by rw [Gh.bf _ _ (ne e (by intro _ z; cases z))]; exact e⟩
 refine ⟨λb o' e=>?_,λb y e=>?_,λb y e=>?_,λb o' e=>?_,λb o' e=>?_,λj c' e=>?_,λb c' i e e'=>?_,λb j e=>?_,?_,I.gens,I.os⟩
 ·refine hs b o' (λz=>?_) (I.keep b o' e)
  subst z; rw [I.new _ _ hg] at e; cases e
 ·rcases Gh.bG e with ⟨rfl,_⟩|⟨_,q⟩
  ·exact I.new _ _ hg
  ·exact I.new b y q
 ·rcases Gh.bG e with ⟨rfl,_⟩|⟨z,q⟩
  ·exact ⟨o,ho⟩
  ·obtain ⟨o',r⟩:=I.live b y q; exact ⟨o',hs b o' z r⟩
 ·rcases Gh.bG e with ⟨rfl,q⟩|⟨z,q⟩
  ·cases q
  ·exact hs b o' z (I.aB b o' q)
 ·rcases Gh.bG e with ⟨rfl,q⟩|⟨z,q⟩
  ·cases q; exact ⟨_,ho,λu'=>rfl⟩
  ·obtain ⟨sl,r,r'⟩:=I.az b o' q; exact ⟨sl,hs b _ z r,r'⟩
 ·obtain ⟨b,o',h1,h2,h3⟩:=I.cell j c' e
  have z:=ne h1 (by intro _ z; cases z)
  exact ⟨b,o',by rw [Gh.bf _ _ z]; exact h1,hs b o' z h2,h3.mono L⟩
 ·rcases Gh.bG e with ⟨rfl,q⟩|⟨z,q⟩
  ·cases q
  ·rcases Gh.bG e' with ⟨rfl,q'⟩|⟨_,q'⟩
   ·cases q'
   ·exact I.uniq b c' i q q'
 ·rcases Gh.bG e with ⟨rfl,q⟩|⟨z,q⟩
  ·cases q
  ·exact I.dC b j q
 ·have x:=I.fr
  have yw : ∀ e∈F.stack,e.scope.kind≠.module/\∃ L,e.frame=some L/\eP F (g.put a (some (.az o))) L:=λe he=>by
   obtain ⟨k,L',q,r⟩:=x.out e he
   refine ⟨k,L',q,?_⟩
   rcases r with r|⟨o',es,n,r,z⟩
   ·exact .inl r
   ·exact .inr ⟨o',es,n,by rw [Gh.bf _ _ (λw=>by subst w; rw [hg] at r; cases r; exact ht.2 _ _ z)]; exact r,z⟩
  refine ⟨x.len,x.above,yw,by rw [Gh.bf _ _ (ne x.here (by intro _ z; cases z))]; exact x.here,?_,λy hy=>?_,λy n d h1 h2 h3=>?_⟩
  ·obtain ⟨M,q,r⟩:=x.loc
   exact ⟨M,q.extBut hs (ne x.here (by intro _ z; cases z)),λy n d h1 h2 h3=>(r y n d h1 h2 h3).imp λv q=>⟨q.1,q.2.mono L⟩⟩
  ·obtain ⟨c',v,q1,q2,⟨oc,q3,Sr⟩,q4⟩:=x.cell y hy
   have z:=ne q2 (by intro _ z; cases z)
   exact ⟨c',v,q1,by rw [Gh.bf _ _ z]; exact q2,⟨oc,hs _ _ z q3,Sr⟩,λn d h1 h2=>(q4 n d h1 h2).imp λv q=>⟨q.1,q.2.mono L⟩⟩
  ·obtain ⟨c',o',v,q1,q2,q3,q4⟩:=x.free y n d h1 h2 h3
   exact ⟨c',o',v,q1,by rw [Gh.bf _ _ (λw=>by subst w; rw [hg] at q2; cases q2; exact ht.1 _ q3)]; exact q2,q3,q4.mono L⟩
theorem ai.r7 (I:ai V F m C g s) {r6:Obj} (hg:g a=some (.az r6)) (ht:kq r6) :
  ai V F m C (g.put a none) s:=by
 have ne : ∀ {b y},g b=some y->(∀ o,y≠.az o)->b≠a:=λ{b y} e q z=>by subst z; rw [hg] at e; cases e; exact q _ rfl
 have L:g.Le (g.put a none):=⟨λb o' e=>by rw [Gh.bf _ _ (ne e (by intro _ z; cases z))]; exact e,λb o' e=>by rw [Gh.bf _ _ (ne e (by intro _ z; cases z))]; exact e⟩
 have old : ∀ {b y},g.put a none b=some y->g b=some y:=λ{b y} e=>by
  rcases Gh.bG e with ⟨_,q⟩|⟨_,q⟩
  ·cases q
  ·exact q
 refine ⟨I.keep,λb y e=>I.new b y (old e),λb y e=>I.live b y (old e),λb o' e=>I.aB b o' (old e),λb o' e=>I.az b o' (old e),λj c' e=>?_,λb c' i e e'=>I.uniq b c' i (old e) (old e'),
  λb j e=>I.dC b j (old e),?_,I.gens,I.os⟩
 ·obtain ⟨b,o',h1,h2,h3⟩:=I.cell j c' e
  exact ⟨b,o',by rw [Gh.bf _ _ (ne h1 (by intro _ z; cases z))]; exact h1,h2,h3.mono L⟩
 ·have x:=I.fr
  have yw : ∀ e∈F.stack,e.scope.kind≠.module/\∃ L,e.frame=some L/\eP F (g.put a none) L:=λe he=>by
   obtain ⟨k,L',q,r⟩:=x.out e he
   refine ⟨k,L',q,?_⟩
   rcases r with r|⟨o',es,n,r,z⟩
   ·exact .inl r
   ·exact .inr ⟨o',es,n,by rw [Gh.bf _ _ (λw=>by subst w; rw [hg] at r; cases r; exact ht.2 _ _ z)]; exact r,z⟩
  refine ⟨x.len,x.above,yw,by rw [Gh.bf _ _ (ne x.here (by intro _ z; cases z))]; exact x.here,?_,λy hy=>?_,λy n d h1 h2 h3=>?_⟩
  ·obtain ⟨M,q,r⟩:=x.loc
   exact ⟨M,q,λy n d h1 h2 h3=>(r y n d h1 h2 h3).imp λv q=>⟨q.1,q.2.mono L⟩⟩
  ·obtain ⟨c',v,q1,q2,q3,q4⟩:=x.cell y hy
   exact ⟨c',v,q1,by rw [Gh.bf _ _ (ne q2 (by intro _ z; cases z))]; exact q2,q3,λn d h1 h2=>(q4 n d h1 h2).imp λv q=>⟨q.1,q.2.mono L⟩⟩
  ·obtain ⟨c',o',v,q1,q2,q3,q4⟩:=x.free y n d h1 h2 h3
   exact ⟨c',o',v,q1,by rw [Gh.bf _ _ (λw=>by subst w; rw [hg] at q2; cases q2; exact ht.1 _ q3)]; exact q2,q3,q4.mono L⟩
end
inductive AN (V:av) (g:Gh) (L:Addr) (e:Addr) (cls:Value) (args:List Value) (h:Heap):Prop
 |mk (oe:Obj) (vs:Array Value) (t:Addr) (h1:h.get? e=some oe) (h2:oe.cls=cls) (h3:oe.data=.fields vs) (h4:vs[0]?=some (.ref t)) (h5:h.TupAt t args) (h6:V.h₀.get? t=none/\g t=none)
  (h7:vs[1]?=some .none\/∃ T oT ts,vs[1]?=some (.ref T)/\T≠e/\g T=none/\V.h₀.get? T=none/\h.get? T=some oT/\oT.data=.fields ts/\(ts[3]?=some .none\/ts[3]?=some (rawInt L))):AN V g L e cls args h
structure HU (V:av) (g:Gh) (L:Addr) (e:Addr) (cls:Value) (args:List Value) (h:Heap):Prop where
 un:g e=none
 new:V.h₀.get? e=none
 there:AN V g L e cls args h
noncomputable def vR (V:av):X->Value->List Value->Prop
 |.stop,c,args=>c=.type "StopIteration"/\args=[]
 |.iG,c,_=>c=.ref (V.ba 1)
 |.value msg,c,args=>c=.type "ValueError"/\∃ t,args=[.str msg t]
inductive fj (V:av) (F:aD) (x:X) (st:St) (g:Gh) (e:Value) (s:Shared):Prop
 |mk (I:ai V F st.m st.C g s) (a:Addr) (cls:Value) (args:List Value) (L:Addr) (e1:e=.ref a) (e2:F.env.frame=some L) (e3:vR V x cls args) (e4:HU V g L a cls args s.heap):fj V F x st g e s
abbrev Tr (α:Type):=(α->Shared->Prop)->(Value->Shared->Prop)->Shared->Prop
noncomputable def aj {α β:Type} (V:av) (F:aD) (R:Gh->β->α->Prop) (W:Tr α) (g:Gh) (s:Shared):ak β->Prop
 |.ok b st => ∀ (Q:α->Shared->Prop) (E:Value->Shared->Prop),(∀ g' a s',g.Step g'->ai V F st.m st.C g' s'->R g' b a->Q a s')->W Q E s
 |.exc x st => ∀ (Q:α->Shared->Prop) (E:Value->Shared->Prop),(∀ g' e s',g.Step g'->fj V F x st g' e s'->E e s')->W Q E s
 |.fail=>True
abbrev aJ {α β:Type} (V:av) (F:aD) (A:Around) (R:Gh->β->α->Prop) (t:Sem α) (g:Gh) (s:Shared) (o:ak β):Prop:=aj V F R (wpAny V.M A t) g s o
section
variable {γ δ:Type} {R:Gh->β->α->Prop} {R':Gh->δ->γ->Prop} {W:Tr α} {W':Tr γ} {o:ak β}
theorem aj.seq {K:α->Tr γ} {k:β->St->ak δ} (h:aj V F R W g s o) (hT : ∀ Q E,W (λa au=>K a Q E au) E s->W' Q E s)
  (hf : ∀ b st aV au a,o=.ok b st->g.Step aV->ai V F st.m st.C aV au->R aV b a->aj V F R' (K a) aV au (k b st)):aj V F R' W' g s (o.bind k):=by
 induction o with
 |fail=>trivial
 |exc x st=>exact λQ E q=>hT Q E (h _ E λg' e s' ao hx=>q g' e s' ao hx)
 |ok b st=>
  show aj V F R' W' g s (k b st)
  induction hk:k b st with
  |fail=>trivial
  |ok d ao=>
   refine λQ E q=>hT Q E (h _ E λg' a s' d6 I r=>?_)
   have:=hf b st g' s' a rfl d6 I r
   rw [hk] at this
   exact this Q E λed c d5 bQ I' r'=>q ed c d5 (d6.trans bQ) I' r'
  |exc x ao=>
   refine λQ E q=>hT Q E (h _ E λg' a s' d6 I r=>?_)
   have:=hf b st g' s' a rfl d6 I r
   rw [hk] at this
   exact this Q E λed e d5 bQ hx=>q ed e d5 (d6.trans bQ) hx
theorem aj.wp {W₂:Tr α} (h:aj V F R W g s o) (f : ∀ Q E,W Q E s->W₂ Q E s):aj V F R W₂ g s o:=by
 induction o with
 |ok b st=>exact λQ E k=>f Q E (h Q E k)
 |exc x st=>exact λQ E k=>f Q E (h Q E k)
 |fail=>trivial
theorem aj.go {W₂:Tr α} {s':Shared} (h:aj V F R W g s' o) (f : ∀ Q E,W Q E s'->W₂ Q E s):aj V F R W₂ g s o:=by
 induction o with
 |ok b st=>exact λQ E k=>f Q E (h Q E k)
 |exc x st=>exact λQ E k=>f Q E (h Q E k)
 |fail=>trivial
theorem aj.from {cD:Gh} (q:cD.Step g) (h:aj V F R W g s o):aj V F R W cD s o:=by
 induction o with
 |fail=>trivial
 |ok b st=>exact λQ E k=>h Q E λg' a s' ao I r=>k g' a s' (q.trans ao) I r
 |exc x st=>exact λQ E k=>h Q E λg' e s' ao I=>k g' e s' (q.trans ao) I
end
section
variable {γ δ:Type} {R:Gh->β->α->Prop} {R':Gh->δ->γ->Prop} {t:Sem α}
theorem aJ.wp {t':Sem α} {o:ak β} (f : ∀ Q E,wpAny V.M A t Q E s->wpAny V.M A t' Q E s) (h:aJ V F A R t g s o):aJ V F A R t' g s o:=by
 induction o with
 |ok b st=>exact λQ E k=>f Q E (h Q E k)
 |exc x st=>exact λQ E k=>f Q E (h Q E k)
 |fail=>trivial
theorem Wr {M:Model} {m:Sem Value} {Q:Value->Shared->Prop} {E:Value->Shared->Prop} (h:wpAny M A m Q E s):wpAny M A (operate vs m) Q E s:=
 fun Γ p yE => by rw [Sem.wp_operate]; exact h Γ p yE
end
section
variable {R:Gh->D->Value->Prop} {W:Tr Value}
theorem aj.aL {o:Option α} {f:α->ak D} (h : ∀ x,o=some x->aj V F R W g s (f x)):aj V F R W g s (aL o f):=by
 induction o with
 |none=>trivial
 |some x=>exact h x rfl
theorem aj.bJ {b:Bool} {o:ak D} (h:b=true->aj V F R W g s o):aj V F R W g s (bJ b o):=by
 induction b with
 |false=>trivial
 |true=>exact h rfl
theorem aj.one {T:List Value->Tr Value} {f:D->ak D} (rd:aI V g ds vs) (h : ∀ d v,af V g d v->aj V F R (T [v]) g s (f d)):aj V F R (T vs) g s (one ds f):=by
 match ds with
 |[]=>trivial
 |[d]=>obtain ⟨v,ws,a,r,rfl⟩:=rd.kZ; obtain rfl:=r.jy; exact h d v a
 |_::_::_=>trivial
theorem aj.two {T:List Value->Tr Value} {f:D->D->ak D} (rd:aI V g ds vs) (h : ∀ d e v u,af V g d v->af V g e u->aj V F R (T [v,u]) g s (f d e)):aj V F R (T vs) g s (two ds f):=by
 match ds with
 |[]=>trivial
 |[_]=>trivial
 |[d,e]=>obtain ⟨v,ws,a,r1,rfl⟩:=rd.kZ; obtain ⟨u,ws,b,r2,rfl⟩:=r1.kZ; obtain rfl:=r2.jy; exact h d e v u a b
 |_::_::_::_=>trivial
end
end Mine.Lake
end
section
open PySem PyProof.Rows
namespace Mine.Lake
structure av.Ok (V:av) (G:a0):Prop where
 glob : ∃ mg mb,V.h₀.Ns mainGlobals mg/\V.h₀.Ns builtinsNs mb/\∀ x d,G.glob.lookup x=some d->∃ v,(mg x=some v\/(mg x=none/\mb x=some v))/\∀ g,af V g d v
 nolimit:V.h₀.NoLimit
variable {V:av} {G:a0} {F:aD} {A:Around} {m:List (Option D)} {C:ah} {g:Gh} {s:Shared} {t:Tok} {o:Op} {n:Nat} {p:Pos} {cl:Calls} {x d y:D} {a v b:Value} {op:Operator} {ds:List D} {vs:List Value} {Q:Value->Shared->Prop}
theorem aJ.leaf {R:Gh->D->Value->Prop} {t:Sem Value} {o:Option D}
  (h : ∀ d,o=some d->∀ (Q:Value->Shared->Prop) (E:Value->Shared->Prop),(∀ g' a s',g.Step g'->ai V F m C g' s'->R g' d a->Q a s')->wpAny V.M A t Q E s):aJ V F A R t g s (dp o ⟨m,C⟩):=by
 induction o with
 |none=>trivial
 |some d=>exact h d rfl
theorem Tj (I:ai V F m C g s) {k:Const} {P:aX}:aJ V F A (af V) (eval (.Constant k n p) F.env) g s (ev P cl (tw k) ⟨m,C⟩):=by
 induction k using Const.casesOn with
 |none=>exact λQ E k=>cr (k g _ s (.refl g) I .none)
 |bool b=>exact λQ E k=>cr (k g _ s (.refl g) I (.bool b))
 |int i=>exact λQ E k=>wpAny_mkInt (k g _ _ (.refl g) (I.tok _) (.int i _))
 |str x=>exact λQ E k=>wpAny_mkText (k g _ _ (.refl g) (I.tok _) (.str x _))
 |float _=>trivial
 |complex _ _=>trivial
 |bytes _=>trivial
 |ellipsis=>trivial
noncomputable def aD.ctx (F:aD) (c:aN):Prop:=c.names=F.names/\c.slots=F.slots/\c.base=F.base
theorem aD.Ok.pV (K:F.Ok) {x:Str} {k:NameKind} (h:F.names.lookup x=some k):(x==("__debug__":Str))=false:=by
 induction q:x==("__debug__":Str) with
 |false=>rfl
 |true=>rw [eq_of_beq q,K.debug] at h; exact aq h
theorem GJ (O:V.Ok G) (K:F.Ok) (I:ai V F m C g s) {c:aN} (hc:F.ctx c) {x:Str} {P:aX} :
  aJ V F A (af V) (eval (.Name x p) F.env) g s (ev P cl (mC G c x) ⟨m,C⟩):=by
 unfold mC
 rw [hc.1,hc.2.1]
 induction hk:F.names.lookup x with
 |none=>trivial
 |some k=>
  have pB:=K.kinds x k hk
  have slot : ∀ (d:D),(∀ n,F.slots.lookup x=some n->∀ d,m[n]?=some (some d)->aJ V F A (af V) (eval (.Name x p) F.env) g s (.ok d ⟨m,C⟩))->aJ V F A (af V) (eval (.Name x p) F.env) g s (ev P cl (match F.slots.lookup x with
    |some n=>.var n
    |none=>.bad) ⟨m,C⟩):=by
   intro _ h
   induction hs:F.slots.lookup x with
   |none=>trivial
   |some n=>
    show aJ _ _ _ _ _ _ _ (match m[n]? with|some (some d)=>.ok d ⟨m,C⟩|_=>.fail)
    induction hm:m[n]? with
    |none=>trivial
    |some od=>
     induction od with
     |none=>trivial
     |some d=>exact h n hs d hm
  induction k using NameKind.casesOn with
  |«local»=>
   refine slot .none λn hs d hm Q E k=>?_
   obtain ⟨M,hM,hv⟩:=I.fr.loc
   obtain ⟨v,hv,r⟩:=hv x n d hk hs hm
   exact wpAny_Name (wpAny_loadName_local K.fn pB hM hv (k g v s (.refl g) I r)) (K.pV hk)
  |cell=>
   refine slot .none λn hs d hm Q E k=>?_
   obtain ⟨c,v,h1,h2,h3,h4⟩:=I.fr.cell x hk
   obtain ⟨v',rfl,r⟩:=h4 n d hs hm
   exact wpAny_Name (wpAny_loadName_cell K.fn pB h1 h3 (k g v' s (.refl g) I r)) (K.pV hk)
  |free=>
   refine slot .none λn hs d hm Q E k=>?_
   obtain ⟨c,o,v,h1,h2,h3,r⟩:=I.fr.free x n d hk hs hm
   obtain ⟨sl,h4,_⟩:=I.az c o h2
   have h5:s.heap.IsCell c (some v):=⟨_,h4,h3⟩
   rcases pB with hf|hf
   ·refine wpAny_Name (wpAny_loadName_free K.fn hf h1 h5 (k g v s (.refl g) I r) ?_) (K.pV hk)
    induction q:x==("__classdict__":Str) with
    |false=>rfl
    |true=>rw [eq_of_beq q,K.m8] at hk; exact aq hk
   ·exact wpAny_Name (wpAny_loadName_cell K.fn hf h1 h5 (k g v s (.refl g) I r)) (K.pV hk)
  |globalExplicit=>trivial
  |globalImplicit=>
   show aJ _ _ _ _ _ _ _ (ev P cl (match G.glob.lookup x with|some d=>.cst d|none=>.bad) ⟨m,C⟩)
   induction hg:G.glob.lookup x with
   |none=>trivial
   |some d=>
    intro Q E k
    obtain ⟨mg,mb,h1,h2,h3⟩:=O.glob
    obtain ⟨v,hv,r⟩:=h3 x d hg
    have e1:s.heap.Ns F.env.globals mg:=by rw [K.glob]; exact h1.keeps I.keep
    have e2:s.heap.Ns F.env.builtins mb:=by rw [K.blt]; exact h2.keeps I.keep
    refine Calls.Name_function_global K.fn pB ?_ (K.pV hk)
    rcases hv with hv|⟨hm,hv⟩
    ·exact Calls.loadGlobal_global e1 hv (k g v s (.refl g) I (r g))
    ·exact Calls.loadGlobal_builtin e1 hm e2 hv (k g v s (.refl g) I (r g))
theorem p8 {a:Int} (h:small a=true):a.natAbs<2 ^ 64:=io h
theorem AQ {a:Int} (h:a.natAbs<n) : -(n:Int)<a/\a<n:=
 have e:(a.natAbs:Int)<n:=ofNat_lt.mpr h
 ⟨Int.neg_lt_of_neg_lt (Int.lt_of_le_of_lt (by rw [<-Int.natAbs_neg]; exact le_natAbs) e),Int.lt_of_le_of_lt le_natAbs e⟩
theorem IntMulOk.RV {a b:Int} (h:small b=true):IntMulOk a b:=.of_right (intBits_le_64 (AQ (p8 h)).1 (AQ (p8 h)).2)
theorem RA {x y:Int} (h:y.natAbs<2 ^ 64):Builtin.divisionGoesByPylong x y=false:=by
 refine PyProof.noPylong_of_log2 ?_
 by_cases h0:y.natAbs=0
 ·rw [h0]; decide +kernel
 ·exact ii ((Nat.log2_lt h0).mpr h) (by decide)
theorem Tv (ho:jB op=some o) (I:ai V F m C g s) {a b:Int} {u:Tok} :
  aJ V F A (af V) (binaryOp op (.int a t) (.int b u)) g s (dp ((hW o a b).map .int) ⟨m,C⟩):=by
 refine aJ.leaf λd hd Q E k=>?_
 have fin : ∀ i,hW o a b=some i->Q (.int i s.toks) {s with toks:=s.toks+1}:=λi hi=>by
  rw [hi] at hd; obtain rfl:=ad hd
  exact k g _ _ (.refl g) (I.tok _) (.int _ _)
 obtain ⟨i,hi⟩ : ∃ i,hW o a b=some i:=by
  induction q:hW o a b with
  |none=>rw [q] at hd; exact aq hd
  |some i=>exact ⟨i,rfl⟩
 have hq:=fin i hi
 unfold hW at hi
 induction op using Operator.casesOn<;>first|((first|exact aq ho|obtain rfl:=ad ho); done)|(injection ho with ho; subst ho; dsimp only at hi)
 ·obtain rfl:=ad hi; exact add_int hq
 ·obtain rfl:=ad hi; exact PyProof.Rows.sub_int hq
 ·split at hi
  ·rename_i hc; obtain rfl:=ad hi
   rw [and_eq_true] at hc
   exact P.mul_int hq (IntMulOk.RV hc.2)
  ·exact aq hi
 ·split at hi
  ·rename_i hc; obtain rfl:=ad hi
   exact mod_int (by simpa using hc) hq
  ·exact aq hi
 ·split at hi
  ·rename_i hc; obtain rfl:=ad hi
   simp only [and_eq_true,decide_eq_true_eq] at hc
   exact pow_int_small hc.1.2 (Int.le_trans hc.2 (by decide)) (p8 hc.1.1) hq
  ·exact aq hi
 ·split at hi
  ·rename_i hc; obtain rfl:=ad hi
   simp only [and_eq_true,decide_eq_true_eq] at hc
   exact lshift_int_small hc.1.2 (Int.le_trans hc.2 (by decide)) (p8 hc.1.1) hq
  ·exact aq hi
 ·split at hi
  ·rename_i hc; obtain rfl:=ad hi
   simp only [and_eq_true,decide_eq_true_eq] at hc
   exact rshift_int hc.1 hq
  ·exact aq hi
 ·obtain rfl:=ad hi; exact or_int hq
 ·obtain rfl:=ad hi; exact and_int hq
 ·split at hi
  ·rename_i hc; obtain rfl:=ad hi
   simp only [and_eq_true,bne_iff_ne,ne_eq] at hc
   exact floordiv_int hc.2 hq (.inl (RA (p8 hc.1)))
  ·exact aq hi
inductive AF (V:av) (g:Gh) (h:Heap) (ds:List D) (v:Value):Prop
 |mk (a:Addr) (vs:List Value) (n:Nat) (e:v=.ref a) (hl:IsL h a vs.toArray n) (hz:vs.length<=aH) (rs:aI V g ds vs):AF V g h ds v
set_option tactic.hygienic true in
theorem ai.list (I:ai V F m C g s) (r:af V g d v) (h:a9 C d=some ds) :
  AF V g s.heap ds v:=by
 unfold a9 at h
 split at h
 ·cases h
  cases r with
  |lst h1 h2 h3=>
   obtain ⟨hl,n,rfl⟩:=h2
   exact ⟨_,_,n,rfl,I.aB _ _ h1,hl,h3⟩
 ·split at h
  ·rename_i WX hC
   cases h
   cases r with
   |loc h1=>
    obtain ⟨b,o,e1,e2,vs,⟨hl,n,rfl⟩,e4⟩:=I.cell _ _ hC
    cases I.uniq _ _ _ h1 e1
    exact ⟨_,_,n,rfl,e2,hl,e4⟩
  ·cases h
 ·cases h
theorem aI.length (r:aI V g ds vs):ds.length=vs.length:=
 r.ind (P:=λds vs=>ds.length=vs.length) rfl λ_ _ ih=>congrArg (· + 1) ih
theorem aI.append {es:List D} {ws:List Value} (r:aI V g ds vs) (h:aI V g es ws):aI V g (ds++es) (vs++ws):=
 r.ind (P:=λds vs=>aI V g (ds++es) (vs++ws)) h λa _ ih=>.cons a ih
theorem dO (h:n<=aH):n<=sizeLine:=an h (by decide)
theorem ai.zi (I:ai V F m C g s) (o:Obj) (hf:o.isFreed=false) (t:Nat):ai V F m C (g.put s.heap.objs.size (some (.aB o))) {s with heap:=s.heap.push o,toks:=t}:=
 I.more (λu' u' h=>dL _ h) (f8 (le_refl _)) (lw _ hf) (.inl rfl)
theorem Gh.oF {a:Addr} {o:Obj} (h:g a=none):g.Step (g.put a (some (.aB o))):=
 ⟨Gh.gB _ h,λb o'=>⟨λe=>(by rw [Gh.bf]; exact e; intro q; subst q; rw [h] at e; exact aq e),λe=>(by
  rcases Gh.bG e with ⟨_,q⟩|⟨_,q⟩
  ·cases q
  ·exact q)⟩⟩
theorem ai.newList (I:ai V F m C g s) (r:aI V g ds vs) (hz:vs.length<=aH) {T:String} {t:Nat}
  (k : ∀ g',g.Step g'->ai V F m C g' {s with heap:=s.heap.push {cls:=.type T,data:=.seq vs.toArray n},toks:=t}->g' s.heap.objs.size=some (.aB {cls:=.type T,data:=.seq vs.toArray n})->
   lM T vs {cls:=.type T,data:=.seq vs.toArray n}->aI V g' ds vs->Q (.ref s.heap.objs.size) {s with heap:=s.heap.push {cls:=.type T,data:=.seq vs.toArray n},toks:=t}) :
  Q (.ref s.heap.objs.size) {s with heap:=s.heap.push {cls:=.type T,data:=.seq vs.toArray n},toks:=t}:=
 k _ (Gh.oF I.fI) (I.zi _ rfl t) (Gh.bz ..) ⟨hz,n,rfl⟩ (r.mono (Gh.gB _ I.fI))
theorem SY (I:ai V F m C g s) (hx:af V g x a) (hy:af V g y b) {xs ys:List D} (ex:a9 C x=some xs) (ey:a9 C y=some ys) (hz:xs.length+ys.length<=aH) :
  aJ V F A (af V) (binaryOp .Add a b) g s (.ok (.lst (xs++ys)) ⟨m,C⟩):=by
 obtain ⟨l,vs,n,rfl,hl,mn,r1⟩:=I.list hx ex
 obtain ⟨l',ws,n',rfl,dG,Pz,r2⟩:=I.list hy ey
 intro Q E k
 have e1:=r1.length
 have e2:=r2.length
 refine P.add_list hl dG ?_ (dO (by simpa [<-e1,<-e2] using hz))
 rw [show vs.toArray++ws.toArray=(vs++ws).toArray from by simp]
 exact I.newList (T:="list") (n:=0) (t:=s.toks) (r1.append r2) (by simpa [<-e1,<-e2] using hz) λg' st I' h1 h2 h3=>k g' _ _ st I' (.lst h1 h2 h3)
variable {h:Heap} {i:Nat} {r:Bool} {xs:List Int} {es:List (Int × D)}
theorem VP {x y:Str} (h:(x.length==0)=true):x++y=y:=by
 have:x.cps = #[]:=by
  have:=im h
  exact Array.eq_empty_of_size_eq_zero this
 have e:x=Str.empty:=by induction x using Str.casesOn; simp only at this; subst this; rfl
 rw [e]; exact Str.empty_append y
theorem VO {x y:Str} (h:(y.length==0)=true):x++y=x:=by
 have:y.cps = #[]:=Array.eq_empty_of_size_eq_zero (im h)
 have e:y=Str.empty:=by induction y using Str.casesOn; simp only at this; subst this; rfl
 rw [e]; exact Str.append_empty x
theorem rJ {i:Int} (h:x.isInt=some i):x=.int i:=by induction x using D.casesOn<;>first|exact aq h|exact congrArg D.int (ad h)
theorem uF {i:Str} (h:n4 x=some i):x=.str i:=by induction x using D.casesOn<;>first|exact aq h|exact congrArg D.str (ad h)
theorem Fb {i:Bool} (h:uG x=some i):x=.bool i:=by induction x using D.casesOn<;>first|exact aq h|exact congrArg D.bool (ad h)
theorem af.fR {i:Int} (hx:af V g x v) (h:x.isInt=some i) : ∃ t,v=.int i t:=by
 obtain rfl:=rJ h; exact hx.jx
theorem FY (ho:jB op=some .add):op=.Add:=by
 induction op using Operator.casesOn<;>first|rfl|exact aq ho|exact nomatch ho
theorem aJ.opt {t:Sem Value} {o:Option D} (h : ∀ d,o=some d->aJ V F A (af V) t g s (.ok d ⟨m,C⟩)):aJ V F A (af V) t g s (dp o ⟨m,C⟩):=by
 induction o with
 |none=>trivial
 |some d=>exact h d rfl
theorem S4 (I:ai V F m C g s) {x y:Str} {u:Tok} (hd:ql x y=some d):aJ V F A (af V) (binaryOp .Add (.str x t) (.str y u)) g s (.ok d ⟨m,C⟩):=by
 unfold ql at hd
 by_cases hz:x.length+y.length<=aH
 ·rw [if_pos hz] at hd
  obtain rfl:=ad hd
  intro Q E k
  refine P.add_str ?_
  split
  ·rename_i q
   exact k g _ _ (.refl g) I (by rw [VP q]; exact .str _ _)
  ·split
   ·rename_i q
    exact k g _ _ (.refl g) I (by rw [VO q]; exact .str _ _)
   ·refine ⟨?_,k g _ _ (.refl g) (I.tok _) (.str _ _)⟩
    rw [Str.length_append]
    exact dO hz
 ·rw [if_neg hz] at hd; exact aq hd
theorem SX (I:ai V F m C g s) (hx:af V g x a) (hy:af V g y b) (hd:tc C x y=some d):aJ V F A (af V) (binaryOp .Add a b) g s (.ok d ⟨m,C⟩):=by
 obtain ⟨xs,ex,hd⟩:=aS hd
 obtain ⟨ys,ey,hd⟩:=aS hd
 by_cases hz:xs.length+ys.length<=aH
 ·rw [if_pos hz] at hd
  obtain rfl:=ad hd
  exact SY I hx hy ex ey hz
 ·rw [if_neg hz] at hd; exact aq hd
theorem IM (h:we C x y=some d):(∃ i j,x=.str i/\y=.str j/\ql i j=some d)\/tc C x y=some d:=by
 unfold we at h
 induction e:n4 x with
 |none=>rw [e] at h; exact .inr h
 |some i=>
  rw [e] at h
  obtain ⟨j,e2,h⟩:=aS h
  exact .inl ⟨i,j,uF e,uF e2,h⟩
theorem Bd (h:eH C o x y=some d):(∃ i j,x=.int i/\y=.int j/\(hW o i j).map D.int=some d)\/o=.add/\((∃ i j,x=.str i/\y=.str j/\ql i j=some d)\/tc C x y=some d):=by
 unfold eH at h
 induction e:x.isInt with
 |none=>
  rw [e] at h
  induction o using Op.casesOn<;>first|exact aq h|exact .inr ⟨rfl,IM h⟩
 |some i=>
  rw [e] at h
  obtain ⟨j,e2,h⟩:=aS h
  exact .inl ⟨i,j,rJ e,rJ e2,h⟩
theorem S6 (ho:jB op=some o) (I:ai V F m C g s) (hx:af V g x a) (hy:af V g y b) :
  aJ V F A (af V) (binaryOp op a b) g s (dp (eH C o x y) ⟨m,C⟩):=aJ.opt λd h=>by
 rcases Bd h with ⟨i,j,rfl,rfl,h2⟩|⟨e,h2⟩
 ·obtain ⟨t,rfl⟩:=hx.jx
  obtain ⟨u,rfl⟩:=hy.jx
  have:=Tv (A:=A) (t:=t) (u:=u) (a:=i) (b:=j) ho I
  rw [h2] at this; exact this
 ·obtain rfl:=FY (ho.trans (congrArg some e))
  rcases h2 with ⟨i,j,rfl,rfl,h3⟩|h3
  ·obtain ⟨_,rfl⟩:=hx.ux
   obtain ⟨_,rfl⟩:=hy.ux
   exact S4 I h3
  ·exact SX I hx hy h3
noncomputable def AK (h:Heap) (n:Nat) (v:Value) (x:PyData):Prop := ∃ as,Reads h v x as/\x.canLay0=true/\x.depth<=n
theorem toPys_of {h:Heap} {n:Nat} (ih : ∀ {d:D} {x:PyData} {v:Value},toPy n d=some x->af V g d v->AK h n v x) : ∀ {ds:List D} {xs:List PyData} {vs:List Value},toPys n ds=some xs->aI V g ds vs->
  ∃ as,ReadsAll h vs xs as/\PyData.canLayAll0 xs=true/\PyData.depthAll xs<=n
 |[],xs,vs,e,r=>by
  obtain rfl:=r.jy
  obtain rfl:=ad (show some []=some xs from e)
  exact ⟨_,.nil,rfl,zero_le _⟩
 |d::ds,xs,vs,e,r=>by
  obtain ⟨v,ws,r1,r2,rfl⟩:=r.kZ
  obtain ⟨x,e1,e⟩:=aS (show ((toPy n d).bind λx=>(toPys n ds).map λxs=>x::xs)=some xs from e)
  obtain ⟨ys,e2,rfl⟩:=cq e
  obtain ⟨as,r1,c1,d1⟩:=ih e1 r1
  obtain ⟨bs,r2,c2,d2⟩:=toPys_of ih e2 r2
  refine ⟨_,.cons r1 r2,?_,?_⟩
  ·unfold PyData.canLayAll0; rw [c1,c2]; rfl
  ·unfold PyData.depthAll; exact Nat.max_le.mpr ⟨d1,d2⟩
theorem toPy_reads (fz : ∀ a o,g a=some (.aB o)->h.get? a=some o) : ∀ {n:Nat} {d:D} {x:PyData} {v:Value},toPy n d=some x->af V g d v->AK h n v x:=by
 intro n
 induction n with
 |zero=>
  intro d x v e r
  induction d using D.casesOn<;>first|exact aq e|skip
  obtain ⟨t,rfl⟩:=r.jx
  obtain rfl:=ad e
  exact ⟨_,.int _ t,rfl,zero_le _⟩
 |succ n ih=>
  intro d x v e r
  induction d using D.casesOn<;>first|exact aq e|skip
  ·obtain ⟨t,rfl⟩:=r.jx
   obtain rfl:=ad e
   exact ⟨_,.int _ t,rfl,zero_le _⟩
  ·obtain ⟨a,o,vs,h1,⟨hz,k,rfl⟩,h3,rfl⟩:=r.PF
   obtain ⟨xs,nU,rfl⟩:=cq (show (toPys n _).map PyData.tuple=some x from e)
   obtain ⟨as,r,c,d⟩:=toPys_of ih nU h3
   exact ⟨_,.tuple (fz _ _ h1) rfl rfl r,c,succ_le_succ d⟩
  ·obtain ⟨a,o,vs,h1,⟨hz,k,rfl⟩,h3,rfl⟩:=r.PD
   obtain ⟨xs,nU,rfl⟩:=cq (show (toPys n _).map PyData.list=some x from e)
   obtain ⟨as,r,c,d⟩:=toPys_of ih nU h3
   exact ⟨_,.list (fz _ _ h1) rfl rfl r,c,succ_le_succ d⟩
theorem toPys_reads (fz : ∀ a o,g a=some (.aB o)->h.get? a=some o) {xs:List PyData} (e:toPys n ds=some xs) (r:aI V g ds vs) :
  ∃ as,ReadsAll h vs xs as/\PyData.canLayAll0 xs=true/\PyData.depthAll xs<=n:=toPys_of (λe r=>toPy_reads fz e r) e r
noncomputable def M1 (i:Nat):Option Ch->D
 |some (.list ds)=>.lst ds
 |_=>.loc i
theorem DO:gS C (.loc i)=M1 i C[i]?:=by
 unfold gS; dsimp only
 induction C[i]? with
 |none=>rfl
 |some c=>induction c using Ch.casesOn<;>rfl
set_option tactic.hygienic true in
theorem ai.reads (I:ai V F m C g s) (r:af V g d v) {x:PyData} (h:toPy 8 (gS C d)=some x) : ∃ as,Reads s.heap v x as/\SeqAt.shaped x=true:=by
 have fin : ∀ {as},Reads s.heap v x as->x.canLay0=true->x.depth<=8->∃ as,Reads s.heap v x as/\SeqAt.shaped x=true:=λ{as} a b c=>⟨as,a,by
  unfold SeqAt.shaped
  rw [b,decide_eq_true (le_trans c (by decide))]; rfl⟩
 have gen:gS C d=d->∃ as,Reads s.heap v x as/\SeqAt.shaped x=true:=λe=>by
  rw [e] at h
  obtain ⟨as,a,b,c⟩:=toPy_reads I.aB h r
  exact fin a b c
 induction d using D.casesOn<;>first|exact gen rfl|skip
 rename_i i
 have e0:=DO (C:=C) (i:=i)
 induction hC:C[i]? with
 |none=>exact gen (by rw [e0,hC]; rfl)
 |some ch=>
  induction ch using Ch.casesOn<;>first|exact gen (by rw [e0,hC]; rfl)|skip
  rename_i ds
  rw [e0,hC] at h
  cases r with
  |loc h1=>
   obtain ⟨b,o,e1,e2,vs,⟨hl,n,rfl⟩,e4⟩:=I.cell _ _ hC
   cases I.uniq _ _ _ h1 e1
   obtain ⟨xs,nU,rfl⟩:=cq (show (toPys 7 ds).map PyData.list=some x from h)
   obtain ⟨as,r,c,d⟩:=toPys_reads I.aB nU e4
   exact fin (.list e2 rfl rfl r) c (succ_le_succ d)
theorem He (x y:Str):(x.cps.toList==y.cps.toList)=decide (x=y):=by
 by_cases h:x=y
 ·subst h; simp
 ·rw [decide_eq_false h]
  induction q:x.cps.toList==y.cps.toList with
  |false=>rfl
  |true=>
   have:=im q
   exact absurd (by induction x using Str.casesOn; induction y using Str.casesOn; congr; exact Array.ext' this) h
theorem M4:gS C d=d\/∃ ds,gS C d=.lst ds:=by
 induction d using D.casesOn<;>first|exact .inl rfl|skip
 rw [DO]
 induction C[i]? with
 |none=>exact .inl rfl
 |some ch=>induction ch using Ch.casesOn<;>first|exact .inr ⟨_,rfl⟩|exact .inl rfl
theorem qc (h:gS C x=y) (hn : ∀ ds,y≠.lst ds):x=y:=by
 rcases M4 (C:=C) (d:=x) with e|⟨ds,e⟩
 ·exact e.symm.trans h
 ·exact absurd (h.symm.trans e) (hn ds)
theorem L8 (h:o7 x y=some r):(∃ i j,x=.int i/\y=.int j/\(i==j)=r)\/(∃ i j,x=.bool i/\y=.bool j/\(i==j)=r)\/(∃ i j,x=.str i/\y=.str j/\decide (i=j)=r) ∨
  ∃ p q,toPy 8 x=some p/\toPy 8 y=some q/\PyData.eqv p q=r:=by
 have py : ∀ {x},qB x y=some r->∃ p q,toPy 8 x=some p/\toPy 8 y=some q/\PyData.eqv p q=r:=λh=>by
  obtain ⟨p,e1,h⟩:=aS h
  obtain ⟨q,e2,h⟩:=cq h
  exact ⟨p,q,e1,e2,h⟩
 induction x using D.casesOn with
 |int i=>
  induction e:y.isInt with
  |none=>exact .inr (.inr (.inr (py (by rw [<-h]; show _=(match y.isInt with|some y=>some (i==y)|none=>qB (.int i) y); rw [e]))))
  |some j=>
   refine .inl ⟨i,j,rfl,rJ e,?_⟩
   have h:(match y.isInt with|some y=>some (i==y)|none=>qB (.int i) y)=some r:=h
   rw [e] at h; exact ad h
 |bool i=>
  obtain ⟨j,e,h⟩:=cq (show (uG y).map (λy=>i==y)=some r from h)
  exact .inr (.inl ⟨i,j,rfl,Fb e,h⟩)
 |str i=>
  obtain ⟨j,e,h⟩:=cq (show (n4 y).map (λy=>decide (i=y))=some r from h)
  exact .inr (.inr (.inl ⟨i,j,rfl,uF e,h⟩))
 |_=>exact .inr (.inr (.inr (py h)))
theorem GA (hu:A.units+64<cLine) (I:ai V F m C g s) (hx:af V g x a) (hy:af V g y b) (he:o7 (gS C x) (gS C y)=some r) :
  aJ V F A (af V) (compareOp .Eq a b) g s (.ok (.bool r) ⟨m,C⟩)/\aJ V F A (af V) (compareOp .NotEq a b) g s (.ok (.bool (!r)) ⟨m,C⟩):=by
 rcases L8 he with ⟨p,q,e1,e2,rfl⟩|⟨p,q,e1,e2,rfl⟩|⟨p,q,e1,e2,rfl⟩|⟨p,q,e1,e2,rfl⟩
 ·obtain rfl:=qc e1 nofun
  obtain rfl:=qc e2 nofun
  obtain ⟨_,rfl⟩:=hx.jx
  obtain ⟨_,rfl⟩:=hy.jx
  exact ⟨λQ E k=>P.eq_int (k g _ _ (.refl g) I (.bool _)),λQ E k=>P.ne_int (k g _ _ (.refl g) I (.bool _))⟩
 ·obtain rfl:=qc e1 nofun
  obtain rfl:=qc e2 nofun
  obtain rfl:=hx.pE
  obtain rfl:=hy.pE
  exact ⟨λQ E k=>eq_bool (k g _ _ (.refl g) I (.bool _)),λQ E k=>ne_bool (k g _ _ (.refl g) I (.bool _))⟩
 ·obtain rfl:=qc e1 nofun
  obtain rfl:=qc e2 nofun
  obtain ⟨_,rfl⟩:=hx.ux
  obtain ⟨_,rfl⟩:=hy.ux
  refine ⟨λQ E k=>P.eq_str (k g _ _ (.refl g) I ?_),λQ E k=>P.ne_str (k g _ _ (.refl g) I ?_)⟩
  ·rw [He]; exact .bool _
  ·show af V g _ (.bool (!(p.cps.toList==q.cps.toList)))
   rw [He]; exact .bool _
 ·obtain ⟨as,r1,s1⟩:=I.reads hx e1
  obtain ⟨bs,r2,s2⟩:=I.reads hy e2
  exact ⟨λQ E k=>eq_dataH r1 r2 s1 s2 hu (k g _ _ (.refl g) I (.bool _)),λQ E k=>ne_dataH r1 r2 s1 s2 hu (k g _ _ (.refl g) I (.bool _))⟩
theorem uE : ∀ {ds:List D} {xs:List Int} {vs:List Value},eA ds=some xs->aI V g ds vs->PyProof.Rows.IntsAre vs xs:=λ{ds}=>by
 induction ds with
 |nil=>
  intro xs vs e h
  obtain rfl:=ad e
  obtain rfl:=h.jy
  exact .nil
 |cons d r ih=>
  intro xs vs e h
  obtain ⟨v,ws,h1,h2,rfl⟩:=h.kZ
  induction d using D.casesOn<;>first|exact aq e|skip
  obtain ⟨t,rfl⟩:=h1.jx
  obtain ⟨ys,hy,rfl⟩:=cq (show (eA r).map _=some xs from e)
  exact .cons _ _ (ih hy h2)
noncomputable def uI (k:Int):Value->Bool
 |.int i _=>i==k
 |_=>false
theorem Ia (h:PyProof.Rows.IntsAre vs xs) (k:Int):vs.toArray.any (uI k)=xs.contains k:=by
 rw [List.any_toArray]
 induction h with
 |nil=>rfl
 |cons n t _ ih=>
  rw [any_cons,ih,List.contains_cons]
  congr 1
  exact Bool.eq_iff_iff.mpr ⟨λe=>by rw [eq_of_beq (show (n==k)=true from e)]; exact beq_self_eq_true _,λe=>by rw [eq_of_beq e]; exact beq_self_eq_true _⟩
theorem L9 (h:PyProof.Rows.IntsAre vs xs) (k:Int) (t:Tok) : ∀ y,y∈vs.toArray->MeetsSeq.EqGives y (.int k t) (uI k y):=by
 induction h with
 |nil=>intro y hy; simp at hy
 |cons n u _ ih=>
  intro y hy
  simp only [List.mem_toArray,mem_cons] at hy ih
  rcases hy with rfl|hy
  ·exact MeetsSeq.EqGives.int n k u t
  ·exact ih y hy
inductive Av (V:av) (g:Gh) (h:Heap) (a:Addr) (fl:Bool) (es:List (Int × D)):Prop
 |mk (hz:es.length<=64) (ay:List (Int × Value)) (ep:Nat) (hd:h.DictAt (intKind V.prog V.w) a ay ep) (hr:aY (fN V g) es ay) (he:fl=true->ep=es.length):Av V g h a fl es
theorem ai.dictAt (I:ai V F m C g s) {a:Addr} (hg:g a=some (.cell i)) {fl:Bool} (hC:C[i]?=some (.dict fl es)) :
  Av V g s.heap a fl es:=by
 obtain ⟨b,o,e1,e2,hz,ents,ep,ay,x1,x2,x3,x4,x5,x6,x7⟩:=I.cell _ _ hC
 cases I.uniq _ _ _ hg e1
 exact ⟨hz,ay,ep,⟨o,ents,e2,x1,x2,x3,x4,x5⟩,x6,x7⟩
theorem ai.setOf (I:ai V F m C g s) {a:Addr} (hg:g a=some (.cell i)) {es:List Int} (hC:C[i]?=some (.set es)) :
  es.length<=64/\s.heap.SetOf (intKind V.prog V.w) a (λk=>es.contains k) es.length:=by
 obtain ⟨b,o,e1,e2,hz,ents,ep,t,x1,x2,x3,x4,x5,x6,x7⟩:=I.cell _ _ hC
 cases I.uniq _ _ _ hg e1
 exact ⟨hz,o,ents,ep,t,e2,x1,x2,x3,x4,x5,x6,x7⟩
theorem aY.lookupI (k:Int) {ay:List (Int × Value)} (h:aY (fN V g) es ay):i0 V g (es.lookup k) (valueAt ay k):=
 h.ind (P:=λes ay=>i0 V g (es.lookup k) (valueAt ay k)) trivial λe kv es ay r _ ih=>by
  obtain ⟨h1,h2⟩:=r
  unfold valueAt at ih ⊢
  rw [lookup_cons,List.find?_cons,<-h1]
  by_cases q:k=e.1
  ·rw [q,beq_self_eq_true,decide_eq_true rfl]; exact h2
  ·rw [beq_eq_false_iff_ne.mpr q,decide_eq_false (Ne.symm q)]
   exact ih
theorem rY {o:Option Value} (h:i0 V g (some d) o) : ∃ v,o=some v/\af V g d v:=by
 induction o with
 |none=>exact h.elim
 |some v=>exact ⟨v,rfl,h⟩
theorem u5 {o:Option Value} (h:i0 V g none o):o=none:=by
 induction o with
 |none=>rfl
 |some v=>exact h.elim
theorem QB (es:List (Int × D)) (k:Int):(es.lookup k).isSome=es.any (·.1==k):=by
 induction es with
 |nil=>rfl
 |cons e r ih=>
  rw [lookup_cons,any_cons]
  by_cases q:k=e.1
  ·subst q; simp
  ·rw [show (k==e.1)=false from beq_eq_false_iff_ne.mpr q,show (e.1==k)=false from beq_eq_false_iff_ne.mpr (Ne.symm q)]
   simpa using ih
theorem sH (I:ai V F m C g s) {a:Addr} {x:GO} (h:g a=some x) (hs : ∃ o,V.h₀.get? sysModules=some o):(a==sysModules)=false:=by
 induction q:a==sysModules with
 |false=>rfl
 |true=>
  rw [eq_of_beq q] at h
  obtain ⟨o,ho⟩:=hs
  rw [I.new _ _ h] at ho; exact aq ho
variable {k:Int} {bb:Bool}
structure av.Base (V:av):Prop where
 mods : ∃ o,V.h₀.get? sysModules=some o
 cY:V.K.In V.h₀
inductive AO (V:av) (g:Gh) (h:Heap) (ds:List D) (v:Value):Prop
 |mk (a:Addr) (vs:List Value) (n:Nat) (e:v=.ref a) (hl:h.get? a=some {cls:=.type "tuple",dict:=none,data:=.seq vs.toArray n,slots := #[]}) (hz:vs.length<=aH) (rs:aI V g ds vs):AO V g h ds v
theorem ai.tup (I:ai V F m C g s) (r:af V g (.tup ds) v) :
  AO V g s.heap ds v:=by
 cases r with
 |tup h1 h2 h3=>
  obtain ⟨hl,n,rfl⟩:=h2
  exact ⟨_,_,n,rfl,I.aB _ _ h1,hl,h3⟩
noncomputable def vt:List Bn:=[.list,.range,.tuple,.bool,.bytes,.str,.type,.set,.int,.float,.complex,.bytearray,.dict,.frozenset]
theorem Ad {b:Bn} (h:b.k8=true):b∈vt:=by induction b using Bn.casesOn<;>first|exact bA h|decide
theorem Wd:(vt.all λa=>vt.all λb=>plainIs a.val b.val&&((a.val==b.val)==(a==b)))=true:=by kernel_rfl
theorem We (c:Addr):(vt.all λb=>plainIs (.ref c) b.val&&!(Value.ref c==b.val))=true:=by kernel_rfl
theorem PZ (hx:af V g x a) (he:Fe x=some r):plainIs a .none=true/\(a==Value.none)=r:=by
 induction hx using af.casesOn<;>first|exact aq he|(obtain rfl:=ad he; exact ⟨rfl,rfl⟩)
theorem Hp {b:Bn} (h:b.k8=true) (c:Addr):plainIs (.ref c) b.val=true/\(Value.ref c==b.val)=false:=by
 have:=all_eq_true.mp (We c) b (Ad h)
 rw [and_eq_true,not_eq_true'] at this; exact this
theorem P5 {b:Bn} (hx:af V g x a) (hb:b.k8=true) (he:yU x b=some r):plainIs a b.val=true/\(a==b.val)=r:=by
 induction hx using af.casesOn with
 |bn c=>
  have he:(if c.k8=true then some (c==b) else none)=some r:=he
  induction hc:c.k8 with
  |false=>rw [hc] at he; exact aq he
  |true=>
   have h:=all_eq_true.mp (all_eq_true.mp Wd c (Ad hc)) b (Ad hb)
   rw [and_eq_true,beq_iff_eq] at h
   rw [hc,if_pos rfl] at he
   exact ⟨h.1,h.2.trans (ad he)⟩
 |oV=>obtain rfl:=ad he; exact Hp hb _
 |oW=>obtain rfl:=ad he; exact Hp hb _
 |_=>exact aq he
theorem PX (hx:af V g x a) (hy:af V g y b) (he:uH x y=some r):plainIs a b=true/\(a==b)=r:=by
 induction hy using af.casesOn with
 |none=>exact PZ hx he
 |bn b=>
  have he:(if b.k8=true then yU x b else none)=some r:=he
  induction hb:b.k8 with
  |true=>rw [hb,if_pos rfl] at he; exact P5 hx hb he
  |false=>rw [hb] at he; exact aq he
 |_=>exact aq he
theorem GF (I:ai V F m C g s) (hx:af V g x a) (hy:af V g y b) (he:uH x y=some r) :
  aJ V F A (af V) (compareOp .Is a b) g s (.ok (.bool r) ⟨m,C⟩)/\aJ V F A (af V) (compareOp .IsNot a b) g s (.ok (.bool (!r)) ⟨m,C⟩):=by
 obtain ⟨p,q⟩:=PX hx hy he
 exact ⟨λQ E k=>wpAny_is_plain p (by rw [q]; exact k g _ _ (.refl g) I (.bool _)),λQ E k=>wpAny_isNot_plain p (by rw [q]; exact k g _ _ (.refl g) I (.bool _))⟩
theorem yQ (hx:af V g x a) (rs:aI V g ds vs) (e:iR x ds=some r) :
  ∃ i t,a=.int i t/\(∀ y,y∈vs.toArray->MeetsSeq.EqGives y a (uI i y))/\vs.toArray.any (uI i)=r:=by
 obtain ⟨i,e1,e⟩:=aS e
 obtain ⟨xs,e2,rfl⟩:=cq e
 obtain ⟨t,rfl⟩:=hx.fR e1
 have h:=uE e2 rs
 exact ⟨_,_,rfl,L9 h _ _,Ia h _⟩
noncomputable def sT (V:av) (F:aD) (A:Around) (m:List (Option D)) (C:ah) (g:Gh) (s:Shared) (a b:Value) (r:Bool):Prop:=
 aJ V F A (af V) (compareOp .In a b) g s (.ok (.bool r) ⟨m,C⟩)/\aJ V F A (af V) (compareOp .NotIn a b) g s (.ok (.bool (!r)) ⟨m,C⟩)
theorem in_list (I:ai V F m C g s) {c:D} (hx:af V g x a) (hc:af V g c b) (hl:a9 C c=some ds) (he:iR x ds=some r):sT V F A m C g s a b r:=by
 obtain ⟨l,vs,n,rfl,hl,hz,rs⟩:=I.list hc hl
 obtain ⟨k,t,rfl,h1,h2⟩:=yQ hx rs he
 exact ⟨λQ E q=>SeqRoads2.in_list _ h1 hl (by rw [h2]; exact q g _ _ (.refl g) I (.bool _)),λQ E q=>SeqRoads2.notIn_list _ h1 hl (by rw [h2]; exact q g _ _ (.refl g) I (.bool _))⟩
theorem PT (I:ai V F m C g s) {es:List Int} (hc:af V g (.loc i) b) (hC:C[i]?=some (.set es)):sT V F A m C g s (.int k t) b (es.contains k):=by
 obtain ⟨_,hg,rfl⟩:=hc.gA
 obtain ⟨hz,hS⟩:=I.setOf hg hC
 exact ⟨λQ E q=>wpAny_inSet_of (knd:=intKind V.prog V.w) (beq_self_eq_true _) rfl hS (q g _ _ (.refl g) (I.tok _) (.bool _)),λQ E q=>wpAny_notInSet_of (knd:=intKind V.prog V.w) (beq_self_eq_true _) rfl hS (q g _ _ (.refl g) (I.tok _) (.bool _))⟩
theorem PS (B:V.Base) (I:ai V F m C g s) (hc:af V g (.loc i) b) (hC:C[i]?=some (.dict bb es)) :
  sT V F A m C g s (.int k t) b (es.any λe=>e.1==k):=by
 obtain ⟨_,hg,rfl⟩:=hc.gA
 obtain ⟨hz,ay,ep,hd,hr,_⟩:=I.dictAt hg hC
 have e:(valueAt ay k).isSome=es.any (·.1==k):=by
  rw [<-QB]
  have:=hr.lookupI k
  induction h1:es.lookup k with
  |none=>rw [h1] at this; rw [u5 this]; rfl
  |some d=>rw [h1] at this; obtain ⟨v,hv,_⟩:=rY this; rw [hv]; rfl
 exact ⟨λQ E q=>wpAny_in_of (knd:=intKind V.prog V.w) (k:=k) (beq_self_eq_true _) (sH I hg B.mods) hd.dictOf.mapOf (by rw [e]; exact q g _ _ (.refl g) (I.tok _) (.bool _)),
  λQ E q=>wpAny_notIn_of (knd:=intKind V.prog V.w) (k:=k) (beq_self_eq_true _) (sH I hg B.mods) hd.dictOf.mapOf (by rw [e]; exact q g _ _ (.refl g) (I.tok _) (.bool _))⟩
theorem GD (B:V.Base) (I:ai V F m C g s) {c:D} (hx:af V g x a) (hc:af V g c b) (he:yP C x c=some r):sT V F A m C g s a b r:=by
 induction c using D.casesOn<;>first|exact aq he|skip
 ·obtain ⟨l,vs,n,rfl,hl,hz,rs⟩:=I.tup hc
  obtain ⟨k,t,rfl,h1,h2⟩:=yQ hx rs he
  exact ⟨λQ E q=>SeqRoads2.in_tuple _ h1 hl (by rw [h2]; exact q g _ _ (.refl g) I (.bool _)),λQ E q=>SeqRoads2.notIn_tuple _ h1 hl (by rw [h2]; exact q g _ _ (.refl g) I (.bool _))⟩
 ·exact in_list I hx hc rfl he
 ·obtain ⟨ch,hC,he⟩:=aS he
  induction ch using Ch.casesOn<;>first|exact aq he|skip
  ·exact in_list I hx hc (mX hC) he
  ·obtain ⟨k,e1,rfl⟩:=cq he
   obtain ⟨t,rfl⟩:=hx.fR e1
   exact PS B I hc hC
  ·obtain ⟨k,e1,rfl⟩:=cq he
   obtain ⟨t,rfl⟩:=hx.fR e1
   exact PT I hc hC
variable {α β:Type} {value:Expr} {prog:Program} {w:World}
theorem u6 {f:Int->Int->Bool} (hx:af V g x a) (hy:af V g y b) (h:rZ f x y=some r) : ∃ i j t u,a=.int i t/\b=.int j u/\f i j=r:=by
 obtain ⟨i,e1,h⟩:=aS h
 obtain ⟨j,e2,h⟩:=cq h
 obtain ⟨t,rfl⟩:=hx.fR e1
 obtain ⟨u,rfl⟩:=hy.fR e2
 exact ⟨i,j,t,u,rfl,rfl,h⟩
theorem Gz (B:V.Base) (hu:A.units+64<cLine) (I:ai V F m C g s) {op:CmpOp} (hx:af V g x a) (hy:af V g y b) :
  aJ V F A (af V) (compareOp op a b) g s (dp ((jN C (tv op) x y).map .bool) ⟨m,C⟩):=aJ.opt λd hd=>by
 obtain ⟨r,hr,rfl⟩:=cq hd
 induction op using CmpOp.casesOn with
 |Eq=>exact (GA hu I hx hy hr).1
 |NotEq=>
  obtain ⟨b,hb,rfl⟩:=cq hr
  exact (GA hu I hx hy hb).2
 |Lt=>obtain ⟨i,j,t,u,rfl,rfl,rfl⟩:=u6 hx hy hr; exact λQ E k=>P.lt_int (k g _ _ (.refl g) I (.bool _))
 |LtE=>obtain ⟨i,j,t,u,rfl,rfl,rfl⟩:=u6 hx hy hr; exact λQ E k=>P.le_int (k g _ _ (.refl g) I (.bool _))
 |Gt=>obtain ⟨i,j,t,u,rfl,rfl,rfl⟩:=u6 hx hy hr; exact λQ E k=>P.gt_int (k g _ _ (.refl g) I (.bool _))
 |GtE=>obtain ⟨i,j,t,u,rfl,rfl,rfl⟩:=u6 hx hy hr; exact λQ E k=>P.ge_int (k g _ _ (.refl g) I (.bool _))
 |Is=>exact (GF I hx hy hr).1
 |IsNot=>
  obtain ⟨b,hb,rfl⟩:=cq hr
  exact (GF I hx hy hb).2
 |In=>exact (GD B I hx hy hr).1
 |NotIn=>
  obtain ⟨b,hb,rfl⟩:=cq hr
  exact (GD B I hx hy hb).2
noncomputable def jK (o:Option Bool) (st:St):ak Bool:=match o with
 |some b=>.ok b st
 |none=>.fail
noncomputable def ko (_:Gh) (b b':Bool):Prop:=b=b'
theorem aI.isEmpty (r:aI V g ds vs):vs.toArray.isEmpty=ds.isEmpty:=by
 induction r using aI.casesOn<;>simp
theorem rM (h:n<=aH):(n:Int)<2 ^ 63:=by
 exact Int.lt_of_lt_of_le (ofNat_lt.mpr (al h (by decide:aH<2 ^ 63))) (by decide)
theorem le64_63 (h:n<=64):(n:Int)<2 ^ 63:=rM (an h (by decide))
theorem pN {vs:List α} (h:vs.length<=aH):(vs.toArray.size:Int)<2 ^ 63:=by simpa using rM h
theorem T6 (h0:0<=k) (h:k.toNat<n):seqIndex? k n=some k.toNat:=by
 show (if (decide (0<=(if k<0 then k+(n:Int) else k))&&decide ((if k<0 then k+(n:Int) else k)<n))=true then some (Int.toNat (if k<0 then k+n else k)) else none)=_
 rw [if_neg (Int.not_lt.mpr h0),decide_eq_true h0,decide_eq_true ((Int.toNat_lt h0).mp h)]; rfl
theorem Rl (h0:k<0):k+n<n:=by have:=Int.add_lt_add_right h0 (n:Int); rw [Int.zero_add] at this; exact this
theorem T5 (h0:k<0) (h1:0<=k+n):seqIndex? k n=some (k+n).toNat:=by
 show (if (decide (0<=(if k<0 then k+(n:Int) else k))&&decide ((if k<0 then k+(n:Int) else k)<n))=true then some (Int.toNat (if k<0 then k+n else k)) else none)=_
 rw [if_pos h0,decide_eq_true h1,decide_eq_true (Rl h0)]; rfl
theorem DC (h1:k<2 ^ 62):k<2 ^ 63:=Int.lt_trans h1 (by decide)
theorem MQ (h0:0<=k) : -(2 ^ 63)<=k:=Int.le_trans (by decide) h0
theorem FH (h1:0<=k+n) : -(n:Int)<=k:=Int.le_of_sub_nonneg (by rw [Int.sub_neg]; exact h1)
theorem DD (h1:0<=k+n) (hb:(n:Int)<2 ^ 63) : -(2 ^ 63)<=k:=Int.le_trans (Int.neg_le_neg (Int.le_of_lt hb)) (FH h1)
theorem CG (xs:List α) (l k:Nat):((xs.drop l).take k).length<=xs.length:=by rw [length_take,length_drop]; exact an (min_le_right _ _) (sub_le _ _)
theorem IsTup.mk' {a:Addr} {xs:Array Value} (e:h.get? a=some {cls:=.type "tuple",dict:=none,data:=.seq xs n,slots := #[]}):IsTup h a xs:=⟨_,e,rfl,n,rfl⟩
theorem sm (I:ai V F m C g s) (hx:af V g x a):aJ V F A ko (truthy a) g s (jK (bH C x) ⟨m,C⟩):=by
 have list : ∀ {ds:List D},a9 C x=some ds->aJ V F A ko (truthy a) g s (.ok (!ds.isEmpty) ⟨m,C⟩):=λ{ds} h Q E k=>by
  obtain ⟨l,vs,n,rfl,hl,hz,r⟩:=I.list hx h
  exact wpAny_truthy_list hl.isList (by simpa using rM hz) (by rw [r.isEmpty]; exact k g _ _ (.refl g) (I.tok _) rfl)
 induction x using D.casesOn with
 |none=>obtain rfl:=hx.yH; exact λQ E k=>truthy_none (k g _ _ (.refl g) I rfl)
 |bool b=>obtain rfl:=hx.pE; exact λQ E k=>wpAny_truthy_bool (k g _ _ (.refl g) I rfl)
 |int b=>obtain ⟨_,rfl⟩:=hx.jx; exact λQ E k=>P.truthy_int (k g _ _ (.refl g) I rfl)
 |lst ds=>exact list rfl
 |tup ds=>
  obtain ⟨l,vs,n,rfl,hl,hz,r⟩:=I.tup hx
  exact λQ E k=>truthy_tuple (IsTup.mk' hl) (pN hz) (by rw [r.isEmpty]; exact k g _ _ (.refl g) (I.tok _) rfl)
 |loc i=>
  show aJ _ _ _ _ _ _ _ (jK (C[i]?.bind vr) _)
  induction hC:C[i]? with
  |none=>trivial
  |some ch=>
   induction ch using Ch.casesOn<;>first|trivial|exact list (mX hC)
 |_=>trivial
theorem VU (slice:Expr) (o i:Value) : ∃ l,subscripted slice false o i=operate l (getItem o i):=by
 induction slice using Expr.casesOn with
 |Slice a b c d=>induction c<;>exact ⟨_,rfl⟩
 |_=>exact ⟨_,rfl⟩
theorem oH {slice:Expr} {o i:Value} {T id:String} {E:Value->Shared->Prop} (hT:s.TypeIs o T)
  (hl:typeLookup (.type T) "__getitem__"=pure (some (.builtin id))) (h:wpAny (model prog w) A (getItem o i) Q E s) :
  wpAny (model prog w) A (subscriptTail value slice o i) Q E s:=by
 unfold subscriptTail
 refine ce ?_
 rw [getitemInPython_of_ne hT.not_modules]
 refine ce (wpAny_specialOf hT hl ?_)
 have fin:wpAny (model prog w) A (subscripted slice false o i) (λr cT=>wpAny (model prog w) A (letTemporaryGo value o r >>= λu'=>pure r) Q E cT) E s:=by
  obtain ⟨l,e⟩:=VU slice o i
  rw [e]
  exact wpAny_operating (gl h (λr cT g8=>ce (wpAny_letTemporaryGo (cr g8))) λu' u' x=>x)
 first
  |exact cr (ce fin)
  |exact ce (cr (ce fin))
  |exact ce fin
theorem aI.get (r:aI V g ds vs):ds[i]?=some d->∃ v,vs[i]?=some v/\af V g d v:=
 r.ind (P:=λds vs => ∀ i,ds[i]?=some d->∃ v,vs[i]?=some v/\af V g d v) (λ_ h=>aq h)
  (λa _ ih i=>Nat.casesOn i (λh=>⟨_,rfl,ad h ▸ a⟩) λi h=>ih i h) i
theorem te {vs:List α} {ds:List β} (h:ds.length=vs.length) (hx:ds[i]?=none):vs.toArray[i]?=none:=by
 rw [List.getElem?_toArray]; exact getElem?_eq_none (h ▸ List.getElem?_eq_none_iff.mp hx)
theorem qo {vs:List α} {v:α} (h:vs[i]?=some v):vs.toArray[i]?=some v:=by rw [List.getElem?_toArray]; exact h
theorem EZ (h:hV ds k=some d):(0<=k/\k<2 ^ 62/\ds[k.toNat]?=some d)\/(k<0/\0<=k+ds.length/\ds[(k+ds.length).toNat]?=some d):=by
 unfold hV at h
 split at h
 ·split at h
  ·exact .inl ⟨by assumption,by assumption,h⟩
  ·exact aq h
 ·split at h
  ·exact .inr ⟨not_le.mp (by assumption),by assumption,h⟩
  ·exact aq h
section
variable {slice:Expr} {E:Value->Shared->Prop}
abbrev s7 (V:av) (F:aD) (m:List (Option D)) (C:ah) (g:Gh) (d:D) (Q:Value->Shared->Prop):Prop := ∀ g' a s',g.Step g'->ai V F m C g' s'->af V g' d a->Q a s'
theorem E1 (I:ai V F m C g s) (hx:af V g x a) (e:a9 C x=some ds) (h:hV ds k=some d) (q:s7 V F m C g d Q) :
  wpAny V.M A (subscriptTail value slice a (.int k t)) Q E s:=by
 obtain ⟨l,vs,n,rfl,hl,hz,r⟩:=I.list hx e
 have hlen:=r.length
 rcases EZ h with ⟨h0,h1,h2⟩|⟨h0,h1,h2⟩
 ·obtain ⟨v,hv,rv⟩:=r.get h2
  exact oH hl.isList.typeIs slot_list_getitem.lookup (wpAny_getItem_list hl.isList h0 (DC h1) (qo hv) (q g _ _ (.refl g) I rv))
 ·obtain ⟨v,hv,rv⟩:=r.get h2
  have e:(k+(vs.toArray.size:Int))=k+ds.length:=by rw [hlen]; rfl
  exact oH hl.isList.typeIs slot_list_getitem.lookup (wpAny_getItem_list_neg hl.isList h0 (FH (by rw [e]; exact h1)) (DD (n:=vs.toArray.size) (by rw [e]; exact h1) (pN hz)) (by rw [e]; exact qo hv) (q g _ _ (.refl g) I rv))
theorem PO (I:ai V F m C g s) (hx:af V g (.tup ds) a) (h:hV ds k=some d) (q:s7 V F m C g d Q) :
  wpAny V.M A (subscriptTail value slice a (.int k t)) Q E s:=by
 obtain ⟨l,vs,n,rfl,hl,hz,r⟩:=I.tup hx
 have hlen:=r.length
 have ht:IsTup s.heap l vs.toArray:=IsTup.mk' hl
 have hb:=rM hz
 have go : ∀ j v,-(2 ^ 63)<=k/\k<2 ^ 63->seqIndex? k vs.toArray.size=some j->vs.toArray[j]?=some v->af V g d v->wpAny V.M A (subscriptTail value slice (.ref l) (.int k t)) Q E s:=λj v hk h1 h2 h3=>
  oH ht.typeIs PyProof.Rows.slot_tuple_getitem.lookup (getItem_tuple ht hk.1 hk.2 h1 h2 (q g _ _ (.refl g) I h3))
 rcases EZ h with ⟨h0,h1,h2⟩|⟨h0,h1,h2⟩
 ·obtain ⟨v,hv,rv⟩:=r.get h2
  have aZ:=(be hv).1
  exact go k.toNat v ⟨MQ h0,DC h1⟩ (T6 h0 (by rw [size_toArray]; exact aZ)) (qo hv) rv
 ·obtain ⟨v,hv,rv⟩:=r.get h2
  have e:(k+(vs.toArray.size:Int))=k+ds.length:=by rw [hlen]; rfl
  exact go (k+ds.length).toNat v ⟨DD (n:=vs.toArray.size) (by rw [e]; exact h1) (pN hz),Int.lt_trans h0 (by decide)⟩ (e ▸ T5 h0 (by rw [e]; exact h1)) (qo hv) rv
theorem PK (I:ai V F m C g s) {b:List UInt8} (hx:af V g (.bytes b) a) (h:pF b k=some d) (q:s7 V F m C g d Q) :
  wpAny V.M A (subscriptTail value slice a (.int k t)) Q E s:=by
 obtain ⟨_,hz,rfl⟩:=hx.nW
 unfold pF at h
 by_cases hk:0<=k/\k<2 ^ 62
 ·rw [if_pos hk] at h
  obtain ⟨c,hc,rfl⟩:=cq h
  have aZ:=(be hc).1
  refine oH (W.typeIs_bytes _ _ _) W.FB.slot_bytes_getitem.lookup (W.getItem_bytes (an hz (by decide)) hk.1 ((Int.toNat_lt hk.1).mp aZ) ?_)
  rw [show b.getD k.toNat 0=c by rw [getD_eq_getElem?_getD,hc]; rfl]
  exact q g _ _ (.refl g) (I.tok _) (.int _ _)
 ·rw [if_neg hk] at h; exact aq h
theorem PL (I:ai V F m C g s) (hx:af V g (.loc i) a) (hC:C[i]?=some (.dict bb es)) (h:es.lookup k=some d) (q:s7 V F m C g d Q) :
  wpAny V.M A (subscriptTail value slice a (.int k t)) Q E s:=by
 obtain ⟨_,hg,rfl⟩:=hx.gA
 obtain ⟨hz,ay,ep,jo,hr,_⟩:=I.dictAt hg hC
 have:=hr.lookupI k
 rw [h] at this
 obtain ⟨v,hv,rv⟩:=rY this
 exact oH jo.dictOf.mapOf.typeIs slot_dict_getitem.lookup (wpAny_getItem_of (knd:=intKind V.prog V.w) (k:=k) (beq_self_eq_true _) jo.dictOf.mapOf hv (q g _ _ (.refl g) (I.tok _) rv))
end
theorem Tu (I:ai V F m C g s) {slice:Expr} (hx:af V g x a) (hy:af V g y b) :
  aJ V F A (af V) (subscriptTail value slice a b) g s (dp (g9 C x y) ⟨m,C⟩):=aJ.leaf λd hd Q E q=>by
 obtain ⟨k,e,hd⟩:=aS hd
 obtain ⟨t,rfl⟩:=hy.fR e
 induction x using D.casesOn<;>first|exact aq hd|skip
 ·exact PK I hx hd q
 ·exact PO I hx hd q
 ·exact E1 I hx rfl hd q
 ·obtain ⟨ch,hC,hd⟩:=aS hd
  induction ch using Ch.casesOn<;>first|exact aq hd|skip
  ·exact E1 I hx (mX hC) hd q
  ·exact PL I hx hC hd q
theorem ai.slice (I:ai V F m C g s) (vl vu:Value):g.Step (g.put s.heap.objs.size (some (.aB {cls:=.type "slice",data:=.fields #[vl,vu,.none]})))/\
  ai V F m C (g.put s.heap.objs.size (some (.aB {cls:=.type "slice",data:=.fields #[vl,vu,.none]}))) {s with heap:=s.heap.push {cls:=.type "slice",data:=.fields #[vl,vu,.none]}}:=
 ⟨Gh.oF I.fI,I.zi _ rfl s.toks⟩
set_option tactic.hygienic true in
theorem ti {dflt k:Nat} (hx:af V g x v) (h:bound x dflt n=some k) : ∃ p,IsPart v p/\p.elim dflt (clipAt n)=k:=by
 induction x using D.casesOn<;>first|exact aq h|skip
 ·obtain rfl:=hx.yH; obtain rfl:=ad h; exact ⟨_,.none,rfl⟩
 ·obtain ⟨t,rfl⟩:=hx.jx
  rename_i i
  have h:(if 0<=i/\i<2 ^ 62 then some (min i.toNat n) else none)=some k:=h
  by_cases hk:0<=i/\i<2 ^ 62
  ·rw [if_pos hk] at h
   obtain rfl:=ad h
   refine ⟨_,.int _ _,?_⟩
   show clipAt n i=_
   obtain ⟨j,rfl⟩:=Int.eq_ofNat_of_zero_le hk.1
   rw [clipAt_nat]; rfl
  ·rw [if_neg hk] at h; exact aq h
theorem aI.drop (n:Nat) (r:aI V g ds vs):aI V g (ds.drop n) (vs.drop n):=
 r.ind (P:=λds vs => ∀ n,aI V g (ds.drop n) (vs.drop n)) (λn=>by rw [List.drop_nil,List.drop_nil]; exact .nil) (λa b ih n=>Nat.casesOn n (.cons a b) λn=>ih n) n
theorem aI.take (n:Nat) (r:aI V g ds vs):aI V g (ds.take n) (vs.take n):=
 r.ind (P:=λds vs => ∀ n,aI V g (ds.take n) (vs.take n)) (λn=>by rw [take_nil,take_nil]; exact .nil) (λa _ ih n=>Nat.casesOn n .nil λn=>.cons a (ih n)) n
theorem TS (I:ai V F m C g s) {slice:Expr} {lo hi:D} {vl vu:Value} {sl:Addr} (hx:af V g x a) (mh:af V g lo vl) (nK:af V g hi vu)
  (hs:s.heap.IsSliceOf sl vl vu .none) :
  aJ V F A (af V) (subscriptTail value slice a (.ref sl)) g s (dp (p6 C x lo hi) ⟨m,C⟩):=by
 refine aJ.leaf λd hd Q E q=>?_
 have list : ∀ {ds:List D} {l h:Nat},a9 C x=some ds->bound lo 0 ds.length=some l->bound hi ds.length ds.length=some h->d=.lst (gQ ds l h)->wpAny V.M A (subscriptTail value slice a (.ref sl)) Q E s:=by
  intro ds l h e h1 h2 hd
  subst hd
  obtain ⟨b,vs,n,rfl,hl,hz,r⟩:=I.list hx e
  have hlen:=r.length
  obtain ⟨p,ip,ep⟩:=ti mh h1
  obtain ⟨u,iu,eu⟩:=ti nK h2
  refine oH hl.isList.typeIs slot_list_getitem.lookup (wpAny_getItem_list_slice hl.isList hs ip iu .none (by simp) ?_ (dO (by simpa using hz)))
  rw [slicePick_plain]
  have e1:vs.toArray.size=ds.length:=by simp [hlen]
  rw [e1,ep,eu]
  have r':aI V g (gQ ds l h) ((vs.drop l).take (h - l)):=(r.drop l).take (h - l)
  exact I.newList (T:="list") (n:=0) (t:=s.toks) r' (an (CG _ _ _) hz) λg' st I' h1 h2 h3=>q g' _ _ st I' (.lst h1 h2 h3)
 have lst:vj C x lo hi=some d->wpAny V.M A (subscriptTail value slice a (.ref sl)) Q E s:=λhd=>by
  obtain ⟨ds,e,hd⟩:=aS hd
  obtain ⟨l,h1,hd⟩:=aS hd
  obtain ⟨h,h2,hd⟩:=cq hd
  exact list e h1 h2 hd.symm
 induction x using D.casesOn with
 |bytes b=>
  obtain ⟨l,h1,hd⟩:=aS hd
  obtain ⟨h,h2,rfl⟩:=cq hd
  obtain ⟨t,hz,rfl⟩:=hx.nW
  obtain ⟨p,ip,ep⟩:=ti mh h1
  obtain ⟨u,iu,eu⟩:=ti nK h2
  have e1:W.KBy.picked b.toArray p u=(gQ b l h).toArray:=by
   rw [W.KBc.picked_eq]
   simp only [size_toArray,ep,eu]; rfl
  have hsz:(gQ b l h).length<=aH:=an (CG _ _ _) hz
  refine oH (W.typeIs_bytes _ _ _) W.FB.slot_bytes_getitem.lookup (getItem_meets (W.typeIs_bytes _ _ _) (by decide) W.FB.slot_bytes_getitem W.FB.entry_bytes_getitem (W.FB.args_bytes_getitem_2 _ _) (W.KBc.meets_slice2 b.toArray t _ ip iu)
   ⟨hs,by rw [e1]; exact dO (by simpa using hsz),λt' k=>?_⟩)
  rw [e1]
  exact q g _ _ (.refl g) (I.tok _) (.bytes _ hsz)
 |_=>exact lst hd
structure fL (F:aD) (A:Around) (cl:Calls) (n l:Nat):Prop where
 frames:A.frames=some F.stack
 depth:A.depth+8*n+8<=900
 units:A.units+8*l+500*n+500<=9000
 calm:cl.fuel≠0->A.handled=none
theorem WT:cLine=9900:=rfl
noncomputable def cQ (o:ak D):ak Bool:=o.bind λx st=>jK (bH st.C x) st
noncomputable def aA (V:av) (F:aD) (A:Around) (cl:Calls) (c:E) (e:Expr):Prop:=
 ∀ m C g s,ai V F m C g s->aJ V F A (af V) (eval e F.env) g s (ev V.P cl c ⟨m,C⟩)/\aJ V F A ko (isTrue e F.env (eval e F.env)) g s (cQ (ev V.P cl c ⟨m,C⟩))
noncomputable def qh (V:av) (g:Gh) (d:D) (vs:List Value):Prop := ∃ ds,d=.lst ds/\aI V g ds vs
variable {e:Expr} {f:Expr->E}
theorem aA.bad:aA V F A cl .bad e:=λu' u' u' u' u'=>⟨trivial,trivial⟩
theorem T2 {o:ak D} (he:isTrue e F.env (eval e F.env)=(do let v <-eval e F.env; standAt e.pos; holding [v] (truthy v)))
  (h:aJ V F A (af V) (eval e F.env) g s o):aJ V F A ko (isTrue e F.env (eval e F.env)) g s (cQ o):=
 aj.seq h (λu' u' x=>isTrue_plain x he) λu' u' u' u' u' u' u' I r=>sm I r
theorem aA.of {c:E} (he:isTrue e F.env (eval e F.env)=(do let v <-eval e F.env; standAt e.pos; holding [v] (truthy v)))
  (h : ∀ m C g s,ai V F m C g s->aJ V F A (af V) (eval e F.env) g s (ev V.P cl c ⟨m,C⟩)):aA V F A cl c e:=
 λm C g s I=>⟨h m C g s I,T2 he (h m C g s I)⟩
theorem U0 {k:Const}:aA V F A cl (tw k) (.Constant k n p):=.of rfl λu' u' u' u' I=>Tj I
theorem Ve (O:V.Ok G) (K:F.Ok) {c:aN} (hc:F.ctx c) {x:Str}:aA V F A cl (mC G c x) (.Name x p):=.of rfl λu' u' u' u' I=>GJ O K I hc
theorem US (ho:jB op=some o) {a b:E} {l r:Expr} (hl:aA V F A cl a l) (hr:aA V F A cl b r):aA V F A cl (.bin o a b) (.BinOp l op r p):=
 .of rfl λm C g s I=>aj.seq (hl m C g s I).1 (λu' u' x=>wpAny_BinOp x) λu' u' u' u' u' u' u' aF rx=>
  aj.seq (hr _ _ _ _ aF).1 (λu' u' x=>x) λu' u' u' u' u' u' bQ aP ry=>S6 ho aP (rx.mono bQ.toLe) ry
theorem A5 {op:CmpOp} {r:Expr} (h:mr r=false):behindInMarks op r=false:=by
 induction r using Expr.casesOn<;>first|rfl|exact fJ h
theorem ak.bind_assoc {γ:Type} (o:ak α) (f:α->St->ak β) (k:β->St->ak γ):(o.bind f).bind k=o.bind λa st=>(f a st).bind k:=by
 induction o<;>rfl
theorem UX (B:V.Base) {l:Nat} (hA:fL F A cl n l) {op:CmpOp} {a b:E} {x r:Expr} (hs:mr r=false) (hl:aA V F A cl a x) (hr:aA V F A cl b r) :
  aA V F A cl (.cmp (tv op) a b) (.Compare x [op] [r] p):=by
 have hu:A.units+64<cLine:=al (an (add_le_add (an (jp _ (8*l)) (jp _ (500*n))) (by decide:64<=500)) hA.units) (by decide)
 refine λm C g s I=>⟨?_,?_⟩
 ·exact aj.seq (hl m C g s I).1 (λu' u' x=>wpAny_Compare1 x (A5 hs)) λu' u' u' u' u' u' u' aF rx=>
   aj.seq (hr _ _ _ _ aF).1 (λu' u' x=>x) λu' u' u' u' u' u' bQ aP ry=>Gz B hu aP (rx.mono bQ.toLe) ry
 ·show aJ _ _ _ _ _ _ _ (cQ ((ev V.P cl a ⟨m,C⟩).bind λx aa=>(ev V.P cl b aa).bind λy ae=>dp ((jN ae.C (tv op) x y).map .bool) ae))
  unfold cQ
  rw [ak.bind_assoc]
  refine aj.seq (hl m C g s I).1 (λu' u' x=>wpAny_isTrue_Compare1 x (A5 hs)) λu' u' u' u' u' u' u' aF rx=>?_
  rw [ak.bind_assoc]
  exact aj.seq (hr _ _ _ _ aF).1 (λu' u' x=>x) λu' u' u' u' u' u' bQ aP ry=>aj.seq (Gz B hu aP (rx.mono bQ.toLe) ry) (λu' u' x=>x) λu' u' u' u' u' u' u' cV SU=>sm cV SU
theorem Vh {a:E} {x:Expr} (h:aA V F A cl a x):aA V F A cl (.not a) (.UnaryOp .Not x p):=by
 refine λm C g s I=>⟨?_,?_⟩
 ·refine aj.seq (h m C g s I).1 (λu' u' x=>wpAny_UnaryOp x) λd st aV au v u' u' aF rx=>?_
  have e:dp ((bH st.C d).map λb=>D.bool (!b)) st=(jK (bH st.C d) st).bind λb st=>.ok (.bool (!b)) st:=by induction bH st.C d<;>rfl
  rw [e]
  exact aj.seq (sm aF rx) (λu' u' x=>PyProof.Rows.not_of x) (K:=λb Q E s=>Q (.bool (!b)) s) λu' u' bl aM u' u' u' aP r=>λQ E k=>k _ _ _ (.refl _) aP (by cases r; exact .bool _)
 ·have e:cQ (ev V.P cl (.not a) ⟨m,C⟩)=(cQ (ev V.P cl a ⟨m,C⟩)).bind λb st=>.ok (!b) st:=by
   show cQ ((ev V.P cl a ⟨m,C⟩).bind _)=_
   unfold cQ
   rw [ak.bind_assoc,ak.bind_assoc]
   congr 1; funext x st
   induction bH st.C x<;>rfl
  rw [e]
  exact aj.seq (h m C g s I).2 (λu' u' x=>wpAny_isTrue_Not x) (K:=λb Q E s=>Q (!b) s) λu' u' bl aM u' u' u' aP r=>λQ E k=>k _ _ _ (.refl _) aP (by cases r; rfl)
theorem U9 {c a b:E} {t x y:Expr} (ht:aA V F A cl c t) (hx:aA V F A cl a x) (hy:aA V F A cl b y):aA V F A cl (.ite c a b) (.IfExp t x y p):=by
 have e : ∀ st,ev V.P cl (.ite c a b) st=(cQ (ev V.P cl c st)).bind λq aa=>if q then ev V.P cl a aa else ev V.P cl b aa:=λst=>by
  show (ev V.P cl c st).bind _=_
  unfold cQ
  rw [ak.bind_assoc]
  congr 1; funext x aa
  induction bH aa.C x with
  |none=>rfl
  |some q=>induction q<;>rfl
 refine λm C g s I=>⟨?_,?_⟩
 ·rw [e]
  refine aj.seq (ht m C g s I).2 (λu' u' x=>wpAny_IfExp x) λq st aV au q' u' u' aF r=>?_
  cases r
  induction q
  ·exact (hy _ _ _ _ aF).1
  ·exact (hx _ _ _ _ aF).1
 ·rw [e]
  unfold cQ
  rw [ak.bind_assoc]
  refine aj.seq (ht m C g s I).2 (λu' u' x=>PyProof.Rows.isTrue_IfExp x) λq st aV au q' u' u' aF r=>?_
  cases r
  induction q
  ·exact (hy _ _ _ _ aF).2
  ·exact (hx _ _ _ _ aF).2
theorem HA {M:Model} {E:Value->Shared->Prop} {pos:Pos} {op:BoolOp} {x y:Sem Value} {r:List (Sem Value)}
  (h:wpAny M A x (λv au=>wpAny M A (truthy v) (λt aM=>match op,t with
   |.And,false|.Or,true=>Q v aM
   |_,_=>wpAny M A (boolOp pos op (y::r)) Q E aM) E au) E s):wpAny M A (boolOp pos op (x::y::r)) Q E s:=by
 show wpAny M A (x >>= λv=>standAt pos >>= λ_=>holding [v] (truthy v) >>= λt=>match op,t with
  |.And,false|.Or,true=>pure v
  |_,_=>boolOp pos op (y::r)) Q E s
 refine ce (gl h (λv au et=>ce (wpAny_standAt (ce (ls (gl et (λt aM jW=>?_) λu' u' e=>e))))) λu' u' e=>e)
 induction op using BoolOp.casesOn<;>cases t<;>first|exact cr jW|exact jW
theorem C6 (a b:E) (st:St):ev V.P cl (.and a b) st=(ev V.P cl a st).bind λx aa=>(jK (bH aa.C x) aa).bind λq ae=>if q then ev V.P cl b ae else .ok x ae:=by
 show (ev V.P cl a st).bind _=_
 congr 1; funext x aa
 induction bH aa.C x with
 |none=>rfl
 |some q=>induction q<;>rfl
theorem Df (a b:E) (st:St):ev V.P cl (.or a b) st=(ev V.P cl a st).bind λx aa=>(jK (bH aa.C x) aa).bind λq ae=>if q then .ok x ae else ev V.P cl b ae:=by
 show (ev V.P cl a st).bind _=_
 congr 1; funext x aa
 induction bH aa.C x with
 |none=>rfl
 |some q=>induction q<;>rfl
theorem AV {op:BoolOp} {W:Tr Bool} {o:ak Bool} (h:aJ V F A ko (isTrue e F.env (eval e F.env)) g s o) :
  aJ V F A ko (allTrue op [e] F.env) g s o:=by
 refine h.wp λQ E x=>?_
 induction op using BoolOp.casesOn with
 |And=>exact wpAny_allTrue_And_cons (gl x (λb au y=>by
   induction b
   ·exact y
   ·exact cr y) λu' u' y=>y)
 |Or=>exact wpAny_allTrue_Or_cons (gl x (λb au y=>by
   induction b
   ·exact cr y
   ·exact y) λu' u' y=>y)
theorem zG {f:Expr->E} {p:Pos} : ∀ (es:List Expr),(∀ e∈es,aA V F A cl (f e) e)->∀ m C g s,ai V F m C g s->
  aJ V F A (af V) (boolOp p .And (evalEach es F.env)) g s (ev V.P cl (kx f es) ⟨m,C⟩)/\aJ V F A ko (allTrue .And es F.env) g s (cQ (ev V.P cl (kx f es) ⟨m,C⟩))
 |[],_,_,_,_,_,_=>⟨trivial,trivial⟩
 |[e],h,m,C,g,s,I=>⟨(h e (.head _) m C g s I).1,AV (W:=λu' u' u'=>True) (h e (.head _) m C g s I).2⟩
 |e::e'::r,h,m,C,g,s,I=>by
  have ih:=zG (p:=p) (e'::r) λx hx=>h x (.tail _ hx)
  have h0:=h e (.head _)
  refine ⟨?_,?_⟩
  ·show aJ _ _ _ _ _ _ _ (ev V.P cl (.and (f e) (kx f (e'::r))) _)
   rw [C6]
   refine aj.seq (h0 m C g s I).1 (λu' u' x=>HA x) λx st aV au v u' u' aF rx=>?_
   refine aj.seq (sm aF rx) (λu' u' x=>x) λq ao bl aM q' u' bQ aP rq=>?_
   subst rq
   induction q
   ·exact λQ E k=>k _ _ _ (.refl _) aP (rx.mono bQ.toLe)
   ·exact (ih _ _ _ _ aP).1
  ·have e1:cQ (ev V.P cl (.and (f e) (kx f (e'::r))) ⟨m,C⟩)=(cQ (ev V.P cl (f e) ⟨m,C⟩)).bind λq st=>if q then cQ (ev V.P cl (kx f (e'::r)) st) else .ok false st:=by
    rw [C6]; unfold cQ
    rw [ak.bind_assoc,ak.bind_assoc]
    congr 1; funext x st
    induction ht:bH st.C x with
    |none=>rfl
    |some q=>
     induction q
     ·show jK (bH st.C x) st=_; rw [ht]; rfl
     ·rfl
   show aJ _ _ _ _ _ _ _ (cQ (ev V.P cl (.and (f e) (kx f (e'::r))) ⟨m,C⟩))
   rw [e1]
   refine aj.seq (h0 m C g s I).2 (λu' u' x=>wpAny_allTrue_And_cons x) λq st aV au q' u' u' aF rq=>?_
   subst rq
   induction q
   ·exact λQ E k=>k _ _ _ (.refl _) aF rfl
   ·exact (ih _ _ _ _ aF).2
theorem zK {f:Expr->E} {p:Pos} : ∀ (es:List Expr),(∀ e∈es,aA V F A cl (f e) e)->∀ m C g s,ai V F m C g s->
  aJ V F A (af V) (boolOp p .Or (evalEach es F.env)) g s (ev V.P cl (kA f es) ⟨m,C⟩)/\aJ V F A ko (allTrue .Or es F.env) g s (cQ (ev V.P cl (kA f es) ⟨m,C⟩))
 |[],_,_,_,_,_,_=>⟨trivial,trivial⟩
 |[e],h,m,C,g,s,I=>⟨(h e (.head _) m C g s I).1,AV (W:=λu' u' u'=>True) (h e (.head _) m C g s I).2⟩
 |e::e'::r,h,m,C,g,s,I=>by
  have ih:=zK (p:=p) (e'::r) λx hx=>h x (.tail _ hx)
  have h0:=h e (.head _)
  refine ⟨?_,?_⟩
  ·show aJ _ _ _ _ _ _ _ (ev V.P cl (.or (f e) (kA f (e'::r))) _)
   rw [Df]
   refine aj.seq (h0 m C g s I).1 (λu' u' x=>HA x) λx st aV au v u' u' aF rx=>?_
   refine aj.seq (sm aF rx) (λu' u' x=>x) λq ao bl aM q' u' bQ aP rq=>?_
   subst rq
   induction q
   ·exact (ih _ _ _ _ aP).1
   ·exact λQ E k=>k _ _ _ (.refl _) aP (rx.mono bQ.toLe)
  ·have e1:cQ (ev V.P cl (.or (f e) (kA f (e'::r))) ⟨m,C⟩)=(cQ (ev V.P cl (f e) ⟨m,C⟩)).bind λq st=>if q then .ok true st else cQ (ev V.P cl (kA f (e'::r)) st):=by
    rw [Df]; unfold cQ
    rw [ak.bind_assoc,ak.bind_assoc]
    congr 1; funext x st
    induction ht:bH st.C x with
    |none=>rfl
    |some q=>
     induction q
     ·rfl
     ·show jK (bH st.C x) st=_; rw [ht]; rfl
   show aJ _ _ _ _ _ _ _ (cQ (ev V.P cl (.or (f e) (kA f (e'::r))) ⟨m,C⟩))
   rw [e1]
   refine aj.seq (h0 m C g s I).2 (λu' u' x=>wpAny_allTrue_Or_cons x) λq st aV au q' u' u' aF rq=>?_
   subst rq
   induction q
   ·exact (ih _ _ _ _ aF).2
   ·exact λQ E k=>k _ _ _ (.refl _) aF rfl
theorem UG {es:List Expr} (h : ∀ e∈es,aA V F A cl (f e) e):aA V F A cl (kx f es) (.BoolOp .And es p):=λm C g s I=>
 ⟨(zG es h m C g s I).1,(zG (p:=p) es h m C g s I).2.wp λu' u' x=>wpAny_isTrue_BoolOp x⟩
theorem Vi {es:List Expr} (h : ∀ e∈es,aA V F A cl (f e) e):aA V F A cl (kA f es) (.BoolOp .Or es p):=λm C g s I=>
 ⟨(zK es h m C g s I).1,(zK (p:=p) es h m C g s I).2.wp λu' u' x=>wpAny_isTrue_BoolOp x⟩
theorem mK {r:List Expr} {env:Env} (h:dI e=false):starEach (e::r) env=(false,eval e env)::starEach r env:=by
 induction e using Expr.casesOn<;>first|rfl|exact fJ h
theorem Dl (c:E) (cs:Es) (st:St):bM V.P cl (.cons c cs) st=(ev V.P cl c st).bind λx aa=>(bM V.P cl cs aa).bind λd ae=>match d with
  |.lst ds=>.ok (.lst (x::ds)) ae
  |_=>.fail:=by
 show (ev V.P cl c st).bind _=_
 congr 1; funext x aa
 induction bM V.P cl cs aa with
 |ok d ae=>induction d using D.casesOn<;>rfl
 |exc x ae=>rfl
 |fail=>rfl
theorem zL : ∀ (es:List Expr),es.any dI=false->(∀ e∈es,aA V F A cl (f e) e)->∀ m C g s,ai V F m C g s->
  aJ V F A (qh V) (spliced (backTo p (starEach es F.env))) g s (bM V.P cl (bD f es) ⟨m,C⟩):=λes=>by
 induction es with
 |nil=>
  intro _ _ m C g s I
  exact λQ E k=>Calls.spliced_nil (k g _ _ (.refl _) I ⟨[],rfl,.nil⟩)
 |cons e r ih=>
  intro hs h m C g s I
  rw [any_cons,or_eq_false_iff] at hs
  have ih:=ih hs.2 λx hx=>h x (.tail _ hx)
  rw [mK hs.1]
  show aJ _ _ _ _ _ _ _ (bM V.P cl (.cons (f e) (bD f r)) _)
  rw [Dl]
  refine aj.seq (h e (.head _) m C g s I).1 (λu' u' x=>Calls.spliced_cons x) λx st aV au v u' u' aF rx=>?_
  refine aj.seq (K:=λvs Q E s=>Q (v::vs) s) (ih _ _ _ _ aF) (λQ E x=>x) λd ao bl aM vs u' bQ aP rd=>?_
  obtain ⟨ds,rfl,rs⟩:=rd
  exact λQ E k=>k _ _ _ (.refl _) aP ⟨_,rfl,.cons (rx.mono bQ.toLe) rs⟩
theorem Va {es:List Expr} (h : ∀ e∈es,aA V F A cl (f e) e):aA V F A cl (.list (lR f es)) (.List es p):=by
 refine .of rfl λm C g s I=>?_
 unfold lR
 induction hs:es.any dI with
 |true=>trivial
 |false=>
  rw [if_neg (by decide)]
  have e:ev V.P cl (.list (bD f es)) ⟨m,C⟩=(bM V.P cl (bD f es) ⟨m,C⟩).bind λd st=>match d with
    |.lst ds=>if ds.length<=aH then .ok (.lst ds) st else .fail
    |_=>.fail:=by
   show (match bM V.P cl (bD f es) ⟨m,C⟩ with|.ok (.lst ds) aa=>_|.exc x aa=>_|_=>_)=_
   induction bM V.P cl (bD f es) ⟨m,C⟩ with
   |ok d ae=>induction d using D.casesOn<;>rfl
   |exc x ae=>rfl
   |fail=>rfl
  rw [e]
  refine aj.seq (zL (p:=p) es hs h m C g s I) (λu' u' x=>wpAny_List_spliced x) λd st aV au vs u' u' aF rd=>?_
  obtain ⟨ds,rfl,rs⟩:=rd
  dsimp only
  split
  ·rename_i hz
   have gz:vs.length<=aH:=by rw [<-rs.length]; exact hz
   exact λQ E k=>⟨dO gz,aF.newList (T:="list") (n:=0) (t:=au.toks) rs gz λg' ao I' h1 h2 h3=>k g' _ _ ao I' (.lst h1 h2 h3)⟩
  ·trivial
theorem Vs {es:List Expr} (h : ∀ e∈es,aA V F A cl (f e) e):aA V F A cl (.tup (lR f es)) (.Tuple es n p):=by
 refine .of rfl λm C g s I=>?_
 unfold lR
 induction hs:es.any dI with
 |true=>trivial
 |false=>
  rw [if_neg (by decide)]
  have e:ev V.P cl (.tup (bD f es)) ⟨m,C⟩=(bM V.P cl (bD f es) ⟨m,C⟩).bind λd st=>match d with
    |.lst ds=>if ds.length<=aH then .ok (.tup ds) st else .fail
    |_=>.fail:=by
   show (match bM V.P cl (bD f es) ⟨m,C⟩ with|.ok (.lst ds) aa=>_|.exc x aa=>_|_=>_)=_
   induction bM V.P cl (bD f es) ⟨m,C⟩ with
   |ok d ae=>induction d using D.casesOn<;>rfl
   |exc x ae=>rfl
   |fail=>rfl
  rw [e]
  refine aj.seq (zL (p:=p) es hs h m C g s I) (λu' u' x=>wpAny_Tuple_spliced x) λd st aV au vs u' u' aF rd=>?_
  obtain ⟨ds,rfl,rs⟩:=rd
  dsimp only
  split
  ·rename_i hz
   have gz:vs.length<=aH:=by rw [<-rs.length]; exact hz
   exact λQ E k=>⟨dO gz,aF.newList (T:="tuple") (n:=0) (t:=au.toks) rs gz λg' ao I' h1 h2 h3=>k g' _ _ ao I' (.tup h1 h2 h3)⟩
  ·trivial
variable {h':Heap}
theorem ai.localSet (K:F.Ok) (I:ai V F m C g s) {t:Nat} {x:Str} {k:Nat} {M:Str->Option Value} (hx:F.names.lookup x=some .local) (hk:F.slots.lookup x=some k)
  (hM:s.heap.Ns F.env.locals M) (hr : ∀ x n d,F.names.lookup x=some .local->F.slots.lookup x=some n->m[n]?=some (some d)->∃ v,M x=some v/\af V g d v)
  (hn:h'.Ns F.env.locals (λy=>if y=x then some v else M y)) (hs:Heap.SameBut F.env.locals s.heap h') (r:af V g d v):ai V F (m.set k (some d)) C g {s with heap:=h',toks:=t}:=by
 have hg:=I.fr.here
 have ne : ∀ {b y},g b=some y->y≠.locals->b≠F.env.locals:=λ{b y} e q z=>by subst z; rw [hg] at e; obtain rfl:=ad e; exact q rfl
 refine ⟨λb o' e=>?_,I.new,λb y e=>?_,λb o' e=>?_,λb o' e=>?_,λj c' e=>?_,I.uniq,I.dC,?_,I.gens,I.os⟩
 ·refine (hs.2 b λz=>?_).trans (I.keep b o' e)
  subst z; rw [I.new _ _ hg] at e; exact aq e
 ·by_cases z:b=F.env.locals
  ·subst z; obtain ⟨o,_,_,ho,_⟩:=hn; exact ⟨o,ho⟩
  ·obtain ⟨o',q⟩:=I.live b y e; exact ⟨o',(hs.2 b z).trans q⟩
 ·exact (hs.2 b (ne e (by intro z; cases z))).trans (I.aB b o' e)
 ·obtain ⟨sl,q,q'⟩:=I.az b o' e
  exact ⟨sl,(hs.2 b (ne e (by intro z; cases z))).trans q,q'⟩
 ·obtain ⟨b,o',h1,h2,h3⟩:=I.cell j c' e
  exact ⟨b,o',h1,(hs.2 b (ne h1 (by intro z; cases z))).trans h2,h3⟩
 ·have fr:=I.fr
  refine ⟨by rw [length_set]; exact fr.len,fr.above,fr.out,fr.here,⟨_,hn,λy n d' h1 h2 h3=>?_⟩,λy hy=>?_,λy n d' h1 h2 h3=>?_⟩
  ·by_cases q:y=x
   ·subst q
    rw [hk] at h2; obtain rfl:=ad h2
    rw [getElem?_set] at h3
    simp only [if_true] at h3
    split at h3
    ·cases h3; exact ⟨v,if_pos rfl,r⟩
    ·exact aq h3
   ·have dF:k≠n:=λz=>q (K.inj _ _ _ h2 (z ▸ hk))
    rw [getElem?_set,if_neg dF] at h3
    obtain ⟨v',e1,e2⟩:=hr y n d' h1 h2 h3
    exact ⟨v',by rw [if_neg q]; exact e1,e2⟩
  ·obtain ⟨c,v',h1,h2,h3,h4⟩:=fr.cell y hy
   refine ⟨c,v',h1,h2,h3.sameBut hs (ne h2 (by intro z; cases z)),λn d' e1 e2=>h4 n d' e1 ?_⟩
   have dF:k≠n:=λz=>by
    have:=K.inj _ _ _ e1 (z ▸ hk); subst this; rw [hx] at hy; cases hy
   rw [getElem?_set,if_neg dF] at e2
   exact e2
  ·have dF:k≠n:=λz=>by
    have:=K.inj _ _ _ h2 (z ▸ hk); subst this; rw [hx] at h1; cases h1
   rw [getElem?_set,if_neg dF] at h3
   exact fr.free y n d' h1 h2 h3
theorem ai.MJ (K:F.Ok) (I:ai V F m C g s) {t:Nat} {x:Str} {k:Nat} {c:Addr} (hx:F.names.lookup x=some .cell) (hk:F.slots.lookup x=some k)
  (hc:F.env.cells.lookup x=some c) (hg:g c=some (.cj x)) (hn:h'.IsCell c (some v)) (hs:Heap.SameBut c s.heap h') (r:af V g d v):ai V F (m.set k (some d)) C g {s with heap:=h',toks:=t}:=by
 have ne : ∀ {b y},g b=some y->y≠.cj x->b≠c:=λ{b y} e q z=>by subst z; rw [hg] at e; obtain rfl:=ad e; exact q rfl
 refine ⟨λb o' e=>?_,I.new,λb y e=>?_,λb o' e=>?_,λb o' e=>?_,λj c' e=>?_,I.uniq,I.dC,?_,I.gens,I.os⟩
 ·refine (hs.2 b λz=>?_).trans (I.keep b o' e)
  subst z; rw [I.new _ _ hg] at e; exact aq e
 ·by_cases z:b=c
  ·subst z; obtain ⟨o,ho,_⟩:=hn; exact ⟨o,ho⟩
  ·obtain ⟨o',q⟩:=I.live b y e; exact ⟨o',(hs.2 b z).trans q⟩
 ·exact (hs.2 b (ne e (by intro z; cases z))).trans (I.aB b o' e)
 ·obtain ⟨sl,q,q'⟩:=I.az b o' e
  exact ⟨sl,(hs.2 b (ne e (by intro z; cases z))).trans q,q'⟩
 ·obtain ⟨b,o',h1,h2,h3⟩:=I.cell j c' e
  exact ⟨b,o',h1,(hs.2 b (ne h1 (by intro z; cases z))).trans h2,h3⟩
 ·have fr:=I.fr
  obtain ⟨M,hM,hr⟩:=fr.loc
  refine ⟨by rw [length_set]; exact fr.len,fr.above,fr.out,fr.here,⟨M,hM.sameBut hs (ne fr.here (by intro z; cases z)),λy n d' h1 h2 h3=>?_⟩,λy hy=>?_,λy n d' h1 h2 h3=>?_⟩
  ·have dF:k≠n:=λz=>by
    have:=K.inj _ _ _ h2 (z ▸ hk); subst this; rw [hx] at h1; cases h1
   rw [getElem?_set,if_neg dF] at h3
   exact hr y n d' h1 h2 h3
  ·by_cases q:y=x
   ·subst q
    refine ⟨c,some v,hc,hg,hn,λn d' e1 e2=>?_⟩
    rw [hk] at e1; obtain rfl:=ad e1
    rw [getElem?_set] at e2
    simp only [if_true] at e2
    split at e2
    ·cases e2; exact ⟨v,rfl,r⟩
    ·exact aq e2
   ·obtain ⟨c',v',h1,h2,h3,h4⟩:=fr.cell y hy
    refine ⟨c',v',h1,h2,h3.sameBut hs (ne h2 (by intro z; cases z; exact q rfl)),λn d' e1 e2=>h4 n d' e1 ?_⟩
    have dF:k≠n:=λz=>q (K.inj _ _ _ e1 (z ▸ hk))
    rw [getElem?_set,if_neg dF] at e2
    exact e2
  ·have dF:k≠n:=λz=>by
    have:=K.inj _ _ _ h2 (z ▸ hk); subst this; rw [hx] at h1; cases h1
   rw [getElem?_set,if_neg dF] at h3
   exact fr.free y n d' h1 h2 h3
noncomputable def d7 {α β:Type} (_:Gh) (_:α) (_:β):Prop:=True
theorem oA (K:F.Ok) (I:ai V F m C g s) {c:aN} (hc:F.ctx c) {x:Str} {k:Nat} (hk:dA c x=some k) (r:af V g d v) :
  aJ V F A d7 (storeName F.env x v) g s (fH k d ⟨m,C⟩):=by
 unfold fH
 split
 ·unfold dA at hk
  rw [hc.1,hc.2.1] at hk
  split at hk
  ·rename_i hx
   obtain ⟨M,hM,hr⟩:=I.fr.loc
   exact λQ E q=>wpAny_storeName_local (K.kinds x _ hx) hM (λh' hn hs=>q g _ _ (.refl _) (I.localSet K hx hk hM hr hn hs r) trivial) (by rw [K.fn]; rfl)
  ·rename_i hx
   obtain ⟨cc,Xr,h1,h2,h3,_⟩:=I.fr.cell x hx
   exact λQ E q=>wpAny_storeName_cell K.fn (K.kinds x _ hx) h1 h3 λh' hn hs=>q g _ _ (.refl _) (I.MJ (t:=s.toks) K hx hk h1 h2 hn hs r) trivial
  ·exact aq hk
 ·trivial
theorem Vu (K:F.Ok) {c:aN} (hc:F.ctx c) {x:Str} {xp:Pos} {k:Nat} (hk:dA c x=some k) {a:E} (h:aA V F A cl a e) :
  aA V F A cl (.lF k a) (.NamedExpr (.Name x xp) e p):=by
 refine .of rfl λm C g s I=>?_
 have e1:ev V.P cl (.lF k a) ⟨m,C⟩=(ev V.P cl a ⟨m,C⟩).bind λx aa=>(fH k x aa).bind λu' ae=>.ok x ae:=by
  show (ev V.P cl a ⟨m,C⟩).bind _=_
  congr 1; funext x aa
  unfold fH
  split<;>rfl
 rw [e1]
 refine aj.seq (h m C g s I).1 (λu' u' x=>wpAny_NamedExpr x) λd st aV au v u' u' aF r=>?_
 refine aj.seq (oA (A:=A) K aF hc hk r) (λu' u' x=>wpAny_assign_Name x) (K:=λu' Q E s=>Q v s) λu' u' bl aM u' u' bQ aP u'=>?_
 exact λQ E q=>q _ _ _ (.refl _) aP (r.mono bQ.toLe)
theorem U7 {a i:E} {x y:Expr} (hx:aA V F A cl a x) (hy:aA V F A cl i y):aA V F A cl (.idx a i) (.Subscript x y p):=
 .of rfl λm C g s I=>aj.seq (hx m C g s I).1 (λu' u' x=>Subscript_ x) λu' u' u' u' u' u' u' aF rx=>
  aj.seq (hy _ _ _ _ aF).1 (λu' u' x=>x) λu' u' u' u' u' u' bQ aP ry=>Tu aP (rx.mono bQ.toLe) ry
theorem GL {o:Option Expr} (h : ∀ e,o=some e->aA V F A cl (f e) e) (I:ai V F m C g s):aJ V F A (af V) (evalPart o F.env) g s (ev V.P cl (qq f o) ⟨m,C⟩):=by
 induction o with
 |none=>exact λQ E k=>wpAny_evalPart_none (k g _ _ (.refl _) I .none)
 |some e=>exact (h e rfl m C g s I).1
theorem Vo {x:Expr} {lo hi:Option Expr} {sp:Pos} (hx:aA V F A cl (f x) x) (mh : ∀ e,lo=some e->aA V F A cl (f e) e) (nK : ∀ e,hi=some e->aA V F A cl (f e) e) :
  aA V F A cl (.slice (f x) (qq f lo) (qq f hi)) (.Subscript x (.Slice lo hi none sp) p):=by
 refine .of rfl λm C g s I=>?_
 refine aj.seq (hx m C g s I).1 (λu' u' x=>Subscript_ x) λd st aV au v u' u' aF rx=>?_
 refine aj.seq (GL mh aF) (λu' u' x=>wpAny_Slice x) λd1 aa bl aM v1 u' bQ aP r1=>?_
 refine aj.seq (GL nK aP) (λu' u' x=>x) λd2 ae dD cT v2 u' gH cV r2=>?_
 obtain ⟨q,kn⟩:=cV.slice v1 v2
 have L:=(gH.trans q).toLe
 have:=TS (A:=A) (value:=x) (slice:=.Slice lo hi none sp) kn (rx.mono (bQ.toLe.trans L)) (r1.mono L) (r2.mono q.toLe) (Heap.IsSliceOf.new _ _ _ _)
 exact aj.go (aj.from q this) λQ E x=>wpAny_evalPart_none x
theorem TA : ∀ (es:List Expr),(∀ e∈es,aA V F A cl (f e) e)->∀ acc m C g s,ai V F m C g s->
  aj V F (λ(_:Gh) (d:D) (x:Str)=>d=.str x/\x.length<=sizeLine) (λQ E s=>Joins V.M A E (evalEach es F.env) acc Q s) g s (if acc.length<=aH then lX V.P cl acc (bD f es) ⟨m,C⟩ else .fail):=λes=>by
 induction es with
 |nil=>
  intro _ acc m C g s I
  split
  ·rename_i h
   exact λQ E k=>k g _ _ (.refl _) I ⟨rfl,dO h⟩
  ·trivial
 |cons e r ih=>
  intro h acc m C g s I
  split
  ·have ih:=ih λx hx=>h x (.tail _ hx)
   show aj _ _ _ _ _ _ ((ev V.P cl (f e) ⟨m,C⟩).bind _)
   refine aj.seq (K:=λ(v:Value) Q E au => ∃ y t,v=Value.str y t/\(acc++y).length<=sizeLine/\Joins V.M A E (evalEach r F.env) (acc++y) Q au) (h e (.head _) m C g s I).1 (λQ E x=>show Joins V.M A E (eval e F.env::evalEach r F.env) acc Q s from x) λd st aV au v u' u' aF rd=>?_
   refine (match d,rd with
   |.str y,.str _ t=>?_
   |.none,_|.bool _,_|.int _,_|.bytes _,_|.bn _,_|.fn _,_|.cls _,_|.tup _,_|.lst _,_|.cP _ _,_|.loc _,_|.inst _ _,_|.bm _ _,_|.di _,_|.iW _,_=>trivial)
   have yL:=ih (acc++y) _ _ _ _ aF
   rw [Str.length_append] at yL
   dsimp only
   split
   ·rename_i hz
    rw [if_pos hz] at yL
    exact aj.wp yL λQ E x=>⟨y,t,rfl,by rw [Str.length_append]; exact dO hz,x⟩
   ·trivial
  ·trivial
theorem U6 {es:List Expr} (h : ∀ e∈es,aA V F A cl (f e) e):aA V F A cl (.tT (bD f es)) (.JoinedStr es p):=by
 refine .of rfl λm C g s I=>?_
 show aJ _ _ _ _ _ _ _ (lX V.P cl Str.empty (bD f es) ⟨m,C⟩)
 have hj : ∀ es,(∀ e∈es,aA V F A cl (f e) e)->aj V F (λ(_:Gh) (d:D) (x:Str)=>d=.str x/\x.length<=sizeLine) (λQ E s=>Joins V.M A E (evalEach es F.env) Str.empty Q s) g s (lX V.P cl Str.empty (bD f es) ⟨m,C⟩):=λes h=>by
  have:=TA es h Str.empty m C g s I
  rwa [if_pos (by decide)] at this
 match es,h with
 |[],h=>
  exact λQ E k=>by
   rw [arm_eval_JoinedStr]
   exact wpAny_mkStr (k g _ _ (.refl _) (I.tok _) (.str _ _)) (by decide)
 |[e],h=>
  show aJ _ _ _ _ _ _ _ ((ev V.P cl (f e) ⟨m,C⟩).bind _)
  refine aj.seq (K:=λv Q E s=>Q v s) (h e (.head _) m C g s I).1 (λu' u' x=>wpAny_JoinedStr_one x) λd st aV au v u' u' aF rd=>?_
  refine (match d,rd with
  |.str y,rd=>?_
  |.none,_|.bool _,_|.int _,_|.bytes _,_|.bn _,_|.fn _,_|.cls _,_|.tup _,_|.lst _,_|.cP _ _,_|.loc _,_|.inst _ _,_|.bm _ _,_|.di _,_|.iW _,_=>trivial)
  dsimp only
  split
  ·show aj _ _ _ _ _ _ (ak.ok (D.str (Str.empty++y)) st)
   rw [Str.empty_append]
   exact λQ E k=>k _ _ _ (.refl _) aF rd
  ·trivial
 |e::e'::r,h=>
  have:=hj (e::e'::r) h
  have e0:lX V.P cl Str.empty (bD f (e::e'::r)) ⟨m,C⟩=(lX V.P cl Str.empty (bD f (e::e'::r)) ⟨m,C⟩).bind λd st=>.ok d st:=by
   induction lX V.P cl Str.empty (bD f (e::e'::r)) ⟨m,C⟩<;>rfl
  rw [e0]
  refine aj.seq this (λu' u' x=>wpAny_JoinedStr x) λd st aV au x u' u' aF rd=>?_
  obtain ⟨rfl,hz⟩:=rd
  exact λQ E k=>⟨hz,k _ _ _ (.refl _) (aF.tok _) (.str _ _)⟩
theorem FO (n:Nm):df n.str=some n:=by induction n using Nm.casesOn<;>decide +kernel
theorem Nm.inj {a b:Nm} (h:a.str=b.str):a=b:=by
 have:=FO a
 rw [h,FO b] at this
 obtain rfl:=ad this; rfl
theorem Hf (x y:Str) (t:Tok):(Value.str x t).isStr y=decide (x=y):=by
 show (x==y)=_
 by_cases h:x=y
 ·subst h; simp
 ·rw [decide_eq_false h]; exact beq_eq_false_iff_ne.mpr h
structure Ar (V:av) (k:Nat) (c:iy):Prop where
 get:W.plainGet V.K (V.ba k) ""=true
 set:W.findIn V.K (.ref (V.ba k)) "__setattr__"=some (some (.builtin "object.__setattr__"))
 over:W.plainOver V.K (V.ba k)=true
 meths : ∀ n f,c.meths.lookup n=some f->W.findIn V.K (.ref (V.ba k)) n.str=some (some (.ref (V.bh f)))/\W.typeIn V.K (.ref (V.bh f))=some (.type "function")/\
  W.specialIn V.K (.ref (V.bh f)) "__get__"=some (some (.builtin "function.__get__"))/\W.takesIn V.K (.ref (V.bh f))=some false/\W.copiedNames.contains n.str=false
 init:W.findIn V.K (.ref (V.ba k)) "__init__"=some (some (.ref (V.bh c.init)))
 PU:W.typeIn V.K (.ref (V.bh c.init))=some (.type "function")
 makes:W.makesIn V.K (V.ba k)=true
 Ry:(c.meths.lookup .bX).isSome=true->W.findIn V.K (.ref (V.ba k)) "__len__"=some none/\W.findIn V.K (.ref (V.ba k)) "__length_hint__"=some none
 own:c.slots=none->W.hasDictIn V.K (V.ba k)=true/\∀ n:Nm,n.nZ=true->W.findIn V.K (.ref (V.ba k)) n.str=some none/\W.takerIn V.K (V.ba k) n.str=some none
 slots : ∀ ns,c.slots=some ns->(∀ n,ns.contains n=true->∃ p,W.findIn V.K (.ref (V.ba k)) n.str=some (some (.ref p))/\W.slotIn V.K p (V.ba k)=some (V.ij k (ns.idxOf n))/\
  W.typeIn V.K (.ref p)=some (.type "member_descriptor")/\W.specialIn V.K (.ref p) "__get__"=some (some (.builtin "member_descriptor.__get__"))/\W.takesIn V.K (.ref p)=some true/\
  W.takerIn V.K (V.ba k) n.str=some (some (.ref p)))/\(∀ i j,i<ns.length->j<ns.length->V.ij k i=V.ij k j->i=j)/\(∀ i,i<ns.length->V.ij k i<1000)/\(W.clsIn V.K (V.ba k)).isSome=true
noncomputable def av.c7 (V:av):Prop := ∀ k c,V.P.dw k=some c->Ar V k c
variable {fs:List (Option D)} {ents:List DictEntry} {ns:List Nm} {K:W.Frag} {Cc:Addr} {R:Result->Shared->Prop}
section
theorem ai.cY (B:V.Base) (I:ai V F m C g s):V.K.In s.heap:=λa o h=>I.keep a o (B.cY a o h)
set_option tactic.hygienic true in
theorem Ed (r:af V g d v):W.handedIn v=true:=by
 induction r using af.casesOn<;>first|rfl|(rename_i b; induction b using Bn.casesOn<;>decide +kernel)
inductive AA (V:av) (g:Gh) (h:Heap) (k i:Nat) (es:List (Nm × D)) (v:Value):Prop
 |mk (x dx:Addr) (ox:Obj) (ents:List DictEntry) (n:Nat) (e:v=.ref x) (hI:W.InstAt h x ox (V.ba k) (some (W.dictOf ents n))) (h1:ox.dict=some dx) (h2:g dx=some (.cell i)) (h3:h.get? dx=some (W.dictOf ents n))
  (h4:aY (iA V g) es ents) (h5:(es.map (·.1)).Nodup):AA V g h k i es v
inductive AL (V:av) (g:Gh) (h:Heap) (k i:Nat) (fs:List (Option D)) (v:Value):Prop
 |mk (x:Addr) (ox:Obj) (e:v=.ref x) (hI:W.InstAt h x ox (V.ba k) (some W.emptyDict)) (h1:g x=some (.cell i)) (h2:h.get? x=some ox) (h3:ox.data=.plain) (h4 : ∃ dx,ox.dict=some dx/\g dx=some (.aB W.emptyDict))
  (h5 : ∀ j,j<fs.length->i0 V g (fs[j]?).join (ox.slots[V.ij k j]?).join):AL V g h k i fs v
set_option tactic.hygienic true in
theorem ai.inst (I:ai V F m C g s) {k:Nat} (r:af V g (.inst k i) v) {es:List (Nm × D)} (hC:C[i]?=some (.cL es)) :
  AA V g s.heap k i es v:=by
 cases r with
 |inst h1 h2=>
  rename_i x dx sl
  obtain ⟨b,o,e1,e2,hz,ents,n,rfl,e4,e5⟩:=I.cell _ _ hC
  cases I.uniq _ _ _ h2 e1
  exact ⟨x,dx,_,ents,n,rfl,⟨I.aB _ _ h1,rfl,rfl,e2⟩,rfl,h2,e2,e4,e5⟩
theorem ai.p7 (I:ai V F m C g s) {k:Nat} (r:af V g (.loc i) v) (hC:C[i]?=some (.slots k fs)) :
  AL V g s.heap k i fs v:=by
 cases r with
 |loc h1=>
  obtain ⟨b,o,e1,e2,h2,⟨dx,h3,h4⟩,h5,h6⟩:=I.cell _ _ hC
  cases I.uniq _ _ _ h1 e1
  refine ⟨_,o,rfl,⟨e2,h2,by unfold W.notCls; rw [h5],?_⟩,h1,e2,h5,⟨dx,h3,h4⟩,h6⟩
  rw [h3]; exact I.aB _ _ h4
theorem aY.getL {es:List (Nm × D)} (h:aY (iA V g) es ents) (n:Nm) : ∃ o,W.getL n.str ents=some o/\i0 V g (es.lookup n) o:=by
 have RG : ∀ {es:List (Nm × D)} {ents:List DictEntry},aY (iA V g) es ents->ents.any (·.refKey)=false:=by
  intro es
  induction es with
  |nil=>intro ents h; induction ents using List.casesOn with|nil=>rfl|cons _ _=>exact h.elim
  |cons e es ih=>
   intro ents h
   induction ents using List.casesOn with
   |nil=>exact h.elim
   |cons en ents=>
    obtain ⟨⟨⟨t,hk⟩,_⟩,h2⟩:=h
    rw [any_cons,ih h2,Bool.or_false]
    unfold DictEntry.refKey; rw [hk]
 have find : ∀ {es:List (Nm × D)} {ents:List DictEntry},aY (iA V g) es ents->i0 V g (es.lookup n) ((ents.find? (·.key.isStr n.str)).map (·.val)):=by
  intro es
  induction es with
  |nil=>intro ents h; induction ents using List.casesOn with|nil=>exact trivial|cons _ _=>exact h.elim
  |cons e es ih=>
   intro ents h
   induction ents using List.casesOn with
   |nil=>exact h.elim
   |cons en ents=>
    obtain ⟨⟨⟨t,hk⟩,hv⟩,h2⟩:=h
    obtain ⟨e1,e2⟩:=e
    rw [lookup_cons,List.find?_cons,hk,Hf]
    by_cases q:n=e1
    ·subst q; simp only [beq_self_eq_true,decide_true]; exact hv
    ·have q':(n==e1)=false:=beq_eq_false_iff_ne.mpr q
     have q2:decide (e1.str=n.str)=false:=decide_eq_false λz=>q (Nm.inj z).symm
     simp only [q',q2]
     exact ih h2
 unfold W.getL
 have f:=find h
 induction hf:ents.find? (·.key.isStr n.str) with
 |some en=>rw [hf] at f; exact ⟨_,rfl,f⟩
 |none=>rw [hf] at f; dsimp only; rw [RG h]; exact ⟨none,rfl,f⟩
theorem Ts (B:V.Base) (aC:V.c7) (I:ai V F m C g s) {k:Nat} {n:Nm} {ex:Bool} (hx:af V g (.inst k i) a) :
  aJ V F A (af V) (getAttr a n.str ex) g s (dp (ft V.P C (.inst k i) n) ⟨m,C⟩):=by
 refine aJ.leaf λd hd Q E q=>?_
 obtain ⟨c,hc,hd⟩:=aS hd
 obtain ⟨es,hC,hd⟩:=aS hd
 obtain ⟨hb,hd⟩:=eZ hd
 rw [and_eq_true,isNone_iff_eq_none] at hb
 have ok:=aC k c hc
 obtain ⟨hD,hN⟩:=ok.own hb.1
 obtain ⟨x,dx,ox,ents,nn,rfl,hI,h1,h2,h3,h4,h5⟩:=I.inst hx (vS hC)
 obtain ⟨o,ho,hr⟩:=h4.getL n
 rw [hd] at hr
 obtain ⟨v,rfl,hr⟩:=rY hr
 exact W.get_value (I.cY B) hI (W.plainGet_of ok.get).1 (W.findObj_own (attr:=none) hD (hN n hb.2).1 rfl ho) (Ed hr) (q g _ _ (.refl g) (I.tok _) hr)
theorem PJ {n:Nm} (h:ns.contains n=true):ns.idxOf n<ns.length:=List.idxOf_lt_length_of_mem (contains_iff_mem.mp h)
theorem Tt (B:V.Base) (aC:V.c7) (I:ai V F m C g s) {k:Nat} {n:Nm} {ex:Bool} {c:iy} (hx:af V g (.loc i) a)
  (hC:C[i]?=some (.slots k fs)) (hc:V.P.dw k=some c) (hs:c.slots=some ns) (hn:ns.contains n=true) :
  aJ V F A (af V) (getAttr a n.str ex) g s (dp (fs[ns.idxOf n]?).join ⟨m,C⟩):=by
 refine aJ.leaf λd hd Q E q=>?_
 have ok:=aC k c hc
 obtain ⟨H,inj,aZ,Eg⟩:=ok.slots ns hs
 obtain ⟨p,f1,f2,f3,f4,f5,f6⟩:=H n hn
 obtain ⟨x,ox,rfl,hI,h1,h2,h3,h4,h5⟩:=I.p7 hx hC
 have hj:ns.idxOf n<fs.length:=by
  rcases Nat.lt_or_ge (ns.idxOf n) fs.length with h|h
  ·exact h
  ·rw [getElem?_eq_none h] at hd; exact aq hd
 have hr:=h5 _ hj
 rw [hd] at hr
 obtain ⟨v,hv,hr⟩:=rY hr
 refine W.get_bind (I.cY B) hI (W.plainGet_of ok.get).1 (W.findObj_data Eg f1 f4 f5) (W.plainGet_of ok.get).2 (wpAny_call ?_)
 exact W.slot_get (s:={s with toks:=s.toks+1}) (show V.K.In s.heap from I.cY B) hI f2 hv (W.handed_on (Ed hr) (q g _ _ (.refl g) (I.tok _) hr))
set_option tactic.hygienic true in
theorem R8 {x dx:Addr} {ox:Obj} {es:List DictEntry} {name:Str} {tk:Tok} (X:K.In s.heap)
  (I:W.InstAt s.heap x ox Cc (some (W.dictOf es n))) (hd:ox.dict=some dx) (hp:W.plainOver K Cc=true) (ht:W.takerIn K Cc name=some none) (hh:(W.clsIn K Cc).any (·.hasDict)=true)
  (hl:(W.getL name es).isSome=true) (D:s.heap.get? dx=some (W.dictOf es n)) (hz:(W.putL name (PyData.keyHash w.params name) (.str name s.toks) v es).length<=1000)
  (h:R (.ok (.ret .none)) {s with heap:=s.heap.update dx (Obj.putName name (PyData.keyHash w.params name) (.str name s.toks) v),toks:=s.toks+1}) :
  codeAny (model prog w) A (.call (.builtin "object.__setattr__") ⟨[.ref x,.str name tk,v],[]⟩) R s:=by
 refine W.osa_open X I hp ht λb=>?_
 obtain ⟨cd,hc,gp⟩:=W.any_some hh
 have D':(s.heap.update dx (Obj.putName name (PyData.keyHash w.params name) (.str name s.toks) v)).get? dx=some (W.dictOf (W.putL name (PyData.keyHash w.params name) (.str name s.toks) v es) (W.putN name es n)):=by
  rw [<-W.putName_dict]
  refine Heap.get?_update_self _ D ?_
  rw [W.putName_dict]; rfl
 obtain ⟨hx,aC,hn,-⟩:=I
 obtain ⟨oc,Xh,FU,R9⟩:=ox
 dsimp only at aC hd
 subst aC hd
 refine ce (cr (ce (ce (wpAny_loadPart hx (ce ((W.looks_clsIn X hc).here ?_))))))
 rw [gp]
 refine cr (a:=some dx) (ce (cr (ce ?_)))
 unfold nsSet
 refine ce (ce (wpAny_askSetting (cr (ce (wpAny_mkText (ce (wpAny_loadPart D ?_)))))))
 dsimp only
 have c:(!es.toArray.any (·.key.isStr name)&&es.toArray.any (·.refKey))=false:=by
  rw [<-Array.any_toList,<-Array.any_toList]
  unfold W.getL at hl
  split at hl
  ·rename_i en he
   rw [any_eq_true.mpr ⟨en,mem_of_find?_eq_some he,find?_some he⟩]; rfl
  ·split at hl
   ·exact bA hl
   ·rename_i z; rw [not_eq_true] at z; simp only [z,Bool.and_false]
 rw [aRefKeyMayBeTheName_at,c]
 refine wpAny_updatePart D ?_
 refine ce (wpAny_lookBehind D' (pastItsLine_dict (an hz (by decide))) ?_)
 exact cr h
theorem QY {n:Nm} : ∀ {es:List (Nm × D)} {x:Nm},x∈(putL n d es).map (·.1)->x=n\/x∈es.map (·.1):=λ{es}=>by
 induction es with
 |nil=>
  intro x h
  exact .inl (ca h)
 |cons e r ih=>
  intro x h
  rw [ot] at h
  split at h
  ·exact .inr h
  ·simp only [map_cons,mem_cons] at h ⊢
   rcases h with h|h
   ·exact .inr (.inl h)
   ·rcases ih h with h|h
    ·exact .inl h
    ·exact .inr (.inr h)
theorem RF {n:Nm} : ∀ {es:List (Nm × D)},(es.map (·.1)).Nodup->((putL n d es).map (·.1)).Nodup:=λ{es}=>by
 induction es with
 |nil=>
  intro _
  exact nodup_cons.mpr ⟨not_mem_nil,nodup_nil⟩
 |cons e r ih=>
  intro h
  rw [ot]
  split
  ·exact h
  ·rename_i q
   simp only [map_cons,nodup_cons] at h ⊢
   refine ⟨λz=>?_,ih h.2⟩
   rcases QY z with z|z
   ·exact q (by rw [z]; exact beq_self_eq_true _)
   ·exact h.1 z
theorem Fq [BEq α] {n:α} : ∀ {es:List (α × D)},(putL n d es).length<=es.length+1:=λ{es}=>by
 induction es with
 |nil=>
  exact le_refl _
 |cons e r ih=>
  rw [ot]
  split
  ·exact le_succ _
  ·exact succ_le_succ ih
theorem aY.length {R:α->β->Prop} : ∀ {as:List α} {bs:List β},aY R as bs->as.length=bs.length
 |[],[],_=>rfl
 |_::_,_::_,h=>congrArg (· + 1) h.2.length
 |[],_::_,h=>h.elim
 |_::_,[],h=>h.elim
theorem aY.putL {n:Nm} {hs:Int} (r:af V g d v) {es:List (Nm × D)} (h:aY (iA V g) es ents) :
  aY (iA V g) (Mine.Lake.putL n d es) (W.putL n.str hs (.str n.str t) v ents):=
 h.ind (P:=λes ents=>aY (iA V g) (Mine.Lake.putL n d es) (W.putL n.str hs (.str n.str t) v ents)) ⟨⟨⟨t,rfl⟩,r⟩,trivial⟩ λe en es ents a h2 ih=>by
  obtain ⟨⟨t',hk⟩,hv⟩:=a
  rw [ot]
  unfold W.putL
  rw [hk,Hf]
  by_cases q:e.1=n
  ·rw [q,beq_self_eq_true,decide_eq_true rfl]
   exact ⟨⟨⟨t',rfl⟩,r⟩,h2⟩
  ·rw [beq_eq_false_iff_ne.mpr q,decide_eq_false λz=>q (Nm.inj z)]
   exact ⟨⟨⟨t',hk⟩,hv⟩,ih⟩
theorem Uz (sl:Array (Option Value)) (i i':Nat) (v:Value):(((sl++Array.replicate (i+1 - sl.size) none).setIfInBounds i (some v))[i']?).join=if i'=i then some v else (sl[i']?).join:=by
 rw [Array.getElem?_setIfInBounds]
 by_cases e:i=i'
 ·subst e
  rw [if_pos rfl,if_pos rfl,if_pos (by rw [Array.size_append,Array.size_replicate]; exact Nat.sub_le_iff_le_add'.mp (le_refl _))]; rfl
 ·rw [if_neg e,if_neg (Ne.symm e)]
  rw [Array.getElem?_append]
  split
  ·rfl
  ·rename_i h
   rw [Array.getElem?_replicate,Array.getElem?_eq_none (le_of_not_lt h)]
   split<;>rfl
open PySem PySem.W PySem.Calls PyProof.Rows Builtin Builtin.ObjectAttr Builtin.Getset_descriptor in
theorem Uy {x:Addr} {ox:Obj} {od:Option Obj} {p:Nat} (X:K.In s.heap) (I:W.InstAt s.heap x ox Cc od)
  (hp:W.slotIn K p Cc=some i) (hi:i<1000)
  (h:R (.ok (.ret .none)) {s with heap:=s.heap.update x (λo=>{o with slots:=(o.slots++Array.replicate (i+1 - o.slots.size) none).setIfInBounds i (some v)})}) :
  codeAny (model prog w) A (.call (.builtin "member_descriptor.__set__") ⟨[.ref p,.ref x,v],[]⟩) R s:=by
 obtain ⟨n,tn,owner,behind,tb,d,sl,cd,ho,hc,hm,hb,rfl⟩:=W.slot_of X hp
 obtain ⟨hh,g,dr,t,os⟩:=s
 have L0:=I.type (M:=model prog w)
 have L1:=W.looks_mroIn (M:=model prog w) X hm
 have L2:Looks (model prog w) hh (Slots.slotNamesOf (.ref Cc)) cd.slotNames:=(W.looks_clsIn X hc).andThen .now
 have hx:=I.at_
 dsimp only at ho hx L0 L1
 have f0:=W.looks_field (M:=model prog w) ho 0 (v:=.str n tn) rfl
 have f1:=W.looks_field (M:=model prog w) ho 1 (v:=owner) rfl
 have f3:=W.looks_field (M:=model prog w) ho 3 (v:=.builtin "proto.slot#set") rfl
 have f4:=W.looks_field (M:=model prog w) ho 4 (v:=.int behind tb) rfl
 refine codeAny_call_builtin W.KF.slot_mset.plain W.KF.entry_mset (W.KF.slot_mset.check _ _ _ _ _ _ _ _ ⟨_,ho,rfl⟩ (W.KF.args_mset _ _ _) ?_)
 unfold Builtin.«member_descriptor.__set__» descrSet descrStoreThrough descrCheckInstance descrNameAndClass isInstance
 have f5:Looks (model prog w) hh (descrItself (.ref p)) [.ref p]:=((W.Looks.ld (part:=none) ho).andThen .now).andThen (Looks.of_pure (by kernel_rfl))
 repeat lk
 refine ⟨Code.quiet_builtin _ (by decide +kernel),codeAny_builtin W.KF.entry_slotset ?_⟩
 unfold Builtin.«proto.slot#set» Slots.target
 repeat lk
 rw [if_neg hb]
 refine cr (ce ?_)
 unfold setSlotAt
 dsimp only
 rw [if_neg (Nat.not_le.mpr (lt_trans hi (by decide)))]
 exact wpAny_updatePart hx (cr h)
theorem Uk (B:V.Base) (aC:V.c7) (I:ai V F m C g s) {k:Nat} {n:Nm} {c:iy} {es:List (Nm × D)} (hx:af V g (.inst k i) a) (hv:af V g d v) (hc:V.P.dw k=some c)
  (hC:C[i]?=some (.cL es)) (hs:c.slots=none) (hn:n.nZ=true) (hl:es.length<64):aJ V F A d7 (setAttr a n.str v) g s (.ok () ⟨m,C.set i (.cL (putL n d es))⟩):=λQ E q=>by
 have ok:=aC k c hc
 obtain ⟨hD,hN⟩:=ok.own hs
 obtain ⟨x,dx,ox,ents,nn,rfl,hI,h1,h2,h3,h4,h5⟩:=I.inst hx hC
 obtain ⟨ov,O2,_⟩:=h4.getL n
 have h6:=aY.putL (n:=n) (hs:=PyData.keyHash V.w.params n.str) (t:=s.toks+1) hv h4
 have hz:(putL n d es).length<=64:=an Fq hl
 refine W.set_plain (I.cY B) hI ok.set ?_
 refine R8 (s:={s with toks:=s.toks+1}) (show V.K.In s.heap from I.cY B) hI h1 ok.over (hN n hn).2 hD (by rw [O2]; rfl) h3 (an (h6.length ▸ hz) (by decide)) ?_
 have D':(s.heap.update dx (Obj.putName n.str (PyData.keyHash V.w.params n.str) (.str n.str (s.toks+1)) v)).get? dx=some (W.dictOf (W.putL n.str (PyData.keyHash V.w.params n.str) (.str n.str (s.toks+1)) v ents) (W.putN n.str ents nn)):=by
  rw [<-W.putName_dict]
  refine Heap.get?_update_self _ h3 ?_
  rw [W.putName_dict]; rfl
 exact q g () _ (.refl g) (I.cellSet h2 (mo ..) D' ⟨hz,_,_,rfl,h6,RF h5⟩) trivial
theorem Ul (B:V.Base) (aC:V.c7) (I:ai V F m C g s) {k:Nat} {n:Nm} {c:iy} (hx:af V g (.loc i) a) (hv:af V g d v) (hc:V.P.dw k=some c)
  (hC:C[i]?=some (.slots k fs)) (hs:c.slots=some ns) (hn:ns.contains n=true) (hl:fs.length=ns.length):aJ V F A d7 (setAttr a n.str v) g s (.ok () ⟨m,C.set i (.slots k (fs.set (ns.idxOf n) (some d)))⟩):=λQ E q=>by
 have ok:=aC k c hc
 obtain ⟨H,inj,aZ,Eg⟩:=ok.slots ns hs
 obtain ⟨p,f1,f2,f3,f4,f5,f6⟩:=H n hn
 obtain ⟨x,ox,rfl,hI,h1,h2,h3,h4,h5⟩:=I.p7 hx hC
 have hj:=PJ hn
 refine W.set_plain (I.cY B) hI ok.set ?_
 refine W.osa_descr (s:={s with toks:=s.toks+1}) W.KF.slot_mset (show V.K.In s.heap from I.cY B) hI ok.over f6 f3 ?_
 refine Uy (s:={s with toks:=s.toks+1}) (show V.K.In s.heap from I.cY B) hI f2 (aZ _ hj) ?_
 have D':=Heap.get?_update_self (λo=>{o with slots:=(o.slots++Array.replicate (V.ij k (ns.idxOf n)+1 - o.slots.size) none).setIfInBounds (V.ij k (ns.idxOf n)) (some v)}) h2 (by show Obj.isFreed _=false; unfold Obj.isFreed; simp only [h3])
 refine q g () _ (.refl g) (I.cellSet h1 (mo ..) D' ⟨hI.cls,h4,h3,λj pq=>?_⟩) trivial
 rw [length_set] at pq
 rw [Uz,getElem?_set]
 by_cases e:ns.idxOf n=j
 ·subst e
  rw [if_pos rfl,if_pos rfl,if_pos pq]
  exact hv
 ·rw [if_neg e,if_neg λz=>e (inj _ _ hj (hl ▸ pq) z.symm)]
  exact h5 j pq
theorem GP (B:V.Base) (aC:V.c7) (I:ai V F m C g s) {o:D} {n:Nm} (hx:af V g o a) (hv:af V g d v) :
  aJ V F A d7 (setAttr a n.str v) g s (hZ (fG V.P o n d C) m):=by
 induction ho:fG V.P o n d C with
 |none=>trivial
 |some C'=>
  show aJ V F A d7 (setAttr a n.str v) g s (.ok () ⟨m,C'⟩)
  induction o using D.casesOn<;>first|exact aq ho|skip
  ·obtain ⟨ch,hC,ho⟩:=aS ho
   induction ch using Ch.casesOn<;>first|exact aq ho|skip
   obtain ⟨c,hc,ho⟩:=aS ho
   obtain ⟨ns,hs,ho⟩:=aS ho
   obtain ⟨hb,ho⟩:=eZ ho
   rw [and_eq_true,decide_eq_true_eq] at hb
   obtain rfl:=ad ho
   exact Ul B aC I hx hv hc hC hs hb.1 hb.2
  ·obtain ⟨c,hc,ho⟩:=aS ho
   obtain ⟨es,hC,ho⟩:=aS ho
   obtain ⟨hb,ho⟩:=eZ ho
   rw [and_eq_true,and_eq_true,isNone_iff_eq_none,decide_eq_true_eq] at hb
   obtain rfl:=ad ho
   exact Uk B aC I hx hv hc (vS hC) hb.1.1 hb.1.2 hb.2
end
end Mine.Lake
end
section
set_option maxRecDepth 100000
open PySem PySem.W PySem.Calls PyProof.Rows Builtin
namespace Mine.Lake
variable {a:Addr} {P:Fin->Shared->Prop} {Q:Value->Shared->Prop}
namespace AB
theorem slot_get:Slot "wrapper_descriptor" "__get__" "wrapper_descriptor.__get__":=
 .of (owner:="wrapper_descriptor") (n:="__get__") (by rw [typeLookup_type,builtinLookup_eq_fast]; kernel_rfl) (by decide +kernel) (by decide +kernel) (by decide +kernel)
  (by first|exact .inl (by decide +kernel)|exact .inr (by decide +kernel)) (by rw [isSubtype_type]; kernel_rfl)
theorem L5:entryFor table "wrapper_descriptor.__get__"=some Builtin.«wrapper_descriptor.__get__» := entryFor_of_tree (by kernel_rfl)
theorem Im (a b c:Value):argsOk "wrapper_descriptor.__get__" ⟨[a,b,c],[]⟩:=by unfold argsOk; kernel_rfl
theorem Wf:typeOf (.builtin "list.__contains__")=pure (.type "wrapper_descriptor"):=by show builtinType _=_; rw [builtinType_eq_fast]; kernel_rfl
theorem Wg:typeOf (.builtin "list_iterator.__next__")=pure (.type "wrapper_descriptor"):=by show builtinType _=_; rw [builtinType_eq_fast]; kernel_rfl
theorem RE:typeLookup (.type "wrapper_descriptor") "__set__"=pure none:=by rw [typeLookup_type,builtinLookup_eq_fast]; kernel_rfl
theorem RD:typeLookup (.type "wrapper_descriptor") "__delete__"=pure none:=by rw [typeLookup_type,builtinLookup_eq_fast]; kernel_rfl
theorem Qv:typeLookup (.type "wrapper_descriptor") "__get__"=pure (some (.builtin "wrapper_descriptor.__get__")):=slot_get.lookup
theorem Qw:typeLookup (.type "list") "__contains__"=pure (some (.builtin "list.__contains__")):=by rw [typeLookup_type,builtinLookup_eq_fast]; kernel_rfl
theorem Qx:typeLookup (.type "list_iterator") "__next__"=pure (some (.builtin "list_iterator.__next__")):=by rw [typeLookup_type,builtinLookup_eq_fast]; kernel_rfl
theorem QA {M:Model} {h:Heap} {v:Value} (ht:typeOf v=pure (.type "wrapper_descriptor")):Looks M h (ObjectAttr.takesStores v) false:=by
 unfold ObjectAttr.takesStores
 have s1:Looks M h (specialOf v (Str.ofString "__set__")) none:=(Looks.of_pure ht).andThen (Looks.of_pure RE)
 have s2:Looks M h (specialOf v (Str.ofString "__delete__")) none:=(Looks.of_pure ht).andThen (Looks.of_pure RD)
 refine s1.andThen ?_
 simp only [Option.isSome_none,false_eq_true,if_false]
 exact s2.andThen .now
theorem Qy {M:Model} {h:Heap} {a:Addr} {o:Obj} {T:String} {name:Str} {id:String} (hx:h.get? a=some o) (hc:o.cls=.type T) (hn:W.notCls o=true) (hd:o.dict=none)
  (hl:typeLookup (.type T) name=pure (some (.builtin id))) (ht:typeOf (.builtin id)=pure (.type "wrapper_descriptor")) (hg:W.copiedNames.contains name=false) :
  Looks M h (ObjectAttr.find (.ref a) (.type T) name) (.bind (.builtin "wrapper_descriptor.__get__") (.builtin id)):=by
 obtain ⟨oc,od,FU,R9⟩:=o
 dsimp only at hc hd
 subst hc hd
 unfold ObjectAttr.find
 refine (Looks.of_pure hl).andThen ?_
 refine (show Looks M h (ObjectAttr.getOf _) (some (.builtin "wrapper_descriptor.__get__")) from (Looks.of_pure ht).andThen (Looks.of_pure Qv)).andThen ?_
 refine (show Looks M h (ObjectAttr.dataDescriptor? _ _) none from by
  show Looks M h (ObjectAttr.takesStores (.builtin id) >>= λr=>if r=true then _ else _) none
  refine (QA ht).andThen ?_
  simp only [false_eq_true,if_false]
  exact .now).andThen ?_
 unfold ObjectAttr.ownThenClass
 have L:Looks M h (instanceDict a false) none:=by
  unfold instanceDict
  exact (Looks.ld hx).andThen .now
 have L1:Looks M h (ObjectAttr.ownDict a) none:=by
  unfold ObjectAttr.ownDict
  refine (Looks.ld hx).andThen ?_
  induction FU using Data.casesOn<;>first|exact L|exact bA hn
 refine (show Looks M h (ObjectAttr.inOwnDict name (.ref a)) none from L1.andThen .now).andThen ?_
 have nI:(["__module__","__name__","__qualname__","__doc__","__annotations__"]:List Str).contains name=false:=hg
 refine (show Looks M h (ObjectAttr.copiedAttributeGuard name (.ref a)) () from by
  unfold ObjectAttr.copiedAttributeGuard
  simp only [nI]
  exact .now).andThen ?_
 exact Looks.tag .now
section
variable {prog:Program} {w:World} {A:Around} {E:Value->Shared->Prop} {s:Shared}
theorem IU (hs:Looks (model prog w) s.heap (isInstance (.ref a) (.type "list")) true)
  (h:P (.done (.ret (.ref s.heap.objs.size))) {s with heap:=s.heap.push {cls:=.type "method-wrapper",data:=.fields #[.builtin "list.__contains__",.ref a]}}) :
  wpAny (model prog w) A (Builtin.«wrapper_descriptor.__get__» ⟨[.builtin "list.__contains__",.ref a,.type "list"],[]⟩) P E s:=by
 unfold Builtin.«wrapper_descriptor.__get__»
 refine ce (wpAny_of_eq (a:=(.builtin "list.__contains__",some (.ref a),some (.type "list"))) (by first|rfl|kernel_rfl) ?_)
 refine ce ?_
 refine ce (wpAny_of_eq (a:=((Str.ofString "__contains__"),Value.type "list")) (by first|rfl|kernel_rfl) ?_)
 refine ce (hs.here ?_)
 refine cr ?_
 exact ce (wpAny_newObj_type (cr h))
theorem IV (hs:Looks (model prog w) s.heap (isInstance (.ref a) (.type "list_iterator")) true)
  (h:P (.done (.ret (.ref s.heap.objs.size))) {s with heap:=s.heap.push {cls:=.type "method-wrapper",data:=.fields #[.builtin "list_iterator.__next__",.ref a]}}) :
  wpAny (model prog w) A (Builtin.«wrapper_descriptor.__get__» ⟨[.builtin "list_iterator.__next__",.ref a,.type "list_iterator"],[]⟩) P E s:=by
 unfold Builtin.«wrapper_descriptor.__get__»
 refine ce (wpAny_of_eq (a:=(.builtin "list_iterator.__next__",some (.ref a),some (.type "list_iterator"))) (by first|rfl|kernel_rfl) ?_)
 refine ce ?_
 refine ce (wpAny_of_eq (a:=((Str.ofString "__next__"),Value.type "list_iterator")) (by first|rfl|kernel_rfl) ?_)
 refine ce (hs.here ?_)
 refine cr ?_
 exact ce (wpAny_newObj_type (cr h))
theorem Kw:W.copiedNames.contains (Str.ofString "__contains__")=false:=by decide +kernel
theorem Kx:W.copiedNames.contains (Str.ofString "__next__")=false:=by decide +kernel
set_option maxHeartbeats 4000000 in
theorem DW {T id gid:String} {name:Str} {o:Obj} (hx:s.heap.get? a=some o) (hc:o.cls=.type T) (hn:W.notCls o=true) (hd:o.dict=none)
  (hl:typeLookup (.type T) name=pure (some (.builtin id))) (ht:typeOf (.builtin id)=pure (.type "wrapper_descriptor")) (hg:W.copiedNames.contains name=false)
  (sg:Slot T "__getattribute__" gid) (eg:entryFor table gid=some Builtin.«object.__getattribute__») (ag : ∀ a b,argsOk gid ⟨[a,b],[]⟩)
  (fin : ∀ {P:Fin->Shared->Prop} {A':Around} {E':Value->Shared->Prop} {s':Shared},s'.heap=s.heap->P (.done (.ret (.ref s'.heap.objs.size))) {s' with heap:=s'.heap.push {cls:=.type "method-wrapper",data:=.fields #[.builtin id,.ref a]}}->
   wpAny (model prog w) A' (Builtin.«wrapper_descriptor.__get__» ⟨[.builtin id,.ref a,.type T],[]⟩) P E' s')
  (h:Q (.ref s.heap.objs.size) {s with heap:=s.heap.push {cls:=.type "method-wrapper",data:=.fields #[.builtin id,.ref a]},toks:=s.toks+1}) :
  wpAny (model prog w) A (getAttr (.ref a) name true) Q E s:=by
 obtain ⟨hp,g,d,tk,os⟩:=s
 dsimp only at hx fin
 have lf := @Qy (model prog w) hp a o T name id hx hc hn hd hl ht hg
 have hT : ∀ V2,(⟨hp,g,d,V2,os⟩:Shared).TypeIs (.ref a) T:=λu'=>⟨_,hx,hc⟩
 have lT:Looks (model prog w) hp (typeOf (.ref a)) (.type T):=hc ▸ (Looks.ld hx).andThen .now
 have f3:=sg.lookup
 have f4:=sg.bind (.ref a)
 unfold getAttr getAttrBy
 refine ce (wpAny_mkText (ls (ce (lT.at (ce (wpAny_of_eq f3 ?_))))))
 dsimp only
 rw [if_neg (show ¬ ((onTheHeap (.type T)&&Value.builtin gid==Value.builtin "object.__getattribute__")=true) by rw [show onTheHeap (.type T)=false from rfl]; exact Bool.false_ne_true)]
 unfold getAttrByItsOwn
 refine ce (wpAny_of_eq (a:=none) rfl ?_)
 refine ce (wpAny_attempt (ls ?_))
 unfold callGetattribute
 rw [if_neg (show ¬ ((true&&onTheHeap (Value.builtin gid))=true) by rw [show onTheHeap (Value.builtin gid)=false from rfl]; exact Bool.false_ne_true)]
 unfold boundAndCalled
 refine ce (wpAny_of_eq f4 ?_)
 refine wpAny_call_entry sg (hT _) eg ?_ (ag _ _)
 unfold Builtin.«object.__getattribute__»
 refine ce (wpAny_of_eq (a:=(.ref a,[Value.str name tk])) (by first|rfl|kernel_rfl) ?_)
 refine ce (wpAny_of_eq (a:=name) (by first|rfl|kernel_rfl) ?_)
 refine ce (lT.at ?_)
 refine ce (lf.at ?_)
 show wpAny _ _ (holding [Value.builtin id] (call (.builtin "wrapper_descriptor.__get__") [.builtin id,.ref a,.type T]) >>= λv=>ret v) _ _ _
 refine ce (ls (wpAny_call_entry slot_get ht L5 ?_ (Im _ _ _)))
 refine fin rfl ⟨_,rfl,?_⟩
 refine cr ⟨_,rfl,?_⟩
 exact cr h
theorem VT:isSubtype (.type "list") (.type "list")=pure true:=by rw [isSubtype_type]; kernel_rfl
theorem VS:isSubtype (.type "list_iterator") (.type "list_iterator")=pure true:=by rw [isSubtype_type]; kernel_rfl
theorem Ux:Slot "list_iterator" "__getattribute__" "object.__getattribute__":=
 .of (owner:="object") (n:="__getattribute__") (by rw [typeLookup_type,builtinLookup_eq_fast]; kernel_rfl) (by decide +kernel) (by decide +kernel) (by decide +kernel)
  (by first|exact .inl (by decide +kernel)|exact .inr (by decide +kernel)) (by rw [isSubtype_type]; kernel_rfl)
theorem Io (a b:Value):argsOk "object.__getattribute__" ⟨[a,b],[]⟩:=by unfold argsOk; kernel_rfl
theorem L6:entryFor table "object.__getattribute__"=some Builtin.«object.__getattribute__» := entryFor_of_tree (by kernel_rfl)
theorem Nq {o:Obj} (hx:s.heap.get? a=some o) (hc:o.cls=.type "list") (hn:W.notCls o=true) (hd:o.dict=none)
  (h:Q (.ref s.heap.objs.size) {s with heap:=s.heap.push {cls:=.type "method-wrapper",data:=.fields #[.builtin "list.__contains__",.ref a]},toks:=s.toks+1}) :
  wpAny (model prog w) A (getAttr (.ref a) (Str.ofString "__contains__") true) Q E s:=by
 have lI:Looks (model prog w) s.heap (isInstance (.ref a) (.type "list")) true:=(hc ▸ (Looks.ld hx).andThen .now:Looks (model prog w) s.heap (typeOf (.ref a)) (.type "list")).andThen (Looks.of_pure VT)
 refine DW (T:="list") (id:="list.__contains__") (gid:="list.__getattribute__") hx hc hn hd Qw Wf Kw F.slot_list_getattribute am_entry_list_getattribute F.args_list_getattribute_2 (λ{P A' E' s'} e z=>IU (e ▸ lI) z) h
theorem Nr {o:Obj} (hx:s.heap.get? a=some o) (hc:o.cls=.type "list_iterator") (hn:W.notCls o=true) (hd:o.dict=none)
  (h:Q (.ref s.heap.objs.size) {s with heap:=s.heap.push {cls:=.type "method-wrapper",data:=.fields #[.builtin "list_iterator.__next__",.ref a]},toks:=s.toks+1}) :
  wpAny (model prog w) A (getAttr (.ref a) (Str.ofString "__next__") true) Q E s:=by
 have lI:Looks (model prog w) s.heap (isInstance (.ref a) (.type "list_iterator")) true:=(hc ▸ (Looks.ld hx).andThen .now:Looks (model prog w) s.heap (typeOf (.ref a)) (.type "list_iterator")).andThen (Looks.of_pure VS)
 refine DW (T:="list_iterator") (id:="list_iterator.__next__") (gid:="object.__getattribute__") hx hc hn hd Qx Wg Kx Ux L6 Io (λ{P A' E' s'} e z=>IV (e ▸ lI) z) h
end
end AB
end Mine.Lake
end
section
open PySem PyProof.Rows
namespace Mine.Lake
theorem Rv : ∀ p∈FN,p.1=p.2.str:=by decide +kernel
variable {β:Type}
theorem QD : ∀ {l:List (Str × β)} {x:Str} {b:β},l.lookup x=some b->(x,b)∈l:=λ{l}=>by
 induction l with
 |nil=>
  intro _ _ h
  exact aq h
 |cons e r ih=>
  intro x b h
  rw [lookup_cons] at h
  split at h
  ·rename_i q
   obtain rfl:=ad h
   rw [eq_of_beq q]
   exact .head _
  ·exact .tail _ (ih h)
variable {x:Str}
theorem oh {n:Nm} (h:df x=some n):x=n.str:=Rv _ (QD h)
variable {V:av} {G:a0} {F:aD} {A:Around} {cl:Calls} {m:List (Option D)} {C:ah} {g g':Gh} {s:Shared} {i:Nat} {v fv:Value} {ds:List D} {src d:D} {p pos:Pos} {o:Expr} {attr:Str} {env:Env} {f:Expr->E} {keywords:List (Option Str × Sem Value)} {Q:Value->Shared->Prop}
inductive Aq (V:av) (g:Gh) (h:Heap) (i:Nat) (ds:List D) (v:Value):Prop
 |mk (a:Addr) (vs:List Value) (n:Nat) (e:v=.ref a) (hg:g a=some (.cell i)) (hl:IsL h a vs.toArray n) (hz:vs.length<=aH) (rs:aI V g ds vs):Aq V g h i ds v
theorem ai.mz (I:ai V F m C g s) (r:af V g (.loc i) v) (hC:C[i]?=some (.list ds)):Aq V g s.heap i ds v:=by
 cases r with
 |loc h1=>
  obtain ⟨b,o,e1,e2,vs,⟨hl,n,rfl⟩,e4⟩:=I.cell _ _ hC
  cases I.uniq _ _ _ h1 e1
  exact ⟨_,vs,n,rfl,h1,e2,hl,e4⟩
theorem ai.lr (I:ai V F m C g s) (o:Obj) (hf:o.isFreed=false) (t:Nat):g.Step (g.put s.heap.objs.size (some (.aB o)))/\ai V F m C (g.put s.heap.objs.size (some (.aB o))) {s with heap:=s.heap.push o,toks:=t}:=
 ⟨Gh.oF I.fI,I.zi o hf t⟩
theorem TL (I:ai V F m C g s) {a:Value} {p:Nat} (hx:af V g (.loc i) a) (hC:C[i]?=some (.bq src p)) (hs:(a9 C src).isSome=true) :
  aJ V F A (af V) (getAttr a (Str.ofString "__next__") true) g s (.ok (.bm .bX (.loc i)) ⟨m,C⟩):=λQ E q=>by
 obtain ⟨l,h1,rfl⟩:=hx.gA
 obtain ⟨b,o,e1,e2,e3⟩:=I.cell _ _ hC
 cases I.uniq _ _ _ h1 e1
 have xb : ∃ v t,fm "list_iterator" [v,.int p t] o/\af V g src v:=by
  induction src using D.casesOn<;>first|exact e3|exact bA hs
 obtain ⟨v,t,rfl,_⟩:=xb
 refine AB.Nr e2 rfl rfl rfl ?_
 obtain ⟨st,I'⟩:=I.lr {cls:=.type "method-wrapper",data:=.fields #[.builtin "list_iterator.__next__",.ref l]} rfl (s.toks+1)
 exact q _ _ _ st I' (.oW (Gh.bz ..) rfl (.loc (st.toLe.cell _ _ h1)))
theorem GC (B:V.Base) (aC:V.c7) (I:ai V F m C g s) {o:D} {n:Nm} {a:Value} (hx:af V g o a) :
  aJ V F A (af V) (getAttr a n.str true) g s (dp (ft V.P C o n) ⟨m,C⟩):=by
 have contains : ∀ {d:D},af V g d a->(∃ l vs k,a=.ref l/\IsL s.heap l vs k)->aJ V F A (af V) (getAttr a (Str.ofString "__contains__") true) g s (.ok (.bm .bk d) ⟨m,C⟩):=λ{d} hr ⟨l,vs,k,e,hl⟩ Q E q=>by
  subst e
  refine AB.Nq hl rfl rfl rfl ?_
  obtain ⟨st,I'⟩:=I.lr {cls:=.type "method-wrapper",data:=.fields #[.builtin "list.__contains__",.ref l]} rfl (s.toks+1)
  exact q _ _ _ st I' (.oV (Gh.bz ..) rfl (hr.mono st.toLe))
 induction o using D.casesOn with
 |inst k i=>exact Ts B aC I hx
 |lst ds=>
  induction n using Nm.casesOn<;>first|trivial|skip
  obtain ⟨l,vs,k,e,hl,_⟩:=I.list hx (ds:=ds) rfl
  exact contains hx ⟨l,_,k,e,hl⟩
 |loc i=>
  refine aJ.opt λd hd=>?_
  obtain ⟨ch,hC,hd⟩:=aS hd
  induction ch using Ch.casesOn<;>first|exact aq hd|skip
  ·induction n using Nm.casesOn<;>first|exact aq hd|skip
   obtain rfl:=ad hd
   obtain ⟨l,vs,k,e,_,hl,_⟩:=I.mz hx hC
   exact contains hx ⟨l,_,k,e,hl⟩
  ·obtain ⟨c,hc,hd⟩:=aS hd
   obtain ⟨ns,hs,hd⟩:=aS hd
   obtain ⟨hn,hd⟩:=eZ hd
   have:=Tt (A:=A) (ex:=true) B aC I hx hC hc hs hn
   rw [hd] at this; exact this
  ·induction n using Nm.casesOn<;>first|exact aq hd|skip
   obtain ⟨hs,hd⟩:=eZ hd
   obtain rfl:=ad hd
   exact TL I hx hC hs
 |_=>trivial
theorem vZ {w:Sem Value} (h:n3 o=false):attributeBase o attr env w=w:=by
 induction o using Expr.casesOn with
 |Call f as ks q=>induction f using Expr.casesOn<;>first|rfl|(induction as using List.casesOn<;>first|rfl|(induction ks using List.casesOn<;>first|exact fJ h|rfl))
 |_=>rfl
theorem UQ (B:V.Base) (aC:V.c7) {v:Expr} {n:Nm} {a:E} (hv:n3 v=false) (hn:df attr=some n) (h:aA V F A cl a v) :
  aA V F A cl (.attr a n) (.Attribute v attr p):=by
 have e:=oh hn
 subst e
 refine .of rfl λm C g s I=>?_
 refine aj.seq (h m C g s I).1 (λQ E x=>Attribute_any_ x ?_) λd st aV au w u' u' aF r=>GC B aC aF r
 show (do let o <-attributeBase v n.str F.env (eval v F.env); _)=_
 rw [vZ hv]
theorem wB {M:Model} {E:Value->Shared->Prop} {f:Value} {first:List Value} {args:List (Bool × Sem Value)}
  (h:wpAny M A (evalArgs f true args keywords) (λa au=>(∃ k,W.Looks M au.heap (keeperOf f) k)/\wpAny M A (call f (first++a.pos) a.kw) Q E au) E s):wpAny M A (callWith pos f first args keywords) Q E s:=by
 unfold callWith
 refine ce (ls (gl h (λa au et=>ce (wpAny_standAt ?_)) λu' u' x=>x))
 obtain ⟨⟨k,L⟩,et⟩:=et
 refine ce (L.here ?_)
 have tail : ∀ {t:Sem Value},wpAny M A t Q E au->wpAny M A (t >>= λr=>holding [r] point >>= λu'=>pure r) Q E au:=
  λht=>ce (gl ht (λr aM hr=>ce (ls (wpAny_point (cr hr)))) λu' u' x=>x)
 have marked (mk:Value):wpAny M A (callMarked mk f (first++a.pos) a.kw) Q E au:=by unfold callMarked; exact Calls.wpAny_keep et
 have R3 (vs:List Value):wpAny M A (operate vs (call f (first++a.pos) a.kw)) Q E au:=Wr et
 induction (args.any (·.1)||keywords.any (·.1.isNone))<;>cases k<;>dsimp only<;>first|exact tail et|exact tail (R3 _)|exact tail (marked _)|(split<;>first|exact tail et|exact tail (marked _))
noncomputable def iB (V:av) (g:Gh):List (Nm × D)->List (Str × Value)->Prop:=aY λa b=>b.1=a.1.str/\af V g a.2 b.2
theorem iB.mono (L:g.Le g') {a:List (Nm × D)} {b:List (Str × Value)} (h:iB V g a b):iB V g' a b:=aY.imp (λu' u' x=>⟨x.1,x.2.mono L⟩) h
theorem iB.snoc {n:Nm} (r:af V g d v) {a:List (Nm × D)} {b:List (Str × Value)} (h:iB V g a b):iB V g (a++[(n,d)]) (b++[(n.str,v)]):=
 aY.append h (And.intro ⟨rfl,r⟩ trivial)
noncomputable def du (M:Model) (A:Around) (f:Value) (pos:List Value) (kw:List (Str × Value)):Tr Value:=λQ E s=>(∃ k,W.Looks M s.heap (keeperOf f) k)/\wpAny M A (call f pos kw) Q E s
noncomputable def sY (V:av) (F:aD) (A:Around) (cl:Calls):Prop := ∀ {m C g s} {f:D} {v:Value} {ds:List D} {vs:List Value} {ks:List (Nm × D)} {ay:List (Str × Value)},ai V F m C g s->af V g f v->aI V g ds vs->iB V g ks ay->
 aj V F (af V) (du V.M A v vs ay) g s (m7 V.P cl f ds ks ⟨m,C⟩)
theorem tf {trees:List (Bool × Sem Value)}:(backTo p trees).any (·.1)=trees.any (·.1):=by
 unfold backTo; rw [List.any_map]; rfl
theorem vn : ∀ {es:List Expr},es.any dI=false->(starEach es env).any (·.1)=false:=λ{es}=>by
 induction es with
 |nil=>
  intro _
  exact rfl
 |cons e r ih=>
  intro h
  rw [any_cons,or_eq_false_iff] at h
  rw [mK h.1,any_cons,ih h.2]; rfl
theorem Qi : ∀ {ks:List Keyword},(∀ k∈ks,∃ n,k.arg.bind df=some n)->(backToKw p (keywordEach ks env)).all (·.1.isSome)=true:=λ{ks}=>by
 induction ks with
 |nil=>
  intro _
  exact rfl
 |cons p0 r ih=>
  obtain ⟨n,v,q⟩:=p0
  intro h
  obtain ⟨a,ha⟩:=h _ (.head _)
  have:n.isSome=true:=by induction n with|none=>exact aq ha|some _=>rfl
  show (n.isSome&&_)=true
  rw [this,Bool.true_and]
  exact ih λk hk=>h k (.tail _ hk)
theorem xj {M:Model} {E:Value->Shared->Prop} {f:Value} {args:List (Bool × Sem Value)} {Q:Args->Shared->Prop} (hs:args.any (·.1)=false)
  (jU:keywords.all (·.1.isSome)=true)
  (h:wpAny M A (spliced args) (λvs au=>wpAny M A (evalAll (keywords.map (·.2))) (λks aM=>Q ⟨vs,(keywords.filterMap (·.1)).zip ks⟩ aM) E au) E s) :
  wpAny M A (evalArgs f true args keywords) Q E s:=by
 induction args using List.casesOn with
 |nil=>
  unfold evalArgs
  show wpAny M A (spliced [] >>= _) Q E s
  refine ce (gl h (λvs au et=>?_) λu' u' x=>x)
  refine ce (cr (ls ?_))
  simp only [jU,if_true]
  refine ce (gl et (λks aM jW=>?_) λu' u' x=>x)
  exact ce (cr (cr jW))
 |cons e r=>
  obtain ⟨b,x⟩:=e
  induction b with
  |false=>exact evalArgs_kw jU h
  |true=>exact fJ hs
set_option tactic.hygienic true in
theorem TB (gn:sY V F A cl) {fd:D} : ∀ (ks:List Keyword) (g0:Gh),(∀ k∈ks,aA V F A cl (f k.value) k.value)->∀ (ds:List D) (vs:List Value) (acc:List (Nm × D)) (ay:List (Str × Value)) m C g s,
  af V g fd fv->aI V g ds vs->iB V g acc ay->ai V F m C g s->
  aj V F (af V) (λQ E au=>wpAny V.M A (evalAll ((backToKw p (keywordEach ks F.env)).map (·.2))) (λus aM=>du V.M A fv vs (ay++((backToKw p (keywordEach ks F.env)).filterMap (·.1)).zip us) Q E aM) E au) g s (tF V.P cl fd ds acc (mZ f ks) ⟨m,C⟩):=λks=>by
 induction ks with
 |nil=>
  intro _ _ ds vs acc ay m C g s rf rd rk I
  have:=gn I rf rd rk
  exact this.wp λQ E x=>wpAny_evalAll_nil ((append_nil ay).symm ▸ x)
 |cons p0 r ih=>
  obtain ⟨n,v,q⟩:=p0
  intro g0 h ds vs acc ay m C g s rf rd rk I
  unfold mZ
  split
  ·rename_i a ha
   have ih:=ih g0 λk hk=>h k (.tail _ hk)
   obtain ⟨nn,rfl,hn⟩ : ∃ nn,n=some nn/\df nn=some a:=by
    induction n with
    |none=>exact aq ha
    |some nn=>exact ⟨nn,rfl,ha⟩
   have en:=oh hn
   subst en
   show aj _ _ _ _ _ _ ((ev V.P cl (f v) ⟨m,C⟩).bind _)
   refine aj.seq (h _ (.head _) m C g s I).1 (λQ E x=>?_) λd st aV au u u' d6 aF ru=>ih ds vs (acc++[(a,d)]) (ay++[(a.str,u)]) _ _ _ _ (rf.mono d6.toLe) (rd.mono d6.toLe) ((rk.mono d6.toLe).snoc ru) aF
   show wpAny _ _ (evalAll ((eval v F.env >>= λv=>standAt p >>= λu'=>pure v)::_)) _ _ _
   refine wpAny_evalAll_cons (ce (gl x (λu au y=>ce (wpAny_standAt (cr ?_))) λu' u' y=>y))
   refine gl y (λus aM z=>?_) λu' u' z=>z
   have e:ay++[(a.str,u)]++((backToKw p (keywordEach r F.env)).filterMap (·.1)).zip us=ay++((backToKw p (keywordEach (⟨some a.str,v,q⟩::r) F.env)).filterMap (·.1)).zip (u::us):=by
    exact append_assoc _ _ _
   rw [<-e]; exact z
  ·trivial
variable {a:Addr} {args:List Expr} {e:Expr} {cs:Es} {ks:List Keyword} {k:Nat} {mk:MK} {pl:Sem Bool}
noncomputable def vP (V:av) (F:aD) (A:Around) (cl:Calls) (c:E) (e:Expr):Prop := ∀ m C g s,ai V F m C g s->aJ V F A (af V) (eval e F.env) g s (ev V.P cl c ⟨m,C⟩)
theorem aA.val {c:E} (h:aA V F A cl c e):vP V F A cl c e:=λm C g s I=>(h m C g s I).1
inductive gM (V:av) (F:aD) (A:Around) (cl:Calls):Es->List Expr->Prop
 |nil:gM V F A cl .nil []
 |cons {c:E} {cs:Es} {e:Expr} {es:List Expr}:dI e=false->vP V F A cl c e->gM V F A cl cs es->gM V F A cl (.cons c cs) (e::es)
theorem GQ {es:List Expr} (h:gM V F A cl cs es) : ∀ m C g s,ai V F m C g s->
  aJ V F A (qh V) (spliced (backTo p (starEach es F.env))) g s (bM V.P cl cs ⟨m,C⟩):=by
 induction h with
 |nil=>exact λm C g s I Q E k=>Calls.spliced_nil (k g _ _ (.refl _) I ⟨[],rfl,.nil⟩)
 |cons hs h hr ih=>
  intro m C g s I
  rw [mK hs,Dl]
  refine aj.seq (h m C g s I) (λu' u' x=>Calls.spliced_cons x) λx st aV au v u' u' aF rx=>?_
  refine aj.seq (K:=λvs Q E s=>Q (v::vs) s) (ih _ _ _ _ aF) (λQ E x=>x) λd ao bl aM vs u' bQ aP rd=>?_
  obtain ⟨ds,rfl,rs⟩:=rd
  exact λQ E k=>k _ _ _ (.refl _) aP ⟨_,rfl,.cons (rx.mono bQ.toLe) rs⟩
theorem gM.noStar {es:List Expr} (h:gM V F A cl cs es):es.any dI=false:=by
 induction h with
 |nil=>rfl
 |cons hs _ _ ih=>rw [any_cons,hs,ih]; rfl
theorem gM.of : ∀ {es:List Expr},es.any dI=false->(∀ e∈es,aA V F A cl (f e) e)->gM V F A cl (bD f es) es:=λ{es}=>by
 induction es with
 |nil=>
  intro _ _
  exact .nil
 |cons e r ih=>
  intro hs h
  rw [any_cons,or_eq_false_iff] at hs
  exact .cons hs.1 (h e (.head _)).val (ih hs.2 λx hx=>h x (.tail _ hx))
theorem gM.RU {f:Nat->Expr->E} : ∀ {es:List Expr} (i:Nat),es.any dI=false->(∀ i,∀ e∈es,vP V F A cl (f i e) e)->gM V F A cl (wz f i es) es:=λ{es}=>by
 induction es with
 |nil=>
  intro _ _ _
  exact .nil
 |cons e r ih=>
  intro i hs h
  rw [any_cons,or_eq_false_iff] at hs
  exact .cons hs.1 (h i e (.head _)) (ih (i+1) hs.2 λi x hx=>h i x (.tail _ hx))
theorem Ms {f:Expr} (h:lO f=none) :
  eval (.Call f args ks pos) env=(eval f env >>= λv=>callWith pos v [] (backTo pos (starEach args env)) (backToKw pos (keywordEach ks env))):=by
 induction f using Expr.casesOn<;>first|rfl|exact lA h
theorem UU (gn:sY V F A cl) {fc:E} {f:Expr} {kf:Expr->E} (hf:lO f=none) (h:aA V F A cl fc f) (hr:gM V F A cl cs args)
  (hk : ∀ k∈ks,aA V F A cl (kf k.value) k.value) (dF : ∀ k∈ks,∃ n,k.arg.bind df=some n):aA V F A cl (.call fc cs (mZ kf ks)) (.Call f args ks p):=by
 refine .of rfl λm C g s I=>?_
 have e:ev V.P cl (.call fc cs (mZ kf ks)) ⟨m,C⟩=(ev V.P cl fc ⟨m,C⟩).bind λd aa=>(bM V.P cl cs aa).bind λl ae=>match l with
   |.lst ds=>tF V.P cl d ds [] (mZ kf ks) ae
   |_=>.fail:=by
  show (ev V.P cl fc ⟨m,C⟩).bind _=_
  congr 1; funext d aa
  induction bM V.P cl cs aa with
  |ok d ae=>induction d using D.casesOn<;>rfl
  |exc x ae=>rfl
  |fail=>rfl
 rw [e]
 refine aj.seq (K:=λv Q E au=>wpAny V.M A (callWith p v [] (backTo p (starEach args F.env)) (backToKw p (keywordEach ks F.env))) Q E au) (h m C g s I).1 (λQ E x=>by rw [Ms hf]; exact ce x) λd st aV au v u' u' aF rf=>?_
 refine aj.seq (K:=λvs Q E au=>wpAny V.M A (evalAll ((backToKw p (keywordEach ks F.env)).map (·.2))) (λus aM=>du V.M A v ([]++vs) (((backToKw p (keywordEach ks F.env)).filterMap (λ(x:Option Str × Sem Value)=>x.1)).zip us) Q E aM) E au) (GQ (p:=p) hr _ _ _ _ aF)
  (λQ E x=>wB (xj (by rw [tf]; exact vn hr.noStar) (Qi dF) x)) λl ao bl aM vs u' bQ aP rl=>?_
 obtain ⟨ds,rfl,rd⟩:=rl
 have:=TB (p:=p) gn (fd:=d) (fv:=v) ks bl hk ds vs [] [] _ _ _ _ (rf.mono bQ.toLe) rd trivial aP
 exact this.wp λQ E x=>by simpa using x
noncomputable def fO (V:av):MK->Value
 |.own _ f=>.ref (V.bh f)
 |.mw=>.builtin "list.append"|.pR=>.builtin "list.pop"|.pM=>.builtin "list.clear"
 |.nr=>.builtin "dict.get"|.o6=>.builtin "dict.values"|.oz=>.builtin "set.add"
theorem zc {n:Nm} (h:dK V.P C (.inst k i) n=some mk) : ∃ c es f,V.P.dw k=some c/\C[i]?=some (.cL es)/\c.meths.lookup n=some f/\es.lookup n=none/\c.slots=none/\mk=.own k f:=by
 refine cps λQQ kQ=>?_
 obtain ⟨c,hc,h⟩:=aS h
 obtain ⟨es,hC,h⟩:=aS h
 obtain ⟨f,hf,h⟩:=aS h
 obtain ⟨hb,h⟩:=eZ h
 rw [and_eq_true,isNone_iff_eq_none,isNone_iff_eq_none] at hb
 exact kQ ⟨c,es,f,hc,vS hC,hf,hb.1,hb.2,(ad h).symm⟩
noncomputable def MK.P0:MK->Bool
 |.own _ _=>true
 |_=>false
theorem Q8 (n:Nm) (ch:Ch):(lp n ch).any MK.P0=false:=by
 induction ch using Ch.casesOn<;>first|rfl|(induction n using Nm.casesOn<;>rfl)
theorem Q9 {o:D} {n:Nm} {f:Nat} (h:dK V.P C o n=some (.own k f)) : ∃ i,o=.inst k i:=by
 induction o using D.casesOn<;>first|exact aq h|skip
 ·obtain ⟨ch,_,h⟩:=aS h
  have:=Q8 n ch
  rw [h] at this
  exact fJ this
 ·obtain ⟨_,_,_,_,_,_,_,_,e⟩:=zc h
  injection e with e
  exact ⟨_,by rw [e]⟩
section
variable {Q:Value × List Value->Shared->Prop} {E:Value->Shared->Prop}
theorem Nl (B:V.Base) (aC:V.c7) (I:ai V F m C g s) {n:Nm} {a:Value} (hx:af V g (.inst k i) a) (hm:dK V.P C (.inst k i) n=some mk) (h:Q (fO V mk,[a]) s):wpAny V.M A (getMethod a n.str pl) Q E s:=by
 obtain ⟨c,es,f,hc,hC,hf,hl,hs,rfl⟩:=zc hm
 have ok:=aC k c hc
 obtain ⟨x,dx,ox,ents,nn,rfl,hI,h1,h2,h3,h4,h5⟩:=I.inst hx hC
 obtain ⟨o,ho,hr⟩:=h4.getL n
 rw [hl] at hr
 obtain rfl:=u5 hr
 obtain ⟨m1,m2,m3,m4,m5⟩:=ok.meths n f hf
 exact W.method_fn (I.cY B) hI (W.plainGet_of ok.get).1 (W.plainGet_of ok.get).2 m1 m2 (by show (W.lookIn n.str (W.dictOf ents nn)).map _=_; rw [W.lookIn_dict,ho]; rfl) h
theorem v5 {o:Obj} (h:s.heap.get? a=some o) (hd:o.dict=none) : ∀ b,Value.ref a=.ref b->∃ o,s.heap.get? b=some o/\o.dict=none:=λb e=>by cases e; exact ⟨_,h,hd⟩
theorem Nn (I:ai V F m C g s) {n:Nm} {a:Value} (hx:af V g (.loc i) a) (hm:dK V.P C (.loc i) n=some mk) (h:Q (fO V mk,[a]) s):wpAny V.M A (getMethod a n.str pl) Q E s:=by
 obtain ⟨ch,hC,hm⟩:=aS hm
 induction ch using Ch.casesOn<;>first|exact aq hm|skip
 ·obtain ⟨l,vs,k,rfl,_,hl,_⟩:=I.mz hx hC
  have hT:s.TypeIs (.ref l) "list":=hl.isList.typeIs
  have hd:=v5 hl rfl
  induction n using Nm.casesOn<;>first|exact aq hm|(obtain rfl:=ad hm; first
   |exact getMethod_builtin hT PySem.F.plainAttrs_list PySem.F.slot_list_append PySem.F.type_list_append hd h
   |exact getMethod_builtin hT PySem.F.plainAttrs_list PySem.F.slot_list_pop PySem.F.type_list_pop hd h
   |exact getMethod_builtin hT PySem.F.plainAttrs_list PySem.F.slot_list_clear PySem.F.type_list_clear hd h)
 ·obtain ⟨l,h1,rfl⟩:=hx.gA
  obtain ⟨hz,ay,ep,jo,hr,_⟩:=I.dictAt h1 hC
  have hT:s.TypeIs (.ref l) "dict":=jo.dictOf.mapOf.typeIs
  obtain ⟨o,ents,ho,⟨_,jv,_⟩,_⟩:=id jo
  have hd:=v5 ho jv
  induction n using Nm.casesOn<;>first|exact aq hm|(obtain rfl:=ad hm; first
   |exact getMethod_builtin hT PySem.F.plainAttrs_dict PySem.F.slot_dict_get PySem.F.type_dict_get hd h
   |exact getMethod_builtin hT PySem.F.plainAttrs_dict PySem.F.slot_dict_values PySem.F.type_dict_values hd h)
 ·obtain ⟨l,h1,rfl⟩:=hx.gA
  obtain ⟨hz,o,ents,ep,t,ho,⟨hc,jv,_⟩,_⟩:=I.setOf h1 hC
  induction n using Nm.casesOn<;>first|exact aq hm|(obtain rfl:=ad hm; exact getMethod_builtin ⟨o,ho,hc⟩ PySem.F.plainAttrs_set PySem.F.slot_set_add PySem.F.type_set_add (v5 ho jv) h)
end
theorem Tq (B:V.Base) (aC:V.c7) (I:ai V F m C g s) {o:D} {n:Nm} {a:Value} (hx:af V g o a) (hm:dK V.P C o n=some mk) {Q:Value × List Value->Shared->Prop} {E:Value->Shared->Prop}
  (h:Q (fO V mk,[a]) s):wpAny V.M A (getMethod a n.str pl) Q E s:=by
 induction o using D.casesOn<;>first|exact aq hm|skip
 ·exact Nn I hx hm h
 ·exact Nl B aC I hx hm h
variable {ps:List Expr}
theorem ai.seq (I:ai V F m C g s) (r:af V g d v) (h:bW C d=some ds) :
  ∃ a T vs n,v=.ref a/\(T="list"\/T="tuple")/\s.heap.get? a=some {cls:=.type T,dict:=none,data:=.seq vs.toArray n,slots := #[]}/\vs.length<=aH/\aI V g ds vs:=by
 have list:a9 C d=some ds->∃ a T vs n,v=.ref a/\(T="list"\/T="tuple")/\s.heap.get? a=some {cls:=.type T,dict:=none,data:=.seq vs.toArray n,slots := #[]}/\vs.length<=aH/\aI V g ds vs:=λh=>by
  obtain ⟨a,vs,n,e,hl,hz,rs⟩:=I.list r h
  exact ⟨a,"list",vs,n,e,.inl rfl,hl,hz,rs⟩
 induction d using D.casesOn<;>first|((first|exact aq h|obtain rfl:=ad h); done)|exact list h|skip
 obtain rfl:=ad h
 obtain ⟨a,vs,n,e,hl,hz,rs⟩:=I.tup r
 exact ⟨a,"tuple",vs,n,e,.inr rfl,hl,hz,rs⟩
theorem GR (I:ai V F m C g s) {y:D} (r:af V g y v) {ys:List D} (h:bW C y=some ys) :
  aj V F (qh V) (λQ E s=>W.StarOf V.M A E v Q s) g s (.ok (.lst ys) ⟨m,C⟩):=by
 obtain ⟨a,T,vs,n,rfl,hT,ho,hz,rs⟩:=I.seq r h
 intro Q E k
 have D9:s.TypeIs (.ref a) T:=⟨_,ho,rfl⟩
 have z:wpAny V.M A (collect (.ref a)) Q E s:=
  wpAny_collect_seq a hT ho rfl rfl (λh' hk=>k g _ _ (.refl g) (I.heap hk) ⟨ys,rfl,by simpa using rs⟩) (dO (by simpa using hz))
 show wpAny _ _ (notIterableAtAll _) _ _ _
 unfold notIterableAtAll
 rcases hT with rfl|rfl
 ·exact ce (wpAny_specialOf D9 PySem.F.slot_list_iter.lookup (cr ⟨rfl,z⟩))
 ·exact ce (wpAny_specialOf D9 PySem.F.slot_tuple_iter.lookup (cr ⟨rfl,z⟩))
noncomputable def jP (P:aX) (cl:Calls) (f:Expr->E) (ps:List Expr) (e:Expr) (st:St):ak D:=(bM P cl (bD f ps) st).bind λd ae=>match d with
 |.lst ds=>(ev P cl (f e) ae).bind λy aK=>match bW aK.C y with
  |some ys=>.ok (.lst (ds++ys)) aK
  |none=>.fail
 |_=>.fail
theorem CZ {P:aX} {st:St}:jP P cl f [] e st=(ev P cl (f e) st).bind λy aK=>match bW aK.C y with
  |some ys=>.ok (.lst ys) aK
  |none=>.fail:=rfl
set_option tactic.hygienic true in
theorem Me {P:aX} {e0:Expr} {st:St}:jP P cl f (e0::ps) e st=(ev P cl (f e0) st).bind λx aa=>(jP P cl f ps e aa).bind λd st=>match d with
  |.lst ds=>.ok (.lst (x::ds)) st
  |_=>.fail:=by
 show (bM P cl (.cons (f e0) (bD f ps)) st).bind _=_
 show ((ev P cl (f e0) st).bind _).bind _=_
 rw [ak.bind_assoc]
 congr 1; funext x aa
 unfold jP
 induction bM P cl (bD f ps) aa with
 |fail=>rfl
 |exc _ _=>rfl
 |ok d ae=>
  induction d using D.casesOn<;>first|rfl|skip
  rename_i ds
  show ((ev P cl (f e) ae).bind _)=((ev P cl (f e) ae).bind _).bind _
  rw [ak.bind_assoc]
  congr 1; funext y aK
  induction bW aK.C y<;>rfl
theorem G8 (h:sD e=none):dI e=false:=by induction e using Expr.casesOn<;>first|rfl|exact lA h
theorem VF {x:Expr} (h:sD e=some x) : ∃ p,e=.Starred x p:=by induction e using Expr.casesOn<;>first|((first|exact aq h|obtain rfl:=ad h); exact ⟨_,rfl⟩)|exact aq h
theorem z0 : ∀ {args:List Expr} {ps:List Expr} {e:Expr},jF args=some (ps,some e)->(∃ p,args=[.Starred e p]/\ps=[])\/∃ e0 r ke,args=e0::r/\dI e0=false/\ps=e0::ke/\jF r=some (ke,some e):=λ{args}=>by
 induction args with
 |nil=>
  intro ps e h
  cases h
 |cons e0 r ih=>
  intro ps e h
  unfold jF at h
  induction hs:sD e0 with
  |some x=>
   rw [hs] at h
   dsimp only at h
   split at h
   ·rename_i hr
    cases h
    obtain ⟨p,rfl⟩:=VF hs
    exact .inl ⟨p,by rw [isEmpty_iff.mp hr],rfl⟩
   ·exact aq h
  |none=>
   rw [hs] at h
   obtain ⟨⟨a,b⟩,hp,hq⟩:=cq h
   cases hq
   exact .inr ⟨e0,r,a,rfl,G8 hs,rfl,hp⟩
theorem VJ : ∀ {args:List Expr} {ps:List Expr},jF args=some (ps,none)->ps=args/\args.any dI=false:=λ{args}=>by
 induction args with
 |nil=>
  intro ps h
  cases h; exact ⟨rfl,rfl⟩
 |cons e0 r ih=>
  intro ps h
  unfold jF at h
  induction hs:sD e0 with
  |some x=>
   rw [hs] at h
   dsimp only at h
   split at h<;>(first|exact aq h|cases h)
  |none=>
   rw [hs] at h
   obtain ⟨⟨a,b⟩,hp,hq⟩:=cq h
   cases hq
   obtain ⟨rfl,hz⟩:=ih hp
   exact ⟨rfl,by rw [any_cons,hz,G8 hs]; rfl⟩
theorem TX : ∀ (args ps:List Expr) (e:Expr),jF args=some (ps,some e)->(∀ x∈e::ps,aA V F A cl (f x) x)->∀ m C g s,ai V F m C g s->
  aJ V F A (qh V) (spliced (backTo p (starEach args F.env))) g s (jP V.P cl f ps e ⟨m,C⟩):=λargs=>by
 induction args with
 |nil=>
  intro ps e hs h m C g s I
  cases hs
 |cons e1 r1 ih=>
  intro ps e hs h m C g s I
  rcases z0 hs with ⟨q,ha,rfl⟩|⟨e0,r,ke,ha,h0,rfl,hr⟩
  ·cases ha
   rw [CZ]
   refine aj.seq (h e (.head _) m C g s I).1 (λQ E x=>W.ks_spliced x) λy st aV au v u' u' aF ry=>?_
   split
   ·rename_i ys hy
    exact aj.wp (GR aF ry hy) λQ E x=>gl (show wpAny _ _ (notIterableAtAll v) _ _ _ from x) (λb aM ⟨hb,z⟩=>⟨hb,gl z (λhere cT q=>Calls.spliced_nil (by rw [append_nil]; exact q)) λu' u' q=>q⟩) λu' u' q=>q
   ·trivial
  ·cases ha
   rw [Me,mK h0]
   refine aj.seq (h e1 (.tail _ (.head _)) m C g s I).1 (λu' u' x=>Calls.spliced_cons x) λx st aV au v u' u' aF rx=>?_
   refine aj.seq (K:=λvs Q E s=>Q (v::vs) s) (ih ke e hr (λx hx=>h x (by rcases bi hx with rfl|hx; exact .head _; exact .tail _ (.tail _ hx))) _ _ _ _ aF) (λQ E x=>x) λd ao bl aM vs u' bQ aP rd=>?_
   obtain ⟨ds,rfl,rs⟩:=rd
   exact λQ E k=>k _ _ _ (.refl _) aP ⟨_,rfl,.cons (rx.mono bQ.toLe) rs⟩
theorem TV (hs:jF args=some (ps,some e)) (h : ∀ x∈e::ps,aA V F A cl (f x) x) (I:ai V F m C g s) :
  aJ V F A (λg d (a:Args)=>a.kw=[]/\qh V g d a.pos) (evalArgs fv true (backTo p (starEach args F.env)) []) g s (jP V.P cl f ps e ⟨m,C⟩):=by
 rcases z0 hs with ⟨q,rfl,rfl⟩|⟨e0,r,ke,rfl,h0,rfl,hr⟩
 ·rw [CZ]
  refine aj.seq (h e (.head _) m C g s I).1 (λQ E x=>W.ks_lone x) λy st aV au v u' u' aF ry=>?_
  split
  ·rename_i ys hy
   have:=GR (A:=A) aF ry hy
   exact λQ E k=>this _ E λg' a s' st I r=>k g' _ s' st I ⟨rfl,r⟩
  ·trivial
 ·have:=TX (p:=p) (e0::r) (e0::ke) e hs h m C g s I
  rw [mK h0] at this ⊢
  have e1:jP V.P cl f (e0::ke) e ⟨m,C⟩=(jP V.P cl f (e0::ke) e ⟨m,C⟩).bind λd st=>.ok d st:=by induction jP V.P cl f (e0::ke) e ⟨m,C⟩<;>rfl
  rw [e1]
  refine aj.seq (K:=λ(vs:List Value) (Q:Args->Shared->Prop) E s=>Q (⟨vs,[]⟩:Args) s) this (λQ E x=>show wpAny V.M A (evalArgs fv true ((false,eval e0 F.env)::backTo p (starEach r F.env)) []) Q E s from Calls.evalArgs_plain x) λd st aV au vs u' u' aF rd=>λQ E k=>k _ _ _ (.refl _) aF ⟨rfl,rd⟩
noncomputable def ve (Q:Value->Shared->Prop) (E:Value->Shared->Prop) (r:Result) (s:Shared):Prop:=match r with
 |.ok (.ret v)=>Q v s
 |.ok _=>False
 |.error e=>E e s
noncomputable def qf (M:Model) (A:Around) (c:Code):Tr Value:=λQ E s=>codeAny M A c (ve Q E) s
structure qe (F:aD) (A:Around) (n:Nat):Prop where
 frames:A.frames=some F.stack
 depth:A.depth+8*n+4<=900
 units:A.units+500*n+450<=9000
 calm:A.handled=none
variable {n:Nat}
theorem Ij {a:Nat} (h:a+8*n+8<=900):a+1+8*n+4<=900:=an (by rw [add_right_comm a 1]; exact add_le_add_left (by decide:1+4<=8) (a+8*n)) h
variable {l:Nat}
theorem vW {u a:Nat} (h1:u<=a+8) (h2:a+8*l+500*n+500<=9000):u+500*n+450<=9000:=
 an (add_le_add_right (add_le_add_right h1 _) 450) (an (by rw [add_right_comm a 8,add_assoc _ 8 450]; exact add_le_add (add_le_add_right (jp a _) _) (by decide:8+450<=500)) h2)
theorem AY {a:Nat} (h:a+8*n+8<=900):a+8*n+4<=900:=an (add_le_add_left (by decide:4<=8) _) h
theorem Il {a:Nat} (h:a+8*l+500*n+500<=9000):a+2<9900:=
 al (an (an (add_le_add_left (by decide:2<=500) a) (add_le_add_right (an (jp a _) (jp _ _)) 500)) h) (by decide)
theorem fL.c (h:fL F A cl n l) (hf:cl.fuel≠0):qe F A n:=
 ⟨h.frames,AY h.depth,vW (jp _ 8) h.units,h.calm hf⟩
theorem Ii {a:Nat} (h:a+8*(n+1)+4<=900):a+1+8*n+8<=900:=an (by rw [add_right_comm a 1]; exact add_le_add_left (by decide:1+8<=8+4) (a+8*n)) h
theorem Ik {u:Nat} (h:u+500*(n+1)+450<=9000):u+3+8*1+500*n+500<=9000:=an (by rw [add_assoc u 3 (8*1),add_right_comm u (3+8*1),add_assoc _ (3+8*1) 500,Nat.mul_succ 500 n,<-add_assoc u,add_assoc _ 500 450]; exact add_le_add_left (by decide) _) h
structure gd (V:av) (cl:Calls) (n:Nat):Prop where
 none:cl.fuel=0->∀ k ds ks C,cl.call k ds ks C=.fail
 some : ∀ {F:aD} {A:Around} {m C g s} (k:Nat) {ds:List D} {vs:List Value} {ks:List (Nm × D)} {ay:List (Str × Value)},F.Ok->qe F A n->ai V F m C g s->aI V g ds vs->iB V g ks ay->
  aj V F (af V) (qf V.M A (.call (.ref (V.bh k)) ⟨vs,ay⟩)) g s (bR m (cl.call k ds ks C))
variable {es:List (Int × D)} {vs ws:List Value} {ay:List (Str × Value)} {h:Heap} {id:String} {t:Tok}
theorem GB (hC:gd V cl n) (K:F.Ok) (hA:fL F A cl n l) (I:ai V F m C g s) (k:Nat) {ks:List (Nm × D)} (rd:aI V g ds vs) (rk:iB V g ks ay) :
  aJ V F A (af V) (call (.ref (V.bh k)) vs ay) g s (bR m (cl.call k ds ks C)):=by
 by_cases hf:cl.fuel=0
 ·rw [hC.none hf]; trivial
 ·exact (hC.some k K (hA.c hf) I rd rk).wp λQ E x=>wpAny_call x
theorem aI.one (h:aI V g [d] vs) : ∃ v,vs=[v]/\af V g d v:=by
 obtain ⟨v,ws,a,r,rfl⟩:=h.kZ
 obtain rfl:=r.jy; exact ⟨_,rfl,a⟩
theorem j0 {x:D} (h:pK x=some i):x=.loc i:=by induction x using D.casesOn<;>first|exact aq h|exact congrArg D.loc (ad h)
theorem pO {M:Model} : ∃ k,W.Looks M h (keeperOf (.builtin id)) k:=⟨.machine,W.Looks.now⟩
theorem ai.uT (I:ai V F m C g s) {f:Array Value->Array Value} {t:Nat} (hg:g a=some (.cell i)) (hl:IsL s.heap a vs.toArray k)
  (e:f vs.toArray=ws.toArray) (r:aI V g ds ws) (hz:ws.length<=aH):ai V F m (C.set i (.list ds)) g {s with heap:=s.heap.update a (Obj.mapSeq f),toks:=t}:=by
 have:=IsL.update hl f
 rw [e] at this
 exact I.cellSet hg (mo ..) this ⟨ws,⟨hz,_,rfl⟩,r⟩
theorem aI.dropLast (r:aI V g ds vs):aI V g ds.dropLast vs.dropLast:=by
 rw [List.dropLast_eq_take,List.dropLast_eq_take,r.length]; exact r.take _
theorem Mb (vs:List Value):vs.toArray.eraseIdxIfInBounds (vs.toArray.size - 1)=vs.dropLast.toArray:=by
 by_cases h:vs=[]
 ·subst h; rfl
 ·have hl:vs.length - 1<vs.length:=sub_lt (List.length_pos_iff.mpr h) (by decide)
  rw [Array.eraseIdxIfInBounds,dif_pos (by simpa using hl)]
  simp [List.dropLast_eq_take,List.eraseIdx_eq_take_drop_succ]
  exact Nat.sub_le_iff_le_add.mp (le_refl _)
section
variable {a:Value}
theorem QJ (I:ai V F m C g s) (hx:af V g (.loc i) a) (rv:af V g d v) {es:List D} (hC:C[i]?=some (.list es)) (hz:es.length<aH) :
  aj V F (af V) (du V.M A (fO V .mw) [a,v] []) g s (.ok .none ⟨m,C.set i (.list (es++[d]))⟩):=λQ E q=>by
 obtain ⟨l,vs,k,rfl,hg,hl,mn,rs⟩:=I.mz hx hC
 have hlen:=rs.length
 refine ⟨pO,call_meets PySem.F.slot_list_append hl.isList.typeIs PySem.F.entry_list_append (PySem.F.args_list_append_2 _ _) (PySem.list_append l vs.toArray k v (dO (by simpa using mn))) ⟨hl,?_⟩⟩
 exact q g _ _ (.refl g) (I.uT (ws:=vs++[v]) hg hl (by simp) (rs.append (.cons rv .nil)) (by rw [length_append,<-hlen]; exact hz)) .none
theorem QM (I:ai V F m C g s) (hx:af V g (.loc i) a) {es:List D} (hC:C[i]?=some (.list es)) (hd:es.getLast?=some d) :
  aj V F (af V) (du V.M A (fO V .pR) [a] []) g s (.ok d ⟨m,C.set i (.list es.dropLast)⟩):=λQ E q=>by
 obtain ⟨l,vs,k,rfl,hg,hl,mn,rs⟩:=I.mz hx hC
 have hlen:=rs.length
 rw [List.getLast?_eq_getElem?] at hd
 obtain ⟨v,hv,rv⟩:=rs.get hd
 refine ⟨pO,call_meets PySem.F.slot_list_pop hl.isList.typeIs PySem.F.entry_list_pop (PySem.F.args_list_pop_1 _) (MeetsSeq.list_pop_last l vs.toArray k v (by rw [<-hv]; simp [hlen]) (dO (by simpa using mn))) ⟨hl,?_⟩⟩
 exact q g _ _ (.refl g) (I.uT (t:=s.toks) (ws:=vs.dropLast) hg hl (Mb vs) rs.dropLast (by rw [List.length_dropLast]; exact an (sub_le _ _) mn)) rv
theorem QK (I:ai V F m C g s) (hx:af V g (.loc i) a) {es:List D} (hC:C[i]?=some (.list es)) :
  aj V F (af V) (du V.M A (fO V .pM) [a] []) g s (.ok .none ⟨m,C.set i (.list [])⟩):=λQ E q=>by
 obtain ⟨l,vs,k,rfl,hg,hl,mn,rs⟩:=I.mz hx hC
 refine ⟨pO,call_meets PySem.F.slot_list_clear hl.isList.typeIs PySem.F.entry_list_clear (PySem.F.args_list_clear_1 _) (AutoSeq1.list_clear_list_0 l vs.toArray k (dO (by simpa using mn))) ⟨hl,?_⟩⟩
 exact q g _ _ (.refl g) (I.uT (ws:=[]) hg hl rfl .nil (zero_le _)) .none
theorem QL (B:V.Base) (I:ai V F m C g s) (hx:af V g (.loc i) a) {k:Int} {b:Bool} (hC:C[i]?=some (.dict b es)) :
  aj V F (af V) (du V.M A (fO V .nr) [a,.int k t] []) g s (.ok ((es.lookup k).getD .none) ⟨m,C⟩):=λQ E q=>by
 obtain ⟨l,h1,rfl⟩:=hx.gA
 obtain ⟨hz,ay,ep,jo,hr,_⟩:=I.dictAt h1 hC
 refine ⟨pO,call_meetsIn PySem.F.slot_dict_get jo.dictOf.mapOf.typeIs PySem.F.entry_dict_get (PySem.F.args_dict_get_2 _ _) (meets_dict_get (intKind V.prog V.w) _ (k:=k) (beq_self_eq_true _) (sH I h1 B.mods)) ⟨_,jo.dictOf.mapOf,?_⟩⟩
 refine q g _ _ (.refl g) (I.tok _) ?_
 have:=hr.lookupI k
 induction kR:es.lookup k with
 |none=>rw [kR] at this; rw [u5 this]; exact .none
 |some d=>rw [kR] at this; obtain ⟨v,hv,rv⟩:=rY this; rw [hv]; exact rv
theorem QO (B:V.Base) (I:ai V F m C g s) (hx:af V g (.loc i) a) {b:Bool} (hC:C[i]?=some (.dict b es)) :
  aj V F (af V) (du V.M A (fO V .o6) [a] []) g s (.ok (.di i) ⟨m,C⟩):=λQ E q=>by
 obtain ⟨l,h1,rfl⟩:=hx.gA
 obtain ⟨hz,ay,ep,jo,hr,_⟩:=I.dictAt h1 hC
 refine ⟨pO,call_meetsIn PySem.F.slot_dict_values jo.dictOf.mapOf.typeIs PySem.F.entry_dict_values (PySem.F.args_dict_values_1 _) (meets_dict_values (intKind V.prog V.w) _ (sH I h1 B.mods)) ⟨⟨_,jo.dictOf⟩,?_⟩⟩
 obtain ⟨st,I'⟩:=I.lr {cls:=.type "dict_values",data:=.fields #[.ref _]} rfl s.toks
 exact q _ _ _ st I' (.di (Gh.bz ..) rfl (st.toLe.cell _ _ h1))
theorem QN (I:ai V F m C g s) (hx:af V g (.loc i) a) {k:Int} {es:List Int} (hC:C[i]?=some (.set es)) (EV:es.length<64) :
  aj V F (af V) (du V.M A (fO V .oz) [a,.int k t] []) g s (.ok .none ⟨m,C.set i (.set (if es.contains k then es else es++[k]))⟩):=λQ E q=>by
 obtain ⟨l,h1,rfl⟩:=hx.gA
 obtain ⟨hz,hS⟩:=I.setOf h1 hC
 refine ⟨pO,call_set_add (knd:=intKind V.prog V.w) (k:=k) (beq_self_eq_true _) rfl hS (al EV (by decide)) λh' Pe jk=>?_⟩
 obtain ⟨o',qA,xd,t',h2,x1,x2,x3,x4,x5,x6,x7⟩:=jk
 refine q g _ _ (.refl g) (I.cellSet h1 Pe h2 ⟨?_,qA,xd,t',x1,x2,x3,λk'=>?_,x5,x6,?_⟩) .none
 ·by_cases hk:es.contains k=true
  ·rw [if_pos hk]; exact hz
  ·rw [if_neg hk,length_append]; exact EV
 ·rw [<-x4 k']
  show _↔(es.contains k'||decide (k'=k))=true
  by_cases hk:es.contains k=true
  ·rw [if_pos hk]
   by_cases e:k'=k
   ·subst e; rw [hk]; simp
   ·rw [decide_eq_false e,Bool.or_false]
  ·rw [if_neg hk,List.contains_append]
   by_cases e:k'=k
   ·subst e; simp
   ·have:[k].contains k'=false:=by simp [e]
    rw [this,decide_eq_false e]
 ·rw [x7]
  by_cases hk:es.contains k=true
  ·rw [if_pos hk,if_pos hk]
  ·rw [if_neg hk,if_neg hk]; simp
end
theorem TM (B:V.Base) (hC:gd V cl n) (dk : ∀ k,W.keepIn V.K (.ref (V.bh k))=true) (K:F.Ok) (hA:fL F A cl n l) (I:ai V F m C g s) (mk:MK) {o:D} {a:Value} (hx:af V g o a) (rd:aI V g ds vs) :
  aj V F (af V) (du V.M A (fO V mk) (a::vs) []) g s (pS cl mk o ds ⟨m,C⟩):=by
 induction mk using MK.casesOn with
 |own k f=>
  have h:=GB (A:=A) hC K hA I f (.cons hx rd) (ks:=[]) (ay:=[]) trivial
  obtain ⟨kk,_,L⟩:=W.looks_keep (M:=V.M) (dk f) (I.cY B)
  exact aj.wp (W₂:=du V.M A (fO V (.own k f)) (a::vs) []) h λQ E x=>And.intro ⟨kk,L⟩ x
 |mw=>
  exact aj.aL λi hi=>by
   obtain rfl:=j0 hi
   exact aj.one (T:=λvs=>du V.M A (fO V .mw) (a::vs) []) rd λd v rv=>aj.aL λes he=>aj.bJ λhz=>QJ I hx rv (y2 he) (io hz)
 |pR=>
  exact aj.aL λi hi=>by
   obtain rfl:=j0 hi
   exact aj.bJ λhz=>by
    obtain rfl:=isEmpty_iff.mp hz
    obtain rfl:=rd.jy
    exact aj.aL λes he=>aj.aL λd hd=>QM I hx (y2 he) hd
 |pM=>
  exact aj.aL λi hi=>by
   obtain rfl:=j0 hi
   exact aj.bJ λhz=>by
    obtain rfl:=isEmpty_iff.mp hz
    obtain rfl:=rd.jy
    exact aj.aL λes he=>QK I hx (y2 he)
 |nr=>
  exact aj.aL λi hi=>by
   obtain rfl:=j0 hi
   exact aj.one (T:=λvs=>du V.M A (fO V .nr) (a::vs) []) rd λd v rv=>aj.aL λk hk=>by
    obtain ⟨t,rfl⟩:=rv.fR hk
    exact aj.aL λes he=>let ⟨_,hC⟩:=CP he; QL B I hx hC
 |o6=>
  exact aj.aL λi hi=>by
   obtain rfl:=j0 hi
   exact aj.bJ λhz=>by
    obtain rfl:=isEmpty_iff.mp hz
    obtain rfl:=rd.jy
    exact aj.aL λes he=>let ⟨_,hC⟩:=CP he; QO B I hx hC
 |oz=>
  exact aj.aL λi hi=>by
   obtain rfl:=j0 hi
   exact aj.one (T:=λvs=>du V.M A (fO V .oz) (a::vs) []) rd λd v rv=>aj.aL λk hk=>by
    obtain ⟨t,rfl⟩:=rv.fR hk
    exact aj.aL λes he=>aj.bJ λhz=>QN I hx (T8 he) (io hz)
variable {apos:Pos}
structure av.mR (V:av):Prop where
 keep : ∀ k,W.keepIn V.K (.ref (V.bh k))=true
 fn : ∀ k,W.fnIn V.K (V.bh k)=true
theorem VG {es:List Expr} (h:es.any dI=false):(backTo p (starEach es env)).all (λx=>!x.1)=true:=by
 have:=vn (env:=env) h
 rw [<-tf (p:=p)] at this
 rw [List.all_eq_not_any_not]
 simpa using this
theorem VH : ∀ {args ps:List Expr} {e:Expr},jF args=some (ps,some e)->(backTo p (starEach args env)).all (λx=>!x.1)=false:=λ{args}=>by
 induction args with
 |nil=>
  intro _ _ h
  cases h
 |cons e1 r1 ih=>
  intro ps e h
  rcases z0 h with ⟨q,ha,rfl⟩|⟨e0,r,ke,ha,h0,rfl,hr⟩
  ·cases ha; rfl
  ·cases ha
   rw [mK h0]
   show (true&&(backTo p (starEach r1 env)).all _)=false
   rw [Bool.true_and]
   exact ih hr
theorem FA {MM:Bool} (h:(apos.endLine==pos.line)=true):methodCallPos MM o env apos pos=pure pos:=by
 unfold methodCallPos; simp [h]
theorem Vb (B:V.Base) (aC:V.c7) (dk:V.mR) (hC:gd V cl n) (K:F.Ok) (hA:fL F A cl n l) {a:Nm}
  (ho:n3 o=false) (ha:df attr=some a) (kS:args.any dI=false) (yp:(apos.endLine==pos.line)=true) (hlen:args.length<20)
  (hO:aA V F A cl (f o) o) (kW : ∀ x∈args,aA V F A cl (f x) x) :
  aA V F A cl (.bo (f o) a (bD f args)) (.Call (.Attribute o attr apos) args [] pos):=by
 have en:=oh ha
 subst en
 refine .of rfl λm C g s I=>?_
 refine aj.seq (K:=λov Q E au=>wpAny V.M A (methodCall o a.str apos pos F.env ov (args.length+([]:List Keyword).length) (backTo pos (starEach args F.env)) (backToKw pos (keywordEach [] F.env))) Q E au) (hO m C g s I).1
  (λQ E x=>by rw [arm_eval_Call,vZ ho]; exact ce (gl x (λu' u' y=>ce (wpAny_standAt y)) λu' u' y=>y)) λd st aV au v u' u' aF rx=>?_
 induction hm:dK V.P st.C d a with
 |none=>trivial
 |some mk=>
  dsimp only
  have yg:methodCallForm (args.length+([]:List Keyword).length) (backTo pos (starEach args F.env)) (backToKw pos (keywordEach [] F.env))=true:=by
   unfold methodCallForm
   rw [VG kS]
   exact decide_eq_true (show args.length<30 from am hlen (by decide))
  refine aj.seq (K:=λvs Q E aM=>du V.M A (fO V mk) (v::vs) [] Q E aM) (GQ (p:=pos) (gM.of kS kW) _ _ _ _ aF) (λQ E x=>?_) λdl ao bl aM vs u' bQ aP rl=>?_
  ·unfold methodCall
   rw [yg]
   refine ce (ls (Tq B aC aF rx hm ?_))
   refine ce (wpAny_of_eq (FA yp) ?_)
   refine wB (xj (by rw [tf]; exact vn kS) rfl ?_)
   exact gl x (λvs aM y=>wpAny_evalAll_nil y) λu' u' y=>y
  ·obtain ⟨ds,rfl,rd⟩:=rl
   exact TM B hC dk.keep K hA aP mk (rx.mono bQ.toLe) rd
set_option tactic.hygienic true in
theorem Vd (B:V.Base) (aC:V.c7) (dk:V.mR) (hC:gd V cl n) (K:F.Ok) (hA:fL F A cl n l) {a:Nm}
  (ho:n3 o=false) (ha:df attr=some a) (hs:jF args=some (ps,some e)) (yp:(apos.endLine==pos.line)=true)
  (hO:aA V F A cl (f o) o) (kW : ∀ x∈e::ps,aA V F A cl (f x) x) :
  aA V F A cl (.gE (f o) a (bD f ps) (f e)) (.Call (.Attribute o attr apos) args [] pos):=by
 have en:=oh ha
 subst en
 refine .of rfl λm C g s I=>?_
 refine aj.seq (K:=λov Q E au=>wpAny V.M A (methodCall o a.str apos pos F.env ov (args.length+([]:List Keyword).length) (backTo pos (starEach args F.env)) (backToKw pos (keywordEach [] F.env))) Q E au) (hO m C g s I).1
  (λQ E x=>by rw [arm_eval_Call,vZ ho]; exact ce (gl x (λu' u' y=>ce (wpAny_standAt y)) λu' u' y=>y)) λd st aV au v W0 d6 aF rx=>?_
 induction hm:dK V.P st.C d a with
 |none=>trivial
 |some mk=>
  induction mk using MK.casesOn<;>first|trivial|skip
  rename_i k fk
  dsimp only
  show aj _ _ _ _ _ _ ((jP V.P cl f ps e st).bind _)
  have yg:methodCallForm (args.length+([]:List Keyword).length) (backTo pos (starEach args F.env)) (backToKw pos (keywordEach [] F.env))=false:=by
   unfold methodCallForm
   rw [VH hs]; rfl
  obtain ⟨i,rfl⟩:=Q9 hm
  obtain ⟨c,es,f',hc,jh,hf,OJ,rt,e⟩:=zc hm
  obtain rfl:fk=f':=by injection e
  have ok:=aC _ c hc
  obtain ⟨x,dx,ox,ents,nn,rfl,hI,h1,h2,h3,h4,h5⟩:=aF.inst rx jh
  obtain ⟨oo,O0,hr⟩:=h4.getL a
  rw [OJ] at hr
  have:=u5 hr
  subst this
  obtain ⟨m1,m2,m3,m4,m5⟩:=ok.meths a _ hf
  obtain ⟨hD,_⟩:=ok.own rt
  obtain ⟨q,aP⟩:=aF.lr (W.methodObj (.ref (V.bh fk)) (.ref x)) rfl (au.toks+1)
  have eW:au.heap.objs.size=au.heap.objs.size:=rfl
  refine aj.go (s':={au with heap:=au.heap.push (W.methodObj (.ref (V.bh fk)) (.ref x)),toks:=au.toks+1}) (aj.from q (aj.seq (K:=λ(ar:Args) Q E aM=>du V.M A (.ref au.heap.objs.size) ar.pos ar.kw Q E aM)
   (W':=λQ E aM=>wpAny V.M A (callWith pos (.ref au.heap.objs.size) [] (backTo pos (starEach args F.env)) []) Q E aM) (TV (p:=pos) (fv:=.ref au.heap.objs.size) hs kW aP) (λQ E x=>wB x) λdl ao dD cT ar u' gH cV ra=>?_)) λQ E z=>?_
  ·obtain ⟨qZ,ds,rfl,rd⟩:=ra
   have kT:cT.heap.get? au.heap.objs.size=some (W.methodObj (.ref (V.bh fk)) (.ref x)):=cV.aB _ _ (gH.toLe.aB _ _ (Gh.bz ..))
   have gZ:af V dD (.inst k i) (.ref x):=rx.mono (q.toLe.trans gH.toLe)
   dsimp only
   simp only [pS]
   by_cases dj:cl.fuel=0
   ·rw [hC.none dj]; trivial
   ·have:=hC.some fk K (hA.c dj) cV (.cons gZ rd) (ks:=[]) (ay:=[]) trivial
    refine aj.wp this λQ E z=>And.intro ?_ ?_
    ·have L:=W.keeps_M (M:=V.M) (K:=V.K) (q:=au.heap.objs.size) (self:=.ref x) (f:=V.bh fk) ?_ cT.heap ⟨kT,cV.cY B⟩
     ·obtain ⟨k,_,L⟩:=L; exact ⟨k,L⟩
     ·exact dk.fn fk
    ·rw [qZ]
     exact wpAny_call (W.method_call kT z)
  ·unfold methodCall
   rw [yg]
   refine ce (ls ?_)
   unfold calleeOf
   rw [if_neg Bool.false_ne_true]
   refine ce ?_
   refine W.get_bind (aF.cY B) hI (W.plainGet_of ok.get).1 (W.findObj_fn hD m1 m3 m4 m5 (by show W.lookIn a.str (W.dictOf ents nn)=_; rw [W.lookIn_dict,O0])) (W.plainGet_of ok.get).2 (wpAny_call ?_)
   refine W.fn_get (s:={au with toks:=au.toks+1}) (show V.K.In au.heap from aF.cY B) m2 (W.handed_on rfl ?_)
   refine cr ?_
   exact ce (wpAny_of_eq (FA yp) z)
theorem Wh {A:Around} {Cc:Addr} {rest:List Value} {kw:List (Str × Value)} :
  (A.under (.builtin "type.__call__" ⟨.ref Cc::rest,kw⟩)).frames=A.frames/\(A.under (.builtin "type.__call__" ⟨.ref Cc::rest,kw⟩)).depth=A.depth+1/\
  (A.under (.builtin "type.__call__" ⟨.ref Cc::rest,kw⟩)).units<=A.units+8/\(A.under (.builtin "type.__call__" ⟨.ref Cc::rest,kw⟩)).handled=A.handled:=by
 refine ⟨rfl,?_,?_,rfl⟩
 ·show A.depth+_=_
  congr 1
 ·show A.units+_<=_
  have:(Code.builtin "type.__call__" ⟨.ref Cc::rest,kw⟩).cUnits<=8:=by show 1+3*0<=8; decide
  exact add_le_add_left this _
theorem ai.size_push (I:ai V F m C g s) (o:Obj):(s.heap.push o).objs.size=s.heap.objs.size+1:=Heap.size_push ..
set_option tactic.hygienic true in
theorem Ti (B:V.Base) (aC:V.c7) (hC:gd V cl n) (K:F.Ok) (hA:fL F A cl n l) (I:ai V F m C g s) (k:Nat) (rd:aI V g ds vs) :
  aj V F (af V) (qf V.M A (.call (.ref (V.ba k)) ⟨vs,[]⟩)) g s (oY V.P cl k ds ⟨m,C⟩):=by
 unfold oY
 induction hc:V.P.dw k with
 |none=>trivial
 |some c=>
  dsimp only
  have ok:=aC k c hc
  have uc := @Wh A (V.ba k) vs []
  have Y:=W.makes_of (M:=V.M) (I.cY B) ok.makes
  have hi:=W.looks_findIn (M:=V.M) (I.cY B) ok.init
  by_cases hf:cl.fuel=0
  ·split<;>(rw [hC.none hf]; trivial)
  have Ny:qe F (A.under (.builtin "type.__call__" ⟨.ref (V.ba k)::vs,[]⟩)) n:=
   ⟨by rw [uc.1]; exact hA.frames,by rw [uc.2.1]; exact Ij hA.depth,vW uc.2.2.1 hA.units,by rw [uc.2.2.2]; exact hA.calm hf⟩
  have core : ∀ {o:D} {mM:ah} {aV:Gh},g.Step aV->ai V F m mM aV {s with heap:=(s.heap.push W.emptyDict).push (W.instObj (V.ba k) s.heap.objs.size)}->af V aV o (.ref (s.heap.objs.size+1))->
    aj V F (af V) (qf V.M A (.call (.ref (V.ba k)) ⟨vs,[]⟩)) g s (nX o m (cl.call c.init (o::ds) [] mM)):=by
   intro o mM aV d6 aF ro
   have gn:=hC.some (F:=F) (A:=A.under (.builtin "type.__call__" ⟨.ref (V.ba k)::vs,[]⟩)) c.init K Ny aF (.cons ro (rd.mono d6.toLe)) (ks:=[]) (ay:=[]) trivial
   induction hr:cl.call c.init (o::ds) [] mM with
   |fail=>trivial
   |exc _ _=>trivial
   |ok d ao=>
    rw [hr] at gn
    induction d using D.casesOn<;>first|trivial|skip
    intro Q E q
    show codeAny _ _ _ _ _
    refine W.make_core (h:=s.heap) (g:=s.gens) (d:=s.drawn) (t:=s.toks) (os:=s.os) (R:=ve Q E) Y hi (λself=>W.bind_fn (I.cY B) self ok.PU) (.inl rfl) ?_
    refine codeAny_mono (gn (λv s'=>v=.none/\Q (.ref (s.heap.objs.size+1)) s') E λg' a s' bQ aP ra=>?_) λr s' z=>?_
    ·obtain rfl:=ra.yH
     exact ⟨rfl,q g' _ s' (d6.trans bQ) aP (ro.mono bQ.toLe)⟩
    ·rcases r with e|(v|_|_|_)<;>exact z
  split
  ·rename_i ns hs
   obtain ⟨aa,I1⟩:=I.lr W.emptyDict rfl s.toks
   have hsz:=I.size_push W.emptyDict
   have I2:=ai.wL (h':=(s.heap.push W.emptyDict).push (W.instObj (V.ba k) s.heap.objs.size)) (t:=s.toks) (a:=s.heap.objs.size+1) (o:=W.instObj (V.ba k) s.heap.objs.size) (c:=.slots k (replicate ns.length none)) I1
    (λb o e=>dL _ e) (f8 (by rw [hsz]; exact le_refl _)) (by have:=lw (s.heap.push W.emptyDict) (o:=W.instObj (V.ba k) s.heap.objs.size) rfl; rw [hsz] at this; exact this)
    ⟨rfl,⟨_,rfl,by rw [Gh.bf _ _ (ne_of_lt (lt_succ_self _))]; exact Gh.bz ..⟩,rfl,λj hj=>by
     rw [List.getElem?_replicate]
     split<;>exact trivial⟩
   have me:(g.put s.heap.objs.size (some (.aB W.emptyDict))) (s.heap.objs.size+1)=none:=I1.apart (f8 (by rw [hsz]; exact le_refl _))
   have ae:(g.put s.heap.objs.size (some (.aB W.emptyDict))).Step ((g.put s.heap.objs.size (some (.aB W.emptyDict))).put (s.heap.objs.size+1) (some (.cell C.length))):=
    ⟨Gh.gB _ me,λb o'=>⟨λe=>(by rw [Gh.bf]; exact e; intro q; subst q; rw [me] at e; exact aq e),λe=>(by
     rcases Gh.bG e with ⟨_,q⟩|⟨_,q⟩
     ·cases q
     ·exact q)⟩⟩
   exact core (aa.trans ae) I2 (.loc (Gh.bz ..))
  ·rename_i hs
   have me:g s.heap.objs.size=none:=I.fI
   have hsz:=I.size_push W.emptyDict
   have I1:=ai.wL (h':=s.heap.push W.emptyDict) (t:=s.toks) (a:=s.heap.objs.size) (o:=W.emptyDict) (c:=.cL []) I
    (λb o e=>dL _ e) (f8 (le_refl _)) (lw _ rfl) ⟨zero_le _,[],0,rfl,trivial,nodup_nil⟩
   have aa:g.Step (g.put s.heap.objs.size (some (.cell C.length))):=
    ⟨Gh.gB _ me,λb o'=>⟨λe=>(by rw [Gh.bf]; exact e; intro q; subst q; rw [me] at e; exact aq e),λe=>(by
     rcases Gh.bG e with ⟨_,q⟩|⟨_,q⟩
     ·cases q
     ·exact q)⟩⟩
   obtain ⟨ae,I2⟩:=I1.lr (W.instObj (V.ba k) s.heap.objs.size) rfl s.toks
   have e:(s.heap.push W.emptyDict).objs.size=s.heap.objs.size+1:=hsz
   dsimp only at ae I2
   rw [e] at ae I2
   refine core (aa.trans ae) I2 (.inst (Gh.bz ..) ?_)
   rw [Gh.bf _ _ (ne_of_lt (lt_succ_self _))]; exact Gh.bz ..
variable {h':Heap}
abbrev cB (V:av) (A:Around) (b:Bn) (vs:List Value):Tr Value:=wpAny V.M A (call b.val vs [])
theorem sj (I:ai V F m C g s) {W:Tr Value} {t:Nat} (r:af V g d v) (f : ∀ Q E,Q v {s with toks:=t}->W Q E s):aj V F (af V) W g s (.ok d ⟨m,C⟩):=
 λQ E k=>f Q E (k g _ _ (.refl g) (I.tok t) r)
theorem TC (I:ai V F m C g s) (r:af V g d v):aj V F (af V) (cB V A .len [v]) g s (Bh d ⟨m,C⟩):=aj.aL λk hk=>by
 have list : ∀ {ds:List D},a9 C d=some ds->aj V F (af V) (cB V A .len [v]) g s (.ok (.int ds.length) ⟨m,C⟩):=λ{ds} h=>by
  obtain ⟨a,vs,k,rfl,hl,hz,rs⟩:=I.list r h
  refine sj I (v:=.int vs.toArray.size (s.toks+1)) (t:=s.toks+1+1) ?_ λQ E q=>Calls.call_len_list hl.isList (pN hz) q
  rw [rs.length]; exact .int _ _
 induction d using D.casesOn<;>first|exact aq hk|skip
 ·obtain rfl:=ad hk
  obtain ⟨t,hz,rfl⟩:=r.nW
  exact sj I (v:=.int _ (s.toks+1)) (t:=s.toks+1+1) (.int _ _) λQ E q=>W.len_bytes (an hz (by decide)) q
 ·obtain rfl:=ad hk
  obtain ⟨a,vs,k,rfl,hl,hz,rs⟩:=I.tup r
  refine sj I (v:=.int vs.toArray.size (s.toks+1)) (t:=s.toks+1+1) ?_ λQ E q=>PyProof.Rows.len_tuple (IsTup.mk' hl) (pN hz) q
  rw [rs.length]; exact .int _ _
 ·obtain rfl:=ad hk
  exact list rfl
 ·obtain ⟨ch,hC,hk⟩:=aS hk
  induction ch using Ch.casesOn<;>first|exact aq hk|skip
  ·obtain rfl:=ad hk
   exact list (mX hC)
  ·obtain rfl:=ad hk
   obtain ⟨_,h1,rfl⟩:=r.gA
   obtain ⟨hz,o,ents,ep,t,ho,x1,x2,x3,x4,x5,x6,x7⟩:=I.setOf h1 hC
   refine sj I (v:=.int ents.size (s.toks+1)) (t:=s.toks+1+1) ?_ λQ E q=>call_len_set ho x1 x2 x6 (by rw [x7]; exact le64_63 hz) q
   rw [x7]; exact .int _ _
theorem TP (I:ai V F m C g s) {k:Int}:aj V F (af V) (cB V A .range [.int k t]) g s (.ok (.cP 0 k) ⟨m,C⟩):=λQ E q=>by
 refine call_range_1 ?_
 obtain ⟨st,I'⟩:=I.lr {cls:=.type "range",data:=.fields #[.int 0 s.toks,.int k t,.int 1 (s.toks+1)]} rfl (s.toks+1+1)
 exact q _ _ _ st I' (.cP (Gh.bz ..) rfl)
theorem TQ (I:ai V F m C g s) {a b:Int} {u:Tok}:aj V F (af V) (cB V A .range [.int a t,.int b u]) g s (.ok (.cP a b) ⟨m,C⟩):=λQ E q=>by
 refine call_range_2 ?_
 obtain ⟨st,I'⟩:=I.lr {cls:=.type "range",data:=.fields #[.int a t,.int b u,.int 1 s.toks]} rfl (s.toks+1)
 exact q _ _ _ st I' (.cP (Gh.bz ..) rfl)
theorem ai.xG (I:ai V F m C g s) {t:Nat} {o:Obj} (k : ∀ b o,s.heap.get? b=some o->h'.get? b=some o) (ho:h'.get? s.heap.objs.size=some o) :
  g.Step (g.put s.heap.objs.size (some (.aB o)))/\ai V F m C (g.put s.heap.objs.size (some (.aB o))) {s with heap:=h',toks:=t}:=
 ⟨Gh.oF I.fI,I.more k (f8 (le_refl _)) ho (.inl rfl)⟩
theorem zI (I:ai V F m C g s) (r:af V g d v) (h:bW C d=some ds):aj V F (af V) (cB V A .list [v]) g s (.ok (.lst ds) ⟨m,C⟩):=by
 obtain ⟨a,T,vs,k,rfl,hT,ho,hz,rs⟩:=I.seq r h
 intro Q E q
 refine call_list_seq a hT ho rfl rfl (λh' c' hk hn=>?_) (dO (by simpa using hz))
 obtain ⟨st,I'⟩:=I.xG (t:=s.toks) hk hn
 exact q _ _ _ st I' (.lst (Gh.bz ..) ⟨hz,_,rfl⟩ (rs.mono st.toLe))
theorem aI.ofInts {f:Nat->Int} : ∀ {k:Nat} {vs:List Value},vs.length=k->(∀ (j:Nat) (v:Value),vs[j]?=some v->∃ t,v=Value.int (f j) t)->aI V g ((List.range k).map λj=>D.int (f j)) vs:=by
 intro k
 induction k generalizing f with
 |zero=>intro vs h _; induction vs using List.casesOn with|nil=>exact .nil|cons _ _=>cases h
 |succ k ih=>
  intro vs h hv
  induction vs using List.casesOn with
  |nil=>cases h
  |cons v vs=>
   obtain ⟨t,rfl⟩:=hv 0 v (by simp)
   rw [List.range_succ_eq_map,map_cons,map_map]
   refine .cons (.int _ _) (ih (f:=λj=>f (j+1)) (by simpa using h) λj v e=>hv (j+1) v (by simpa using e))
theorem Gv (a b:Int):Builtin.Range.rangeSize a b 1=((b - a).toNat:Nat):=by
 show (if a<b then (b - a - 1) / 1+1 else 0)=_
 by_cases h:a<b
 ·rw [if_pos h,Int.ediv_one,Int.sub_add_cancel,Int.toNat_of_nonneg (Int.sub_nonneg_of_le (Int.le_of_lt h))]
 ·rw [if_neg h,Int.toNat_of_nonpos (Int.sub_nonpos_of_le (Int.not_lt.mp h))]; rfl
theorem xu {a:Int} (lo : -(2 ^ 63)<=a) (hi:a<2 ^ 63):Builtin.Range.rangeFitsLong a=true:=by
 show (decide (-(2 ^ 63)<=a)&&decide (a<2 ^ 63))=true
 rw [decide_eq_true lo,decide_eq_true hi]; rfl
theorem pH {a:Int} (h:a.natAbs<2 ^ 60) : -(2 ^ 63)<=a/\a<2 ^ 63:=
 have e:(a.natAbs:Int)<2 ^ 63:=Int.lt_trans (ofNat_lt.mpr h) (by decide)
 ⟨Int.le_trans (Int.neg_le_neg (Int.le_of_lt e)) (Int.neg_le_of_neg_le (by rw [<-Int.natAbs_neg]; exact le_natAbs)),Int.lt_of_le_of_lt le_natAbs e⟩
theorem Gu {a b:Int} (h:vf a b=true):Builtin.Range.small a b 1=true/\b - a<=aH:=by
 unfold vf at h
 simp only [and_eq_true,decide_eq_true_eq] at h
 refine ⟨?_,h.2⟩
 have e:(((b - a).toNat:Nat):Int)<=aH:=ofNat_le.mpr (Int.toNat_le.mpr h.2)
 have fb:=xu (pH h.1.2).1 (pH h.1.2).2
 show (Builtin.Range.rangeFitsLong a&&Builtin.Range.rangeFitsLong b&&Builtin.Range.rangeFitsLong 1&&Builtin.Range.rangeFitsLong (Builtin.Range.rangeSize a b 1)&&(Builtin.Range.rangeSize a b 1==0||Builtin.Range.rangeFitsLong (b+0)))=true
 rw [xu (pH h.1.1).1 (pH h.1.1).2,fb,Gv,xu (Int.le_trans (by decide) (natCast_nonneg _)) (Int.lt_of_le_of_lt e (by decide)),add_zero,fb,Bool.or_true]; rfl
set_option tactic.hygienic true in
theorem TK (hh:A.handled=none) (I:ai V F m C g s) {a b:Int} (r:af V g (.cP a b) v) (hz:b - a<=aH) (hs:Builtin.Range.small a b 1=true):aj V F (af V) (cB V A .list [v]) g s (.ok (.lst (fZ a b)) ⟨m,C⟩):=by
 cases r with
 |cP h1 h2=>
  rename_i ra o lC lD lE
  intro Q E q
  have hr:IsRange s.heap ra a b 1 lC lD lE:=by rw [fm] at h2; subst h2; exact I.aB _ _ h1
  have hn:Builtin.Range.rangeSize a b 1=((b - a).toNat:Nat):=Gv a b
  have hl:(b - a).toNat<=100000:=Int.toNat_le.mpr hz
  refine call_list_range hh hr hs hn (an hl (by decide)) λh' tk acc c' hk ho kJ=>?_
  obtain ⟨st,I'⟩:=I.xG (t:=tk) hk ho
  obtain ⟨h3,h4⟩:=kJ
  refine q _ _ _ st I' (.lst (Gh.bz ..) (vs:=acc.toList) ⟨by rw [Array.length_toList,h3]; exact hl,_,by simp; rfl⟩ ?_)
  unfold fZ
  exact aI.ofInts (f:=λj=>a+(j:Int)) (by simpa using h3) λj v e=>by
   obtain ⟨t,rfl⟩:=h4 j v (by simpa using e)
   exact ⟨t,by simp⟩
theorem T3 (I:ai V F m C g s) (r:af V g d v) (h:a9 C d=some ds):aj V F (af V) (cB V A .tuple [v]) g s (.ok (.tup ds) ⟨m,C⟩):=by
 obtain ⟨a,vs,k,rfl,hl,hz,rs⟩:=I.list r h
 intro Q E q
 refine call_tuple_list hl.isList (λh' hk=>?_) (dO (by simpa using hz))
 have I1:=I.heap hk
 obtain ⟨st,I'⟩:=I1.lr {cls:=.type "tuple",data:=.seq vs.toArray} rfl s.toks
 exact q _ _ _ st I' (.tup (Gh.bz ..) ⟨hz,_,rfl⟩ (rs.mono st.toLe))
theorem E9 {xs:List Int} (h:eA ds=some xs) (r:aI V g ds vs) : ∃ ys:Array (Int × Tok),vs.toArray=intItems ys/\ys.toList.map (·.1)=xs:=by
 have hi:=uE h r
 have : ∃ l:List (Int × Tok),vs=l.map (λp=>Value.int p.1 p.2)/\l.map (·.1)=xs:=by
  clear h r
  induction hi with
  |nil=>exact ⟨[],rfl,rfl⟩
  |cons n t _ ih=>obtain ⟨l,rfl,h2⟩:=ih; exact ⟨(n,t)::l,rfl,by simp [h2]⟩
 obtain ⟨l,rfl,h2⟩:=this
 exact ⟨l.toArray,by simp [intItems],by simpa using h2⟩
theorem Bt : ∀ {xs:List Int},(∀ x∈xs,x.natAbs<2 ^ 32)->xs.sum.natAbs<=xs.length*2 ^ 32
 |[],_=>by simp
 |x::r,h=>by
  have ih:=Bt (xs:=r) λy hy=>h y (.tail _ hy)
  have hx:=h x (.head _)
  rw [List.sum_cons,length_cons]
  exact an (Int.natAbs_add_le x r.sum) (an (add_le_add (ln hx) ih) (by rw [succ_mul]; exact le_of_eq (add_comm _ _)))
theorem T1 (hh:A.handled=none) (I:ai V F m C g s) (r:af V g d v) {xs:List Int} (h:a9 C d=some ds) (hx:eA ds=some xs) (hb : ∀ x∈xs,x.natAbs<2 ^ 32) (hz:xs.length<=aH) :
  aj V F (af V) (cB V A .sum [v]) g s (.ok (.int xs.sum) ⟨m,C⟩):=by
 obtain ⟨a,vs,k,rfl,hl,gz,rs⟩:=I.list r h
 obtain ⟨ys,e1,e2⟩:=E9 hx rs
 intro Q E q
 have dG:s.heap.IsList a (intItems ys):=e1 ▸ hl.isList
 have nM:aH=100000:=rfl
 have hlen:ys.size=xs.length:=by rw [<-e2]; simp
 refine sum_intList hh dG (λj hj=>?_) λh' tk t' hk=>?_
 ·rw [numAt_eq,preSum_eq,e2]
  constructor
  ·exact pH (ii (hb _ (getD_mem (hlen ▸ hj))) (by decide))
  ·have h1:=Bt (xs:=xs.take (j+1)) λx hx=>hb x (mem_of_mem_take hx)
   have h2:(xs.take (j+1)).length<=aH:=an (by rw [length_take]; exact min_le_right _ _) hz
   exact pH (al (an h1 (Nat.mul_le_mul_right _ h2)) (by decide))
 ·rw [preSum_eq,e2,take_of_length_le (le_of_eq hlen.symm)]
  exact q g _ _ (.refl g) (I.both tk hk) (.int _ _)
theorem Rb : ∀ {xs:List Int} {x:Int},pT xs=some x->x∈xs/\∀ y∈xs,x<=y:=by
 have fold : ∀ (r:List Int) (a:Int),(r.foldl (λa b=>if b<a then b else a) a=a\/r.foldl (λa b=>if b<a then b else a) a∈r)/\r.foldl (λa b=>if b<a then b else a) a<=a/\∀ y∈r,r.foldl (λa b=>if b<a then b else a) a<=y:=by
  intro r
  induction r with
  |nil=>intro a; exact ⟨.inl rfl,Int.le_refl _,λy hy=>nomatch hy⟩
  |cons b r ih=>
   intro a
   obtain ⟨h1,h2,h3⟩:=ih (if b<a then b else a)
   rw [foldl_cons]
   refine ⟨?_,?_,λy hy=>?_⟩
   ·rcases h1 with h1|h1
    ·rw [h1]
     split
     ·exact .inr (.head _)
     ·exact .inl rfl
    ·exact .inr (.tail _ h1)
   ·refine Int.le_trans h2 ?_
    split
    ·exact Int.le_of_lt ‹_›
    ·exact Int.le_refl _
   ·rcases bi hy with rfl|hy
    ·refine Int.le_trans h2 ?_
     split
     ·exact Int.le_refl _
     ·exact Int.not_lt.mp ‹_›
    ·exact h3 y hy
 intro xs x h
 induction xs using List.casesOn with
 |nil=>exact aq h
 |cons a r=>
  obtain ⟨h1,h2,h3⟩:=fold r a
  simp only [pT,Option.some.injEq] at h
  rw [h] at h1 h2 h3
  refine ⟨?_,λy hy=>?_⟩
  ·rcases h1 with h1|h1
   ·rw [h1]; exact .head _
   ·exact .tail _ h1
  ·rcases bi hy with rfl|hy
   ·exact h2
   ·exact h3 y hy
theorem TN (hh:A.handled=none) (I:ai V F m C g s) (r:af V g d v) {xs:List Int} {x:Int} (h:a9 C d=some ds) (hx:eA ds=some xs) (hm:pT xs=some x) :
  aj V F (af V) (cB V A .min [v]) g s (.ok (.int x) ⟨m,C⟩):=by
 obtain ⟨a,vs,k,rfl,hl,gz,rs⟩:=I.list r h
 obtain ⟨ys,e1,e2⟩:=E9 hx rs
 obtain ⟨eX,hle⟩:=Rb hm
 intro Q E q
 have dG:s.heap.IsList a (intItems ys):=e1 ▸ hl.isList
 have hlen:ys.size=xs.length:=by rw [<-e2]; simp
 have ui:0<ys.size:=by rw [hlen]; exact length_pos_of_mem eX
 refine min_intList hh dG ui λu h' tk hu hk=>?_
 obtain ⟨t,rfl⟩:=intItems_at hu
 obtain ⟨b1,b2⟩:=argBest_lt (numAt ys) (ys.size - 1)
 have hj:argBest (λi j=>decide (numAt ys i<numAt ys j)) (ys.size - 1)<xs.length:=hlen ▸ al b1 (sub_lt ui one_pos)
 have:numAt ys (argBest (λi j=>decide (numAt ys i<numAt ys j)) (ys.size - 1))=x:=by
  refine Int.le_antisymm ?_ ?_
  ·obtain ⟨j,pq,rfl⟩:=mem_getD eX
   have:=b2 j (by rw [hlen]; exact Nat.le_sub_one_of_lt pq)
   rw [numAt_eq ys j,e2] at this
   exact this
  ·rw [numAt_eq,e2]; exact hle _ (getD_mem hj)
 rw [this]
 exact q g _ _ (.refl g) (I.both tk hk) (.int _ _)
variable {prog:Program} {w:World} {R:Result->Shared->Prop}
namespace LB
open PySem.W in
theorem Uw:Slot "bytes" "__len__" "bytes.__len__":=FB.slot_bytes_len
section
variable {E:Value->Shared->Prop} {b:Array UInt8}
set_option maxRecDepth 100000 in
theorem Oy {Q:Bool->Shared->Prop} (h:Q false s):wpAny (model prog w) A (Builtin.List.listLengthHint (.bytes b t)) Q E s:=by
 unfold Builtin.List.listLengthHint
 refine ce (wpAny_specialOf (W.typeIs_bytes _ _ _) Uw.lookup ?_)
 generalize Er:("bytes.__len__":String)=PH
 wp_delta
 rw [show splitId PH=some ("bytes","__len__") from by subst Er; decide +kernel]
 subst Er
 refine ce (wpAny_isInstance (T:="bytes") (b:=true) (W.typeIs_bytes _ _ _) (by rw [isSubtype_type]; kernel_rfl) ?_)
 refine wpAny_ite_split (λjl=>absurd jl (by decide)) (λu'=>?_)
 refine wpAny_ite_split (λu'=>?_) (λjl=>absurd (by decide +kernel) jl)
 refine ce (wpAny_typeOf (T:="bytes") (W.typeIs_bytes _ _ _) ?_)
 exact cr h
set_option maxRecDepth 100000 in
theorem MD (hh:A.handled=none) (hlen:b.size<=2 ^ 20) (S:Addr) (res:Value) (c₀:Nat) (hS:s.heap.get? S=some {cls:=.type "list",data:=.seq #[] c₀})
  (hR : ∀ h' tk bu c',(∀ b o,b≠S->s.heap.get? b=some o->h'.get? b=some o)->h'.get? S=some {cls:=.type "list",dict:=none,data:=.seq bu c',slots := #[]}->
   ItemsOf (λi v => ∃ c u,b[i]?=some c/\v=.int (c.toNat:Int) u) bu b.size->R (.ok (.ret res)) {s with heap:=h',toks:=tk}) :
  wpAny (model prog w) A.in1 (Builtin.List.listExtendWith (.ref S) (.bytes b t) res)
   (λfin s'=>match fin with|.done f=>R (.ok f) s'|.again c'=>c'.quiet=true/\codeAny (model prog w) A c' R s') (λe s'=>R (.error e) s') s:=by
 have NR:S<s.heap.objs.size:=Heap.lt_size hS
 have NP:S≠s.heap.objs.size:=ne_of_lt NR
 have NQ:S ∉ [s.heap.objs.size]:=λhm=>NP (ca hm)
 have WW:=(W.KBw.walks (prog:=prog) (w:=w) (A:=A.in1) hh s.heap.objs.size b t).toS
 have key : ∀ (h:Heap) (c₁ tk:Nat),W.KBw.IsBytesIter h s.heap.objs.size b t 0->(∀ b o,b≠S->s.heap.get? b=some o->h.get? b=some o)->
   h.get? S=some {cls:=.type "list",data:=.seq #[] c₁}->codeAny (model prog w) A (.builtin "list.extend.loop" ⟨[.ref S,.ref s.heap.objs.size,res],[]⟩) R {s with heap:=h,toks:=tk}:=by
  intro h c₁ tk hit hk xP
  refine codeAny_extend_loopS WW (an hlen (by decide)) S NQ res b.size 0 _ #[] c₁ rfl (zero_le _) hit xP (ItemsOf.nil _) λs' bu c' hm jk kJ=>?_
  rw [Moved.eq_with hm]
  refine hR s'.heap s'.toks bu c' (λb o hb e=>hm.heap b o (λeX=>?_) (hk b o hb e)) jk kJ
  rcases bi eX with e'|eX
  ·exact hb e'
  ·exact absurd (Heap.lt_size e) (by rw [mem_singleton.mp eX]; exact lt_irrefl _)
 unfold Builtin.List.listExtendWith
 refine ce (wpAny_typeOf (T:="bytes") (W.typeIs_bytes _ _ _) ?_)
 have h1:Builtin.List.listSameRef (.ref S) (.bytes b t)=false:=rfl
 have h2:(Value.type "bytes"==Value.type "list")=false:=by decide
 have h3:(Value.type "bytes"==Value.type "tuple")=false:=by decide
 simp only [h1,h2,h3,Bool.or_false,false_eq_true,if_false]
 refine ce (W.KBw.pyIter_bytes ?_)
 refine ce (ls (Oy ?_))
 have OB:W.KBw.IsBytesIter (s.heap.push {cls:=.type "bytes_iterator",data:=.fields #[.bytes b t,.int 0 0]}) s.heap.objs.size b t 0:=⟨_,lw _ rfl,rfl,rfl⟩
 have xP:=dL {cls:=.type "bytes_iterator",data:=.fields #[.bytes b t,.int 0 0]} hS
 exact wpAny_ite_split (λjl=>absurd jl Bool.false_ne_true) (λu'=>cr ⟨plainId_quiet PySem.F.plain_extend_loop _,key _ c₀ _ OB (λb o u' e=>dL _ e) xP⟩)
set_option maxRecDepth 100000 in
theorem JQ (hh:A.handled=none) (hlen:b.size<=2 ^ 20)
  (hQ : ∀ h' tk bu c',(∀ b o,s.heap.get? b=some o->h'.get? b=some o)->
   h'.get? s.heap.objs.size=some {cls:=.type "list",dict:=none,data:=.seq bu c',slots := #[]}->ItemsOf (λi v => ∃ c u,b[i]?=some c/\v=.int (c.toNat:Int) u) bu b.size->Q (.ref s.heap.objs.size) {s with heap:=h',toks:=tk}) :
  wpAny (model prog w) A (call (.type "list") [.bytes b t]) Q E s:=by
 refine callType_codes (Q₁:=λobj au=>obj=.ref s.heap.objs.size/\au={s with heap:=s.heap.push {cls:=.type "list",data:=.seq #[]}}) PySem.F.called_list (PySem.F.typeCall_list_1 _) PySem.F.entry_list_init
  (code_list_new _ ⟨rfl,rfl⟩) λobj au et=>?_
 obtain ⟨rfl,rfl⟩:=et
 have hS:(s.heap.push {cls:=.type "list",data:=.seq #[]}).get? s.heap.objs.size=some {cls:=.type "list",data:=.seq #[]}:=lw _ rfl
 refine ⟨⟨_,hS,rfl⟩,PySem.F.args_list_init_2 _ _,?_⟩
 show wpAny _ _ (do let old <-Builtin.List.listItems (.ref s.heap.objs.size); Builtin.List.listUpdate (.ref s.heap.objs.size) (λu' => #[]); letGo old.toList.reverse; Builtin.List.listExtendWith (.ref s.heap.objs.size) (.bytes b t) .none) _ _ _
 refine ce ?_
 unfold Builtin.List.listItems
 refine ce (wpAny_seqItems hS rfl (cr ?_))
 show wpAny _ _ (updateSeq s.heap.objs.size (λu' => #[]) >>= λu'=>letGo (#[]:Array Value).toList.reverse >>= λu'=>Builtin.List.listExtendWith (.ref s.heap.objs.size) (.bytes b t) .none) _ _ _
 refine ce (wpAny_updateSeq hS rfl ?_)
 have xQ:=Heap.get?_update_self (Obj.mapSeq (λu'=>(#[]:Array Value))) hS rfl
 refine ce (wpAny_letGo ?_)
 refine MD (A:=A.in1) hh hlen s.heap.objs.size .none _ xQ λh' tk bu c' hk jk kJ=>⟨rfl,hQ h' tk bu c' (λb o e=>hk b o (ne_of_lt (Heap.lt_size e)) ?_) jk kJ⟩
 exact (Heap.get?_update_other _ _ (ne_of_gt (Heap.lt_size e))).trans (dL _ e)
theorem QU (l:Addr) (items:Array Value) (yf:(items.size:Int)<2 ^ 63) :
  Meets (Builtin.«bool.__new__» ⟨[.type "bool",.ref l],[]⟩) (λu' R s=>s.heap.IsList l items/\R (.ok (.ret (.bool (!items.isEmpty)))) {s with toks:=s.toks+1+1}):=
 Meets.of_wp λprog w A R s hs=>by
  obtain ⟨hp,g,d,tk,os⟩:=s
  obtain ⟨hl,hs⟩:=hs
  have f1:=PySem.F.conv_sub_bool
  repeat (any_goals (first|assumption|(with_reducible refine wpAny_truthy_list hl yf ?_)|wp_step))
  all_goals first|exact ⟨_,rfl,hs⟩|exact hs|skip
end
end LB
noncomputable def je:Bool->Keyed->Array Keyed->Nat->Nat->Nat->StateT SortSt Sem (Option Nat):=sortPriv% PySem.Builtin.gallop
theorem Ng (left:Bool) (key:Keyed) (arr:Array Keyed) (base n hint:Nat):je left key arr base n hint=(do
 let beyond (i:Nat):StateT SortSt Sem (Option Bool):=do
  let x <-elem' arr (base+i)
  if left then lt' x key else return (<-lt' key x).map (!·)
 let mut uP:=0
 let mut iT:=1
 let mut lo:=0
 let mut hi:=0
 let some right <-beyond hint|return none
 if right then
  let rQ:=n - hint
  for _ in [0:n] do
   if iT ≥ rQ then break
   let some more <-beyond (hint+iT)|return none
   if !more then break
   uP:=iT
   iT:=2*iT+1
  lo:=hint+uP+1
  hi:=hint+min iT rQ
 else
  let rQ:=hint+1
  for _ in [0:n] do
   if iT ≥ rQ then break
   let some found <-beyond (hint - iT)|return none
   if found then break
   uP:=iT
   iT:=2*iT+1
  lo:=hint+1 - min iT rQ
  hi:=hint - uP
 for _ in [0:n] do
  if lo ≥ hi then break
  let m:=lo+(hi - lo) / 2
  let some more <-beyond m|return none
  if more then lo:=m+1 else hi:=m
 return some hi):=rfl
variable {y key:Keyed} {st:SortSt} {arr:Array Keyed} {left:Bool} {base hint:Nat}
section
variable {E:Value->Shared->Prop}
noncomputable def cG (p:Keyed):Prop := ∃ n t,p.1=.int n t
noncomputable def kv (p:Keyed):Int:=numOf p.1
theorem vy {x:Keyed} {Q:Option Bool->SortSt->Prop} (hk:kindOf st=oneType') (hx:cG x) (hy:cG y) (h:Q (some (decide (kv x<kv y))) st):wpS (model prog w) A E s (lt' x y) Q st:=by
 obtain ⟨x,p⟩:=x
 obtain ⟨y,q⟩:=y
 obtain ⟨a,t,rfl⟩:=hx
 obtain ⟨b,u,rfl⟩:=hy
 rw [lt'_eq]
 refine ga (wpS_get ?_)
 rw [hk,keyLt'_oneType]
 exact ga (wpS_lift (wpAny_attempt (oneLt_int ⟨rfl,lv h⟩)))
theorem gI {p:Keyed} {Q:Keyed->SortSt->Prop} (hi:arr[i]?=some p) (h:Q p st):wpS (model prog w) A E s (elem' arr i) Q st:=by
 rw [elem'_eq,hi]; exact lv h
noncomputable def gJ (left:Bool) (key:Keyed) (x:Keyed):Bool:=if left then decide (kv x<kv key) else !decide (kv key<kv x)
noncomputable def oU (left:Bool) (key:Keyed) (arr:Array Keyed) (base i:Nat):StateT SortSt Sem (Option Bool):=do
  let x <-elem' arr (base+i)
  if left then lt' x key else return (<-lt' key x).map (!·)
theorem Ws {x:Keyed} {Q:Option Bool->SortSt->Prop} (hk:kindOf st=oneType') (ju:cG key) (hi:arr[base+i]?=some x) (hx:cG x) (h:Q (some (gJ left key x)) st):wpS (model prog w) A E s (oU left key arr base i) Q st:=by
 unfold oU
 refine ga (gI hi ?_)
 induction left with
 |true=>exact vy hk hx ju h
 |false=>exact ga (vy hk ju hx (lv h))
abbrev sS:=Option (Option Nat) × Nat × Nat
noncomputable def tW (gf:Nat->StateT SortSt Sem (Option Bool)) (n mx:Nat) (at_:Nat->Nat) (c:Bool->Bool):StateT SortSt Sem sS:=
 forIn [0:n] ((none,0,1):sS) λ_ __s=>if __s.snd.snd ≥ mx then pure (ForInStep.done (none,__s.snd.fst,__s.snd.snd)) else do
  let __x <-gf (at_ __s.snd.snd)
  match __x with
  |some b=>if c b=true then pure (ForInStep.done (none,__s.snd.fst,__s.snd.snd)) else pure (ForInStep.yield (none,__s.snd.snd,2*__s.snd.snd+1))
  |x=>pure (ForInStep.done (some none,__s.snd.fst,__s.snd.snd))
noncomputable def tV (gf:Nat->StateT SortSt Sem (Option Bool)) (n lo hi:Nat):StateT SortSt Sem (Option Nat):=do
 let __s <-forIn [0:n] ((none,lo,hi):sS) λ_ __s=>if __s.snd.fst ≥ __s.snd.snd then pure (ForInStep.done (none,__s.snd.fst,__s.snd.snd)) else do
  let __x <-gf (__s.snd.fst+(__s.snd.snd - __s.snd.fst) / 2)
  match __x with
  |some more=>if more=true then pure (ForInStep.yield (none,__s.snd.fst+(__s.snd.snd - __s.snd.fst) / 2+1,__s.snd.snd)) else pure (ForInStep.yield (none,__s.snd.fst,__s.snd.fst+(__s.snd.snd - __s.snd.fst) / 2))
  |x=>pure (ForInStep.done (some none,__s.snd.fst,__s.snd.snd))
 match __s.fst with
 |some r=>pure r
 |none=>pure (some __s.snd.snd)
noncomputable def DV (gf:Nat->StateT SortSt Sem (Option Bool)) (n hint:Nat):StateT SortSt Sem (Option Nat):=do
 let __s <-tW gf n (n - hint) (λo=>hint+o) (λb=>!b)
 match __s.fst with
 |some r=>pure r
 |none=>tV gf n (hint+__s.snd.fst+1) (hint+min __s.snd.snd (n - hint))
noncomputable def DU (gf:Nat->StateT SortSt Sem (Option Bool)) (n hint:Nat):StateT SortSt Sem (Option Nat):=do
 let __s <-tW gf n (hint+1) (λo=>hint - o) (λb=>b)
 match __s.fst with
 |some r=>pure r
 |none=>tV gf n (hint+1 - min __s.snd.snd (hint+1)) (hint - __s.snd.fst)
theorem Nf (left:Bool) (key:Keyed) (arr:Array Keyed) (base n hint:Nat):je left key arr base n hint=(do
  let __x <-oU left key arr base hint
  match __x with
  |some right=>if right=true then DV (oU left key arr base) n hint else DU (oU left key arr base) n hint
  |x=>pure none):=by
 rw [Ng]
 refine congrArg (bind _) (funext λx=>?_)
 induction x with
 |none=>rfl
 |some right=>
  induction right with
  |true=>exact congrArg (bind _) (funext λy=>by
    obtain ⟨r,l,o⟩:=y
    induction r with
    |some r=>rfl
    |none=>exact congrArg (bind _) (funext λy=>by obtain ⟨r,l,o⟩:=y; induction r<;>rfl))
  |false=>exact congrArg (bind _) (funext λy=>by
    obtain ⟨r,l,o⟩:=y
    induction r with
    |some r=>rfl
    |none=>exact congrArg (bind _) (funext λy=>by obtain ⟨r,l,o⟩:=y; induction r<;>rfl))
variable {gf:Nat->StateT SortSt Sem (Option Bool)} {p:Nat->Bool}
theorem HE {mx:Nat} {at_:Nat->Nat} {c:Bool->Bool} {Q:sS->SortSt->Prop} (hb : ∀ i,i<n->∀ Q:Option Bool->SortSt->Prop,Q (some (p i)) st->wpS (model prog w) A E s (gf i) Q st) (hm:0<mx) (OQ:mx<=n) (NX : ∀ o,o<mx->at_ o<n) (h0:c (p (at_ 0))=false)
  (h : ∀ l o,l<o->l<mx->c (p (at_ l))=false->(mx<=o\/o<mx/\c (p (at_ o))=true)->Q (none,l,o) st):wpS (model prog w) A E s (tW gf n mx at_ c) Q st:=by
 unfold tW
 refine wpS_forRange (I:=λx s' ao=>ao=st/\∃ l o,s'=(none,l,o)/\l<o/\l<mx/\c (p (at_ l))=false/\x<o) ?_ ?_ ⟨rfl,0,1,rfl,one_pos,hm,h0,one_pos⟩
 ·rintro x s' ao _ hx ⟨rfl,l,o,rfl,h1,h2,h3,h4⟩
  dsimp only
  by_cases kM:o ≥ mx
  ·rw [if_pos kM]; exact lv (h l o h1 h2 h3 (.inl kM))
  ·rw [if_neg kM]
   have aZ:=lt_of_not_le kM
   refine ga (hb _ (NX o aZ) _ ?_)
   dsimp only
   induction hc:c (p (at_ o)) with
   |true=>exact lv (h l o h1 h2 h3 (.inr ⟨aZ,hc⟩))
   |false=>
    refine lv ⟨rfl,o,2*o+1,rfl,?_,aZ,hc,?_⟩
    ·exact Nat.lt_succ_of_le (Nat.le_mul_of_pos_left o (by decide))
    ·exact Nat.succ_lt_succ (am h4 (Nat.le_mul_of_pos_left o (by decide)))
 ·rintro s' ao ⟨rfl,l,o,rfl,h1,h2,h3,h4⟩
  exact h l o h1 h2 h3 (.inl (an OQ (ln (al (Nat.le_max_right 0 n) h4))))
theorem HD {lo hi:Nat} {Q:Option Nat->SortSt->Prop} (hb : ∀ i,i<n->∀ Q:Option Bool->SortSt->Prop,Q (some (p i)) st->wpS (model prog w) A E s (gf i) Q st) (mono : ∀ i j,i<=j->j<n->p j=true->p i=true) (mh:lo<=hi) (nK:hi<=n) (h1 : ∀ i,i<lo->p i=true) (h2 : ∀ i,hi<=i->i<n->p i=false)
  (h : ∀ k,k<=n->(∀ i,i<k->p i=true)->(∀ i,k<=i->i<n->p i=false)->Q (some k) st):wpS (model prog w) A E s (tV gf n lo hi) Q st:=by
 unfold tV
 refine ga (nw (wpS_forRange (I:=λx s' ao=>ao=st/\∃ l r,s'=(none,l,r)/\l<=r/\r<=n/\r<=l+(n - x)/\(∀ i,i<l->p i=true)/\∀ i,r<=i->i<n->p i=false)
  (Q:=λs' ao=>ao=st/\∃ r,r<=n/\s'=(none,r,r)/\(∀ i,i<r->p i=true)/\∀ i,r<=i->i<n->p i=false) ?_ ?_ ⟨rfl,lo,hi,rfl,mh,nK,an nK (le_add_left n lo),h1,h2⟩) ?_)
 ·rintro x s' ao _ hx ⟨rfl,l,r,rfl,a1,a2,a3,a4,a5⟩
  dsimp only
  by_cases kM:l ≥ r
  ·rw [if_pos kM]
   obtain rfl:=le_antisymm a1 kM
   exact lv ⟨rfl,l,a2,rfl,a4,a5⟩
  ·rw [if_neg kM]
   have hm:l+(r - l) / 2<r:=Nat.add_lt_of_lt_sub' (Nat.div_lt_self (sub_pos_of_lt (lt_of_not_le kM)) (by decide))
   have e:n - x=n - (x+1)+1:=(Nat.sub_add_cancel (sub_pos_of_lt hx)).symm
   have a3:r<=l+1+(n - (x+1)):=an a3 (le_of_eq (by rw [e,add_assoc l,add_comm 1]))
   refine ga (hb _ (am hm a2) _ ?_)
   dsimp only
   induction hc:p (l+(r - l) / 2) with
   |true=>exact lv ⟨rfl,_,r,rfl,hm,a2,an a3 (add_le_add_right (succ_le_succ (jp l _)) _),λi hi=>mono i _ (mt hi) (am hm a2) hc,a5⟩
   |false=>
    refine lv ⟨rfl,l,_,rfl,jp _ _,an (ln hm) a2,mt (am hm (an a3 (le_of_eq (add_right_comm _ _ _)))),a4,λi hi hn=>Bool.eq_false_iff.mpr λz=>?_⟩
    rw [mono _ i hi hn z] at hc; exact (nomatch hc)
 ·rintro s' ao ⟨rfl,l,r,rfl,a1,a2,a3,a4,a5⟩
  rw [Nat.max_eq_right (zero_le n),sub_self] at a3
  obtain rfl:=le_antisymm a1 a3
  exact ⟨rfl,l,a2,rfl,a4,a5⟩
 ·rintro s' ao ⟨rfl,r,hr,rfl,a4,a5⟩
  exact lv (h r hr a4 a5)
theorem Wu {Q:Option Nat->SortSt->Prop} (hb : ∀ i,i<n->∀ Q:Option Bool->SortSt->Prop,Q (some (p i)) st->wpS (model prog w) A E s (oU left key arr base i) Q st) (mono : ∀ i j,i<=j->j<n->p j=true->p i=true) (hh:hint<n)
  (h : ∀ k,k<=n->(∀ i,i<k->p i=true)->(∀ i,k<=i->i<n->p i=false)->Q (some k) st):wpS (model prog w) A E s (je left key arr base n hint) Q st:=by
 rw [Nf]
 have qm : ∀ i j,i<=j->j<n->p i=false->p j=false:=λi j h1 h2 h3=>Bool.eq_false_iff.mpr λz=>by rw [mono i j h1 h2 z] at h3; exact (nomatch h3)
 refine ga (hb hint hh _ ?_)
 dsimp only
 induction hp:p hint with
 |true=>
  rw [if_pos rfl]
  unfold DV
  refine ga (HE hb (sub_pos_of_lt hh) (sub_le _ _) (λo ho=>Nat.add_lt_of_lt_sub' ho) (by rw [Nat.add_zero,hp]; rfl) λl o a1 a2 a3 a4=>?_)
  dsimp only at a3 a4 ⊢
  have hl:hint+l<n:=Nat.add_lt_of_lt_sub' a2
  refine HD hb mono (add_le_add_left (Nat.le_min.mpr ⟨a1,a2⟩) hint) (an (add_le_add_left (min_le_right _ _) hint) (le_of_eq (add_sub_cancel' (ln hh)))) (λi hi=>mono i (hint+l) (mt hi) hl (by rw [Bool.not_eq_false'] at a3; exact a3)) (λi hi hn=>?_) h
  rcases a4 with a4|⟨a4,a5⟩
  ·rw [min_eq_right a4,add_sub_cancel' (le_of_lt hh)] at hi
   exact absurd hn (not_lt.mpr hi)
  ·rw [not_eq_true'] at a5
   rw [min_eq_left (le_of_lt a4)] at hi
   exact qm (hint+o) i hi hn a5
 |false=>
  rw [if_neg Bool.false_ne_true]
  unfold DU
  refine ga (HE (c:=λb=>b) hb (succ_pos _) hh (λo ho=>al (sub_le _ _) hh) hp λl o a1 a2 a3 a4=>?_)
  dsimp only at a3 a4 ⊢
  refine HD hb mono (an (Nat.sub_le_sub_left (Nat.le_min.mpr ⟨a1,a2⟩) (hint+1)) (le_of_eq (Nat.add_sub_add_right _ _ _))) (an (sub_le _ _) (ln hh)) (λi hi=>?_) (λi hi hn=>qm (hint - l) i hi hn a3) h
  rcases a4 with a4|⟨a4,a5⟩
  ·rw [min_eq_right a4,sub_self] at hi
   exact absurd hi (not_lt_zero _)
  ·rw [min_eq_left (le_of_lt a4),Nat.succ_sub (le_of_lt_succ a4)] at hi
   exact mono i (hint - o) (mt hi) (al (sub_le _ _) hh) a5
end
noncomputable def sq:Nat->StateT SortSt Sem Unit:=sortPriv% PySem.Builtin.setMinGallop
abbrev zN (st:SortSt) (g:Nat):SortSt:=SortSt.mk' (kindOf st) (arrOf st) (pendingOf st) g (failedOf st)
theorem GV (g:Nat):sq g=modify λs=>zN s g:=rfl
noncomputable def uY:Array Keyed->Array Keyed->StateT SortSt Sem (Array Keyed):=sortPriv% PySem.Builtin.mergeLo
theorem Q6 (a b:Array Keyed):uY a b=(do
 rule "list.sort.merge-lo"
 let total:=a.size+b.size
 let done (out:Array Keyed) (ia ib:Nat):=out++a.extract ia a.size++b.extract ib b.size
 let uN (out:Array Keyed) (ia ib:Nat):=out++b.extract ib b.size++a.extract ia a.size
 let mut out:Array Keyed := #[<-elem' b 0]
 let mut ia:=0
 let mut ib:=1
 if ib==b.size then return done out ia ib
 if ia+1==a.size then return uN out ia ib
 let mut minGallop:=gallopOf (<-get)
 for _ in [0:total] do
  let mut oM:=0
  let mut oR:=0
  for _ in [0:total] do
   let some v3 <-lt' (<-elem' b ib) (<-elem' a ia)|return done out ia ib
   if v3 then
    out:=out.push (<-elem' b ib); ib:=ib+1; oR:=oR+1; oM:=0
    if ib==b.size then return done out ia ib
    if oR ≥ minGallop then break
   else
    out:=out.push (<-elem' a ia); ia:=ia+1; oM:=oM+1; oR:=0
    if ia+1==a.size then return uN out ia ib
    if oM ≥ minGallop then break
  rule "list.sort.gallop"
  minGallop:=minGallop+1
  for _ in [0:total] do
   if minGallop > 1 then minGallop:=minGallop - 1
   sq minGallop
   let some k <-je false (<-elem' b ib) a ia (a.size - ia) 0|return done out ia ib
   oM:=k
   if k > 0 then
    out:=out++a.extract ia (ia+k); ia:=ia+k
    if ia+1==a.size then return uN out ia ib
    if ia==a.size then return done out ia ib
   out:=out.push (<-elem' b ib); ib:=ib+1
   if ib==b.size then return done out ia ib
   let some k <-je true (<-elem' a ia) b ib (b.size - ib) 0|return done out ia ib
   oR:=k
   if k > 0 then
    out:=out++b.extract ib (ib+k); ib:=ib+k
    if ib==b.size then return done out ia ib
   out:=out.push (<-elem' a ia); ia:=ia+1
   if ia+1==a.size then return uN out ia ib
   if oM<7&&oR<7 then break
  minGallop:=minGallop+1
  sq minGallop
 unsupported "internal:list.sort.merge-bound"):=rfl
abbrev bL (p q:Keyed):Prop:=kv p<=kv q
structure MI (R:Keyed->Keyed->Prop) (all out X Y:List Keyed):Prop where
 perm:(out++(X++Y)).Perm all
 so:out.Pairwise R
 sx:X.Pairwise R
 sy:Y.Pairwise R
 ox : ∀ o∈out,∀ x∈X,R o x
 oy : ∀ o∈out,∀ y∈Y,R o y
noncomputable def gK (all:List Keyed) (r:Array Keyed):Prop:=r.toList.Perm all/\r.toList.Pairwise bL
variable {Y:List Keyed}
section
variable {R:Keyed->Keyed->Prop} {all out T X:List Keyed}
theorem MI.mx (M:MI R all out (T++X) Y) (h : ∀ t∈T,∀ y∈Y,R t y):MI R all (out++T) X Y:=by
 obtain ⟨p1,p2,p3⟩:=pairwise_append.mp M.sx
 refine ⟨?_,pairwise_append.mpr ⟨M.so,p1,λo ho t ht=>M.ox o ho t (mem_append_left _ ht)⟩,p2,M.sy,λo ho x hx=>?_,λo ho y hy=>?_⟩
 ·have:=M.perm
  rw [append_assoc,<-append_assoc T]; exact this
 ·exact (mem_append.mp ho).elim (λz=>M.ox o z x (mem_append_right _ hx)) λz=>p3 o z x hx
 ·exact (mem_append.mp ho).elim (λz=>M.oy o z y hy) λz=>h o z y hy
theorem MI.my (M:MI R all out X (T++Y)) (h : ∀ t∈T,∀ x∈X,R t x):MI R all (out++T) X Y:=by
 obtain ⟨p1,p2,p3⟩:=pairwise_append.mp M.sy
 refine ⟨?_,pairwise_append.mpr ⟨M.so,p1,λo ho t ht=>M.oy o ho t (mem_append_left _ ht)⟩,M.sx,p2,λo ho x hx=>?_,λo ho y hy=>?_⟩
 ·rw [append_assoc]
  exact (List.Perm.append_left out (List.perm_append_comm_assoc T X Y)).trans M.perm
 ·exact (mem_append.mp ho).elim (λz=>M.ox o z x hx) λz=>h o z x hx
 ·exact (mem_append.mp ho).elim (λz=>M.oy o z y (mem_append_right _ hy)) λz=>p3 o z y hy
theorem MI.CV (M:MI R all out X []):(out++X).Perm all/\(out++X).Pairwise R:=
 ⟨by have:=M.perm; rw [append_nil] at this; exact this,pairwise_append.mpr ⟨M.so,M.sx,M.ox⟩⟩
theorem MI.CW (M:MI R all out X Y) (h : ∀ y∈Y,∀ x∈X,R y x):(out++Y++X).Perm all/\(out++Y++X).Pairwise R:=
 (MI.my (T:=Y) (Y:=[]) (by rw [append_nil]; exact M) h).CV
end
section
variable {a b out:Array Keyed}
theorem tI:(a.extract i a.size).toList=a.toList.drop i:=by
 rw [Array.toList_extract]
 show (a.toList.drop i).take (a.size - i)=_
 exact take_of_length_le (by rw [length_drop]; exact le_refl _)
theorem Dp:(a.extract i (i+k)).toList=(a.toList.drop i).take k:=by
 rw [Array.toList_extract]
 show (a.toList.drop i).take (i+k - i)=_
 rw [add_sub_cancel_left]
theorem WZ:(a.extract 0 i).toList=a.toList.take i:=by
 rw [Array.toList_extract]; rfl
theorem jJ (h:i<a.size) : ∃ x,a[i]?=some x/\x∈a.toList/\a.toList.drop i=x::a.toList.drop (i+1):=by
 refine ⟨a[i],getElem?_pos a i h,?_,?_⟩
 ·exact Array.getElem_mem_toList h
 ·rw [List.drop_eq_getElem_cons (show i<a.toList.length from h)]; rfl
end
abbrev MS:=Option (Array Keyed) × Array Keyed × Nat × Nat × Nat × Nat
abbrev MG:=Option (Array Keyed) × Array Keyed × Nat × Nat × Nat × Nat × Nat
abbrev MO:=Option (Array Keyed) × Array Keyed × Nat × Nat × Nat
section
variable (a b:Array Keyed)
noncomputable def i9 (out:Array Keyed) (ia ib:Nat):Array Keyed:=out++a.extract ia a.size++b.extract ib b.size
noncomputable def n7 (out:Array Keyed) (ia ib:Nat):Array Keyed:=out++b.extract ib b.size++a.extract ia a.size
noncomputable def yS (mg:Nat) (s:MS):StateT SortSt Sem (ForInStep MS):=do
 let y <-elem' b s.snd.snd.snd.fst
 let x <-elem' a s.snd.snd.fst
 let __x <-lt' y x
 match __x with
 |some v3=>if v3=true then do
   let y <-elem' b s.snd.snd.snd.fst
   if (s.snd.snd.snd.fst+1==b.size)=true then pure (ForInStep.done (some (i9 a b (s.snd.fst.push y) s.snd.snd.fst (s.snd.snd.snd.fst+1)),s.snd.fst.push y,s.snd.snd.fst,s.snd.snd.snd.fst+1,0,s.snd.snd.snd.snd.snd+1))
   else if s.snd.snd.snd.snd.snd+1 ≥ mg then pure (ForInStep.done (none,s.snd.fst.push y,s.snd.snd.fst,s.snd.snd.snd.fst+1,0,s.snd.snd.snd.snd.snd+1))
   else pure (ForInStep.yield (none,s.snd.fst.push y,s.snd.snd.fst,s.snd.snd.snd.fst+1,0,s.snd.snd.snd.snd.snd+1)) else do
   let x <-elem' a s.snd.snd.fst
   if (s.snd.snd.fst+1+1==a.size)=true then pure (ForInStep.done (some (n7 a b (s.snd.fst.push x) (s.snd.snd.fst+1) s.snd.snd.snd.fst),s.snd.fst.push x,s.snd.snd.fst+1,s.snd.snd.snd.fst,s.snd.snd.snd.snd.fst+1,0))
   else if s.snd.snd.snd.snd.fst+1 ≥ mg then pure (ForInStep.done (none,s.snd.fst.push x,s.snd.snd.fst+1,s.snd.snd.snd.fst,s.snd.snd.snd.snd.fst+1,0))
   else pure (ForInStep.yield (none,s.snd.fst.push x,s.snd.snd.fst+1,s.snd.snd.snd.fst,s.snd.snd.snd.snd.fst+1,0))
 |x=>pure (ForInStep.done (some (i9 a b s.snd.fst s.snd.snd.fst s.snd.snd.snd.fst),s.snd.fst,s.snd.snd.fst,s.snd.snd.snd.fst,s.snd.snd.snd.snd.fst,s.snd.snd.snd.snd.snd))
noncomputable def tZ (out:Array Keyed) (ia ib mg k k2:Nat):StateT SortSt Sem (ForInStep MG):=do
 let x <-elem' a ia
 if (ia+1+1==a.size)=true then pure (ForInStep.done (some (n7 a b (out.push x) (ia+1) ib),out.push x,ia+1,ib,mg,k,k2))
 else if (decide (k<7)&&decide (k2<7))=true then pure (ForInStep.done (none,out.push x,ia+1,ib,mg,k,k2))
 else pure (ForInStep.yield (none,out.push x,ia+1,ib,mg,k,k2))
noncomputable def tY (out:Array Keyed) (ia ib mg k bc:Nat):StateT SortSt Sem (ForInStep MG):=do
 let y <-elem' b ib
 if (ib+1==b.size)=true then pure (ForInStep.done (some (i9 a b (out.push y) ia (ib+1)),out.push y,ia,ib+1,mg,k,bc))
 else do
  let x <-elem' a ia
  let __x <-je true x b (ib+1) (b.size - (ib+1)) 0
  match __x with
  |some k2=>(if k2 > 0 then (if (ib+1+k2==b.size)=true then pure (ForInStep.done (some (i9 a b (out.push y++b.extract (ib+1) (ib+1+k2)) ia (ib+1+k2)),out.push y++b.extract (ib+1) (ib+1+k2),ia,ib+1+k2,mg,k,k2))
    else tZ a b (out.push y++b.extract (ib+1) (ib+1+k2)) ia (ib+1+k2) mg k k2)
   else tZ a b (out.push y) ia (ib+1) mg k k2)
  |x=>pure (ForInStep.done (some (i9 a b (out.push y) ia (ib+1)),out.push y,ia,ib+1,mg,k,bc))
noncomputable def tX (out:Array Keyed) (ia ib mg ac bc:Nat):StateT SortSt Sem (ForInStep MG):=do
 sq mg
 let y <-elem' b ib
 let __x <-je false y a ia (a.size - ia) 0
 match __x with
 |some k=>(if k > 0 then (if (ia+k+1==a.size)=true then pure (ForInStep.done (some (n7 a b (out++a.extract ia (ia+k)) (ia+k) ib),out++a.extract ia (ia+k),ia+k,ib,mg,k,bc))
   else if (ia+k==a.size)=true then pure (ForInStep.done (some (i9 a b (out++a.extract ia (ia+k)) (ia+k) ib),out++a.extract ia (ia+k),ia+k,ib,mg,k,bc))
   else tY a b (out++a.extract ia (ia+k)) (ia+k) ib mg k bc)
  else tY a b out ia ib mg k bc)
 |x=>pure (ForInStep.done (some (i9 a b out ia ib),out,ia,ib,mg,ac,bc))
noncomputable def E6 (s:MG):StateT SortSt Sem (ForInStep MG):=
 if s.snd.snd.snd.snd.fst > 1 then tX a b s.snd.fst s.snd.snd.fst s.snd.snd.snd.fst (s.snd.snd.snd.snd.fst - 1) s.snd.snd.snd.snd.snd.fst s.snd.snd.snd.snd.snd.snd
 else tX a b s.snd.fst s.snd.snd.fst s.snd.snd.snd.fst s.snd.snd.snd.snd.fst s.snd.snd.snd.snd.snd.fst s.snd.snd.snd.snd.snd.snd
noncomputable def F6 (s:MG):StateT SortSt Sem (ForInStep MO):=match s.fst with
 |some r=>pure (ForInStep.done (some r,s.snd.fst,s.snd.snd.fst,s.snd.snd.snd.fst,s.snd.snd.snd.snd.fst))
 |none=>do
  sq (s.snd.snd.snd.snd.fst+1)
  pure (ForInStep.yield (none,s.snd.fst,s.snd.snd.fst,s.snd.snd.snd.fst,s.snd.snd.snd.snd.fst+1))
noncomputable def F7 (mg:Nat) (s:MS):StateT SortSt Sem (ForInStep MO):=match s.fst with
 |some r=>pure (ForInStep.done (some r,s.snd.fst,s.snd.snd.fst,s.snd.snd.snd.fst,mg))
 |none=>do
  liftM (rule "list.sort.gallop")
  let s2 <-forIn [0:a.size+b.size] ((none,s.snd.fst,s.snd.snd.fst,s.snd.snd.snd.fst,mg+1,s.snd.snd.snd.snd.fst,s.snd.snd.snd.snd.snd):MG) λ_ s=>E6 a b s
  F6 s2
noncomputable def Ac (s:MO):StateT SortSt Sem (ForInStep MO):=do
 let s1 <-forIn [0:a.size+b.size] ((none,s.snd.fst,s.snd.snd.fst,s.snd.snd.snd.fst,0,0):MS) λ_ s1=>yS a b s.snd.snd.snd.snd s1
 F7 a b s.snd.snd.snd.snd s1
noncomputable def L3 (s:MO):StateT SortSt Sem (Array Keyed):=match s.fst with
 |some r=>pure r
 |none=>liftM (unsupported "internal:list.sort.merge-bound":Sem (Array Keyed))
theorem Q5:uY a b=(do
  liftM (rule "list.sort.merge-lo")
  let y <-elem' b 0
  if (1==b.size)=true then pure (i9 a b #[y] 0 1)
  else if (0+1==a.size)=true then pure (n7 a b #[y] 0 1)
  else do
   let st <-get
   let s <-forIn [0:a.size+b.size] ((none,#[y],0,1,gallopOf st):MO) λ_ s=>Ac a b s
   L3 s):=by
 rw [Q6]
 refine congrArg (bind _) (funext λ_=>congrArg (bind _) (funext λy=>?_))
 by_cases h1:(1==b.size)=true
 ·rw [if_pos h1,if_pos h1]; rfl
 ·rw [if_neg h1,if_neg h1]
  by_cases h2:(0+1==a.size)=true
  ·rw [if_pos h2,if_pos h2]; rfl
  ·rw [if_neg h2,if_neg h2]
   refine congrArg (bind _) (funext λst=>?_)
   refine congr (congrArg bind ?_) (funext λs=>?_)
   ·refine congrArg (forIn _ _) (funext λ_=>funext λs=>?_)
    refine congrArg (bind _) (funext λs1=>?_)
    obtain ⟨r,s1⟩:=s1
    induction r with
    |some r=>rfl
    |none=>
     refine congrArg (bind _) (funext λ_=>congrArg (bind _) (funext λs2=>?_))
     obtain ⟨r,s2⟩:=s2
     induction r<;>rfl
   ·obtain ⟨r,s⟩:=s
    induction r<;>rfl
end
variable {ia ib n0 mg bc:Nat}
section
variable {E:Value->Shared->Prop} {a b:Array Keyed} {all:List Keyed} {cu:SortSt}
structure RL (a b:Array Keyed) (all:List Keyed) (out:Array Keyed) (ia ib:Nat):Prop where
 mi:MI bL all out.toList (a.toList.drop ia) (b.toList.drop ib)
 la:ia+1<a.size
 lb:ib<b.size
structure HL (a b:Array Keyed):Prop where
 ka : ∀ p∈a.toList,cG p
 kb : ∀ p∈b.toList,cG p
 last : ∀ y∈b.toList,∀ x∈a.toList.drop (a.size - 1),bL y x
theorem qz {out:Array Keyed} (M:MI bL all out.toList (a.toList.drop ia) (b.toList.drop ib)) (h:b.size<=ib\/a.size<=ia):gK all (i9 a b out ia ib):=by
 have e:(i9 a b out ia ib).toList=out.toList++a.toList.drop ia++b.toList.drop ib:=by
  unfold i9
  rw [Array.toList_append,Array.toList_append,tI,tI]
 unfold gK
 rw [e]
 rcases h with h|h
 ·rw [List.drop_of_length_le h] at M ⊢
  rw [append_nil]; exact M.CV
 ·rw [List.drop_of_length_le h] at M ⊢
  rw [append_nil]
  have:=M.CW λ_ _ x hx=>(nomatch hx)
  rw [append_nil] at this; exact this
theorem uO (H:HL a b) {out:Array Keyed} (M:MI bL all out.toList (a.toList.drop ia) (b.toList.drop ib)) (h:ia+1=a.size):gK all (n7 a b out ia ib):=by
 have e:(n7 a b out ia ib).toList=out.toList++b.toList.drop ib++a.toList.drop ia:=by
  unfold n7
  rw [Array.toList_append,Array.toList_append,tI,tI]
 unfold gK
 rw [e]
 exact M.CW λy hy x hx=>H.last y (List.mem_of_mem_drop hy) x (by rw [<-h]; exact hx)
theorem ze {out:Array Keyed} (M:MI bL all out.toList (a.toList.drop ia) (b.toList.drop ib)) (hy:b.toList.drop ib=y::b.toList.drop (ib+1)) (h : ∀ x∈a.toList.drop ia,bL y x):MI bL all (out.push y).toList (a.toList.drop ia) (b.toList.drop (ib+1)):=by
 rw [hy] at M
 rw [Array.toList_push]
 exact MI.my (T:=[y]) M λt ht=>ca ht ▸ h
theorem FC {out:Array Keyed} {x:Keyed} (M:MI bL all out.toList (a.toList.drop ia) (b.toList.drop ib)) (hx:a.toList.drop ia=x::a.toList.drop (ia+1)) (h : ∀ y∈b.toList.drop ib,bL x y):MI bL all (out.push x).toList (a.toList.drop (ia+1)) (b.toList.drop ib):=by
 rw [hx] at M
 rw [Array.toList_push]
 exact MI.mx (T:=[x]) M λt ht=>ca ht ▸ h
theorem Eh {l l':List Keyed} {x:Keyed} (hs:l.Pairwise bL) (h:l=x::l') : ∀ z∈l,bL x z:=by
 subst h
 exact λz hz=>(bi hz).elim (λe=>e ▸ Int.le_refl _) λhz=>(pairwise_cons.mp hs).1 z hz
theorem tA {k k':List Keyed} {x:Keyed} (hs:k.Pairwise bL) (h:k=x::k') (hl:kv y<=kv x) : ∀ z∈k,bL y z:=λz hz=>Int.le_trans hl (Eh hs h z hz)
noncomputable def SG (cu st:SortSt):Prop := ∃ g,st=zN cu g
noncomputable def qi (a b:Array Keyed) (all:List Keyed) (n0:Nat) (c:MS):Prop := ∃ out ia ib ac bc,c=(none,out,ia,ib,ac,bc)/\RL a b all out ia ib/\n0<out.size
noncomputable def Ax (all:List Keyed) (c:MS):Prop := ∃ r t,c=(some r,t)/\gK all r
theorem r8 {out:Array Keyed} (h:n0<=out.size):n0<(out.push y).size:=by rw [Array.size_push]; exact Nat.lt_succ_of_le h
theorem Ww (H:HL a b) (hk:kindOf st=oneType') {out:Array Keyed} {ac:Nat} (R:RL a b all out ia ib) (hn:n0<=out.size) :
  wpS (model prog w) A E s (yS a b mg (none,out,ia,ib,ac,bc)) (λr ao=>ao=st/\match r with|.done c=>Ax all c\/qi a b all n0 c|.yield c=>qi a b all n0 c) st:=by
 obtain ⟨y,ey,my,dy⟩:=jJ R.lb
 obtain ⟨x,ex,mx,dx⟩:=jJ (lt_of_succ_lt R.la)
 unfold yS
 refine ga (gI ey (ga (gI ex (ga (vy hk (H.kb y my) (H.ka x mx) ?_)))))
 dsimp only
 by_cases h:kv y<kv x
 ·rw [decide_eq_true h,if_pos rfl]
  refine ga (gI ey ?_)
  have M:=ze R.mi dy (tA R.mi.sx dx (Int.le_of_lt h))
  by_cases e1:(ib+1==b.size)=true
  ·rw [if_pos e1]
   exact lv ⟨rfl,.inl ⟨_,_,rfl,qz M (.inl (le_of_eq (im e1).symm))⟩⟩
  ·rw [if_neg e1]
   have R':qi a b all n0 (none,out.push y,ia,ib+1,0,bc+1):=⟨_,_,_,_,_,rfl,⟨M,R.la,lt_of_le_of_ne R.lb λz=>e1 (beq_iff_eq.mpr z)⟩,r8 hn⟩
   by_cases e2:bc+1 ≥ mg
   ·rw [if_pos e2]; exact lv ⟨rfl,.inr R'⟩
   ·rw [if_neg e2]; exact lv ⟨rfl,R'⟩
 ·rw [decide_eq_false h,if_neg Bool.false_ne_true]
  refine ga (gI ex ?_)
  have M:=FC R.mi dx (tA R.mi.sy dy (Int.not_lt.mp h))
  by_cases e1:(ia+1+1==a.size)=true
  ·rw [if_pos e1]
   exact lv ⟨rfl,.inl ⟨_,_,rfl,uO H M (im e1)⟩⟩
  ·rw [if_neg e1]
   have R':qi a b all n0 (none,out.push x,ia+1,ib,ac+1,0):=⟨_,_,_,_,_,rfl,⟨M,lt_of_le_of_ne R.la λz=>e1 (beq_iff_eq.mpr z),R.lb⟩,r8 hn⟩
   by_cases e2:ac+1 ≥ mg
   ·rw [if_pos e2]; exact lv ⟨rfl,.inr R'⟩
   ·rw [if_neg e2]; exact lv ⟨rfl,R'⟩
noncomputable def qj (a b:Array Keyed) (all:List Keyed) (n0:Nat) (c:MG):Prop := ∃ out ia ib mg ac bc,c=(none,out,ia,ib,mg,ac,bc)/\RL a b all out ia ib/\n0<out.size
noncomputable def Ay (all:List Keyed) (c:MG):Prop := ∃ r t,c=(some r,t)/\gK all r
noncomputable def vL (a b:Array Keyed) (all:List Keyed) (cu:SortSt) (n0:Nat) (r:ForInStep MG) (st:SortSt):Prop:=SG cu st/\match r with|.done c=>Ay all c\/qj a b all n0 c|.yield c=>qj a b all n0 c
theorem HG (H:HL a b) (hs:SG cu st) {out:Array Keyed} {k2:Nat} (R:RL a b all out ia ib) (hn:n0<=out.size) (hle : ∀ x∈a.toList,a[ia]?=some x->∀ y∈b.toList.drop ib,bL x y) :
  wpS (model prog w) A E s (tZ a b out ia ib mg k k2) (vL a b all cu n0) st:=by
 obtain ⟨x,ex,mx,dx⟩:=jJ (lt_of_succ_lt R.la)
 unfold tZ
 refine ga (gI ex ?_)
 have M:=FC R.mi dx (hle x mx ex)
 by_cases e1:(ia+1+1==a.size)=true
 ·rw [if_pos e1]
  exact lv ⟨hs,.inl ⟨_,_,rfl,uO H M (im e1)⟩⟩
 ·rw [if_neg e1]
  have R':qj a b all n0 (none,out.push x,ia+1,ib,mg,k,k2):=⟨_,_,_,_,_,_,rfl,⟨M,lt_of_le_of_ne R.la λz=>e1 (beq_iff_eq.mpr z),R.lb⟩,r8 hn⟩
  by_cases e2:(decide (k<7)&&decide (k2<7))=true
  ·rw [if_pos e2]; exact lv ⟨hs,.inr R'⟩
  ·rw [if_neg e2]; exact lv ⟨hs,R'⟩
theorem Am {l:List Keyed} {Q:Option Nat->SortSt->Prop} (hk:kindOf st=oneType') (ju:cG key) (ha : ∀ p∈arr.toList,cG p) (hl:l=(arr.toList.drop base).take n) (hn:base+n<=arr.size) (hh:hint<n) (hs:l.Pairwise bL)
  (h : ∀ k,k<=n->(∀ x∈l.take k,gJ left key x=true)->(∀ x∈l.drop k,gJ left key x=false)->Q (some k) st):wpS (model prog w) A E s (je left key arr base n hint) Q st:=by
 have len:l.length=n:=by
  rw [hl,length_take,length_drop]
  exact min_eq_left (Nat.le_sub_of_add_le' hn)
 have get : ∀ i,i<n->∃ x,arr[base+i]?=some x/\x∈arr.toList/\l[i]?=some x:=λi hi=>by
  have aZ:base+i<arr.size:=am (add_lt_add_left hi base) hn
  exact ⟨arr[base+i],getElem?_pos arr _ aZ,Array.getElem_mem_toList aZ,by rw [hl,getElem?_take,if_pos hi,getElem?_drop,Array.getElem?_toList]; exact getElem?_pos arr _ aZ⟩
 have bm : ∀ x y,bL x y->gJ left key y=true->gJ left key x=true:=λx y rF hy=>by
  unfold gJ at hy ⊢
  induction left with
  |true=>exact decide_eq_true (Int.lt_of_le_of_lt rF (io hy))
  |false=>
   rw [if_neg Bool.false_ne_true,not_eq_true',decide_eq_false_iff_not] at hy ⊢
   exact λz=>hy (Int.lt_of_lt_of_le z rF)
 refine Wu (p:=λi=>(l[i]?).elim false (gJ left key)) (λi hi Q hQ=>?_) (λi j gu hj hp=>?_) hh λk hk h1 h2=>?_
 ·obtain ⟨x,e,m,d⟩:=get i hi
  rw [d] at hQ
  exact Ws hk ju e (ha x m) hQ
 ·obtain ⟨x,_,_,dx⟩:=get i (al gu hj)
  obtain ⟨y,_,_,dy⟩:=get j hj
  rw [dx]
  rw [dy] at hp
  rcases lt_or_eq_of_le gu with aZ|rfl
  ·refine bm x y ?_ hp
   obtain ⟨h1,e1⟩:=be dx
   obtain ⟨h2,e2⟩:=be dy
   rw [<-e1,<-e2]
   exact List.pairwise_iff_getElem.mp hs i j h1 h2 aZ
  ·rw [dx] at dy
   rw [Option.some.inj dy]; exact hp
 ·refine h k hk (λx hx=>?_) λx hx=>?_
  ·obtain ⟨i,hi⟩:=mem_iff_getElem?.mp hx
   rw [getElem?_take] at hi
   by_cases yj:i<k
   ·rw [if_pos yj] at hi
    have:=h1 i yj
    rw [hi] at this; exact this
   ·rw [if_neg yj] at hi; exact (nomatch hi)
  ·obtain ⟨i,hi⟩:=mem_iff_getElem?.mp hx
   rw [getElem?_drop] at hi
   have aZ:k+i<n:=by
    have:=(be hi).1
    rw [len] at this; exact this
   have:=h2 (k+i) (jp _ _) aZ
   rw [hi] at this; exact this
theorem HH {Q:Option Nat->SortSt->Prop} (hk:kindOf st=oneType') (ju:cG key) (ha : ∀ p∈arr.toList,cG p) (hb:base<arr.size) (hs:(arr.toList.drop base).Pairwise bL)
  (h : ∀ k,k<=arr.size - base->(∀ x∈(arr.toList.drop base).take k,gJ left key x=true)->(∀ x∈arr.toList.drop (base+k),gJ left key x=false)->Q (some k) st):wpS (model prog w) A E s (je left key arr base (arr.size - base) 0) Q st:=by
 refine Am (l:=arr.toList.drop base) hk ju ha ?_ (le_of_eq (add_sub_cancel' (ln hb))) (sub_pos_of_lt hb) hs λk hk h1 h2=>h k hk h1 (by rw [<-drop_drop]; exact h2)
 exact (take_of_length_le (by rw [length_drop]; exact le_refl _)).symm
theorem SG.kind (h:SG cu st) (hk:kindOf cu=oneType'):kindOf st=oneType':=by obtain ⟨g,rfl⟩:=h; exact hk
theorem A9 {x:Keyed}:gJ true key x=true↔kv x<kv key:=decide_eq_true_iff
theorem wb {x:Keyed}:gJ false key x=true↔kv x<=kv key:=by
 show (!decide (kv key<kv x))=true↔_
 rw [not_eq_true',decide_eq_false_iff_not,Int.not_lt]
theorem wd {x:Keyed} (h:gJ true key x=false):kv key<=kv x:=Int.not_lt.mp λz=>by rw [A9.mpr z] at h; exact (nomatch h)
theorem wc {x:Keyed} (h:gJ false key x=false):kv key<kv x:=not_le.mp λz=>by rw [wb.mpr z] at h; exact (nomatch h)
theorem HF (H:HL a b) (hk:kindOf cu=oneType') (hs:SG cu st) {out:Array Keyed} (R:RL a b all out ia ib) (hn:n0<=out.size) (hle : ∀ y,b[ib]?=some y->∀ x∈a.toList.drop ia,bL y x) :
  wpS (model prog w) A E s (tY a b out ia ib mg k bc) (vL a b all cu n0) st:=by
 obtain ⟨y,ey,my,dy⟩:=jJ R.lb
 obtain ⟨x,ex,mx,dx⟩:=jJ (lt_of_succ_lt R.la)
 unfold tY
 refine ga (gI ey ?_)
 have M:=ze R.mi dy (hle y ey)
 by_cases e1:(ib+1==b.size)=true
 ·rw [if_pos e1]
  exact lv ⟨hs,.inl ⟨_,_,rfl,qz M (.inl (le_of_eq (im e1).symm))⟩⟩
 ·rw [if_neg e1]
  have hb:ib+1<b.size:=lt_of_le_of_ne R.lb λz=>e1 (beq_iff_eq.mpr z)
  refine ga (gI ex (ga (HH (hs.kind hk) (H.ka x mx) H.kb hb M.sy λk2 kP h1 h2=>?_)))
  dsimp only
  have hx : ∀ x',a[ia]?=some x'->x'=x:=λx' e=>ad (e.symm.trans ex)
  by_cases e2:k2 > 0
  ·rw [if_pos e2]
   have M2:MI bL all (out.push y++b.extract (ib+1) (ib+1+k2)).toList (a.toList.drop ia) (b.toList.drop (ib+1+k2)):=by
    rw [Array.toList_append,Dp,show b.toList.drop (ib+1+k2)=(b.toList.drop (ib+1)).drop k2 from drop_drop.symm]
    refine MI.my (T:=(b.toList.drop (ib+1)).take k2) (by rw [take_append_drop]; exact M) λt ht=>?_
    exact tA M.sx dx (Int.le_of_lt (A9.mp (h1 t ht)))
   by_cases e3:(ib+1+k2==b.size)=true
   ·rw [if_pos e3]
    exact lv ⟨hs,.inl ⟨_,_,rfl,qz M2 (.inl (le_of_eq (im e3).symm))⟩⟩
   ·rw [if_neg e3]
    refine HG H hs ⟨M2,R.la,lt_of_le_of_ne ?_ λz=>e3 (beq_iff_eq.mpr z)⟩ ?_ λx' _ e y' rG=>?_
    ·exact an (add_le_add_left kP _) (le_of_eq (add_sub_cancel' (ln hb)))
    ·rw [Array.size_append]; exact an (ln (r8 hn)) (jp _ _)
    ·rw [hx x' e]; exact wd (h2 y' rG)
  ·rw [if_neg e2]
   obtain rfl:=Nat.eq_zero_of_not_pos e2
   exact HG H hs ⟨M,R.la,hb⟩ (ln (r8 hn)) λx' _ e y' rG=>by rw [hx x' e]; exact wd (h2 y' rG)
theorem Wv (H:HL a b) (hk:kindOf cu=oneType') (hs:SG cu st) {out:Array Keyed} {ac:Nat} (R:RL a b all out ia ib) (hn:n0<=out.size) :
  wpS (model prog w) A E s (tX a b out ia ib mg ac bc) (vL a b all cu n0) st:=by
 obtain ⟨y,ey,my,dy⟩:=jJ R.lb
 obtain ⟨x,ex,mx,dx⟩:=jJ (lt_of_succ_lt R.la)
 unfold tX
 rw [GV]
 refine ga (wpS_modify (ga (gI ey ?_)))
 have dm:SG cu (zN st mg):=by obtain ⟨g,rfl⟩:=hs; exact ⟨mg,rfl⟩
 have hy : ∀ y',b[ib]?=some y'->y'=y:=λy' e=>ad (e.symm.trans ey)
 refine ga (HH (dm.kind hk) (H.kb y my) H.ka (lt_of_succ_lt R.la) R.mi.sx λk qY h1 h2=>?_)
 dsimp only
 by_cases e2:k > 0
 ·rw [if_pos e2]
  have M2:MI bL all (out++a.extract ia (ia+k)).toList (a.toList.drop (ia+k)) (b.toList.drop ib):=by
   rw [Array.toList_append,Dp,show a.toList.drop (ia+k)=(a.toList.drop ia).drop k from drop_drop.symm]
   refine MI.mx (T:=(a.toList.drop ia).take k) (by rw [take_append_drop]; exact R.mi) λt ht=>?_
   exact tA R.mi.sy dy (wb.mp (h1 t ht))
  by_cases e3:(ia+k+1==a.size)=true
  ·rw [if_pos e3]
   exact lv ⟨dm,.inl ⟨_,_,rfl,uO H M2 (im e3)⟩⟩
  ·rw [if_neg e3]
   by_cases e4:(ia+k==a.size)=true
   ·rw [if_pos e4]
    exact lv ⟨dm,.inl ⟨_,_,rfl,qz M2 (.inr (le_of_eq (im e4).symm))⟩⟩
   ·rw [if_neg e4]
    have l1:ia+k<a.size:=lt_of_le_of_ne (an (add_le_add_left qY _) (le_of_eq (add_sub_cancel' (ln (lt_of_succ_lt R.la))))) λz=>e4 (beq_iff_eq.mpr z)
    refine HF H hk dm ⟨M2,lt_of_le_of_ne l1 λz=>e3 (beq_iff_eq.mpr z),R.lb⟩ ?_ λy' e x' gy=>?_
    ·rw [Array.size_append]; exact an hn (jp _ _)
    ·rw [hy y' e]; exact Int.le_of_lt (wc (h2 x' gy))
 ·rw [if_neg e2]
  obtain rfl:=Nat.eq_zero_of_not_pos e2
  exact HF H hk dm R hn λy' e x' gy=>by rw [hy y' e]; exact Int.le_of_lt (wc (h2 x' gy))
theorem WC (H:HL a b) (hk:kindOf cu=oneType') (hs:SG cu st) {out:Array Keyed} (R:RL a b all out ia ib) :
  wpS (model prog w) A E s (Ac a b (none,out,ia,ib,mg)) (λr ao=>SG cu ao/\match r with|.done c => ∃ r t,c=(some r,t)/\gK all r|.yield c => ∃ zt ia ib mg,c=(none,zt,ia,ib,mg)/\RL a b all zt ia ib/\out.size<zt.size) st:=by
 have O4:0<a.size+b.size:=am (al (zero_le _) R.lb) (le_add_left _ _)
 unfold Ac
 refine ga (nw (wpS_forRange (I:=λx c ao=>ao=st/\∃ o i j p q,c=(none,o,i,j,p,q)/\RL a b all o i j/\out.size<=o.size/\(0<x->out.size<o.size)) (Q:=λc ao=>ao=st/\(Ax all c\/qi a b all out.size c)) ?_ ?_ ⟨rfl,out,ia,ib,0,0,rfl,R,le_refl _,λh=>absurd h (lt_irrefl 0)⟩) ?_)
 ·rintro x c ao _ _ ⟨rfl,o,i,j,p,q,rfl,R1,hle,_⟩
  refine nw (Ww (n0:=out.size) H (hs.kind hk) R1 hle) λr ae h=>?_
  obtain ⟨rfl,h⟩:=h
  induction r using ForInStep.casesOn with
  |done c=>exact ⟨rfl,h⟩
  |yield c=>
   obtain ⟨o2,i2,j2,p2,q2,rfl,R2,h2⟩:=h
   exact ⟨rfl,o2,i2,j2,p2,q2,rfl,R2,ln h2,λ_=>h2⟩
 ·rintro c ao ⟨rfl,o,i,j,p,q,rfl,R1,_,aZ⟩
  exact ⟨rfl,.inr ⟨o,i,j,p,q,rfl,R1,aZ (by rw [Nat.max_eq_right (zero_le _)]; exact O4)⟩⟩
 ·rintro c ao ⟨rfl,h⟩
  rcases h with ⟨r,t,rfl,hF⟩|⟨o,i,j,p,q,rfl,R1,aZ⟩
  ·exact lv ⟨hs,r,_,rfl,hF⟩
  ·unfold F7
   dsimp only
   refine ga (wpS_lift (wpAny_rule ⟨rfl,?_⟩))
   refine ga (nw (wpS_forRange (I:=λ_ c ao=>SG cu ao/\qj a b all out.size c) (Q:=λc ao=>SG cu ao/\(Ay all c\/qj a b all out.size c)) ?_ (λc ao h=>⟨h.1,.inr h.2⟩) ⟨hs,o,i,j,_,p,q,rfl,R1,aZ⟩) ?_)
   ·rintro x c ae _ _ ⟨er,o2,i2,j2,m2,p2,q2,rfl,R2,h2⟩
    have one:=λm=>Wv (prog:=prog) (w:=w) (A:=A) (E:=E) (s:=s) (n0:=out.size) (mg:=m) (ac:=p2) (bc:=q2) H hk er R2 (ln h2)
    unfold E6
    dsimp only
    by_cases hg:m2 > 1
    ·rw [if_pos hg]; exact nw (one _) λr aK h=>by induction r using ForInStep.casesOn<;>exact h
    ·rw [if_neg hg]; exact nw (one _) λr aK h=>by induction r using ForInStep.casesOn<;>exact h
   ·rintro c ae ⟨er,h⟩
    rcases h with ⟨r,t,rfl,hF⟩|⟨o2,i2,j2,m2,p2,q2,rfl,R2,h2⟩
    ·exact lv ⟨er,r,_,rfl,hF⟩
    ·unfold F6
     dsimp only
     rw [GV]
     refine ga (wpS_modify (lv ⟨?_,o2,i2,j2,_,rfl,R2,h2⟩))
     obtain ⟨g,rfl⟩:=er
     exact ⟨_,rfl⟩
theorem Wy (H:HL a b) (hk:kindOf cu=oneType') (ha:a.toList.Pairwise bL) (hb:b.toList.Pairwise bL) (na:0<a.size) (nb:0<b.size) (Oj : ∀ y,b[0]?=some y->∀ x∈a.toList,bL y x) {Q:Array Keyed->SortSt->Prop} (h : ∀ r st,SG cu st->gK (a.toList++b.toList) r->Q r st) :
  wpS (model prog w) A E s (uY a b) Q cu:=by
 rw [Q5]
 refine ga (wpS_lift (wpAny_rule ⟨rfl,?_⟩))
 obtain ⟨y,ey,my,dy⟩:=jJ nb
 refine ga (gI ey ?_)
 have rt:SG cu cu:=⟨gallopOf cu,rfl⟩
 have M0:MI bL (a.toList++b.toList) [] (a.toList.drop 0) (b.toList.drop 0):=⟨.refl _,.nil,ha,hb,λ_ h=>(nomatch h),λ_ h=>(nomatch h)⟩
 have M:MI bL (a.toList++b.toList) (#[y]:Array Keyed).toList (a.toList.drop 0) (b.toList.drop 1):=ze (out := #[]) M0 dy (Oj y ey)
 by_cases h1:(1==b.size)=true
 ·rw [if_pos h1]
  exact lv (h _ _ rt (qz M (.inl (le_of_eq (im h1).symm))))
 ·rw [if_neg h1]
  by_cases h2:(0+1==a.size)=true
  ·rw [if_pos h2]
   exact lv (h _ _ rt (uO H M (im h2)))
  ·rw [if_neg h2]
   refine ga (wpS_get ?_)
   have R:RL a b (a.toList++b.toList) #[y] 0 1:=⟨M,lt_of_le_of_ne na λz=>h2 (beq_iff_eq.mpr z),lt_of_le_of_ne nb λz=>h1 (beq_iff_eq.mpr z)⟩
   refine ga (nw (wpS_forRange (I:=λx c ao=>SG cu ao/\∃ o i j m,c=(none,o,i,j,m)/\RL a b (a.toList++b.toList) o i j/\x<o.size) (Q:=λc ao=>SG cu ao/\∃ r t,c=(some r,t)/\gK (a.toList++b.toList) r) ?_ ?_ ⟨rt,#[y],0,1,_,rfl,R,one_pos⟩) ?_)
   ·rintro x c ao _ _ ⟨hs,o,i,j,m,rfl,R1,hx⟩
    refine nw (WC H hk hs R1) λr ae h=>?_
    obtain ⟨er,h⟩:=h
    induction r using ForInStep.casesOn with
    |done c=>exact ⟨er,h⟩
    |yield c=>
     obtain ⟨o2,i2,j2,m2,rfl,R2,h2⟩:=h
     exact ⟨er,o2,i2,j2,m2,rfl,R2,al hx h2⟩
   ·rintro c ao ⟨_,o,i,j,m,rfl,R1,hx⟩
    exfalso
    have:=R1.mi.perm.length_eq
    rw [length_append,length_append] at this
    have h3:o.size<=a.size+b.size:=an (jp o.toList.length _) (le_of_eq (this.trans length_append))
    exact absurd (al (Nat.le_max_right 0 _) hx) (not_lt.mpr h3)
   ·rintro c ao ⟨hs,r,t,rfl,hF⟩
    exact lv (h r ao hs hF)
end
noncomputable def jO (p q:Array Keyed) (pd:Array (Nat × Nat × Nat)) (st:SortSt):SortSt:=SortSt.mk' (kindOf st) (p++arrOf st++q) pd (gallopOf st) (failedOf st)
abbrev AM (N:Nat):={st:SortSt // (arrOf st).size=N}
noncomputable def aG (p q:Array Keyed) (pd:Array (Nat × Nat × Nat)) (N:Nat) {α:Type} (P:α->Prop) (m m0:StateT SortSt Sem α):Prop:=
 ∃ g:AM N->Sem ({a // P a} × AM N),∀ st,m0.run st.1=(λr=>(r.1.1,r.2.1)) <$> g st/\m.run (jO p q pd st.1)=(λr=>(r.1.1,jO p q pd r.2.1)) <$> g st
noncomputable def G9 {β:Type} (I J:β->Prop):ForInStep β->Prop
 |.done b=>J b
 |.yield b=>I b
variable {q:Array Keyed} {pd:Array (Nat × Nat × Nat)} {α:Type} {j i' j':Nat}
section
variable {p:Array Keyed} {N:Nat} {P:α->Prop}
theorem aG.pure {a:α} (h:P a):aG p q pd N P (pure a) (pure a):=
 ⟨λst=>Pure.pure (⟨a,h⟩,st),λst=>⟨rfl,rfl⟩⟩
theorem aG.bind {R:β->Prop} {m m0:StateT SortSt Sem α} {f f0:α->StateT SortSt Sem β} (hm:aG p q pd N P m m0) (hf : ∀ a,P a->aG p q pd N R (f a) (f0 a)):aG p q pd N R (m >>= f) (m0 >>= f0):=by
 obtain ⟨g,h⟩:=hm
 refine ⟨λst=>g st >>= λr=>Classical.choose (hf r.1.1 r.1.2) r.2,λst=>⟨?_,?_⟩⟩
 ·rw [StateT.run_bind,(h st).1,bind_map_left,map_bind]
  exact congrArg (Bind.bind _) (funext λr=>(Classical.choose_spec (hf r.1.1 r.1.2) r.2).1)
 ·rw [StateT.run_bind,(h st).2,bind_map_left,map_bind]
  exact congrArg (Bind.bind _) (funext λr=>(Classical.choose_spec (hf r.1.1 r.1.2) r.2).2)
theorem aG.wp {M:Model} {E:Value->Shared->Prop} {m m0:StateT SortSt Sem α} {Q:α->SortSt->Prop} (hm:aG p q pd N P m m0) (hs:(arrOf st).size=N) (h:wpS M A E s m0 (λa ao=>P a->Q a (jO p q pd ao)) st):wpS M A E s m Q (jO p q pd st):=by
 obtain ⟨g,hg⟩:=hm
 have:=hg ⟨st,hs⟩
 unfold wpS at h ⊢
 rw [this.2]
 rw [this.1] at h
 intro Γ q yE
 have:=h Γ q yE
 rw [Sem.wp_map] at this ⊢
 exact Sem.wp_mono _ _ _ (λr _ s' h=>⟨h.1,h.2 r.1.2⟩) (λ_ _ _ h=>h) _ _ this
theorem aG.loop {I:Nat->β->Prop} {J:β->Prop} {f f0:Nat->β->StateT SortSt Sem (ForInStep β)} : ∀ (d a:Nat) (b:β),(∀ x b,a<=x->x<a+d->I x b->aG p q pd N (G9 (I (x+1)) J) (f x b) (f0 x b))->(∀ b,I (a+d) b->J b)->I a b->
  aG p q pd N J (forIn (range' a d) b f) (forIn (range' a d) b f0):=λd=>by
 induction d with
 |zero=>exact λa b _ he hb=>aG.pure (he b hb)
 |succ d ih=>
  intro a b h he hb
  show aG p q pd N J (forIn (a::range' (a+1) d) b f) (forIn (a::range' (a+1) d) b f0)
  rw [forIn_cons,forIn_cons]
  refine aG.bind (h a b (le_refl a) (Nat.lt_add_of_pos_right (succ_pos d)) hb) λr hr=>?_
  induction r using ForInStep.casesOn with
  |done b'=>exact aG.pure hr
  |yield b'=>
   refine ih (a+1) b' (λx b h1 h2=>h x b (Nat.le_of_succ_le h1) (by rw [<-Nat.succ_add_eq_add_succ]; exact h2)) (λb hb=>he b ?_) hr
   rw [<-Nat.succ_add_eq_add_succ]; exact hb
theorem aG.range {I:Nat->β->Prop} {J:β->Prop} {f f0:Nat->β->StateT SortSt Sem (ForInStep β)} {a:Nat} {b:β} (hb:I a b) (ha:a<=n) (he : ∀ b,I n b->J b) (h : ∀ x b,a<=x->x<n->I x b->aG p q pd N (G9 (I (x+1)) J) (f x b) (f0 x b)) :
  aG p q pd N J (forIn [a:n] b f) (forIn [a:n] b f0):=by
 rw [Std.Legacy.Range.forIn_eq_forIn_range',Std.Legacy.Range.forIn_eq_forIn_range']
 have e:([a:n]:Std.Legacy.Range).size=n - a:=by
  unfold Std.Legacy.Range.size
  rw [Nat.add_sub_cancel,div_one]
 rw [e]
 refine aG.loop (n - a) a b ?_ ?_ hb
 ·rw [add_sub_cancel' ha]; exact h
 ·rw [add_sub_cancel' ha]; exact he
theorem aG.rule {t:String}:aG p q pd N (λ_=>True) (liftM (rule t):StateT SortSt Sem Unit) (liftM (rule t)):=
 ⟨λst=>PySem.rule t >>= λ_=>Pure.pure (⟨⟨⟩,trivial⟩,st),λst=>⟨rfl,rfl⟩⟩
theorem aG.mod {f f':SortSt->SortSt} (h : ∀ st,(arrOf st).size=N->(arrOf (f st)).size=N/\f' (jO p q pd st)=jO p q pd (f st)):aG p q pd N (λ_=>True) (modify f') (modify f):=
 ⟨λst=>Pure.pure (⟨⟨⟩,trivial⟩,⟨f st.1,(h st.1 st.2).1⟩),λst=>⟨rfl,by rw [StateT.run_modify,(h st.1 st.2).2]; rfl⟩⟩
theorem td {a:Array Keyed} (hi:i<a.size):(p++a++q)[p.size+i]?=a[i]?:=by
 rw [Array.getElem?_append_left (by rw [Array.size_append]; exact add_lt_add_left hi _),Array.getElem?_append_right (le_add_right _ _),add_sub_cancel_left]
theorem Fw {x:Keyed}:(lt' x y).run st=(keyLt' (kindOf st) x.1 y.1).attempt >>= λr=>match r with
  |.ok b=>pure (some b,st)
  |.error e=>pure (none,SortSt.mk' (kindOf st) (arrOf st) (pendingOf st) (gallopOf st) (some e)):=by
 rw [lt'_eq,StateT.run_bind,StateT.run_get,pure_bind,StateT.run_bind]
 show ((StateT.lift (keyLt' (kindOf st) x.1 y.1).attempt:StateT SortSt Sem _).run st >>= _)=_
 rw [StateT.run_lift,bind_assoc]
 refine congrArg (Bind.bind _) (funext λr=>?_)
 rw [pure_bind]
 induction r<;>rfl
theorem aG.lt (hi:i'=p.size+i) (hj:j'=p.size+j) (li:i<N) (lj:j<N):aG p q pd N (λ_=>True) (ltAt' i' j') (ltAt' i j):=by
 subst hi hj
 refine ⟨λst=>(keyLt' (kindOf st.1) ((arrOf st.1)[i]'(by rw [st.2]; exact li)).1 ((arrOf st.1)[j]'(by rw [st.2]; exact lj)).1).attempt >>= λr=>match r with
  |.ok b=>Pure.pure (⟨some b,trivial⟩,st)
  |.error e=>Pure.pure (⟨none,trivial⟩,⟨SortSt.mk' (kindOf st.1) (arrOf st.1) (pendingOf st.1) (gallopOf st.1) (some e),st.2⟩),λst=>?_⟩
 have hi:i<(arrOf st.1).size:=by rw [st.2]; exact li
 have hj:j<(arrOf st.1).size:=by rw [st.2]; exact lj
 have ei:=getElem?_pos (arrOf st.1) i hi
 have ej:=getElem?_pos (arrOf st.1) j hj
 rw [ltAt'_eq,ltAt'_eq,StateT.run_bind,StateT.run_bind,StateT.run_get,StateT.run_get,pure_bind,pure_bind,map_bind,map_bind]
 show (elem' (arrOf st.1) i >>= λx=>elem' (arrOf st.1) j >>= λy=>lt' x y).run st.1=_/\(elem' (p++arrOf st.1++q) (p.size+i) >>= λx=>elem' (p++arrOf st.1++q) (p.size+j) >>= λy=>lt' x y).run (jO p q pd st.1)=_
 rw [elem'_eq,elem'_eq,elem'_eq,elem'_eq,td hi,td hj,ei,ej]
 dsimp only
 rw [pure_bind,pure_bind,Fw,Fw]
 exact ⟨congrArg (Bind.bind _) (funext λr=>by induction r<;>rfl),congrArg (Bind.bind _) (funext λr=>by induction r<;>rfl)⟩
theorem VV {a:Array Keyed} (hi:i<a.size) (hj:j<a.size):(p++a++q).swapIfInBounds (p.size+i) (p.size+j)=p++a.swapIfInBounds i j++q:=by
 have b : ∀ {i},i<a.size->p.size+i<(p++a++q).size:=λh=>by
  rw [Array.size_append,Array.size_append]; exact am (add_lt_add_left h _) (jp _ _)
 refine Array.ext_getElem? λk=>?_
 rw [getElem?_swapIB (b hi) (b hj),td hi,td hj]
 by_cases hk:k<p.size
 ·rw [if_neg (ne_of_gt (lt_of_lt_of_le hk (le_add_right _ _))),if_neg (ne_of_gt (lt_of_lt_of_le hk (le_add_right _ _))),Array.append_assoc,Array.append_assoc,Array.getElem?_append_left hk,Array.getElem?_append_left hk]
 ·obtain ⟨m,rfl⟩:=Nat.exists_eq_add_of_le (le_of_not_lt hk)
  rw [Array.append_assoc,Array.append_assoc,Array.getElem?_append_right (le_add_right _ _),Array.getElem?_append_right (le_add_right _ _),add_sub_cancel_left,Array.getElem?_append,Array.getElem?_append,Array.size_swapIfInBounds,getElem?_swapIB hi hj]
  simp only [Nat.add_left_cancel_iff]
  by_cases h1:j=m
  ·rw [if_pos h1,if_pos h1,<-h1,if_pos hj]
  ·rw [if_neg h1,if_neg h1]
   by_cases h2:i=m
   ·rw [if_pos h2,if_pos h2,<-h2,if_pos hi]
   ·rw [if_neg h2,if_neg h2]
theorem Hh {f g f' g':Nat->Nat} (hf : ∀ k,k<n->f' k=p.size+f k/\f k<N) (hg : ∀ k,k<n->g' k=p.size+g k/\g k<N) : ∀ (l:List Nat) (a:Array Keyed),a.size=N->(∀ k∈l,k<n)->
  (l.foldl (λa k=>a.swapIfInBounds (f k) (g k)) a).size=N/\l.foldl (λa k=>a.swapIfInBounds (f' k) (g' k)) (p++a++q)=p++l.foldl (λa k=>a.swapIfInBounds (f k) (g k)) a++q:=λl=>by
 induction l with
 |nil=>exact λ_ h _=>⟨h,rfl⟩
 |cons k l ih=>
  intro a ha h
  have hk:=h k (.head _)
  rw [foldl_cons,foldl_cons,(hf k hk).1,(hg k hk).1,VV (by rw [ha]; exact (hf k hk).2) (by rw [ha]; exact (hg k hk).2)]
  exact ih _ (by rw [Array.size_swapIfInBounds]; exact ha) λx hx=>h x (.tail _ hx)
theorem aG.rev (hi:i'=p.size+i) (hj:j'=p.size+j) (lj:j<=N):aG p q pd N (λ_=>True) (reverseSlice' i' j') (reverseSlice' i j):=by
 subst hi hj
 rw [reverseSlice'_eq,reverseSlice'_eq]
 have lt : ∀ k,k<(j - i) / 2->i+k<j:=λk hk=>Nat.add_lt_of_lt_sub' (am hk (Nat.div_le_self _ _))
 have le : ∀ k,k<(j - i) / 2->1+k<=j:=λk hk=>by rw [add_comm]; exact al (le_add_left _ _) (lt k hk)
 refine aG.mod λst hs=>?_
 have:=Hh (p:=p) (q:=q) (N:=N) (f:=λk=>i+k) (g:=λk=>j - 1 - k) (f':=λk=>p.size+i+k) (g':=λk=>p.size+j - 1 - k) (n:=(j - i) / 2) (λk hk=>⟨add_assoc _ _ _,am (lt k hk) lj⟩) (λk hk=>⟨by rw [sub_sub,sub_sub,add_sub_assoc (le k hk)],by rw [sub_sub]; exact am (sub_lt (am zero_lt_one (an (jp _ _) (le k hk))) (am zero_lt_one (jp _ _))) lj⟩) (List.range ((j - i) / 2)) (arrOf st) hs λk hk=>mem_range.mp hk
 refine ⟨this.1,?_⟩
 rw [Nat.add_sub_add_left]
 exact congrArg (λx=>SortSt.mk' (kindOf st) x pd (gallopOf st) (failedOf st)) this.2
theorem aG.down (hi:i'=p.size+i) (hj:j'=p.size+j) (li:i<N):aG p q pd N (λ_=>True) (moveDown' i' j') (moveDown' i j):=by
 subst hi hj
 rw [moveDown'_eq,moveDown'_eq]
 refine aG.mod λst hs=>?_
 have:=Hh (p:=p) (q:=q) (N:=N) (f:=λk=>i - k) (g:=λk=>i - k - 1) (f':=λk=>p.size+i - k) (g':=λk=>p.size+i - k - 1) (n:=i - j) (λk hk=>⟨add_sub_assoc (an (ln hk) (sub_le _ _)) _,al (sub_le _ _) li⟩) (λk hk=>⟨by rw [sub_sub,sub_sub,add_sub_assoc (le_trans hk (sub_le _ _))],al (sub_le _ _) (al (sub_le _ _) li)⟩) (List.range (i - j)) (arrOf st) hs λk hk=>mem_range.mp hk
 refine ⟨this.1,?_⟩
 rw [Nat.add_sub_add_left]
 exact congrArg (λx=>SortSt.mk' (kindOf st) x pd (gallopOf st) (failedOf st)) this.2
end
section
variable {p:Array Keyed} {N:Nat}
theorem aG.two {P:α->Prop} {c:Prop} [Decidable c] {y y0 d d0:StateT SortSt Sem α} (h:aG p q pd N P d d0) (h':aG p q pd N P d d0->aG p q pd N P y y0):aG p q pd N P (if c then y else d) (if c then y0 else d0):=by
 by_cases hc:c
 ·rw [if_pos hc,if_pos hc]; exact h' h
 ·rw [if_neg hc,if_neg hc]; exact h
theorem aG.get {P:α->Prop} {f f0:Option Bool->StateT SortSt Sem α} (hi:i'=p.size+i) (hj:j'=p.size+j) (li:i<N) (lj:j<N) (hn:aG p q pd N P (f none) (f0 none))
  (ht:aG p q pd N P (f (some true)) (f0 (some true))) (hf:aG p q pd N P (f (some false)) (f0 (some false))):aG p q pd N P (ltAt' i' j' >>= f) (ltAt' i j >>= f0):=
 aG.bind (aG.lt hi hj li lj) λr _=>by
  induction r with
  |none=>exact hn
  |some y=>induction y with
   |true=>exact ht
   |false=>exact hf
theorem aG.bin {ok:Nat} (h1:max ok 1<=n) (hN:n<=N):aG p q pd N (λ_=>True) (binarySort' p.size n ok) (binarySort' 0 n ok):=by
 rw [binarySort'_eq,binarySort'_eq]
 refine aG.bind (P:=λ_=>True) (aG.range (I:=λ_ _=>True) trivial h1 (λ_ _=>trivial) λk c _ hk _=>?_) λc _=>?_
 ·have ym:=am hk hN
  refine aG.bind (P:=λ_=>True) (aG.range (I:=λ_ b=>b.2.2<=k) (le_refl k) (zero_le k) (λ_ _=>trivial) λx b _ _ hb=>?_) λb _=>?_
  ·dsimp only
   by_cases h:b.2.1 ≥ b.2.2
   ·rw [if_pos h,if_pos h]; exact aG.pure trivial
   ·rw [if_neg h,if_neg h]
    have hm:(b.2.1+b.2.2) / 2<k:=am (div_lt_of_lt_mul (by rw [Nat.two_mul]; exact Nat.add_lt_add_right (lt_of_not_le h) _)) hb
    exact aG.get (by rw [zero_add]) (by rw [zero_add]) (by rw [zero_add]; exact ym) (by rw [zero_add]; exact ii hm ym) (aG.pure trivial) (aG.pure (ln hm)) (aG.pure hb)
  ·obtain ⟨b1,b2,b3⟩:=b
   induction b1 with
   |none=>exact aG.bind (aG.down (by rw [zero_add]) (by rw [zero_add]) (by rw [zero_add]; exact ym)) λr _=>aG.pure trivial
   |some y=>exact aG.pure trivial
 ·obtain ⟨c1,c2⟩:=c
  induction c1<;>exact aG.pure trivial
theorem aG.run (hN:1<=N):aG p q pd N (λ_=>True) (countRun' p.size N) (countRun' 0 N):=by
 rw [countRun'_eq,countRun'_eq]
 refine aG.bind (P:=λb=>1<=b.2/\b.2<=N) (aG.range (I:=λx b=>b.2=x/\1<=b.2) ⟨rfl,le_refl 1⟩ hN (λb h=>⟨h.2,le_of_eq h.1⟩) λk c _ hk hc=>?_) λc hc=>?_
 ·have hx:c.2<N:=by rw [hc.1]; exact hk
  exact aG.get (by rw [zero_add]) (by rw [zero_add,add_sub_assoc hc.2]) (by rw [zero_add]; exact hx) (by rw [zero_add]; exact al (sub_le _ _) hx) (aG.pure ⟨hc.2,ln hx⟩) (aG.pure ⟨hc.2,ln hx⟩) (aG.pure ⟨congrArg Nat.succ hc.1,le_add_left _ _⟩)
 ·obtain ⟨c1,n⟩:=c
  induction c1 with
  |some y=>exact aG.pure trivial
  |none=>
   dsimp only at hc ⊢
   obtain ⟨n1,nN⟩:=hc
   by_cases hn:(n==N)=true
   ·rw [if_pos hn,if_pos hn]; exact aG.pure trivial
   rw [if_neg hn,if_neg hn]
   have lt:n<N:=lt_of_le_of_ne nN λz=>hn (beq_iff_eq.mpr z)
   refine aG.two ?_ λhd=>?_
   ·refine aG.bind aG.rule λ_ _=>aG.bind (P:=λb=>b.2.2+1<=b.2.1/\b.2.1<=N) (aG.range (I:=λx b=>b.2.1=x/\b.2.2+1<=b.2.1) ⟨rfl,le_add_left _ _⟩ lt (λb h=>⟨h.2,le_of_eq h.1⟩) λk c _ hk hc=>?_) λc hc=>?_
    ·have h1:1<=c.2.1:=an (le_add_left _ _) hc.2
     have hx:c.2.1<N:=by rw [hc.1]; exact hk
     have gy:c.2.1 - 1<N:=al (sub_le _ _) hx
     have dn:c.2.2+1<=c.2.1/\c.2.1<=N:=⟨hc.2,ln hx⟩
     have z1:c.2.1+1=k+1/\0+1<=c.2.1+1:=⟨congrArg Nat.succ hc.1,le_add_left _ _⟩
     refine aG.get (by rw [zero_add]) (by rw [zero_add,add_sub_assoc h1]) (by rw [zero_add]; exact hx) (by rw [zero_add]; exact gy) (aG.pure dn) ?_ ?_
     ·show aG p q pd N _ (if c.2.2 > 0 then _ else _) (if c.2.2 > 0 then _ else _)
      refine aG.two (aG.pure z1) λ_=>aG.bind (aG.rev ?_ ?_ ?_) λ_ _=>aG.pure z1
      ·rw [zero_add,add_sub_assoc hc.2]
      ·rw [zero_add]
      ·rw [zero_add]; exact dn.2
     ·exact aG.get (by rw [zero_add,add_sub_assoc h1]) (by rw [zero_add]) (by rw [zero_add]; exact gy) (by rw [zero_add]; exact hx) (aG.pure dn) (aG.pure dn) (aG.pure ⟨congrArg Nat.succ hc.1,succ_le_succ hc.2⟩)
    ·obtain ⟨c1,m,r⟩:=c
     induction c1 with
     |some y=>exact aG.pure trivial
     |none=>
      dsimp only at hc ⊢
      have h1:1<=m:=an (le_add_left _ _) hc.1
      refine aG.two ?_ λht=>aG.bind (aG.rev (by rw [zero_add,add_sub_assoc hc.1]) (by rw [zero_add]) (by rw [zero_add]; exact hc.2)) λ_ _=>ht
      refine aG.bind (aG.rev rfl (by rw [zero_add]) (by rw [zero_add]; exact hc.2)) λ_ _=>aG.bind (P:=λ_=>True) (aG.range (I:=λx b=>b.2=x/\1<=b.2) ⟨rfl,h1⟩ hc.2 (λ_ _=>trivial) λk c _ hk hc=>?_) λc hc=>?_
      ·have hx:c.2<N:=by rw [hc.1]; exact hk
       exact aG.get (by rw [zero_add]) (by rw [zero_add,add_sub_assoc hc.2]) (by rw [zero_add]; exact hx) (by rw [zero_add]; exact al (sub_le _ _) hx) (aG.pure trivial) (aG.pure trivial) (aG.pure ⟨congrArg Nat.succ hc.1,le_add_left _ _⟩)
      ·obtain ⟨c1,n⟩:=c
       induction c1<;>exact aG.pure trivial
   ·exact aG.get rfl (by rw [zero_add,add_sub_assoc n1]) hN (by rw [zero_add]; exact al (sub_le _ _) lt) (aG.pure trivial) (aG.pure trivial) (aG.bind (aG.rev rfl (by rw [zero_add]) (by rw [zero_add]; exact nN)) λ_ _=>hd)
end
noncomputable def r9 (l:List Keyed) (n:Nat) (a:Array Keyed):Array Keyed:=l.zipIdx.foldl (λa z=>a.setIfInBounds (n+z.2) z.1) a
noncomputable def Q4:Array Keyed->Array Keyed->StateT SortSt Sem (Array Keyed):=sortPriv% PySem.Builtin.mergeHi
theorem Q3 (i:Nat):mergeAt' i=(do
 let s <-get
 let (some (sa,na,pw),some (sb,nb,_)):=((pendingOf s)[i]?,(pendingOf s)[i+1]?)|liftM (unsupported "internal:list.sort.pending":Sem Bool)
 set (setPending s (((pendingOf s).setIfInBounds i (sa,na+nb,pw)).eraseIdxIfInBounds (i+1)))
 let some k <-je false (<-elem' (arrOf s) sb) (arrOf s) sa na 0|return false
 let (sa,na):=(sa+k,na - k)
 if na==0 then return true
 let some nb <-je true (<-elem' (arrOf s) (sa+na - 1)) (arrOf s) sb nb (nb - 1)|return false
 if nb==0 then return true
 let x:=(arrOf s).extract sa sb
 let y:=(arrOf s).extract sb (sb+nb)
 let merged <-if na<=nb then uY x y else Q4 x y
 modify λs=>setArr s (r9 merged.toList sa (arrOf s))
 return (failedOf (<-get)).isNone):=rfl
theorem Ma {T:Type} {a b c:T}:(#[a,b].setIfInBounds 0 c).eraseIdxIfInBounds (0+1) = #[c]:=by
 show (#[c,b]:Array T).eraseIdxIfInBounds 1=_
 rw [Array.eraseIdxIfInBounds_eq,dif_pos (show 1<(#[c,b]:Array T).size from lt_succ_self 1)]
 exact List.eraseIdx_toArray _ _ _
theorem Sm : ∀ (l p q r:List Keyed) (n:Nat),p.length=n->q.length=l.length->r9 l n (p++q++r).toArray=(p++l++r).toArray:=by
 unfold r9
 suffices H : ∀ (l p q r:List Keyed) (n k:Nat),p.length=n+k->q.length=l.length->(l.zipIdx k).foldl (λa z=>a.setIfInBounds (n+z.2) z.1) (p++q++r).toArray=(p++l++r).toArray from
  λl p q r n h1 h2=>H l p q r n 0 h1 h2
 intro l
 induction l with
 |nil=>
  intro p q r n k h1 h2
  rw [List.length_eq_zero_iff.mp h2]; rfl
 |cons x l ih=>
  intro p q r n k h1 h2
  induction q with
  |nil=>exact (nomatch h2)
  |cons y q _=>
   rw [zipIdx_cons,foldl_cons]
   have e:(p++y::q++r).toArray.setIfInBounds (n+k) x=(p++[x]++q++r).toArray:=by
    rw [List.setIfInBounds_toArray,<-h1,append_assoc,set_append_right _ _ (le_refl _),sub_self,append_assoc,append_assoc]; rfl
   refine (congrArg (λa=>List.foldl (λa z=>a.setIfInBounds (n+z.2) z.1) a (l.zipIdx (k+1))) e).trans ((ih (p++[x]) q r n (k+1) ?_ (kt h2)).trans ?_)
   ·rw [length_append,h1]; rfl
   ·rw [append_assoc p]; rfl
section
variable {E:Value->Shared->Prop} {x y:List Keyed}
theorem WB {ao:SortSt} {Q:PUnit->SortSt->Prop} (h:Q ⟨⟩ ao):wpS (model prog w) A E s (set ao:StateT SortSt Sem PUnit) Q st:=by
 unfold wpS; rw [StateT.run_set]; exact cr ⟨rfl,h⟩
theorem Wx {pw q:Nat} {Q:Bool->SortSt->Prop} (hk:kindOf st=oneType') (hf:failedOf st=none) (ha:arrOf st=(x++y).toArray) (hp:pendingOf st = #[(0,x.length,pw),(x.length,y.length,q)])
  (hx:x.Pairwise bL) (hy:y.Pairwise bL) (nx:0<x.length) (rF:x.length<=y.length) (Pm : ∀ z∈y,∃ t∈x,kv z<kv t) (hi : ∀ p∈x++y,cG p)
  (h : ∀ ao,(pendingOf ao).size<=1->failedOf ao=none->gK (x++y) (arrOf ao)->Q true ao):wpS (model prog w) A E s (mergeAt' 0) Q st:=by
 have ny:0<y.length:=am nx rF
 have hl:(arrOf st).toList=x++y:=by rw [ha]
 have hsz:(arrOf st).size=x.length+y.length:=by rw [<-Array.length_toList,hl,length_append]
 have dx:(arrOf st).toList.drop x.length=y:=by rw [hl,List.drop_left]
 have tx:x=((arrOf st).toList.drop 0).take x.length:=by rw [hl,drop_zero,List.take_left]
 have ty:y=((arrOf st).toList.drop x.length).take y.length:=by rw [dx,take_length]
 have jV : ∀ p∈(arrOf st).toList,cG p:=by rw [hl]; exact hi
 rw [Q3]
 refine ga (wpS_get ?_)
 rw [hp]
 refine ga (WB ?_)
 obtain ⟨aa,es,pA,kI,EI,bC⟩ : ∃ aa,setPending st ((#[(0,x.length,pw),(x.length,y.length,q)].setIfInBounds 0 (0,x.length+y.length,pw)).eraseIdxIfInBounds (0+1))=aa/\kindOf aa=oneType'/\arrOf aa=arrOf st/\(pendingOf aa).size<=1/\failedOf aa=none:=
  ⟨_,rfl,hk,rfl,le_of_eq (congrArg Array.size Ma),hf⟩
 dsimp only
 rw [es]
 obtain ⟨b,eb,mb,db⟩:=jJ (a:=arrOf st) (i:=x.length) (by rw [hsz]; exact Nat.lt_add_of_pos_right ny)
 rw [dx] at db
 refine ga (gI eb (ga (Am (l:=x) pA (jV b mb) jV tx (by rw [hsz,zero_add]; exact jp _ _) nx hx λk dF k1 k2=>?_)))
 dsimp only
 have bx : ∀ z∈x.take k,∀ w∈y,bL z w:=λz hz w hw=>Int.le_trans (wb.mp (k1 z hz)) (Eh hy db w hw)
 by_cases hz:(x.length - k==0)=true
 ·rw [if_pos hz]
  have:x.length<=k:=Nat.le_of_sub_eq_zero (beq_iff_eq.mp hz)
  rw [take_of_length_le this] at bx
  refine lv (h _ EI bC ?_)
  rw [kI]
  unfold gK
  rw [hl]; exact ⟨.refl _,pairwise_append.mpr ⟨hx,hy,bx⟩⟩
 ·rw [if_neg hz]
  have kl:k<x.length:=lt_of_not_le λz=>hz (beq_iff_eq.mpr (sub_eq_zero_of_le z))
  have e1:0+k+(x.length - k) - 1=x.length - 1:=by rw [zero_add,add_sub_cancel' dF]
  rw [e1]
  obtain ⟨c,ec,mc,dc⟩:=jJ (a:=arrOf st) (i:=x.length - 1) (by rw [hsz]; exact am (sub_lt nx zero_lt_one) (jp _ _))
  refine ga (gI ec (ga (Am (l:=y) pA (jV c mc) jV ty (by rw [hsz]; exact le_refl _) (sub_lt ny zero_lt_one) hy λj OD j1 j2=>?_)))
  dsimp only
  have lx:x.drop (x.length - 1)=[c]:=by
   obtain ⟨d,hd⟩:=List.length_eq_one_iff.mp (show (x.drop (x.length - 1)).length=1 by rw [length_drop,sub_sub_self nx])
   rw [hl,List.drop_append_of_le_length (sub_le _ _),hd] at dc
   rw [hd,(List.cons.inj dc).1]
  have cx : ∀ z∈x,bL z c:=λz hz=>by
   rw [<-take_append_drop (x.length - 1) x,lx] at hz hx
   rcases mem_append.mp hz with hz|hz
   ·exact (pairwise_append.mp hx).2.2 z hz c (.head _)
   ·rw [mem_singleton.mp hz]; exact Int.le_refl _
  have cy : ∀ z∈y,kv z<kv c:=λz hz=>by
   obtain ⟨t,ht,aZ⟩:=Pm z hz
   exact Int.lt_of_lt_of_le aZ (cx t ht)
  obtain rfl:j=y.length:=le_antisymm OD (le_of_not_lt λaZ=>by
   have m:y[j]∈y.drop j:=by rw [List.drop_eq_getElem_cons aZ]; exact .head _
   exact Int.not_lt.mpr (wd (j2 _ m)) (cy _ (List.getElem_mem aZ)))
  rw [if_neg (λz=>ne_of_gt ny (beq_iff_eq.mp z)),if_pos (le_trans (sub_le _ _) rF)]
  have ex:((arrOf st).extract (0+k) x.length).toList=x.drop k:=by
   rw [Array.toList_extract,List.extract_eq_drop_take,hl,zero_add,List.drop_append_of_le_length dF,<-length_drop,List.take_left]
  have ey:((arrOf st).extract x.length (x.length+y.length)).toList=y:=by
   rw [Array.toList_extract,List.extract_eq_drop_take,dx,add_sub_cancel_left,take_length]
  have iQ:(x.drop k).Pairwise bL:=hx.sublist (List.drop_sublist _ _)
  refine ga (Wy ⟨λp hp=>hi p (mem_append_left _ (List.mem_of_mem_drop (by rw [<-ex]; exact hp))),λp hp=>hi p (mem_append_right _ (by rw [<-ey]; exact hp)),λz hz u hu=>?_⟩ pA (by rw [ex]; exact iQ) (by rw [ey]; exact hy)
   (by rw [<-Array.length_toList,ex,length_drop]; exact sub_pos_of_lt kl) (by rw [<-Array.length_toList,ey]; exact ny) (λz hz u hu=>?_) λr ao hs F=>?_)
  ·rw [<-Array.length_toList,ex,length_drop,drop_drop,Nat.sub_right_comm,add_sub_cancel' (Nat.le_sub_one_of_lt kl),lx] at hu
   rw [ey] at hz
   rw [mem_singleton.mp hu]
   exact Int.le_of_lt (cy z hz)
  ·rw [ex] at hu
   rw [<-Array.getElem?_toList,ey,db] at hz
   rw [<-Option.some.inj hz]
   exact Int.le_of_lt (wc (k2 u hu))
  ·rw [ex,ey] at F
   obtain ⟨g,rfl⟩:=hs
   refine ga (wpS_modify (ga (wpS_get ?_)))
   have e:r9 r.toList (0+k) (arrOf st)=(x.take k++r.toList++[]).toArray:=by
    rw [ha,<-Sm r.toList (x.take k) (x.drop k++y) [] (0+k) ?_ F.1.length_eq.symm]
    ·rw [<-append_assoc,take_append_drop,append_nil]
    ·rw [length_take,min_eq_left dF,zero_add]
   refine lv ?_
   have dk:(failedOf aa).isNone=true:=by rw [bC]; rfl
   refine (congrArg (λb=>Q b _) dk).mpr (h _ EI bC ?_)
   show gK (x++y) (r9 r.toList (0+k) (arrOf aa))
   rw [kI,e,append_nil]
   refine ⟨?_,?_⟩
   ·have p:=F.1.append_left (x.take k)
    rw [<-append_assoc,take_append_drop] at p
    exact p
   ·have EU:=pairwise_append.mp (by rw [take_append_drop]; exact hx:(x.take k++x.drop k).Pairwise bL)
    refine pairwise_append.mpr ⟨EU.1,F.2,λa ha b hb=>?_⟩
    rcases mem_append.mp (F.1.mem_iff.mp hb) with hb|hb
    ·exact EU.2.2 a ha b hb
    ·exact bx a ha b hb
end
variable {u z:Keyed} {Z:List Keyed}
section
variable {E:Value->Shared->Prop}
theorem jI {a:Nat} {f:Nat->β->StateT SortSt Sem (ForInStep β)} {b:β} {Q:β->SortSt->Prop} (ha:a<n)
  (h:wpS (model prog w) A E s (f a b) (λr ao=>r.casesOn (λb'=>Q b' ao) λb'=>wpS (model prog w) A E s (forIn [a+1:n] b' f) Q ao) st):wpS (model prog w) A E s (forIn [a:n] b f) Q st:=by
 have e : ∀ a,([a:n]:Std.Legacy.Range).size=n - a:=λa=>by
  unfold Std.Legacy.Range.size
  rw [Nat.add_sub_cancel,div_one]
 rw [Std.Legacy.Range.forIn_eq_forIn_range',e,show n - a=n - (a+1)+1 by rw [Nat.sub_add_eq,Nat.sub_add_cancel (sub_pos_of_lt ha)]]
 show wpS (model prog w) A E s (forIn (a::range' (a+1) (n - (a+1)) 1) b f) Q st
 rw [forIn_cons]
 refine ga (nw h λr ao h'=>?_)
 induction r using ForInStep.casesOn with
 |done b'=>exact lv h'
 |yield b'=>
  have h2:wpS (model prog w) A E s (forIn [a+1:n] b' f) Q ao:=h'
  rw [Std.Legacy.Range.forIn_eq_forIn_range',e] at h2
  exact h2
theorem HB {x:Keyed} {Q:Option Bool->SortSt->Prop} (hk:kindOf st=oneType') (ei:(arrOf st)[i]?=some x) (ej:(arrOf st)[j]?=some y) (hx:cG x) (hy:cG y) (h:Q (some (decide (kv x<kv y))) st):wpS (model prog w) A E s (ltAt' i j) Q st:=by
 rw [ltAt'_eq]
 exact ga (wpS_get (ga (gI ei (ga (gI ej (vy hk hx hy h))))))
theorem sM {x:Keyed} {Q:Option Bool->SortSt->Prop} (hk:kindOf st=oneType') (ei:(arrOf st)[i]?=some x) (ej:(arrOf st)[j]?=some y) (hx:cG x) (hy:cG y) (hl:kv x<kv y) (h:Q (some true) st):wpS (model prog w) A E s (ltAt' i j) Q st:=
 HB hk ei ej hx hy (by rw [decide_eq_true hl]; exact h)
theorem HC {x:Keyed} {Q:Option Bool->SortSt->Prop} (hk:kindOf st=oneType') (ei:(arrOf st)[i]?=some x) (ej:(arrOf st)[j]?=some y) (hx:cG x) (hy:cG y) (hl:kv y<kv x) (h:Q (some false) st):wpS (model prog w) A E s (ltAt' i j) Q st:=
 HB hk ei ej hx hy (by rw [decide_eq_false (Int.not_lt.mpr (Int.le_of_lt hl))]; exact h)
theorem WD {v:Keyed} {r:List Keyed} {Q:Option Nat->SortSt->Prop} (hk:kindOf st=oneType') (ha:arrOf st=(u::v::z::r).toArray) (hu:cG u) (hv:cG v) (hz:cG z)
  (top:kv u<kv v/\kv z<kv v\/kv v<kv z/\kv z<kv u) (h1:kv u<kv v->Q (some 2) st) (h2:kv v<kv u->Q (some 2) (setArr st (v::u::z::r).toArray)):wpS (model prog w) A E s (countRun' 0 64) Q st:=by
 have e0:(arrOf st)[0]?=some u:=by rw [ha]; rfl
 have e1:(arrOf st)[1]?=some v:=by rw [ha]; rfl
 have e2:(arrOf st)[2]?=some z:=by rw [ha]; rfl
 rw [countRun0_eq]
 unfold ascLoop
 rcases top with ⟨a,b⟩|⟨a,b⟩
 ·exact ga (jI (by decide) (ga (HC hk e1 e0 hv hu a (lv (jI (by decide) (ga (sM hk e2 e1 hz hv b (lv (ga (sM hk e0 e1 hu hv a (lv (h1 a))))))))))))
 ·have c:=Int.lt_trans a b
  refine ga (jI (by decide) (ga (sM hk e1 e0 hv hu c (lv ?_))))
  show wpS _ _ _ _ (descPart 1 64) _ _
  unfold descPart descLoop
  refine ga (wpS_lift (wpAny_rule ⟨rfl,ga (jI (by decide) (ga (HC hk e2 e1 hz hv a (ga (sM hk e1 e2 hv hz a (lv ?_))))))⟩))
  show wpS _ _ _ _ (tail3 2 64) _ _
  unfold tail3
  have em:mirror (arrOf st) 0 2 ((2 - 0) / 2)=(v::u::z::r).toArray:=by rw [ha]; rfl
  refine ga (wpS_reverse ?_)
  rw [em]
  unfold ascLoop
  exact ga (jI (by decide) (ga (sM (x:=z) (y:=u) hk rfl rfl hz hu b (lv (lv (h2 c))))))
theorem Gn {a:Array Keyed} (h:SortedTo a a.size):a.toList.Pairwise bL:=
 List.pairwise_iff_getElem.mpr λi j hi hj gu=>by
  have:=h i j (ln gu) hj
  rw [K_eq hi,K_eq hj] at this
  exact this
abbrev dB (X Y Z:List Keyed) (pd:Array (Nat × Nat × Nat)) (g:Nat):SortSt:=SortSt.mk' oneType' (X++Y++Z).toArray pd g none
theorem zX {X:List Keyed} {g:Nat}:dB X Y Z pd g=jO X.toArray Z.toArray pd (SortSt.mk' oneType' Y.toArray #[] g none):=by
 unfold dB; rw [<-List.append_toArray,<-List.append_toArray]; rfl
theorem CT {X:List Keyed} (hB:SBase Y.toArray st):jO X.toArray Z.toArray pd st=dB X (arrOf st).toList Z pd (gallopOf st):=by
 rw [zX]; unfold jO; rw [hB.kind,hB.failed]
theorem HI {X:List Keyed} {g m:Nat} {Q:Bool->SortSt->Prop} (hi : ∀ p∈Y,cG p) (h1:max m 1<=Y.length) (hs:SortedTo Y.toArray m)
  (h : ∀ g Y',Y'.Perm Y->Y'.Pairwise bL->Q true (dB X Y' Z pd g)):wpS (model prog w) A E s (binarySort' X.length Y.length m) Q (dB X Y Z pd g):=by
 rw [zX]
 refine aG.wp (aG.bin (p:=X.toArray) (N:=Y.length) h1 (le_refl _)) rfl (wpS_binarySort (a₀:=Y.toArray) hi (le_refl _) (an (Nat.le_max_left _ _) h1) ⟨.refl _,rfl,rfl,rfl⟩ hs λao hB hs _=>?_)
 rw [CT hB]
 have hp:=Array.perm_iff_toList_perm.mp hB.perm
 refine h _ _ hp (Gn ?_)
 rw [<-Array.length_toList,hp.length_eq]; exact hs
theorem Wt {X:List Keyed} {g:Nat} {Q:Option Nat->SortSt->Prop} (hi : ∀ p∈Y,cG p) (h1:1<=Y.length)
  (h : ∀ g Y' m,Y'.Perm Y->1<=m->m<=Y.length->SortedTo Y'.toArray m->Q (some m) (dB X Y' Z pd g)):wpS (model prog w) A E s (countRun' X.length Y.length) Q (dB X Y Z pd g):=by
 rw [zX]
 refine aG.wp (aG.run (p:=X.toArray) (N:=Y.length) h1) rfl (wpS_countRun (a₀:=Y.toArray) hi (le_refl _) h1 ⟨.refl _,rfl,rfl,rfl⟩ λm ao hB h1 h2 hs _=>?_)
 rw [CT hB]
 exact h _ _ m (Array.perm_iff_toList_perm.mp hB.perm) h1 h2 hs
theorem Wz {v:Keyed} {t:List Keyed} {g:Nat} {Q:Unit->SortSt->Prop} (ht:t.length=29) (hY:Y.length=32) (hi : ∀ p∈u::v::z::(t++Y),cG p)
  (top:kv u<kv v/\(∀ y∈z::Y,kv y<kv v)\/kv v<kv z/\∀ y∈z::Y,kv y<kv u) (h : ∀ ao,failedOf ao=none->gK (u::v::z::(t++Y)) (arrOf ao)->Q () ao) :
  wpS (model prog w) A E s sortRuns' Q (dB [] (u::v::z::t) Y #[] g):=by
 have jg:(u::v::z::(t++Y)).length=64:=by
  show (t++Y).length+3=64
  rw [length_append,ht,hY]
 have sz:(arrOf (dB [] (u::v::z::t) Y #[] g)).size=64:=jg
 rw [sortRuns'_eq]
 refine ga (wpS_get ?_)
 dsimp only
 rw [sz]
 refine ga (jI (by decide) ?_)
 dsimp only
 rw [if_neg (by decide)]
 have hm:minRun' 64 64 0=32:=rfl
 rw [hm]
 refine ga (nw (Q:=λr ao => ∃ u' v',r=some 2/\ao=dB [] (u'::v'::z::t) Y #[] g/\(u'::v'::z::t).Perm (u::v::z::t)/\kv u'<kv v'/\∀ y∈Y,kv y<kv v') (WD (z:=z) rfl rfl (hi u (.head _)) (hi v (.tail _ (.head _))) (hi z (.tail _ (.tail _ (.head _)))) ?_ ?_ ?_) ?_)
 ·exact top.imp (λh=>⟨h.1,h.2 z (.head _)⟩) λh=>⟨h.1,h.2 z (.head _)⟩
 ·intro hl
  refine ⟨u,v,rfl,rfl,.refl _,hl,λy hy=>?_⟩
  rcases top with h|h
  ·exact h.2 y (.tail _ hy)
  ·exact Int.lt_trans (h.2 y (.tail _ hy)) hl
 ·intro hl
  refine ⟨v,u,rfl,rfl,.swap _ _ _,hl,λy hy=>?_⟩
  rcases top with h|h
  ·exact Int.lt_trans (h.2 y (.tail _ hy)) hl
  ·exact h.2 y (.tail _ hy)
 rintro _ _ ⟨u',v',rfl,rfl,hp,hl,hy⟩
 have hx:(u'::v'::z::t).length=32:=congrArg (· + 3) ht
 have Ew : ∀ p∈u'::v'::z::t,cG p:=λp h=>hi p (mem_append_left Y (hp.mem_iff.mp h))
 have yk : ∀ p∈Y,cG p:=λp h=>hi p (mem_append_right (u::v::z::t) h)
 have eL:wpS (model prog w) A E s (binarySort' 0 32 2) (λr ao => ∃ g X,r=true/\ao=dB [] X Y #[] g/\X.Perm (u'::v'::z::t)/\X.Pairwise bL) (dB [] (u'::v'::z::t) Y #[] g):=by
  rw [<-hx]
  refine HI (X:=[]) Ew ?_ ?_ λg X h1 h2=>⟨g,X,rfl,rfl,h1,h2⟩
  ·rw [hx]; decide
  ·intro i j gu hj
   induction j with
   |zero=>rw [Nat.le_zero.mp gu]; exact Int.le_refl _
   |succ j _=>
    obtain rfl:j=0:=Nat.lt_one_iff.mp (Nat.lt_of_succ_lt_succ hj)
    rcases Nat.le_one_iff_eq_zero_or_eq_one.mp gu with rfl|rfl
    ·exact Int.le_of_lt hl
    ·exact Int.le_refl _
 dsimp only
 rw [if_pos (by decide)]
 refine ga (wpS_lift (wpAny_rule ⟨rfl,ga (nw eL ?_)⟩))
 rintro _ _ ⟨g1,X,rfl,rfl,ur,Pg⟩
 rw [if_neg (by decide)]
 refine ga (wpS_get ?_)
 show wpS _ _ _ _ (_ >>= _) _ _
 refine ga (wpS_modify (lv ?_))
 have es:setPending (dB [] X Y #[] g1) ((pendingOf (dB [] X Y #[] g1)).push (0,min (64 - 0) 32,0))=dB X Y [] #[(0,32,0)] g1:=by
  show SortSt.mk' oneType' ([]++X++Y).toArray _ g1 none=SortSt.mk' oneType' (X++Y++[]).toArray _ g1 none
  rw [append_nil]; rfl
 show wpS _ _ _ _ (forIn [1:64] ((none,32):Option Unit × Nat) _) _ _
 rw [es]
 have hX:X.length=32:=ur.length_eq.trans hx
 refine jI (by decide) ?_
 dsimp only
 rw [if_neg (by decide)]
 have fT:wpS (model prog w) A E s (countRun' 32 32) (λr ao => ∃ g Y' m,r=some m/\ao=dB X Y' [] #[(0,32,0)] g/\Y'.Perm Y/\1<=m/\m<=32/\SortedTo Y'.toArray m) (dB X Y [] #[(0,32,0)] g1):=by
  have:=Wt (prog:=prog) (w:=w) (A:=A) (E:=E) (s:=s) (X:=X) (Y:=Y) (Z:=[]) (pd := #[(0,32,0)]) (g:=g1) (Q:=λr ao => ∃ g Y' m,r=some m/\ao=dB X Y' [] #[(0,32,0)] g/\Y'.Perm Y/\1<=m/\m<=32/\SortedTo Y'.toArray m) yk (by rw [hY]; decide)
   λg Y' m a b c d=>⟨g,Y',m,rfl,rfl,a,b,an c (le_of_eq hY),d⟩
  rw [hX,hY] at this; exact this
 refine (λ(T : ∀ ao,(∃ g Y',ao=dB X Y' [] #[(0,32,0)] g/\Y'.Perm Y/\Y'.Pairwise bL)->wpS (model prog w) A E s (?t:StateT SortSt Sem (ForInStep (Option Unit × Nat))) ?q ao)=>?main) ?rest
 case main=>
  refine ga (nw fT ?_)
  rintro _ _ ⟨g2,Y2,m,rfl,rfl,p2,m1,m2,s2⟩
  dsimp only
  have xS:Y2.length=32:=p2.length_eq.trans hY
  by_cases aZ:m<32
  ·rw [if_pos aZ]
   have PV:wpS (model prog w) A E s (binarySort' 32 32 m) (λr ao=>r=true/\∃ g Y',ao=dB X Y' [] #[(0,32,0)] g/\Y'.Perm Y/\Y'.Pairwise bL) (dB X Y2 [] #[(0,32,0)] g2):=by
    have:=HI (prog:=prog) (w:=w) (A:=A) (E:=E) (s:=s) (X:=X) (Y:=Y2) (Z:=[]) (pd := #[(0,32,0)]) (g:=g2) (m:=m) (Q:=λr ao=>r=true/\∃ g Y',ao=dB X Y' [] #[(0,32,0)] g/\Y'.Perm Y/\Y'.Pairwise bL)
     (λp h=>yk p (p2.mem_iff.mp h)) (by rw [xS,Nat.max_eq_left m1]; exact m2) s2 λg Y' a b=>⟨rfl,g,Y',rfl,a.trans p2,b⟩
    rw [hX,xS] at this; exact this
   refine ga (wpS_lift (wpAny_rule ⟨rfl,ga (nw PV ?_)⟩))
   rintro _ aK ⟨rfl,h3⟩
   rw [if_neg (by decide)]
   exact T aK h3
  ·rw [if_neg aZ]
   obtain rfl:m=32:=le_antisymm m2 (le_of_not_lt aZ)
   refine T _ ⟨g2,Y2,rfl,p2,?_⟩
   rw [<-xS] at s2
   exact Gn (a:=Y2.toArray) s2
 case rest=>
  rintro _ ⟨g3,Y3,rfl,p3,s3⟩
  refine ga (wpS_get (ga (jI (by decide) (ga (wpS_get (lv ?_))))))
  refine ga (wpS_modify (ga (wpS_modify (lv ?_))))
  refine (λ(H : ∀ dt,kindOf dt=oneType'->failedOf dt=none->arrOf dt=(X++Y3).toArray->(∃ pw,pendingOf dt = #[(0,32,pw),(32,32,0)])->wpS (model prog w) A E s (forIn [2:64] ((none,64):Option Unit × Nat) _) _ dt)=>H _ rfl rfl (congrArg List.toArray (append_nil _)) ⟨_,rfl⟩) λdt k4 f4 a4 p4=>?_
  obtain ⟨pw,p4⟩:=p4
  have Eb:Y3.length=32:=p3.length_eq.trans hY
  have mem : ∀ {p},p∈X++Y3->cG p:=λhp=>(mem_append.mp hp).elim (λh=>Ew _ (ur.mem_iff.mp h)) λh=>yk _ (p3.mem_iff.mp h)
  refine jI (by decide) ?_
  dsimp only
  rw [if_pos (by decide)]
  refine lv (ga (jI (by decide) (ga (wpS_get ?_))))
  rw [p4,if_neg (show ¬(#[(0,32,pw),(32,32,0)]:Array (Nat × Nat × Nat)).size<=1 from (by decide : ¬2<=1))]
  refine ga (Wx (x:=X) (y:=Y3) (pw:=pw) (q:=0) k4 f4 a4 (by rw [hX,Eb]; exact p4) Pg s3 (by rw [hX]; decide) (by rw [hX,Eb]; decide) (λy rG=>⟨v',ur.mem_iff.mpr (.tail _ (.head _)),hy y (p3.mem_iff.mp rG)⟩) (λp=>mem) λzZ p5 f5 F=>?_)
  rw [if_neg (by decide)]
  refine lv (jI (by decide) (ga (wpS_get ?_)))
  rw [if_pos p5]
  exact lv (lv (h zZ f5 ⟨F.1.trans ((ur.trans hp).append p3),F.2⟩))
end
variable {ns:List Int}
section
variable {E:Value->Shared->Prop}
theorem V4 {a:Array Keyed} (h:a.toList.Pairwise bL):SortedTo a a.size:=λi j gu hj=>by
 rw [K_eq hj,K_eq (lt_of_le_of_lt gu hj)]
 rcases lt_or_eq_of_le gu with h1|rfl
 ·exact List.pairwise_iff_getElem.mp h i j (ii h1 hj) hj h1
 ·exact Int.le_refl _
theorem WM (hI:IntsAre vs ns):(vs.zip vs).map kv=ns:=by
 have:(vs.zip vs).map kv=((vs.zip vs).map Prod.fst).map numOf:=by rw [map_map]; rfl
 rw [this,List.map_fst_zip (le_refl _),hI.nums]
theorem WA {Q:Unit->SortSt->Prop} (hI:IntsAre vs ns) (hl:ns.length=64) (ht:vq ns=true) (h : ∀ ao,failedOf ao=none->(arrOf ao).Perm (pairsOf vs)->SortedTo (arrOf ao) (pairsOf vs).size->Q () ao) :
  wpS (model prog w) A E s sortRuns' Q (SortSt.mk' oneType' (vs.toArray.zip vs.toArray) #[] 7 none):=by
 have hk:=hI.intKeys
 have e:(pairsOf vs).toList=vs.zip vs:=pairsOf_toList vs
 have ek:=WM hI
 obtain ⟨l,dG⟩ : ∃ l,l=vs.zip vs:=⟨_,rfl⟩
 have ea:vs.toArray.zip vs.toArray=l.toArray:=by rw [dG,<-e]; rfl
 have iN : ∀ p∈l,cG p:=λp hp=>hk p (by rw [e,<-dG]; exact hp)
 rw [<-dG] at ek e
 have len:l.length=64:=by rw [<-hl,<-ek,length_map]
 have d:l=l.take 32++l.drop 32:=(take_append_drop _ _).symm
 have t : ∃ u v z t,l.take 32=u::v::z::t/\t.length=29:=by
  have:(l.take 32).length=32:=by rw [length_take,len]; rfl
  match l.take 32,this with
  |u::v::z::t,h=>exact ⟨u,v,z,t,rfl,kt (kt (kt h))⟩
 obtain ⟨u,v,z,t,e1,lt⟩:=t
 rw [e1] at d
 obtain ⟨Y,hY⟩ : ∃ Y,Y=l.drop 32:=⟨_,rfl⟩
 have lY:Y.length=32:=by rw [hY,length_drop,len]
 rw [<-hY] at d
 rw [ea,d]
 refine Wz (u:=u) (v:=v) (z:=z) (t:=t) (Y:=Y) (g:=7) lt lY (λp hp=>iN p (by rw [d]; exact hp)) ?_ λao h1 h2=>h ao h1 ?_ ?_
 ·rw [<-ek,d] at ht
  unfold vq at ht
  rw [or_eq_true,and_eq_true,and_eq_true,all_eq_true,all_eq_true] at ht
  have m : ∀ y∈z::Y,kv y∈((u::v::z::t++Y).map kv).drop 2:=λy hy=>by
   show kv y∈(z::(t++Y)).map kv
   refine mem_map.mpr ⟨y,?_,rfl⟩
   rcases bi hy with rfl|hy
   ·exact .head _
   ·exact .tail _ (mem_append_right _ hy)
  exact ht.imp (λh=>⟨io h.1,λy hy=>io (h.2 _ (m y hy))⟩) λh=>⟨io h.1,λy hy=>io (h.2 _ (m y hy))⟩
 ·exact Array.perm_iff_toList_perm.mpr (by rw [e,d]; exact h2.1)
 ·have:=V4 h2.2
  have sz:(arrOf ao).size=(pairsOf vs).size:=by
   rw [<-Array.length_toList,<-Array.length_toList,h2.1.length_eq,e,d]; rfl
  rw [sz] at this
  exact this
theorem list_sort_64 {P:PySem.Fin->Shared->Prop} (ho:s.heap.get? a=some (seqObj "list" vs.toArray n))
  (hI:IntsAre vs ns) (hl:ns.length=64) (ht:vq ns=true)
  (h : ∀ (out:Array Value) (ic:List Int),IntsAre out.toList ic->ic.Perm ns->ic.Pairwise (·<=·)->P (.done (.ret .none)) {s with heap:=sortedHeap s.heap a vs out}) :
  wpAny (model prog w) A (Builtin.«list.sort» ⟨[.ref a],[]⟩) P E s:=by
 rw [list_sort_plain]
 have ha:a<s.heap.objs.size:=Heap.lt_size ho
 have hlen:vs.length=64:=hI.length.trans hl
 refine ce (listItems_at ho rfl (ce (listUpdate_at ho rfl ?_)))
 obtain ⟨e1,fC⟩ : ∃ e1,(s.heap.update a (Obj.mapSeq λ_ => #[])).get? a=some (seqObj "list" #[] e1):=⟨_,get?_update_seq ho (λ_ => #[])⟩
 refine ce (seqEpoch_at fC rfl (ce (wpAny_newTuple (ce (wpAny_newList (ls ?_))))))
 have EE:(((s.heap.update a (Obj.mapSeq λ_ => #[])).push (seqObj "tuple" vs.toArray 0)).push (seqObj "list" #[] 0)).get? a=some (seqObj "list" #[] e1):=by
  rw [Heap.get?_push_ne _ _ _ (by rw [size_push',Heap.size_update]; exact ne_of_lt (lt_succ_of_lt ha)),Heap.get?_push_ne _ _ _ (by rw [Heap.size_update]; exact ne_of_lt ha)]
  exact fC
 show wpAny (model prog w) A _ P E {s with heap:=((s.heap.update a (Obj.mapSeq λ_ => #[])).push (seqObj "tuple" vs.toArray 0)).push (seqObj "list" #[] 0)}
 dsimp only
 have h2 : ¬vs.toArray.size<2:=by rw [size_toArray,hlen]; decide
 rw [if_neg h2,if_neg h2]
 have qY:keyKind' vs.toArray=pure oneType':=by
  match vs,hlen with
  |Xs::Xu::rest,_=>exact keyKind_ints hI
 rw [qY]
 refine ce (cr (ce (gl (WA (Q:=λ_ ao=>(arrOf ao).Perm (pairsOf vs)/\failedOf ao=none/\SortedTo (arrOf ao) (pairsOf vs).size) hI hl ht λao a1 a2 a3=>⟨a2,a1,a3⟩) ?_ λ_ _ e=>e)))
 rintro ⟨⟨⟩,ao⟩ s' ⟨rfl,hp,hf,hs⟩
 dsimp only
 refine ce (seqEpoch_at EE rfl (ce (listUpdate_at EE rfl ?_ (hsz2:=by rw [Array.size_map,hp.size_eq,pairsOf_size,hlen,sizeLine_eq]; decide))))
 rw [hf]
 simp only [bne_self_eq_false,false_eq_true,if_false]
 obtain ⟨ic,h1,h2,h3⟩:=sorted_out hI hp hs
 exact cr (h _ ic h1 h2 h3)
end
theorem Vw {xs:List Int} (h:jE xs=true):xs.length<=64:=by
 refine (or_eq_true _ _ ▸ h:_\/_).elim (λz=>ln (io z)) λz=>?_
 rw [and_eq_true] at z
 exact le_of_eq (io z.1)
section
variable {E:Value->Shared->Prop}
theorem Vy {l:Addr} (hl:s.heap.IsList l vs.toArray) (hI:IntsAre vs ns) (dX:jE ns=true)
  (h : ∀ (out:Array Value) (ic:List Int),IntsAre out.toList ic->ic.Perm ns->ic.Pairwise (·<=·)->Q (.ref (s.heap.objs.size+1)) {s with heap:=sortedAll s.heap vs out}) :
  wpAny (model prog w) A (call (.builtin "sorted") [.ref l]) Q E s:=by
 by_cases jg:ns.length<64
 ·exact sorted_ints hl hI (by rw [hI.length]; exact jg) h
 unfold jE at dX
 rw [decide_eq_false jg,Bool.false_or,and_eq_true] at dX
 have jg:=io dX.1
 refine Calls.call_function_entry kind_sorted plain_sorted entry_sorted (args_sorted1 _) ?_
 unfold Builtin.«sorted»
 refine ce (m:=checkCount "sorted" 1 1 _) (cr (ce (collect_list hl (ce (wpAny_newList ?_)) (hsz:=by rw [hI.length,jg,sizeLine_eq]; decide))))
 have hsz:((s.heap.push (seqObj "list" #[] 0)).update s.heap.objs.size (Obj.mapSeq (· ++ vs.toArray))).objs.size=s.heap.objs.size+1:=by
  rw [Heap.size_update,size_push']
 have EF:(((s.heap.push (seqObj "list" #[] 0)).update s.heap.objs.size (Obj.mapSeq (· ++ vs.toArray))).push (seqObj "list" vs.toArray 0)).get? (s.heap.objs.size+1)=some (seqObj "list" vs.toArray 0):=by
  rw [<-hsz]; exact lw _ rfl
 show wpAny _ _ _ _ _ {s with heap:=((s.heap.push (seqObj "list" #[] 0)).update s.heap.objs.size (Obj.mapSeq (· ++ vs.toArray))).push (seqObj "list" vs.toArray 0)}
 rw [hsz]
 refine ce (ls (wpAny_call_entry slot_list_sort ⟨_,EF,rfl⟩ entry_list_sort (list_sort_64 EF hI jg dX.2 λout ic a1 a2 a3=>⟨_,rfl,?_⟩) (args_list_sort _)))
 exact cr ⟨_,rfl,h out ic a1 a2 a3⟩
end
theorem Gd {x:Int} : ∀ {xs:List Int},(jY x xs).Perm (x::xs):=λ{xs}=>by
 induction xs with
 |nil=>
  exact .refl _
 |cons a r ih=>
  rw [E8]
  split
  ·exact .refl _
  ·exact (List.Perm.cons a ih).trans (.swap x a r)
theorem QX {x y:Int} {xs:List Int}:y∈jY x xs↔y=x\/y∈xs:=Gd.mem_iff.trans mem_cons
theorem Vz {x:Int} : ∀ {xs:List Int},xs.Pairwise (·<=·)->(jY x xs).Pairwise (·<=·):=λ{xs}=>by
 induction xs with
 |nil=>
  intro _
  exact List.pairwise_singleton _ _
 |cons a r ih=>
  intro h
  rw [pairwise_cons] at h
  rw [E8]
  split
  ·rename_i hx
   refine pairwise_cons.mpr ⟨λy hy=>?_,pairwise_cons.mpr h⟩
   rcases bi hy with rfl|hy
   ·exact Int.le_of_lt hx
   ·exact Int.le_of_lt (Int.lt_of_lt_of_le hx (h.1 y hy))
  ·rename_i hx
   refine pairwise_cons.mpr ⟨λy hy=>?_,ih h.2⟩
   rcases QX.mp hy with rfl|hy
   ·exact Int.not_lt.mp hx
   ·exact h.1 y hy
theorem zU (xs:List Int):(oE xs).Perm xs/\(oE xs).Pairwise (·<=·):=by
 have : ∀ (ys acc:List Int),acc.Pairwise (·<=·)->(ys.foldl (λacc x=>jY x acc) acc).Perm (ys++acc)/\(ys.foldl (λacc x=>jY x acc) acc).Pairwise (·<=·):=by
  intro ys
  induction ys with
  |nil=>intro acc h; exact ⟨.refl _,h⟩
  |cons y r ih=>
   intro acc h
   obtain ⟨h1,h2⟩:=ih (jY y acc) (Vz h)
   refine ⟨h1.trans ?_,h2⟩
   exact (List.Perm.append_left r Gd).trans List.perm_middle
 have:=this xs [] List.Pairwise.nil
 simpa [oE] using this
theorem aI.ints {xs:List Int} (h:IntsAre vs xs):aI V g (xs.map .int) vs:=by
 induction h with
 |nil=>exact .nil
 |cons k t _ ih=>exact .cons (.int _ _) ih
theorem TU (I:ai V F m C g s) (r:af V g d v) {xs:List Int} (h:a9 C d=some ds) (hx:eA ds=some xs) (hz:jE xs=true) :
  aj V F (af V) (cB V A .sorted [v]) g s (.ok (.lst ((oE xs).map .int)) ⟨m,C⟩):=by
 obtain ⟨a,vs,k,rfl,hl,gz,rs⟩:=I.list r h
 have hi:=uE hx rs
 intro Q E q
 refine Vy hl.isList hi hz λout ic a1 a2 a3=>?_
 obtain ⟨e,he⟩:=sortedAll_at s.heap vs out
 have kS:ic=oE xs:=by
  obtain ⟨p1,p2⟩:=zU xs
  exact List.Perm.eq_of_pairwise (λa b u' u' h1 h2=>Int.le_antisymm h1 h2) a3 p2 (a2.trans p1.symm)
 subst kS
 have me:s.heap.get? (s.heap.objs.size+1)=none:=f8 (le_succ _)
 have I':=I.more (t:=s.toks) (x:=.aB (seqObj "list" out e)) (λu' u' h=>sortedAll_old h) me he (.inl rfl)
 have st:g.Step (g.put (s.heap.objs.size+1) (some (.aB (seqObj "list" out e)))):=Gh.oF (I.apart me)
 refine q _ _ _ st I' (.lst (Gh.bz ..) (vs:=out.toList) ⟨?_,e,by simp⟩ (aI.ints a1))
 rw [a1.length,(zU xs).1.length_eq]
 exact an (Vw hz) (le_of_ble_eq_true rfl)
theorem VR:isSubtype (.type "bytes") (.type "bytes")=pure true:=by rw [isSubtype_type]; kernel_rfl
set_option tactic.hygienic true in
theorem Tw (I:ai V F m C g s) {t:D} {u:Value} (r:af V g d v) (ru:af V g t u):aj V F (af V) (cB V A .isinstance [v,u]) g s (Bg d t ⟨m,C⟩):=by
 induction d using D.casesOn<;>first|trivial|skip
 ·induction t using D.casesOn<;>first|trivial|skip
  rename_i b
  induction b using Bn.casesOn<;>first|trivial|skip
  obtain rfl:=r.pE
  obtain rfl:=ru.yG
  exact λQ E q=>call_isinstance (isinstance_true (Tx:="bool") PySem.F.isi_meta_bool PySem.F.conv_sub_bool) ⟨rfl,q g _ _ (.refl g) I (.bool _)⟩
 ·induction t using D.casesOn<;>first|trivial|skip
  rename_i b
  induction b using Bn.casesOn<;>first|trivial|skip
  obtain ⟨_,_,rfl⟩:=r.nW
  obtain rfl:=ru.yG
  exact λQ E q=>call_isinstance (isinstance_true (Tx:="bytes") PySem.F.isi_meta_bytes VR) ⟨W.typeIs_bytes _ _ _,q g _ _ (.refl g) I (.bool _)⟩
theorem Tg (I:ai V F m C g s) (r:af V g d v) (h:a9 C d=some ds):aj V F (af V) (cB V A .bool [v]) g s (.ok (.bool (!ds.isEmpty)) ⟨m,C⟩):=by
 obtain ⟨a,vs,k,rfl,hl,gz,rs⟩:=I.list r h
 intro Q E q
 refine call_bool_1 (LB.QU a vs.toArray (pN gz)) (show _/\_ from ⟨hl.isList,?_⟩)
 refine (⟨rfl,?_⟩:_/\_)
 rw [rs.isEmpty]
 exact q g _ _ (.refl g) (I.tok _) (.bool _)
theorem Jc : ∀ {xs:List Int} {b:List UInt8},gP xs=some b->(∀ x∈xs,0<=x/\x<256)/\b=xs.map (λx=>x.toNat.toUInt8):=λ{xs}=>by
 induction xs with
 |nil=>
  intro b h
  obtain rfl:=ad h; exact ⟨λx hx=>absurd hx not_mem_nil,rfl⟩
 |cons i r ih=>
  intro b h
  unfold gP at h
  split at h
  ·rename_i hi
   obtain ⟨b',hb,rfl⟩:=cq h
   obtain ⟨h1,rfl⟩:=ih hb
   exact ⟨λx hx=>by rcases bi hx with rfl|hx; exact hi; exact h1 x hx,rfl⟩
  ·exact aq h
theorem Th (hh:A.handled=none) (I:ai V F m C g s) (r:af V g d v) {xs:List Int} {b:List UInt8} (h:a9 C d=some ds) (hx:eA ds=some xs) (hb:gP xs=some b) (hz:b.length<=aH) :
  aj V F (af V) (cB V A .bytes [v]) g s (.ok (.bytes b) ⟨m,C⟩):=by
 obtain ⟨a,vs,k,rfl,hl,gz,rs⟩:=I.list r h
 obtain ⟨h1,rfl⟩:=Jc hb
 intro Q E q
 refine PySem.call_bytes_ints hl.isList (uE hx rs) h1 (dO gz) hh λh' t k hk=>?_
 exact q g _ _ (.refl g) (I.both k hk) (.bytes _ hz)
theorem UB {a:Int} (h:small a=true):a.natAbs.log2<1920:=by
 have:=p8 h
 by_cases h0:a.natAbs=0
 ·rw [h0]; decide
 ·exact ii ((Nat.log2_lt h0).mpr this) (by decide)
theorem TZ (I:ai V F m C g s) {i:Int} (hs:small i=true):aj V F (af V) (cB V A .str [.int i t]) g s (.ok (.str (Str.ofString (toString i))) ⟨m,C⟩):=
 sj I (t:=s.toks+1) (.str _ _) λQ E q=>P.str_of_int (UB hs) q
set_option tactic.hygienic true in
theorem TY (hu:A.units+2<cLine) (I:ai V F m C g s) {msg:Str} (r:af V g (.iW msg) v):aj V F (af V) (cB V A .str [v]) g s (.ok (.str msg) ⟨m,C⟩):=by
 cases r with
 |iW h1 h2 h3 h4 h5=>
  rename_i a ta o o' u vs
  obtain ⟨hz,k,hk⟩:=h5
  intro Q E q
  refine P.str_of_exc_one PySem.F.excStr_ValueError hu (e:=a) (t0:=ta) ⟨o,_,I.aB _ _ h1,h2,h3,by simp⟩ ⟨_,k,I.aB _ _ h4,hz,hk⟩ ?_
  exact q g _ _ (.refl g) I (.str _ _)
theorem T4 (I:ai V F m C g s) (r:af V g d v):aj V F (af V) (cB V A .type [v]) g s (Bp d ⟨m,C⟩):=by
 induction d using D.casesOn<;>first|trivial|((first|obtain rfl:=r.pE|obtain ⟨_,_,rfl⟩:=r.nW); first
  |exact λQ E q=>call_type_of (W.typeIs_bytes _ _ _) (by decide) (q g _ _ (.refl g) I (.bn .bytes))
  |exact λQ E q=>call_type_of (Tx:="bool") rfl (by decide) (q g _ _ (.refl g) I (.bn .bool)))
theorem Gh.sE (h:g a=none):g.Step (g.put a (some (.cell i))):=
 ⟨Gh.gB _ h,λb o'=>⟨λe=>(by rw [Gh.bf]; exact e; intro q; subst q; rw [h] at e; exact aq e),λe=>(by
  rcases Gh.bG e with ⟨_,q⟩|⟨_,q⟩
  ·cases q
  ·exact q)⟩⟩
theorem ai.uZ (I:ai V F m C g s) {t:Nat} {o:Obj} {c:Ch} (k : ∀ b o,s.heap.get? b=some o->h'.get? b=some o) (ho:h'.get? s.heap.objs.size=some o)
  (hc:lJ V (g.put s.heap.objs.size (some (.cell C.length))) c o):g.Step (g.put s.heap.objs.size (some (.cell C.length)))/\ai V F m (C++[c]) (g.put s.heap.objs.size (some (.cell C.length))) {s with heap:=h',toks:=t}/\
   af V (g.put s.heap.objs.size (some (.cell C.length))) (.loc C.length) (.ref s.heap.objs.size):=
 ⟨Gh.sE I.fI,I.wL k (f8 (le_refl _)) ho hc,.loc (Gh.bz ..)⟩
theorem TR (I:ai V F m C g s):aj V F (af V) (cB V A .set []) g s (.ok (.loc C.length) ⟨m,C++[.set []]⟩):=λQ E q=>by
 refine call_set_0 λled=>?_
 have eW:=setObjOf_fresh (knd:=intKind V.prog V.w) led
 unfold Obj.SetObjOf at eW
 obtain ⟨hex,es,ep,t,hd,Ob,eX,hsz,hf⟩:=eW
 obtain ⟨st,I',r⟩:=I.uZ (c:=.set []) (t:=s.toks) (λu' u' h=>dL _ h) (lw s.heap (o:={cls:=.type "set",dict:=none,data:=.set #[] 0 (.fresh 0 0 led)}) rfl)
  ⟨zero_le _,es,ep,t,hex,hd,Ob,λk=>by rw [<-eX k]; simp,by rw [hsz]; decide,hf,hsz⟩
 exact q _ _ _ st I' r
theorem Tz (I:ai V F m C g s) (r:af V g d v) (h:bW C d=some ds):aj V F (af V) (cB V A .iter [v]) g s (.ok (.loc C.length) ⟨m,C++[.bq d 0]⟩):=by
 intro Q E q
 have main : ∀ (a:Addr) (T:String),v=.ref a->((∃ es,d=.tup es)/\T="tuple_iterator"\/(a9 C d=some ds/\(∀ es,d≠.tup es))/\T="list_iterator")->
   (∀ {Q':Value->Shared->Prop},Q' (.ref s.heap.objs.size) {s with heap:=s.heap.push {cls:=.type T,data:=.fields #[.ref a,.int 0 0]}}->wpAny V.M A.in1 (pyIter (.ref a)) Q' E s)->
   cB V A .iter [v] Q E s:=by
  intro a T e hT hp
  subst e
  refine Calls.call_function_entry (by decide +kernel) (by decide +kernel) W.kdk_entry_iter (W.kdk_args_iter _) ?_
  unfold Builtin.«iter»
  refine ce (m:=someArgs "iter" 1 2 _) (wpAny_of_eq (a:=[Value.ref a]) (by first|rfl|kernel_rfl) ?_)
  show wpAny _ _ (pyIter (.ref a) >>= _) _ _ _
  refine ce (hp ?_)
  refine cr ⟨_,rfl,?_⟩
  obtain ⟨st,I',r'⟩:=I.uZ (c:=.bq d 0) (t:=s.toks) (λu' u' h=>dL _ h) (lw s.heap (o:={cls:=.type T,data:=.fields #[.ref a,.int 0 0]}) rfl) (by
   have st:g.Step _:=Gh.sE (i:=C.length) I.fI
   rcases hT with ⟨⟨es,rfl⟩,rfl⟩|⟨⟨hl,hn⟩,rfl⟩
   ·exact ⟨.ref a,0,rfl,r.mono st.toLe⟩
   ·have:d≠.none:=λe=>by subst e; exact aq hl
    induction d using D.casesOn<;>first|exact absurd rfl this|exact absurd rfl (hn _)|exact ⟨.ref a,0,rfl,r.mono st.toLe⟩)
  exact q _ _ _ st I' r'
 induction d using D.casesOn with
 |tup es=>
  obtain rfl:=ad h
  obtain ⟨a,vs,k,e,hl,hz,rs⟩:=I.tup r
  exact main a "tuple_iterator" e (.inl ⟨⟨_,rfl⟩,rfl⟩) λh'=>wpAny_pyIter_tuple ⟨_,hl,rfl,_,rfl⟩ h'
 |lst es=>
  obtain ⟨a,vs,k,e,hl,hz,rs⟩:=I.list (ds:=ds) r h
  exact main a "list_iterator" e (.inr ⟨⟨h,λu' e=>by cases e⟩,rfl⟩) λh'=>wpAny_pyIter_list hl.isList h'
 |loc j=>
  obtain ⟨a,vs,k,e,hl,hz,rs⟩:=I.list (ds:=ds) r h
  exact main a "list_iterator" e (.inr ⟨⟨h,λu' e=>by cases e⟩,rfl⟩) λh'=>wpAny_pyIter_list hl.isList h'
 |_=>exact aq h
noncomputable def oG (t:Addr):Obj:={cls:=.type "StopIteration",data:=.fields #[.ref t,.none,.none,.none,.bool false,.none]}
noncomputable def lV:Obj:={cls:=.type "tuple",data:=.seq #[]}
variable {it la L:Addr} {self:Value}
theorem Wa {E:Value->Shared->Prop} {o:Obj} {items:Array Value} {x:Value} {b:Builtin} (hb:b=Builtin.«list_iterator.__next__»\/b=Builtin.«tuple_iterator.__next__») {P:Fin->Shared->Prop} (ho:s.heap.get? it=some o) (hd:o.data=.fields #[.ref la,.int i t])
  {ol:Obj} (hl:s.heap.get? la=some ol) (iK:ol.data=.seq items k) (hx:items[i]?=some x) (h:P (.done (.ret x)) {s with heap:=s.heap.update it (Obj.mapFields (·.setIfInBounds 1 (rawInt ((i:Int)+1))))}) :
  wpAny (model prog w) A (b ⟨[.ref it],[]⟩) P E s:=by
 rcases hb with rfl|rfl
 all_goals
  show wpAny _ _ (field (.ref it) 0 >>= _) _ _ s
  refine ce (wpAny_field ho hd (x:=.ref la) rfl ?_)
  show wpAny _ _ (if (Value.ref la==Value.none)=true then _ else _) _ _ s
  rw [if_neg (show ¬ ((Value.ref la==Value.none)=true) from Bool.false_ne_true)]
  show wpAny _ _ (field (.ref it) 1 >>= _) _ _ s
  refine ce (wpAny_field ho hd (x:=.int i t) rfl ?_)
  show wpAny _ _ (seqItems? (.ref la) >>= _) _ _ s
  refine ce (wpAny_seqItems hl iK ?_)
  simp only [toNat_natCast,hx]
  exact ce (wpAny_setField ho hd (by simp) (cr h))
theorem V9 {E:Value->Shared->Prop} {o:Obj} {items:Array Value} {b:Builtin} (hb:b=Builtin.«list_iterator.__next__»\/b=Builtin.«tuple_iterator.__next__») {P:Fin->Shared->Prop} (hh:A.handled=none) (ho:s.heap.get? it=some o) (hd:o.data=.fields #[.ref la,.int i t])
  {ol:Obj} (hl:s.heap.get? la=some ol) (iK:ol.data=.seq items k) (hx:items[i]?=none)
  (h:E (.ref (s.heap.objs.size+1)) {s with heap:=((s.heap.update it (Obj.mapFields (·.setIfInBounds 0 Value.none))).push lV).push (oG s.heap.objs.size)}) :
  wpAny (model prog w) A (b ⟨[.ref it],[]⟩) P E s:=by
 rcases hb with rfl|rfl
 all_goals
  show wpAny _ _ (field (.ref it) 0 >>= _) _ _ s
  refine ce (wpAny_field ho hd (x:=.ref la) rfl ?_)
  show wpAny _ _ (if (Value.ref la==Value.none)=true then _ else _) _ _ s
  rw [if_neg (show ¬ ((Value.ref la==Value.none)=true) from Bool.false_ne_true)]
  show wpAny _ _ (field (.ref it) 1 >>= _) _ _ s
  refine ce (wpAny_field ho hd (x:=.int i t) rfl ?_)
  show wpAny _ _ (seqItems? (.ref la) >>= _) _ _ s
  refine ce (wpAny_seqItems hl iK ?_)
  simp only [toNat_natCast,hx]
  refine ce (wpAny_rule (ce (wpAny_setField ho hd (by simp) ?_)))
  show wpAny _ _ (newExc (.type "StopIteration") [] >>= _) _ _ _
  refine ce ?_
  simp only [newExc,newTuple]
  refine ce (wpAny_newObj_type ?_ (by size_fits))
  refine ce (m:=firstArgMember _ _) (wpAny_of_eq (a:=Value.none) (by first|rfl|(simp only [firstArgMember]; rfl)) ?_)
  refine wpAny_newObj_type ?_ (by size_fits)
  delta raiseNew; dsimp only
  refine ce (wpAny_handled ?_)
  rw [hh]
  refine ce (cr (wpAny_throw ?_))
  have e1:(s.heap.update it (Obj.mapFields (·.setIfInBounds 0 Value.none))).objs.size=s.heap.objs.size:=Heap.size_update ..
  have e2:((s.heap.update it (Obj.mapFields (·.setIfInBounds 0 Value.none))).push lV).objs.size=s.heap.objs.size+1:=by rw [Heap.size_push,e1]
  have h':=h
  rw [<-e2] at h'
  have e3:oG s.heap.objs.size=oG (s.heap.update it (Obj.mapFields (·.setIfInBounds 0 Value.none))).objs.size:=by rw [e1]
  rw [e3] at h'
  exact h'
noncomputable def yV:D->String
 |.tup _=>"tuple"
 |_=>"list"
inductive AD (V:av) (g:Gh) (h:Heap) (i:Nat) (src:D) (p:Nat) (ds:List D) (v:Value):Prop
 |mk (it la:Addr) (vs:List Value) (k:Nat) (t:Tok) (e:v=.ref it) (hg:g it=some (.cell i)) (ho:h.get? it=some {cls:=.type (yV src++"_iterator"),dict:=none,data:=.fields #[.ref la,.int p t],slots := #[]})
  (hl:h.get? la=some {cls:=.type (yV src),dict:=none,data:=.seq vs.toArray k,slots := #[]}) (rs:aI V g ds vs) (zD:af V g src (.ref la)):AD V g h i src p ds v
theorem ai.bq (I:ai V F m C g s) (r:af V g (.loc i) v) {p:Nat} (hC:C[i]?=some (.bq src p)) (hs:bW C src=some ds) :
  AD V g s.heap i src p ds v:=by
 cases r with
 |loc h1=>
  obtain ⟨b,o,e1,e2,e3⟩:=I.cell _ _ hC
  cases I.uniq _ _ _ h1 e1
  induction src using D.casesOn with
  |tup es=>
   obtain ⟨u,t,rfl,ru⟩:=e3
   obtain rfl:=ad hs
   obtain ⟨la,vs,k,rfl,hl,hz,rs⟩:=I.tup ru
   exact ⟨_,la,vs,k,t,rfl,h1,e2,hl,rs,ru⟩
  |lst es=>
   obtain ⟨u,t,rfl,ru⟩:=e3
   obtain ⟨la,vs,k,rfl,hl,hz,rs⟩:=I.list ru (ds:=ds) hs
   exact ⟨_,la,vs,k,t,rfl,h1,e2,hl,rs,ru⟩
  |loc j=>
   obtain ⟨u,t,rfl,ru⟩:=e3
   obtain ⟨la,vs,k,rfl,hl,hz,rs⟩:=I.list ru (ds:=ds) hs
   exact ⟨_,la,vs,k,t,rfl,h1,e2,hl,rs,ru⟩
  |_=>exact aq hs
noncomputable def mW (M:Model) (A:Around) (b:Builtin) (args:Args):Tr Value:=λQ E s=>wpAny M A (b args) (λfin s' => ∃ v,fin=.done (.ret v)/\Q v s') E s
noncomputable def pU:D->Builtin
 |.tup _=>Builtin.«tuple_iterator.__next__»
 |_=>Builtin.«list_iterator.__next__»
noncomputable def Xa:D->Bool
 |.tup _=>true
 |_=>false
noncomputable def lB (C:ah) (i:Nat):D:=match C[i]? with
 |some (.bq src _)=>src
 |_=>.none
theorem FJ (d:D):pU d=Builtin.«list_iterator.__next__»\/pU d=Builtin.«tuple_iterator.__next__» := by
 induction d using D.casesOn<;>first|exact .inl rfl|exact .inr rfl
theorem next_item (I:ai V F m C g s) (r:af V g (.loc i) (.ref it)) {p:Nat} (hC:C[i]?=some (.bq src p)) (hs:bW C src=some ds) (hd:ds[p]?=some d) :
  aj V F (af V) (mW V.M A (pU src) ⟨[.ref it],[]⟩) g s (.ok d ⟨m,C.set i (.bq src (p+1))⟩):=λQ E q=>by
 obtain ⟨fW,la,vs,k,t,e,hg,ho,hl,rs,zD⟩:=I.bq r hC hs
 cases e
 obtain ⟨v,hv,rv⟩:=rs.get hd
 refine Wa (FJ _) ho rfl hl rfl (x:=v) (qo hv) ⟨_,rfl,q g _ _ (.refl g) ?_ rv⟩
 refine I.cellSet (t:=s.toks) hg (mo ..) (Heap.get?_update_self (Obj.mapFields (·.setIfInBounds 1 (rawInt ((p:Int)+1)))) ho rfl) ?_
 induction src using D.casesOn<;>first|exact aq hs|exact ⟨_,0,rfl,zD⟩
theorem next_end (hf:F.env.frame=some L) (hh:A.handled=none) (I:ai V F m C g s) (r:af V g (.loc i) (.ref it)) {p:Nat} (hC:C[i]?=some (.bq src p))
  (hs:bW C src=some ds) (hd:ds[p]?=none):aj V F (af V) (mW V.M A (pU src) ⟨[.ref it],[]⟩) g s (.exc .stop ⟨m,C.set i (.bq .none 0)⟩):=λQ E q=>by
 obtain ⟨fW,la,vs,k,t,e,hg,ho,hl,rs,zD⟩:=I.bq r hC hs
 cases e
 have hv:vs.toArray[p]?=none:=by
  exact te rs.length hd
 refine V9 (FJ _) hh ho rfl hl rfl hv ?_
 have eY:=Heap.get?_update_self (Obj.mapFields (·.setIfInBounds 0 Value.none)) ho rfl
 have I1:=I.cellSet (t:=s.toks) (c:=.bq .none 0) hg (mo ..) eY trivial
 have e1:(s.heap.update it (Obj.mapFields (·.setIfInBounds 0 Value.none))).objs.size=s.heap.objs.size:=Heap.size_update ..
 have I2:=I1.heap (h':=(s.heap.update it (Obj.mapFields (·.setIfInBounds 0 Value.none))).push lV) λu' u' h=>dL _ h
 have I3:=I2.heap (h':=((s.heap.update it (Obj.mapFields (·.setIfInBounds 0 Value.none))).push lV).push (oG s.heap.objs.size)) λu' u' h=>dL _ h
 have e2:((s.heap.update it (Obj.mapFields (·.setIfInBounds 0 Value.none))).push lV).objs.size=s.heap.objs.size+1:=by rw [Heap.size_push,e1]
 have Ol:V.h₀.get? s.heap.objs.size=none:=by
  induction q:V.h₀.get? s.heap.objs.size with
  |none=>rfl
  |some o=>exact absurd (Heap.lt_size (I.keep _ _ q)) (lt_irrefl _)
 have Om:V.h₀.get? (s.heap.objs.size+1)=none:=by
  induction q:V.h₀.get? (s.heap.objs.size+1) with
  |none=>rfl
  |some o=>exact absurd (Heap.lt_size (I.keep _ _ q)) (not_lt.mpr (le_succ _))
 have Oe:(((s.heap.update it (Obj.mapFields (·.setIfInBounds 0 Value.none))).push lV).push (oG s.heap.objs.size)).get? (s.heap.objs.size+1)=some (oG s.heap.objs.size):=by
  rw [<-e2]; exact lw _ rfl
 have Po:(((s.heap.update it (Obj.mapFields (·.setIfInBounds 0 Value.none))).push lV).push (oG s.heap.objs.size)).get? s.heap.objs.size=some lV:=by
  refine dL _ ?_
  rw [<-e1]; exact lw _ rfl
 refine q g _ _ (.refl g) ⟨I3,_,.type "StopIteration",[],L,rfl,hf,⟨rfl,rfl⟩,⟨?_,Om,?_⟩⟩
 ·exact I.apart (f8 (le_succ _))
 ·exact ⟨_,_,_,Oe,rfl,rfl,rfl,⟨_,0,Po,rfl,rfl⟩,⟨Ol,I.fI⟩,.inl rfl⟩
theorem GK (hf:F.env.frame=some L) (hh:A.handled=none) (I:ai V F m C g s) (r:af V g (.loc i) (.ref it)) :
  aj V F (af V) (mW V.M A (pU (lB C i)) ⟨[.ref it],[]⟩) g s (fF C m i):=by
 induction hC:C[i]? with
 |none=>unfold fF; rw [hC]; trivial
 |some ch=>
  induction ch using Ch.casesOn with
  |bq src p=>
   rw [show lB C i=src by unfold lB; rw [hC]]
   unfold fF
   rw [hC]
   dsimp only
   induction hs:bW C src with
   |none=>trivial
   |some ds=>
    dsimp only
    induction hd:ds[p]? with
    |none=>exact next_end hf hh I r hC hs hd
    |some d=>exact next_item I r hC hs hd
  |_=>unfold fF; rw [hC]; trivial
theorem Rr {Q E} (hT:s.TypeIs (.ref it) "list_iterator") (h:mW V.M A.in1 Builtin.«list_iterator.__next__» ⟨[.ref it],[]⟩ Q E s) :
  wpAny V.M A (call (.builtin "list_iterator.__next__") [.ref it]) Q E s:=
 wpAny_call_entry slot_listiter_next hT entry_listiter_next h (args_listiter_next _)
theorem Rt {Q E} (hT:s.TypeIs (.ref it) "tuple_iterator") (h:mW V.M A.in1 Builtin.«tuple_iterator.__next__» ⟨[.ref it],[]⟩ Q E s) :
  wpAny V.M A (call (.builtin "tuple_iterator.__next__") [.ref it]) Q E s:=
 wpAny_call_entry slot_tupleiter_next hT entry_tupleiter_next h (args_tupleiter_next _)
set_option tactic.hygienic true in
theorem TO (hf:F.env.frame=some L) (hh:A.handled=none) (I:ai V F m C g s) (r:af V g (.loc i) v) :
  aj V F (af V) (cB V A .next [v]) g s (fF C m i):=by
 induction ho:fF C m i with
 |fail=>trivial
 |_=>
  have hT : ∃ it,v=.ref it/\s.TypeIs (.ref it) (yV (lB C i)++"_iterator"):=by
   unfold fF at ho
   split at ho
   ·rename_i src p hC
    have eS:lB C i=src:=by unfold lB; rw [hC]
    rw [eS]
    split at ho
    ·rename_i ds hs
     obtain ⟨it,la,vs,k,t,rfl,hg,gX,_⟩:=I.bq r hC hs
     exact ⟨it,rfl,_,gX,rfl⟩
    ·(first|exact cC ho|exact Dw ho)
   ·(first|exact cC ho|exact Dw ho)
  obtain ⟨it,rfl,hT⟩:=hT
  rw [<-ho]
  refine (GK (A:=A.in1.in1) hf hh I r).wp λQ E x=>?_
  refine Calls.call_function_entry (by decide +kernel) (by decide +kernel) W.kdk_entry_next (W.kdk_args_next _) ?_
  unfold Builtin.«next»
  refine ce (m:=someArgs "next" 1 2 _) (wpAny_of_eq (a:=[Value.ref it]) (by first|rfl|kernel_rfl) ?_)
  dsimp only
  generalize lB C i=d at hT x
  have key:(s.TypeIs (.ref it) "list_iterator"/\mW V.M A.in1.in1 Builtin.«list_iterator.__next__» ⟨[.ref it],[]⟩ Q E s)\/(s.TypeIs (.ref it) "tuple_iterator"/\mW V.M A.in1.in1 Builtin.«tuple_iterator.__next__» ⟨[.ref it],[]⟩ Q E s):=by
   induction d using D.casesOn<;>first|exact .inl ⟨hT,x⟩|exact .inr ⟨hT,x⟩
  clear hT x
  rcases key with ⟨hT,x⟩|⟨hT,x⟩
  ·refine ce (wpAny_specialOf (name:=Str.ofString "__next__") hT slot_listiter_next.lookup ?_)
   refine wpAny_ite_split (λjl=>absurd jl (by decide)) (λu'=>?_)
   refine ce (wpAny_callSpecial?_slot (name:=Str.ofString "__next__") hT slot_listiter_next (Rr hT ?_))
   exact gl (show wpAny _ _ _ _ _ _ from x) (λfin s' ⟨v,e,hq⟩=>⟨v,e,cr ⟨_,rfl,hq⟩⟩) λu' u' e=>e
  ·refine ce (wpAny_specialOf (name:=Str.ofString "__next__") hT slot_tupleiter_next.lookup ?_)
   refine wpAny_ite_split (λjl=>absurd jl (by decide)) (λu'=>?_)
   refine ce (wpAny_callSpecial?_slot (name:=Str.ofString "__next__") hT slot_tupleiter_next (Rt hT ?_))
   exact gl (show wpAny _ _ _ _ _ _ from x) (λfin s' ⟨v,e,hq⟩=>⟨v,e,cr ⟨_,rfl,hq⟩⟩) λu' u' e=>e
theorem HJ {args:List Value} {b:Builtin} {E:Value->Shared->Prop}
  (ho:s.heap.get? a=some {cls:=.type "method-wrapper",dict:=none,data:=.fields #[.builtin id,self],slots := #[]}) (hc:checkBoundCall id ⟨self::args,[]⟩=pure ()) (hq:plainId id=true)
  (he:entryFor table id=some b) (h:wpAny (model prog w) A.in1 (b ⟨self::args,[]⟩) (λfin s'=>match fin with|.done f=>wants Q E (.ok f) s'|.again c'=>c'.quiet=true/\codeAny (model prog w) A c' (wants Q E) s') (λe s'=>wants Q E (.error e) s') s):wpAny (model prog w) A (call (.ref a) args) Q E s:=by
 refine wpAny_call (codeAny_of_tree ?_)
 show wpAny _ A.in1 (callAny (.ref a) ⟨args,[]⟩) _ _ s
 delta callAny; dsimp only
 refine ce (wpAny_load ho ?_)
 simp only [show (Value.type "method-wrapper"==Value.type "method"||Value.type "method-wrapper"==Value.type "builtin_function_or_method"||Value.type "method-wrapper"==Value.type "method-wrapper")=true by decide,if_true]
 refine W.KFB.if_so (by decide) ?_
 refine ce (wpAny_of_eq (a:=()) hc ?_)
 refine ce (cr (cr ?_))
 refine ⟨plainId_quiet hq _,codeAny_builtin he ?_⟩
 rw [Around.under_plainId hq _]
 exact h
theorem J6 {a b:Value}:checkBoundCall "list.__contains__" ⟨[a,b],[]⟩=pure ():=by first|kernel_rfl|rfl
theorem J7 {a:Value}:checkBoundCall "list_iterator.__next__" ⟨[a],[]⟩=pure ():=by first|kernel_rfl|rfl
theorem Se:plainId "list.__contains__"=true:=by decide +kernel
theorem Sf:plainId "list_iterator.__next__"=true:=by decide +kernel
theorem S8 (I:ai V F m C g s) {x:D} {u:Value} (r:af V g (.bm .bk src) v) (rx:af V g x u) {b:Bool} (hl:a9 C src=some ds) (hb:iR x ds=some b) :
  aJ V F A (af V) (call v [u]) g s (.ok (.bool b) ⟨m,C⟩):=by
 obtain ⟨u',a,h1,h3,rfl⟩:=r.EW
 obtain ⟨la,vs,k,rfl,OO,hz,rs⟩:=I.list h3 hl
 obtain ⟨i,t,rfl,e1,e2⟩:=yQ rx rs hb
 refine λQ E q=>HJ (I.aB _ _ h1) J6 Se PySem.F.entry_list_contains ?_
 refine MeetsSeq.list_contains la vs.toArray k _ _ e1 V.prog V.w A (wants Q E) s ⟨OO,?_⟩
 rw [e2]
 exact q g _ _ (.refl g) I (.bool _)
set_option tactic.hygienic true in
theorem S9 (hf:F.env.frame=some L) (hh:A.handled=none) (I:ai V F m C g s) (r:af V g (.bm .bX (.loc i)) v) (hs:(oO C i).isSome=true) :
  aJ V F A (af V) (call v []) g s (fF C m i):=by
 obtain ⟨u',a,h1,h3,rfl⟩:=r.EX
 obtain ⟨it,h5,rfl⟩:=h3.gA
 refine (GK (A:=A.in1) hf hh I h3).wp λQ E x=>?_
 refine HJ (I.aB _ _ h1) J7 Sf entry_listiter_next ?_
 have e:pU (lB C i)=Builtin.«list_iterator.__next__» := by
  unfold oO at hs
  unfold lB
  induction hC:C[i]? with
  |none=>rw [hC] at hs; exact bA hs
  |some ch=>
   rw [hC] at hs
   induction ch using Ch.casesOn<;>first|exact bA hs|skip
   rename_i src p
   induction src using D.casesOn<;>first|rfl|exact bA hs
 rw [e] at x
 exact gl (show wpAny _ _ _ _ _ _ from x) (λfin s' ⟨v,e,hq⟩=>by subst e; exact hq) λu' u' e=>e
theorem Fs {M:Model} {f:Value} (ho:h.get? a=some {cls:=.type "method-wrapper",dict:=none,data:=.fields #[f,self],slots := #[]}) : ∃ k,W.Looks M h (keeperOf (.ref a)) k:=by
 refine ⟨.machine,?_⟩
 unfold keeperOf
 refine (W.Looks.ld (part:=none) ho).andThen ?_
 exact W.Looks.now
structure Gh.bT (S:Addr) (g g':Gh):Prop where
 aB : ∀ a o,a≠S->g a=some (.aB o)->g' a=some (.aB o)
 cell : ∀ a i,a≠S->g a=some (.cell i)->g' a=some (.cell i)
 az : ∀ a o,a≠S->(g a=some (.az o)↔g' a=some (.az o))
variable {bl:Gh}
theorem Gh.bT.trans {S:Addr} {aV dD:Gh} (x:Gh.bT S aV bl) (y:Gh.bT S bl dD):Gh.bT S aV dD:=
 ⟨λa o n h=>y.aB a o n (x.aB a o n h),λa i n h=>y.cell a i n (x.cell a i n h),λa o n=>(x.az a o n).trans (y.az a o n)⟩
theorem Gh.Step.but (x:g.Step g') (S:Addr):Gh.bT S g g':=⟨λa o u' h=>x.aB a o h,λa i u' h=>x.cell a i h,λa o u'=>x.az a o⟩
theorem Gh.bT.put (S:Addr) (g:Gh) (x:Option GO):Gh.bT S g (g.put S x):=
 ⟨λa o n h=>by rw [Gh.bf _ _ n]; exact h,λa i n h=>by rw [Gh.bf _ _ n]; exact h,λa o n=>by rw [Gh.bf _ _ n]⟩
theorem Gh.bT.le {S:Addr} (x:Gh.bT S g g') {o:Obj} (h:g S=some (.az o)):g.Le g':=
 ⟨λa o' e=>x.aB a o' (λq=>by subst q; rw [h] at e; cases e) e,λa i e=>x.cell a i (λq=>by subst q; rw [h] at e; cases e) e⟩
theorem Gh.zw (g:Gh) (a:Addr) (x y:Option GO):(g.put a x).put a y=g.put a y:=by
 funext b
 by_cases e:b=a
 ·subst e; rw [Gh.bz,Gh.bz]
 ·rw [Gh.bf _ _ e,Gh.bf _ _ e,Gh.bf _ _ e]
variable {nx:Nat}
theorem ai.DM (I:ai V F m C g s) : ∃ M,Fr V.h₀ F.env.locals s.heap M:=
 let ⟨M,h,_⟩:=I.fr.loc; ⟨M,h,I.keep,I.fr.above⟩
theorem ai.adopt (I:ai V F m C g s) {o:Obj} (hg:g a=none) (hn:V.h₀.get? a=none) (ho:s.heap.get? a=some o):ai V F m C (g.put a (some (.aB o))) s:=by
 have L:g.Le (g.put a (some (.aB o))):=Gh.gB _ hg
 have other : ∀ {b y},g b=some y->g.put a (some (.aB o)) b=some y:=λ{b y} e=>by
  rw [Gh.bf]; exact e; intro q; subst q; rw [hg] at e; exact aq e
 refine ⟨I.keep,λb y e=>?_,λb y e=>?_,λb o' e=>?_,λb o' e=>?_,λi c e=>?_,λb c i e e'=>?_,λb i e=>?_,?_,I.gens,I.os⟩
 ·rcases Gh.bG e with ⟨rfl,_⟩|⟨_,q⟩
  ·exact hn
  ·exact I.new b y q
 ·rcases Gh.bG e with ⟨rfl,_⟩|⟨_,q⟩
  ·exact ⟨o,ho⟩
  ·exact I.live b y q
 ·rcases Gh.bG e with ⟨rfl,q⟩|⟨_,q⟩
  ·cases q; exact ho
  ·exact I.aB b o' q
 ·rcases Gh.bG e with ⟨rfl,q⟩|⟨_,q⟩
  ·cases q
  ·exact I.az b o' q
 ·obtain ⟨b,o',h1,h2,h3⟩:=I.cell i c e
  exact ⟨b,o',other h1,h2,h3.mono L⟩
 ·rcases Gh.bG e with ⟨rfl,q⟩|⟨_,q⟩
  ·cases q
  ·rcases Gh.bG e' with ⟨rfl,q'⟩|⟨_,q'⟩
   ·cases q'
   ·exact I.uniq b c i q q'
 ·rcases Gh.bG e with ⟨rfl,q⟩|⟨_,q⟩
  ·cases q
  ·exact I.dC b i q
 ·exact I.fr.mono L (λc e=>other e) (λc y e=>other e) (λc o e=>other e)
theorem ai.mD (I:ai V F m C g s) {o:Obj} (hg:g a=some (.az o)) (ht:kq o):s.heap.get? a=some o:=by
 obtain ⟨sl,h,e⟩:=I.az a o hg
 rw [e ht] at h; exact h
theorem ai.give (I:ai V F m C g s) {o:Obj} (hg:g a=some (.az o)) (ht:kq o):ai V F m C (g.put a (some (.aB o))) s:=by
 have h1:=I.r7 hg ht
 have h2:=h1.adopt (Gh.bz ..) (I.new _ _ hg) (I.mD hg ht)
 rwa [Gh.zw] at h2
noncomputable def bP (vs:List Value) (k:Nat):Obj:={cls:=.type "list",dict:=none,data:=.seq vs.toArray k,slots := #[]}
theorem jz:kq (bP vs k):=⟨λv h=>(by cases h),λes n h=>(by cases h)⟩
theorem Gk {S:Addr} (e:h.get? S=some (bP vs k)) (v:Value) : ∃ k',(h.update S (Obj.mapSeq (·.push v))).get? S=some (bP (vs++[v]) k'):=by
 have:=IsL.update (l:=S) (items:=vs.toArray) (n:=k) e (·.push v)
 have e2:vs.toArray.push v=(vs++[v]).toArray:=by simp
 rw [e2] at this
 exact ⟨_,this⟩
set_option tactic.hygienic true in
theorem To (B:V.Base) (aC:V.c7) (hC:gd V cl n) (K:F.Ok) (hA:qe F A.in1 n) {c:iy} (hc:V.P.dw k=some c) (nR:c.meths.lookup .bX=some nx) {x S:Addr} {res:Value} :
  ∀ (fuel:Nat) (C:ah) (acc:List D) (vs:List Value) (rL:Nat) (g:Gh) (s:Shared),ai V F m C g s->af V g (.loc i) (.ref x)->g S=some (.az (bP vs rL))->aI V g acc vs->vs.length<=aH->
  ∀ ds st,ja cl k nx i fuel C acc=.ok (.lst ds) st->∀ (R:Result->Shared->Prop),(∀ g' s' iX k',Gh.bT S g g'->ai V F m st.C g' s'->g' S=some (.az (bP iX k'))->aI V g' ds iX->iX.length<=aH->R (.ok (.ret res)) s')->
   codeAny V.M A (.builtin "list.extend.loop" ⟨[.ref S,.ref x,res],[]⟩) R s:=λfuel=>by
 induction fuel with
 |zero=>
  intro _ _ _ _ _ _ _ _ _ _ _ _ _ h _ _
  exact cC h
 |succ fuel ih=>
  intro C acc vs rL g s I rx hS ra hz ds st h R hR
  unfold ja at h
  split at h
  ·rename_i k' fs jh
   split at h
   ·rename_i hk
    have hk:=im hk
    subst hk
    have ok:=aC _ c hc
    obtain ⟨x',ox,e,hI,ud,rn,_⟩:=I.p7 rx jh
    cases e
    obtain ⟨m1,m2,_⟩:=ok.meths .bX nx nR
    refine codeAny_builtin PySem.F.entry_extend_loop ?_
    rw [Around.under_plainId PySem.F.plain_extend_loop _]
    show wpAny _ A.in1 (pyNext (.ref x) >>= _) _ _ s
    have gn:=hC.some (F:=F) (A:=A.in1) nx K hA I (.cons rx .nil) (ks:=[]) (ay:=[]) trivial
    split at h
    ·rename_i d ao hr
     rw [hr] at gn
     split at h
     ·rename_i kJ
      refine ce ?_
      unfold pyNext
      refine ce (wpAny_attempt (W.special_fn (name:="__next__") (args:=[]) (I.cY B) hI m1 m2 (wpAny_call (gn _ _ λg' a s' d6 I' r'=>?_))))
      refine cr ?_
      show wpAny _ A.in1 (updateSeq S (·.push a) >>= _) _ _ _
      have jk:g' S=some (.az (bP vs rL)):=(d6.az S _).mp hS
      have kT:=I'.mD jk jz
      refine ce (wpAny_updateSeq (hz:=dO (by simpa using hz)) kT rfl ?_ (_hz':=by
       rw [Array.size_push]; exact succ_le_succ (dO hz)))
      obtain ⟨k₁,eY⟩:=Gk kT a
      have I2:=I'.pW (t:=s'.toks) jk jz ((mo s'.heap S (Obj.mapSeq (·.push a))).extBut) eY
      refine cr ⟨plainId_quiet PySem.F.plain_extend_loop _,?_⟩
      have l9:Gh.bT S g (g'.put S (some (.az (bP (vs++[a]) k₁)))):=(d6.but S).trans (Gh.bT.put S g' _)
      have L:=l9.le hS
      have L':g'.Le (g'.put S (some (.az (bP (vs++[a]) k₁)))):=(Gh.bT.put S g' _).le jk
      refine ih ao.C (acc++[d]) (vs++[a]) k₁ _ _ I2 (rx.mono L) (Gh.bz ..) ((ra.mono L).append (.cons (r'.mono L') .nil)) ?_ ds st h R λed d5 Wl P8 b HP e1 e2 e3=>hR ed d5 Wl P8 (l9.trans b) HP e1 e2 e3
      rw [length_append,<-ra.length]; exact kJ
     ·exact cC h
    ·rename_i ao hr
     cases h
     rw [hr] at gn
     refine ce ?_
     unfold pyNext
     refine ce (wpAny_attempt (W.special_fn (name:="__next__") (args:=[]) (I.cY B) hI m1 m2 (wpAny_call (gn _ _ λg' e s' d6 hx=>?_))))
     obtain ⟨I',ea,cls,args,L,rfl,hL,⟨rfl,rfl⟩,ht⟩:=hx
     obtain ⟨oe,ws,t,h1,h2,h3,h4,h5,h6,h7⟩:=ht.there
     refine ce (wpAny_isInstance (T:="StopIteration") (b:=true) ⟨oe,h1,h2⟩ isSubtype_stop ?_)
     refine cr ?_
     have jk:g' S=some (.az (bP vs rL)):=(d6.az S _).mp hS
     exact cr (hR g' s' vs rL (d6.but S) I' jk (ra.mono d6.toLe) hz)
    ·exact cC h
   ·exact cC h
  ·exact cC h
variable {K:W.Frag} {fs:List (Option D)}
theorem Gh.bT.fin {S:Addr} {o:Obj} (h:Gh.bT S g g') (hg:g S=none):g.Step (g'.put S (some (.aB o))):=by
 have ne : ∀ {a x},g a=some x->a≠S:=λ{a x} e q=>by subst q; rw [hg] at e; exact aq e
 refine ⟨⟨λa o' e=>?_,λa i e=>?_⟩,λa o'=>⟨λe=>?_,λe=>?_⟩⟩
 ·rw [Gh.bf _ _ (ne e)]; exact h.aB a o' (ne e) e
 ·rw [Gh.bf _ _ (ne e)]; exact h.cell a i (ne e) e
 ·rw [Gh.bf _ _ (ne e)]; exact (h.az a o' (ne e)).mp e
 ·rcases Gh.bG e with ⟨_,q⟩|⟨z,q⟩
  ·cases q
  ·exact (h.az a o' z).mpr q
theorem Af {S:Addr} {f:Array Value->Array Value} (e:h.get? S=some (bP vs k)) (hf:f vs.toArray=ws.toArray) : ∃ k',(h.update S (Obj.mapSeq f)).get? S=some (bP ws k'):=by
 have:=IsL.update (l:=S) (items:=vs.toArray) (n:=k) e f
 rw [hf] at this
 exact ⟨_,this⟩
set_option maxRecDepth 100000 in
theorem Oz {x Cc:Addr} {ox:Obj} {od:Option Obj} {Q:Bool->Shared->Prop} {E:Value->Shared->Prop} (X:K.In s.heap) (I:W.InstAt s.heap x ox Cc od) (h1:W.findIn K (.ref Cc) "__len__"=some none)
  (h2:W.findIn K (.ref Cc) "__length_hint__"=some none) (h:Q true s):wpAny (model prog w) A (Builtin.List.listLengthHint (.ref x)) Q E s:=by
 unfold Builtin.List.listLengthHint
 refine ce (ce (I.type.here ((W.looks_findIn X h1).here ?_)))
 refine ce (ce (I.type.here ((W.looks_findIn X h2).here ?_)))
 exact cr h
set_option tactic.hygienic true in
set_option maxRecDepth 100000 in
set_option maxHeartbeats 1000000 in
theorem TJ (B:V.Base) (aC:V.c7) (hC:gd V cl n) (K:F.Ok) (hA:qe F A.in1.in1 n) (I:ai V F m C g s) {ni:Nat} {c:iy} (hc:V.P.dw k=some c) (pC:c.meths.lookup .i8=some ni) (nR:c.meths.lookup .bX=some nx)
  (rx:af V g (.loc i) v) (jh:C[i]?=some (.slots k fs)) {aa ae:St} (hit:cl.call ni [.loc i] [] C=.ok (.loc i) aa) (gq:ja cl k nx i cl.fuel aa.C []=.ok (.lst ds) ae) :
  aj V F (af V) (cB V A .list [v]) g s (.ok (.lst ds) ⟨m,ae.C⟩):=by
 intro Q E q
 have ok:=aC _ c hc
 obtain ⟨x,ox,rfl,hI,ud,rn,_⟩:=I.p7 rx jh
 obtain ⟨OR,OS⟩:=ok.Ry (by rw [nR]; rfl)
 obtain ⟨i1,i2,_⟩:=ok.meths .i8 ni pC
 obtain ⟨j1,j2,_⟩:=ok.meths .bX nx nR
 have yD:x≠s.heap.objs.size:=λe=>by rw [e,I.fI] at ud; exact aq ud
 show wpAny V.M A (call (.type "list") [.ref x]) Q E s
 refine callType_codes (Q₁:=λobj au=>obj=.ref s.heap.objs.size/\au={s with heap:=s.heap.push {cls:=.type "list",data:=.seq #[]}}) PySem.F.called_list (PySem.F.typeCall_list_1 _) PySem.F.entry_list_init
  (code_list_new _ ⟨rfl,rfl⟩) λobj au et=>?_
 obtain ⟨rfl,rfl⟩:=et
 have hS:(s.heap.push {cls:=.type "list",data:=.seq #[]}).get? s.heap.objs.size=some (bP [] 0):=lw _ rfl
 have I1:=I.more (h':=s.heap.push {cls:=.type "list",data:=.seq #[]}) (t:=s.toks) (x:=.az (bP [] 0)) (λu' u' h=>dL _ h) (f8 (le_refl _)) hS (.inr rfl)
 refine ⟨⟨_,hS,rfl⟩,PySem.F.args_list_init_2 _ _,?_⟩
 show wpAny _ _ (do let old <-Builtin.List.listItems (.ref s.heap.objs.size); Builtin.List.listUpdate (.ref s.heap.objs.size) (λu' => #[]); letGo old.toList.reverse; Builtin.List.listExtendWith (.ref s.heap.objs.size) (.ref x) .none) _ _ _
 refine ce ?_
 unfold Builtin.List.listItems
 refine ce (wpAny_seqItems hS rfl (cr ?_))
 show wpAny _ _ (updateSeq s.heap.objs.size (λu' => #[]) >>= λu'=>letGo (#[]:Array Value).toList.reverse >>= λu'=>Builtin.List.listExtendWith (.ref s.heap.objs.size) (.ref x) .none) _ _ _
 refine ce (wpAny_updateSeq hS rfl ?_)
 obtain ⟨k₂,xQ⟩:=Af (ws:=[]) (f:=λu' => #[]) hS rfl
 have I2:=I1.pW (t:=s.toks) (Gh.bz ..) jz (mo (s.heap.push {cls:=.type "list",data:=.seq #[]}) s.heap.objs.size (Obj.mapSeq λu'=>(#[]:Array Value))).extBut xQ
 rw [Gh.zw] at I2
 refine ce (wpAny_letGo ?_)
 have zE:af V (g.put s.heap.objs.size (some (.az (bP [] k₂)))) (.loc i) (.ref x):=.loc (by rw [Gh.bf _ _ yD]; exact ud)
 obtain ⟨x2,Xl,e2,D3,W6,W8,_⟩:=I2.p7 zE jh
 cases e2
 unfold Builtin.List.listExtendWith
 refine ce (D3.type.here ?_)
 have h1:Builtin.List.listSameRef (.ref s.heap.objs.size) (.ref x)=false:=by simp [Builtin.List.listSameRef,Ne.symm yD]
 have h2:(Value.ref (V.ba k)==Value.type "list")=false:=rfl
 have h3:(Value.ref (V.ba k)==Value.type "tuple")=false:=rfl
 simp only [h1,h2,h3,Bool.or_false,false_eq_true,if_false]
 obtain ⟨M2,F2⟩:=I2.DM
 refine ce (W.owit_iter F2 B.cY D3 i1 (beq_iff_eq.mpr i2) ?_)
 have gn:=hC.some (F:=F) (A:=A.in1.in1) ni K hA I2 (.cons zE .nil) (ks:=[]) (ay:=[]) trivial
 rw [hit] at gn
 refine wpAny_call (gn _ _ λg3 a s3 aK I3 ra=>?_)
 have Gx:af V g3 (.loc i) (.ref x):=zE.mono aK.toLe
 have ea:a=.ref x:=by
  cases ra with
  |loc ha=>
   cases Gx with
   |loc gZ=>rw [I3.uniq _ _ _ ha gZ]
 subst ea
 have D8:g3 s.heap.objs.size=some (.az (bP [] k₂)):=(aK.az _ _).mp (Gh.bz ..)
 induction gU:cl.fuel using Nat.casesOn with
 |zero=>rw [gU] at gq; exact cC gq
 |succ fu=>
 have kY : ∃ xD,aa.C[i]?=some (.slots k xD):=by
  rw [gU] at gq
  unfold ja at gq
  split at gq
  ·rename_i k' xD hq
   split at gq
   ·rename_i hk; rw [eq_of_beq hk] at hq; exact ⟨_,hq⟩
   ·exact cC gq
  ·exact cC gq
 obtain ⟨xD,Nz⟩:=kY
 obtain ⟨x3,Xm,e3,D4,Oq,W9,_⟩:=I3.p7 Gx Nz
 cases e3
 obtain ⟨M3,F3⟩:=I3.DM
 refine W.owit_it F3 B.cY D4 j1 ?_
 refine ce (ls (Oz (I3.cY B) D4 OR OS ?_))
 refine wpAny_ite_split (λu'=>?_) (λjl=>absurd (by simp) jl)
 refine ce (wpAny_rule ?_)
 have EG:=I3.mD D8 jz
 refine ce ?_
 show wpAny _ _ (updateSeq s.heap.objs.size (·.push .none) >>= λu'=>updateSeq s.heap.objs.size (·.pop)) _ _ _
 refine ce (wpAny_updateSeq EG rfl ?_)
 obtain ⟨Xc,xR⟩:=Af (ws:=[Value.none]) (f:=(·.push Value.none)) EG rfl
 have I4:=I3.pW (t:=s3.toks) D8 jz (mo s3.heap s.heap.objs.size (Obj.mapSeq (·.push Value.none))).extBut xR
 refine wpAny_updateSeq (hz:=by seq_fits) xR rfl ?_
 obtain ⟨yY,NS⟩:=Af (ws:=[]) (f:=(·.pop)) xR rfl
 have I5:=I4.pW (t:=s3.toks) (Gh.bz ..) jz (mo (s3.heap.update s.heap.objs.size (Obj.mapSeq (·.push Value.none))) s.heap.objs.size (Obj.mapSeq (·.pop))).extBut NS
 rw [Gh.zw] at I5
 refine cr ⟨plainId_quiet PySem.F.plain_extend_loop _,?_⟩
 have l9:Gh.bT s.heap.objs.size g (g3.put s.heap.objs.size (some (.az (bP [] yY)))):=
  ((Gh.bT.put s.heap.objs.size g (some (.az (bP [] k₂)))).trans (aK.but _)).trans (Gh.bT.put _ g3 _)
 have SS:af V (g3.put s.heap.objs.size (some (.az (bP [] yY)))) (.loc i) (.ref x):=.loc (by rw [Gh.bf _ _ yD]; exact Oq)
 refine To B aC hC K hA hc nR cl.fuel aa.C [] [] yY _ _ I5 SS (Gh.bz ..) .nil (zero_le _) ds ae gq _ λg' s' iX k' b' I' e1 LV xb=>?_
 refine ⟨rfl,?_⟩
 have I6:=I'.give e1 jz
 have Oi:=(l9.trans b').fin (o:=bP iX k') I.fI
 refine q _ _ _ Oi I6 (.lst (Gh.bz ..) (vs:=iX) ⟨xb,k',rfl⟩ (LV.mono ?_))
 exact (Gh.bT.put s.heap.objs.size g' _).le e1
theorem QR (x:List UInt8) (f:UInt8->α):x.map f=(List.range x.length).map λj=>f (x.getD j 0):=by
 apply List.ext_getElem
 ·simp
 ·intro i h1 h2
  simp at h1 h2
  simp [getD_eq_getElem?_getD,h1]
theorem TH (hh:A.handled=none) (I:ai V F m C g s) {x:List UInt8} (r:af V g (.bytes x) v) :
  aj V F (af V) (cB V A .list [v]) g s (.ok (.lst (x.map λc=>.int c.toNat)) ⟨m,C⟩):=by
 obtain ⟨t,hz,rfl⟩:=r.nW
 ·have hl:aH=100000:=rfl
  intro Q E q
  refine LB.JQ hh (an hz (by decide)) λh' tk acc c' hk ho kJ=>?_
  obtain ⟨st,I'⟩:=I.xG (t:=tk) hk ho
  obtain ⟨h3,h4⟩:=kJ
  have h5:acc.size=x.length:=by simpa using h3
  refine q _ _ _ st I' (.lst (Gh.bz ..) (vs:=acc.toList) ⟨by rw [Array.length_toList,h5]; exact hz,_,by simp; rfl⟩ ?_)
  rw [QR]
  exact aI.ofInts (f:=λj=>((x.getD j 0).toNat:Int)) (by simpa using h5) λj v e=>by
   obtain ⟨c,u,h5,rfl⟩:=h4 j v (by simpa using e)
   refine ⟨u,?_⟩
   have:x[j]?=some c:=by simpa using h5
   rw [getD_eq_getElem?_getD,this]; rfl
theorem LM : ∀ {fu:Nat} {C:ah} {acc:List D} {d:D} {st:St},ja cl k nx i fu C acc=.ok d st->∃ ds,d=.lst ds:=λ{fu}=>by
 induction fu with
 |zero=>
  intro _ _ _ _ h
  exact cC h
 |succ fu ih=>
  intro C acc d st h
  unfold ja at h
  split at h
  ·split at h
   ·split at h
    ·split at h
     ·exact ih h
     ·exact cC h
    ·obtain ⟨rfl,rfl⟩:=ak.ok.inj h; exact ⟨_,rfl⟩
    ·exact cC h
   ·exact cC h
  ·exact cC h
theorem uD {a:D} {xs:List Int} (h:jZ C a=some xs):vA (a9 C a) eA xs:=aS h
theorem TG (B:V.Base) (aC:V.c7) (hC:gd V cl n) (K:F.Ok) (hA:fL F A cl n l) (hl:1<=l) (I:ai V F m C g s) (r:af V g (.loc i) v) (jh:C[i]?=some (.slots k fs)) :
  aj V F (af V) (cB V A .list [v]) g s (th V.P cl i k ⟨m,C⟩):=by
 unfold th
 induction hc:V.P.dw k with
 |none=>trivial
 |some c=>
  refine aj.aL λni pC=>aj.aL λnx nR=>?_
  induction hit:cl.call ni [.loc i] [] C with
  |fail=>trivial
  |exc _ _=>trivial
  |ok d aa=>
   induction d using D.casesOn<;>first|trivial|skip
   refine aj.bJ λhj=>?_
   obtain rfl:=io hj
   induction gq:ja cl k nx _ cl.fuel aa.C [] with
   |fail=>trivial
   |exc _ _=>trivial
   |ok d ae=>
    obtain ⟨es,rfl⟩:=LM gq
    by_cases dj:cl.fuel=0
    ·rw [dj] at gq; exact cC gq
    ·exact TJ B aC hC K ⟨hA.frames,AY hA.depth,vW (add_le_add_left (by decide:2<=8) _) hA.units,hA.calm dj⟩ I hc pC nR r jh hit gq
theorem Tb (B:V.Base) (aC:V.c7) (hC:gd V cl n) (K:F.Ok) (hA:fL F A cl n l) (hl:1<=l) (hh:A.handled=none) (I:ai V F m C g s) {a:D} (r:af V g a v) :
  aj V F (af V) (cB V A .list [v]) g s (Bi V.P cl a ⟨m,C⟩):=by
 induction a using D.casesOn<;>first|trivial|skip
 ·exact TH hh I r
 ·exact zI I r rfl
 ·exact zI I r rfl
 ·exact aj.bJ λhz=>let ⟨h1,h2⟩:=Gu hz; TK hh I r h2 h1
 ·exact aj.aL λch jh=>by
   induction ch using Ch.casesOn<;>first|trivial|skip
   ·exact zI I r (Iq jh)
   ·exact TG B aC hC K hA hl I r jh
theorem Td (I:ai V F m C g s) (rd:aI V g ds vs):aj V F (af V) (cB V A .range vs) g s (Bl ds ⟨m,C⟩):=by
 match ds with
 |[]=>trivial
 |[d]=>
  obtain ⟨v,rfl,r⟩:=rd.one
  exact aj.aL λk hk=>let ⟨t,e⟩:=r.fR hk; aj.bJ λu'=>e ▸ TP I
 |[d,e]=>
  obtain ⟨v,ws,r,r1,rfl⟩:=rd.kZ
  obtain ⟨u,rfl,r'⟩:=r1.one
  exact aj.aL λk hk=>aj.aL λj hj=>let ⟨t,e⟩:=r.fR hk; let ⟨t',e'⟩:=r'.fR hj; aj.bJ λu'=>e ▸ e' ▸ TQ I
 |_::_::_::_=>trivial
theorem Tf (hu:A.units+2<cLine) (I:ai V F m C g s) {a:D} (r:af V g a v):aj V F (af V) (cB V A .str [v]) g s (Bo a ⟨m,C⟩):=by
 induction a using D.casesOn<;>first|trivial|skip
 ·exact aj.bJ λhs=>let ⟨t,e⟩:=r.jx; e ▸ TZ I hs
 ·exact TY hu I r
theorem Te (_:A.handled=none) (_:ai V F m C g s) (_:aI V g ds vs):aj V F (af V) (cB V A .set vs) g s (Bm ds ⟨m,C⟩):=trivial
theorem Tc (hf:F.env.frame=some L) (hh:A.handled=none) (I:ai V F m C g s) {a:D} (r:af V g a v):aj V F (af V) (cB V A .next [v]) g s (Bk a ⟨m,C⟩):=by
 induction a using D.casesOn<;>first|trivial|exact TO hf hh I r
theorem Ta (B:V.Base) (aC:V.c7) (hC:gd V cl n) (K:F.Ok) (hf:F.env.frame=some L) (hA:fL F A cl n l) (hl:1<=l) (I:ai V F m C g s) (b:Bn) (rd:aI V g ds vs) :
  aj V F (af V) (cB V A b vs) g s (jM V.P cl b ds ⟨m,C⟩):=by
 unfold jM
 by_cases hb:(cl.fuel==0&&b != .str)=true
 ·rw [if_pos hb]; trivial
 ·rw [if_neg hb]
  have hu:A.units+2<cLine:=Il hA.units
  have hh:b≠.str->A.handled=none:=λh=>hA.calm λe=>by
   apply hb
   rw [e]
   simpa using h
  clear hb
  induction b using Bn.casesOn with
  |len=>exact aj.one rd λa v r=>TC I r
  |list=>exact aj.one rd λa v r=>Tb B aC hC K hA hl (hh nofun) I r
  |tuple=>exact aj.one rd λa v r=>aj.aL λds h=>T3 I r h
  |range=>exact Td I rd
  |sum=>
   exact aj.one rd λa v r=>aj.aL λxs hx=>let ⟨_,h1,h2⟩:=uD hx; aj.bJ λhc=>by
    rw [and_eq_true,all_eq_true,decide_eq_true_eq] at hc
    exact T1 (hh nofun) I r h1 h2 (λx hx=>io (hc.1 x hx)) hc.2
  |min=>exact aj.one rd λa v r=>aj.aL λxs hx=>let ⟨_,h1,h2⟩:=uD hx; aj.aL λx hm=>TN (hh nofun) I r h1 h2 hm
  |sorted=>exact aj.one rd λa v r=>aj.aL λxs hx=>let ⟨_,h1,h2⟩:=uD hx; aj.bJ λhz=>TU I r h1 h2 hz
  |isinstance=>exact aj.two rd λa t v u r r'=>Tw I r r'
  |bool=>exact aj.one rd λa v r=>aj.aL λds h=>Tg I r h
  |bytes=>exact aj.one rd λa v r=>aj.aL λb hb=>let ⟨_,hx,h3⟩:=aS hb; let ⟨_,h1,h2⟩:=uD hx; aj.bJ λhz=>Th (hh nofun) I r h1 h2 h3 (io hz)
  |str=>exact aj.one rd λa v r=>Tf hu I r
  |type=>exact aj.one rd λa v r=>T4 I r
  |set=>
   induction ds using List.casesOn with
   |nil=>obtain rfl:=rd.jy; exact TR I
   |cons _ _=>exact Te (hh nofun) I rd
  |iter=>exact aj.one rd λa v r=>aj.aL λds h=>Tz I r h
  |next=>exact aj.one rd λa v r=>Tc hf (hh nofun) I r
  |_=>trivial
theorem Qz (B:V.Base) (I:ai V F m C g s) (h:W.makesIn V.K (V.ba k)=true) : ∃ kk,W.Looks V.M s.heap (keeperOf (.ref (V.ba k))) kk:=by
 have Y:=W.makes_of (M:=V.M) (I.cY B) h
 obtain ⟨oc,od,cd,sl,ho,_⟩:=Y.obj
 refine ⟨.machine,?_⟩
 unfold keeperOf
 refine (W.Looks.ld (part:=none) ho).andThen ?_
 refine Y.call.andThen ?_
 exact W.Looks.now
theorem IY (b:Bn) {M:Model} : ∃ kk,W.Looks M h (keeperOf b.val) kk:=by
 induction b using Bn.casesOn<;>exact ⟨.machine,W.Looks.now⟩
theorem yK {W:Tr Value} {b:Bool} {o:ak D} (h:b=true->aj V F (af V) W g s o):aj V F (af V) W g s (if b then o else .fail):=by
 induction b with
 |false=>trivial
 |true=>exact h rfl
theorem UE (B:V.Base) (aC:V.c7) (dk:V.mR) (hC:gd V cl n) (K:F.Ok) (hf:F.env.frame=some L) (hA:fL F A cl n l) (hl:1<=l):sY V F A cl:=by
 intro m C g s f v ds vs ks ay I rf rd rk
 have kz:ks.isEmpty=true->ay=[]:=λh=>by
  induction ks using List.casesOn with
  |nil=>induction ay using List.casesOn with|nil=>rfl|cons _ _=>exact rk.elim
  |cons _ _=>exact bA h
 have eV:cl.fuel≠0->A.handled=none:=hA.calm
 induction f using D.casesOn with
 |fn k=>
  obtain rfl:=rf.PC
  obtain ⟨kk,_,L⟩:=W.looks_keep (M:=V.M) (dk.keep k) (I.cY B)
  exact aj.wp (W₂:=du V.M A (.ref (V.bh k)) vs ay) (GB (A:=A) hC K hA I k rd rk) λQ E x=>And.intro ⟨kk,L⟩ x
 |cls k=>
  refine yK λhk=>?_
  obtain rfl:=kz hk
  obtain rfl:=rf.EY
  induction hc:V.P.dw k with
  |none=>unfold oY; rw [hc]; trivial
  |some c=>exact aj.wp (W₂:=du V.M A (.ref (V.ba k)) vs []) (Ti B aC hC K hA I k rd) λQ E x=>And.intro (Qz B I (aC k c hc).makes) (wpAny_call x)
 |bn b=>
  refine yK λhk=>?_
  obtain rfl:=kz hk
  obtain rfl:=rf.yG
  exact aj.wp (W₂:=du V.M A b.val vs []) (Ta B aC hC K hf hA hl I b rd) λQ E x=>And.intro (IY b) x
 |bm nn src=>
  refine yK λhk=>?_
  obtain rfl:=kz hk
  induction nn using Nm.casesOn<;>first|trivial|skip
  ·exact aj.one (T:=λvs=>du V.M A v vs []) rd λx u ru=>aj.aL λb hb=>by
    obtain ⟨es,h1,h2⟩:=aS hb
    exact aj.wp (W₂:=du V.M A v [u] []) (S8 (A:=A) I rf ru h1 h2) λQ E x=>And.intro (let ⟨_,_,g1,_,e⟩:=rf.EW; e ▸ Fs (I.aB _ _ g1)) x
  ·exact aj.aL λi hi=>aj.bJ λhz=>by
    obtain rfl:=j0 hi
    rw [and_eq_true] at hz
    obtain rfl:=isEmpty_iff.mp hz.1
    obtain rfl:=rd.jy
    unfold jM
    by_cases hb:(cl.fuel==0&&Bn.next != .str)=true
    ·rw [if_pos hb]; trivial
    ·rw [if_neg hb]
     have hh:A.handled=none:=eV λe=>by apply hb; rw [e]; decide
     exact aj.wp (W₂:=du V.M A v [] []) (S9 (A:=A) hf hh I rf hz.2) λQ E x=>And.intro (let ⟨_,_,g1,_,e⟩:=rf.EX; e ▸ Fs (I.aB _ _ g1)) x
 |_=>trivial
inductive dR (V:av) (g:Gh):Fl->Flow->Prop where
 |next:dR V g .next .next
 |brk:dR V g .brk .brk
 |cont:dR V g .cont .cont
 |ret {d:D} {v:Value}:af V g d v->dR V g (.ret d) (.ret v)
noncomputable def aO (V:av) (F:aD) (A:Around) (cl:Calls) (c:S) (t:Stmt):Prop:=
 ∀ m C g s,ai V F m C g s->aJ V F A (dR V) (exec t F.env) g s (ex V.P cl c ⟨m,C⟩)
noncomputable def c8 (V:av) (F:aD) (A:Around) (cl:Calls) (c:Ss) (ts:List Stmt):Prop:=
 ∀ m C g s,ai V F m C g s->aJ V F A (dR V) (execs ts F.env) g s (ax V.P cl c ⟨m,C⟩)
noncomputable def dS (V:av) (F:aD) (A:Around) (cl:Calls) (c:E) (e:Expr):Prop:=
 ∀ m C g s,ai V F m C g s->aJ V F A (af V) (eval e F.env) g s ((ev V.P cl c ⟨m,C⟩).bind λx st=>gk (cN c) x st)
variable {b:List Stmt} {mu:Bool} {xp ap:Pos} {op:Operator}
theorem aO.bad {t:Stmt}:aO V F A cl .bad t:=λu' u' u' u' u'=>trivial
theorem Vj:aO V F A cl .pass (.Pass p):=λm C g s I Q E q=>wpAny_Pass (q g _ _ (.refl g) I .next)
theorem UT:aO V F A cl .brk (.Break p):=λm C g s I Q E q=>wpAny_Break (q g _ _ (.refl g) I .brk)
theorem U1:aO V F A cl .cont (.Continue p):=λm C g s I Q E q=>wpAny_Continue (q g _ _ (.refl g) I .cont)
theorem aD.Ok.quiet (K:F.Ok):interactive F.env=false:=by unfold interactive; rw [K.fn]; rfl
theorem U4 (K:F.Ok) {a:E} (hc:k7 e=false) (h:aA V F A cl a e):aO V F A cl (.expr a) (.Expr e p):=λm C g s I=>by
 refine aj.seq (h m C g s I).1 (λQ E x=>wpAny_Expr_any x K.quiet ?_) (K:=λv Q E s=>Q .next s) λu' u' aV au u' u' u' aF u'=>λQ E q=>q _ _ _ (.refl _) aF .next
 induction e using Expr.casesOn<;>first|rfl|exact fJ hc
theorem Vn {a:E} (h:aA V F A cl a e):aO V F A cl (.ret a) (.Return (some e) p):=λm C g s I=>
 aj.seq (h m C g s I).1 (λQ E x=>wpAny_Return_some x) (K:=λv Q E s=>Q (.ret v) s) λu' u' aV au u' u' u' aF r=>λQ E q=>q _ _ _ (.refl _) aF (.ret r)
theorem Vg:c8 V F A cl .nil []:=λm C g s I Q E q=>wpAny_execs_nil (q g _ _ (.refl g) I .next)
theorem UZ {c:S} {cs:Ss} {t:Stmt} {ts:List Stmt} (h:aO V F A cl c t) (hs:c8 V F A cl cs ts):c8 V F A cl (.cons c cs) (t::ts):=λm C g s I=>by
 have e:ax V.P cl (.cons c cs) ⟨m,C⟩=(ex V.P cl c ⟨m,C⟩).bind λf st=>match f with|.next=>ax V.P cl cs st|f=>.ok f st:=by
  show (match ex V.P cl c ⟨m,C⟩ with|.ok .next aa=>ax V.P cl cs aa|o=>o)=_
  induction ex V.P cl c ⟨m,C⟩ with
  |ok f st=>induction f<;>rfl
  |_=>rfl
 rw [e]
 refine aj.seq (h m C g s I) (λQ E x=>wpAny_execs_cons x) (K:=λf Q E s'=>match f with|.next=>wpAny V.M A (execs ts F.env) Q E s'|f=>Q f s') λf st aV au v u' u' aF r=>?_
 induction r using dR.casesOn with
 |next=>exact hs _ _ _ _ aF
 |brk=>exact λQ E q=>q _ _ _ (.refl _) aF .brk
 |cont=>exact λQ E q=>q _ _ _ (.refl _) aF .cont
 |ret r=>exact λQ E q=>q _ _ _ (.refl _) aF (.ret r)
theorem U8 {a:E} {t:Expr} {x y:Ss} {o:List Stmt} (h:aA V F A cl a t) (hb:c8 V F A cl x b) (ho:c8 V F A cl y o):aO V F A cl (.ifs a x y) (.If t b o p):=λm C g s I=>by
 have e:ex V.P cl (.ifs a x y) ⟨m,C⟩=(cQ (ev V.P cl a ⟨m,C⟩)).bind λb st=>match b with|true=>ax V.P cl x st|false=>ax V.P cl y st:=by
  show (ev V.P cl a ⟨m,C⟩).bind _=_
  unfold cQ
  rw [ak.bind_assoc]
  congr 1; funext d st
  unfold jK
  induction bH st.C d with
  |none=>rfl
  |some b=>induction b<;>rfl
 rw [e]
 refine aj.seq (h m C g s I).2 (λQ E x=>wpAny_If x) (K:=λq Q E aM=>if q then wpAny V.M A (execs b F.env) Q E aM else wpAny V.M A (execs o F.env) Q E aM) λq st aV au v u' u' aF r=>?_
 cases r
 induction q
 ·exact (ho _ _ _ _ aF).wp λQ E x=>x
 ·exact (hb _ _ _ _ aF).wp λQ E x=>x
theorem dS.of {c:E} (hf:cN c=false) (h:aA V F A cl c e):dS V F A cl c e:=λm C g s I=>by
 rw [hf]
 have e:((ev V.P cl c ⟨m,C⟩).bind λx st=>gk false x st)=ev V.P cl c ⟨m,C⟩:=by
  induction ev V.P cl c ⟨m,C⟩<;>rfl
 rw [e]
 exact (h m C g s I).1
theorem zJ {c:E} (h:aA V F A cl c e) (hC:dS V F A cl c e) (I:ai V F m C g s) :
  aJ V F A (af V) (eval e F.env) g s ((ev V.P cl c ⟨m,C⟩).bind λx st=>gk (mu&&cN c) x st):=by
 induction mu
 ·have e:((ev V.P cl c ⟨m,C⟩).bind λx st=>gk (false&&cN c) x st)=ev V.P cl c ⟨m,C⟩:=by
   induction ev V.P cl c ⟨m,C⟩<;>rfl
  rw [e]
  exact (h m C g s I).1
 ·exact hC m C g s I
theorem zj {t:Expr} (h:k7 e=false):swapsWith e (some t) n env=pure false:=by
 induction e using Expr.casesOn<;>first|rfl|exact fJ h
theorem UH (K:F.Ok) {c:aN} (hc:F.ctx c) (hk:dA c x=some k) {a:E} (hn:k7 e=false) (h:aA V F A cl a e) (hC:dS V F A cl a e) :
  aO V F A cl (.aR k mu a) (.Assign [.Name x xp] e p):=λm C g s I=>by
 refine aj.seq (zJ (mu:=mu) h hC I) (λQ E x=>wpAny_Assign_Name x (zj hn)) λd st aV au v u' u' aF r=>?_
 exact aj.seq (oA (A:=A) K aF hc hk r) (λu' u' x=>x) (K:=λu' Q E s=>Q .next s) λu' u' bl aM u' u' u' aP u'=>λQ E q=>q _ _ _ (.refl _) aP .next
theorem S5 {o:Op} (ho:jB op=some o) (I:ai V F m C g s) {x y:D} {a b:Value} (rx:af V g x a) (ry:af V g y b) :
  aJ V F A (af V) (inplaceOp op a b) g s (match lQ o x y with|some d=>.ok d ⟨m,C⟩|none=>.fail):=by
 induction h:lQ o x y with
 |none=>trivial
 |some d=>
  obtain ⟨i,e1,h⟩:=aS h
  obtain ⟨j,e2,h⟩:=aS h
  obtain ⟨_,rfl⟩:=rx.fR e1
  obtain ⟨_,rfl⟩:=ry.fR e2
  induction o using Op.casesOn<;>first|exact aq h|(obtain rfl:=ad h)
  all_goals
   induction op using Operator.casesOn<;>first|((first|exact aq ho|cases ho); done)|skip
  ·exact λQ E q=>AutoIntOps.iadd_0 (q g _ _ (.refl g) (I.tok _) (.int _ _))
  ·exact λQ E q=>AutoIntOps.isub_0 (q g _ _ (.refl g) (I.tok _) (.int _ _))
theorem UR (B:V.Base) (aC:V.c7) {n:Nm} (hn:df attr=some n) {po:Op} (O1:jB op=some po) {a b:E} (ho:aA V F A cl b o) (h:aA V F A cl a e) :
  aO V F A cl (.lP b n po a) (.AugAssign (.Attribute o attr ap) op e p):=λm C g s I=>by
 have e1:=oh hn
 subst e1
 refine aj.seq (ho m C g s I).1 (λQ E x=>wpAny_AugAssign_AttributeAny x) λy st aV au ov u' u9 aF ry=>?_
 refine aj.seq (GC (A:=A) B aC aF ry) (λu' u' x=>x) λold bQ bl aM ow u' mE aP SO=>?_
 refine aj.seq (h _ _ _ _ aP).1 (λu' u' x=>x) λx gH dD cT v u' jC cV rx=>?_
 have e2:(match lQ po old x with|some d=>(hZ (fG V.P y n d gH.C) gH.m).bind λu' dt=>(.ok .next dt:ak Fl)|none=>.fail) =
   (match lQ po old x with|some d=>(.ok d ⟨gH.m,gH.C⟩:ak D)|none=>.fail).bind λd st=>(hZ (fG V.P y n d st.C) st.m).bind λu' dt=>.ok .next dt:=by
  induction lQ po old x<;>rfl
 show aj _ _ _ _ _ _ (match lQ po old x with|some d=>(hZ (fG V.P y n d gH.C) gH.m).bind λu' dt=>(.ok .next dt:ak Fl)|none=>.fail)
 rw [e2]
 refine aj.seq (S5 (A:=A) O1 cV (SO.mono jC.toLe) rx) (λu' u' x=>x) λd VQ xH iV w u' zx kn rd=>?_
 exact aj.seq (GP (A:=A) B aC kn (((ry.mono mE.toLe).mono jC.toLe).mono zx.toLe) rd) (λu' u' x=>x) (K:=λu' Q E s=>Q .next s) λu' u' W4 Hj u' u' u' HQ u'=>λQ E q=>q _ _ _ (.refl _) HQ .next
section
variable {E:Value->Shared->Prop}
theorem Uh {l:Addr} {items:Array Value} {k:Int} {Q:Unit->Shared->Prop} (hl:IsL s.heap l items n) (h0:0<=k) (yf:k<2 ^ 63) (hn:k<items.size)
  (hQ:Q () {s with heap:=s.heap.update l (Obj.mapSeq (·.setIfInBounds k.toNat v))}):wpAny (model prog w) A (setItem (.ref l) (.int k t) v) Q E s:=by
 have ho:s.heap.get? l=some _:=hl
 have dG:s.heap.IsList l items:=hl.isList
 unfold setItem
 try with_reducible refine ls ?_
 first|refine ce (cr ?_)|skip
 refine ce (wpAny_sequenceKey dG.typeIs (by decide) ?_)
 refine ce (wpAny_callSpecial?_slot (name:=Str.ofString "__setitem__") dG.typeIs PySem.F.slot_list_setitem
  (wpAny_call_entry PySem.F.slot_list_setitem dG.typeIs PySem.F.entry_list_setitem ?_ (PySem.F.args_list_setitem_3 _ _ _)))
 show wpAny _ _ (Builtin.List.listSubscript? (.int k t) >>= _) _ _ s
 refine ce (wpAny_listSubscript_int (fitsIndex_of h0 yf) ?_)
 obtain ⟨j,rfl⟩:=Int.eq_ofNat_of_zero_le h0
 have hj:j<items.size:=ofNat_lt.mp hn
 have gy:items[j]?=some items[j]:=Array.getElem?_eq_getElem hj
 show wpAny _ _ ((seqItemAt l j >>= λr=>pure (r.map (j,·))) >>= _) _ _ s
 refine ce (ce (wpAny_seqItemAt ho rfl (cr ?_)))
 rw [gy]
 show wpAny _ _ (setSeqItemAt l j v >>= _) _ _ s
 refine ce (wpAny_setSeqItemAt ho rfl ?_)
 first
  |exact ce (cr (cr ⟨.none,rfl,cr hQ⟩))
  |exact cr ⟨.none,rfl,cr hQ⟩
end
theorem Sn [DecidableEq α] (k:α) (v:β) : ∀ (l:List (α × β)),(l.map (·.1)).Nodup->putL k v l=if l.any (λkv=>kv.1=k) then l.map (λkv=>if kv.1=k then (kv.1,v) else kv) else l++[(k,v)]:=λl=>by
 induction l with
 |nil=>
  intro _
  exact rfl
 |cons e r ih=>
  intro h
  rw [map_cons,nodup_cons] at h
  rw [ot]
  by_cases q:e.1=k
  ·have hn : ∀ x∈r,¬ x.1=k:=λx hx z=>h.1 (by rw [q,<-z]; exact mem_map_of_mem hx)
   have e1:r.map (λkv=>if kv.1=k then (kv.1,v) else kv)=r:=by
    conv=>rhs; rw [<-List.map_id r]
    exact map_congr_left λx hx=>by rw [if_neg (hn x hx)]; rfl
   simp [q,e1]
  ·have q':(e.1==k)=false:=by simpa using q
   rw [q',if_neg (by decide),ih h.2]
   by_cases hr:r.any (λkv=>decide (kv.1=k))=true
   ·simp [q,hr]
   ·simp [q,hr]
theorem Lv [DecidableEq α] (k:α) : ∀ (l:List (α × β)),(l.map (·.1)).Nodup->fy k l=l.filter λkv=>decide (kv.1≠k):=λl=>by
 induction l with
 |nil=>
  intro _
  exact rfl
 |cons e r ih=>
  intro h
  rw [map_cons,nodup_cons] at h
  rw [tB]
  by_cases q:e.1=k
  ·have hn : ∀ x∈r,¬ x.1=k:=λx hx z=>h.1 (by rw [q,<-z]; exact mem_map_of_mem hx)
   have e1:r.filter (λkv=>decide (kv.1≠k))=r:=filter_eq_self.mpr λx hx=>by simpa using hn x hx
   simp only [filter_cons,q,beq_self_eq_true,if_true,ne_eq,not_true_eq_false,decide_false,false_eq_true,if_false]
   simpa [q] using e1.symm
  ·have q':(e.1==k)=false:=by simpa using q
   rw [q',if_neg (by decide),ih h.2]
   simp [filter_cons,q]
theorem aY.Qf {ay:List (Int × Value)} (h:aY (fN V g) es ay):es.map (·.1)=ay.map (·.1):=
 h.ind (P:=λ(es:List (Int × D)) (ay:List (Int × Value))=>es.map (·.1)=ay.map (·.1)) rfl λa b as bs r _ ih=>by rw [map_cons,map_cons,r.1,ih]
theorem Gm {k:Int} (r:af V g d v) {ay:List (Int × Value)} (h:aY (fN V g) es ay):aY (fN V g) (putL k d es) (putL k v ay):=
 h.ind (P:=λes ay=>aY (fN V g) (putL k d es) (putL k v ay)) ⟨⟨rfl,r⟩,trivial⟩ λe f es ay a b ih=>by
  rw [ot,ot,a.1]
  induction f.1==k
  ·exact ⟨a,ih⟩
  ·exact ⟨⟨rfl,r⟩,b⟩
theorem LA {k:Int} {ay:List (Int × Value)} (h:aY (fN V g) es ay):aY (fN V g) (fy k es) (fy k ay):=
 h.ind (P:=λes ay=>aY (fN V g) (fy k es) (fy k ay)) trivial λe f es ay a b ih=>by
  rw [tB,tB,a.1]
  induction f.1==k
  ·exact ⟨a,ih⟩
  ·exact b
theorem Lx [BEq α] (k:α) (l:List (α × β)):(fy k l).length<=l.length:=by
 induction l with
 |nil=>exact le_refl _
 |cons e r ih=>
  rw [tB]
  split
  ·exact le_succ _
  ·exact succ_le_succ ih
theorem aI.set (r:af V g d v) (n:Nat) (h:aI V g ds vs):aI V g (ds.set n d) (vs.set n v):=
 h.ind (P:=λds vs => ∀ n,aI V g (ds.set n d) (vs.set n v)) (λ_=>.nil) (λa b ih n=>Nat.casesOn n (.cons r b) λn=>.cons a (ih n)) n
section
variable {K:Type} [DecidableEq K] {knd:KeyKind prog w K} {E:Value->Shared->Prop}
theorem Ug {d:Addr} {ay:List (K × Value)} {ep:Nat} {k:K} {key:Value} {Q:Unit->Shared->Prop} (ju:knd.is k key=true) (hm:s.heap.DictAt knd d ay ep) (hsz:ay.length<=sizeLine)
  (hQ : ∀ h',h'.DictAt knd d (stored ay k v) (if (ay.any λkv=>decide (kv.1=k))=true then ep else ep+1)->Heap.SameBut d s.heap h'->Q () {s with heap:=h',toks:=s.toks+1}) :
  wpAny (model prog w) A (setItem (.ref d) key v) Q E s:=by
 have hT:s.TypeIs (.ref d) "dict":=hm.dictOf.typeIs
 obtain ⟨o,es,ho,hc,hd,hk,hp,hn⟩:=hm
 have hlen:es.toList.length=ay.length:=hp.length
 have Pf:es.toList.length=es.size:=by simp
 have same:(es.findIdx? λe=>knd.is k e.key)=ay.findIdx? λkv=>decide (kv.1=k):=by
  rw [<-hp.findIdx k]; obtain ⟨l⟩:=es; simp
 unfold setItem
 try with_reducible refine ls ?_
 refine ce (wpAny_sequenceKey hT (by decide) ?_)
 refine ce (wpAny_callSpecial?_slot (name:=Str.ofString "__setitem__") hT slot_dict_setitem
  (wpAny_call_entry slot_dict_setitem hT entry_dict_setitem ?_ (args_dict_setitem _ _ _)))
 show wpAny _ _ (Builtin.Dict.notOrdered "__setitem__" ⟨[.ref d,key,v],[]⟩ >>= _) _ _ s
 refine ce (wpAny_notOrdered_dict hT ?_)
 show wpAny _ _ (dictSet d key v >>= _) _ _ s
 refine ce ?_
 unfold dictSet
 try with_reducible refine ls ?_
 refine ce (knd.pyHash ju ?_)
 unfold dictSetHashed
 try with_reducible refine ls ?_
 refine ce (wpAny_dictFind_of (s:={s with toks:=s.toks+1}) ju ho hd hk ?_)
 have fin : ∀ h',h'.DictAt knd d (stored ay k v) (if (ay.any λkv=>decide (kv.1=k))=true then ep else ep+1)->Heap.SameBut d s.heap h'->
   ∃ v_1,Fin.done (Flow.ret Value.none)=Fin.done (Flow.ret v_1)/\wpAny (model prog w) A (pure ()) Q E {s with heap:=h',toks:=s.toks+1}:=λh' x y=>⟨.none,rfl,cr (hQ h' x y)⟩
 induction hi:es.findIdx? λe=>knd.is k e.key with
 |some i=>
  have nF:(ay.any λkv=>decide (kv.1=k))=true:=any_of_findIdx_some (same ▸ hi)
  rw [nF] at fin
  refine ce (wpAny_rule (ce (wpAny_updateDict (s:={s with toks:=s.toks+1}) ho hd (wpAny_point (cr (fin _ ⟨_,_,Heap.get?_update_self _ ho (Obj.isFreed_of_dict (Obj.data_mapDict hd _)),
   hc.mapDict _,Obj.data_mapDict hd _,hk.modify _ _,?_,?_⟩ (mo ..)))))))
  ·have hl:(es.toList.findIdx? λe=>knd.is k e.key)=some i:=by rw [<-hi]; obtain ⟨l⟩:=es; simp
   have:=hp.modify hn hl v
   rw [stored,if_pos nF]
   obtain ⟨l⟩:=es
   simpa using this
  ·rw [stored,if_pos nF,keys_map_store]; exact hn
 |none=>
  have ED:k ∉ ay.map (·.1):=not_mem_of_findIdx_none (same ▸ hi)
  have nF : ¬ (ay.any λkv=>decide (kv.1=k))=true:=λz=>by
   obtain ⟨kv,h1,h2⟩:=any_eq_true.mp z
   exact ED (mem_map.mpr ⟨kv,h1,io h2⟩)
  rw [if_neg nF] at fin
  refine ce (wpAny_rule (wpAny_updateDictKeys (hz:=by rw [<-Pf,hlen]; exact hsz) (hf:=le_of_eq (Array.size_push ..)) (s:={s with toks:=s.toks+1}) ho hd (cr (fin _ ⟨_,_,Heap.get?_update_self _ ho (Obj.isFreed_of_dict (Obj.data_mapDictKeys hd _)),
   hc.mapDictKeys _,Obj.data_mapDictKeys hd _,hk.push ju _,?_,?_⟩ (mo ..)))))
  ·have:=hp.append ju (knd.hash k) v
   rw [stored,if_neg nF]
   obtain ⟨l⟩:=es
   simpa using this
  ·rw [stored,if_neg nF,map_append,nodup_append]
   refine ⟨hn,by simp,λa ha b hb=>?_⟩
   rw [map_cons,List.map_nil,mem_singleton] at hb
   exact λe=>ED (by rw [e,hb] at ha; exact ha)
end
variable {fl:Bool}
theorem Uc (I:ai V F m C g s) {k:Int} {a:Value} (ro:af V g (.loc j) a) (rd:af V g d v) (hC:C[j]?=some (.list ds)) (hk:0<=k/\k<ds.length) :
  aJ V F A d7 (setItem a (.int k t) v) g s (.ok () ⟨m,C.set j (.list (ds.set k.toNat d))⟩):=λQ E q=>by
 obtain ⟨la,vs,k',rfl,hg,hl,hz,rs⟩:=I.mz ro hC
 have hlen:=rs.length
 have nM:=rM hz
 have kP:k<(vs.length:Int):=hlen ▸ hk.2
 exact Uh hl hk.1 (Int.lt_trans kP nM) kP (q g _ _ (.refl g) (I.uT (t:=s.toks) (ws:=vs.set k.toNat v) hg hl (by simp) (rs.set rd _) (by simpa using hz)) trivial)
theorem Ub (I:ai V F m C g s) {k:Int} {a:Value} (ro:af V g (.loc j) a) (rd:af V g d v) (hC:C[j]?=some (.dict fl es)) (hk:es.length<64) :
  aJ V F A d7 (setItem a (.int k t) v) g s (.ok () ⟨m,C.set j (.dict fl (putL k d es))⟩):=λQ E q=>by
 obtain ⟨_,h1,rfl⟩:=ro.gA
 obtain ⟨jg,ay,ep,hm,hA,kL⟩:=I.dictAt h1 hC
 have hlen:es.length=ay.length:=hA.length
 refine Ug (knd:=intKind V.prog V.w) (k:=k) (intKind_is _ _ _ _) hm (by rw [<-hlen]; exact an (ln hk) (by decide)) λh' yr dm=>?_
 obtain ⟨o',qA,g2,xM,ji,xO,qN,qM⟩:=yr
 have nA:stored ay k v=putL k v ay:=(Sn k v ay hm.nodup).symm
 rw [nA] at qN qM
 refine q g _ _ (.refl g) (I.cellSet (t:=s.toks+1) h1 dm g2 ⟨an Fq hk,qA,_,putL k v ay,xM,ji,xO,qN,qM,Gm rd hA,λhf=>?_⟩) trivial
 have e1:(putL k d es).length=(putL k v ay).length:=(Gm rd hA).length
 rw [e1,<-nA,stored,kL hf,hlen]
 split
 ·rw [length_map]
 ·rw [length_append]; rfl
theorem GN (I:ai V F m C g s) {o i:D} {a b:Value} (ro:af V g o a) (ri:af V g i b) (rd:af V g d v) :
  aJ V F A d7 (setItem a b v) g s (hZ (ki o i d C) m):=by
 induction ho:ki o i d C with
 |none=>trivial
 |some C'=>
  show aJ V F A d7 (setItem a b v) g s (.ok () ⟨m,C'⟩)
  obtain ⟨j,e1,p1⟩:=aS ho
  obtain ⟨k,e2,p2⟩:=aS p1
  obtain ⟨ch,hC,p3⟩:=aS p2
  clear p1 p2 ho
  obtain rfl:=j0 e1
  obtain ⟨t,rfl⟩:=ri.fR e2
  induction ch using Ch.casesOn<;>first|exact aq p3|skip
  ·obtain ⟨hk,p4⟩:=eZ p3
   obtain rfl:=ad p4
   exact Uc I ro rd hC hk
  ·obtain ⟨hk,p4⟩:=eZ p3
   obtain rfl:=ad p4
   exact Ub I ro rd hC hk.1
theorem UL {i:Expr} {a b c:E} (ui:k7 e=false) (h:aA V F A cl a e) (ho:aA V F A cl b o) (hi:aA V F A cl c i) :
  aO V F A cl (.kr b c a) (.Assign [.Subscript o i ap] e p):=λm C g s I=>by
 refine aj.seq (h m C g s I).1 (λQ E x=>wpAny_Assign_Subscript x (zj ui)) λd st aV au v u' u' aF r=>?_
 refine aj.seq (ho _ _ _ _ aF).1 (λu' u' x=>x) λy bQ bl aM ov u' mE aP ry=>?_
 refine aj.seq (hi _ _ _ _ aP).1 (λu' u' x=>x) λz gH dD cT iv u' jC cV rz=>?_
 exact aj.seq (GN (A:=A) cV (ry.mono jC.toLe) rz ((r.mono mE.toLe).mono jC.toLe)) (λu' u' x=>x) (K:=λu' Q E s=>Q .next s) λu' u' xH iV u' u' u' kn u'=>λQ E q=>q _ _ _ (.refl _) kn .next
theorem UM (K:F.Ok) {c:aN} (hc:F.ctx c) (hk:dA c x=some k) {i:Expr} {a b ci:E} (h:aA V F A cl a e) (ho:aA V F A cl b o) (hi:aA V F A cl ci i) :
  aO V F A cl (.qp b ci k a) (.Assign [.Subscript o i ap,.Name x xp] e p):=λm C g s I=>by
 refine aj.seq (h m C g s I).1 (λQ E x=>wpAny_Assign_two x) λd st aV au v u' u' aF r=>?_
 refine aj.seq (R:=d7) (W:=wpAny V.M A (assign (.Subscript o i ap) F.env v)) (K:=λu' Q E aM=>wpAny V.M A (assign (.Name x xp) F.env v) (λu'=>Q .next) E aM) ?_ (λu' u' x=>x) λu' VQ xH iV u' u' zx kn u'=>?_
 ·have key:aj V F d7 (λ(Q:Unit->Shared->Prop) E s=>wpAny V.M A (eval o F.env) (λov aM=>wpAny V.M A (eval i F.env) (λiv cT=>wpAny V.M A (setItem ov iv v) Q E cT) E aM) E s) aV au
    ((ev V.P cl b st).bind λy ae=>(ev V.P cl ci ae).bind λz aK=>hZ (ki y z d aK.C) aK.m):=by
   refine aj.seq (ho _ _ _ _ aF).1 (λu' u' x=>x) λy bQ bl aM ov u' mE aP ry=>?_
   refine aj.seq (hi _ _ _ _ aP).1 (λu' u' x=>x) λz gH dD cT iv u' jC cV rz=>?_
   exact GN (A:=A) cV (ry.mono jC.toLe) rz ((r.mono mE.toLe).mono jC.toLe)
  refine key.wp λQ E x=>?_
  rw [assign_Subscript]
  refine ce (ls (gl x (λov aM jW=>?_) λu' u' e=>e))
  refine ce (ls (gl jW (λiv cT g8=>?_) λu' u' e=>e))
  exact ce (wpAny_standAt (ce (ls (gl g8 (λu' iV nV=>wpAny_release nV) λu' u' e=>e))))
 ·exact aj.seq (oA (A:=A) K kn hc hk (r.mono zx.toLe)) (λu' u' x=>wpAny_assign_Name x) (K:=λu' Q E s=>Q .next s) λu' u' bl aM u' u' u' aP u'=>λQ E q=>q _ _ _ (.refl _) aP .next
theorem Lz (I:ai V F m C g s) {k:Int} {a:Value} (ro:af V g (.loc j) a) (hC:C[j]?=some (.dict fl es)) (hk:(es.lookup k).isSome=true) :
  aJ V F A d7 (delItem a (.int k t)) g s (.ok () ⟨m,C.set j (.dict false (fy k es))⟩):=λQ E q=>by
 obtain ⟨_,h1,rfl⟩:=ro.gA
 obtain ⟨bb,ob,e1,e2,jg,ents,ep,ay,hE,hD,hK,hP,hN,hA,_⟩:=I.cell _ _ hC
 cases I.uniq _ _ _ h1 e1
 have hlen:es.length=ay.length:=hA.length
 have hm:s.heap.DictOf (intKind V.prog V.w) _ ay:=⟨ob,ents,ep,e2,hE,hD,hK,hP,hN⟩
 have Pl:(valueAt ay k).isSome=true:=by
  have:=aY.lookupI (V:=V) (g:=g) k hA
  induction hv:valueAt ay k with
  |some v=>rfl
  |none=>
   induction hl:es.lookup k with
   |none=>rw [hl] at hk; cases hk
   |some d=>rw [hv,hl] at this; exact this.elim
 unfold delItem
 refine ls ?_
 refine ce (wpAny_sequenceKey hm.typeIs (by decide) ?_)
 refine ce (wpAny_callSpecial?_slot (name:=Str.ofString "__delitem__") hm.typeIs PySem.F.slot_dict_delitem
  (call_meetsIn PySem.F.slot_dict_delitem hm.typeIs PySem.F.entry_dict_delitem (PySem.F.args_dict_delitem_2 _ _) (meets_dict_delitem_pairs (intKind V.prog V.w) _ (k:=k) (intKind_is _ _ _ _)) ⟨ay,hm,an (hlen ▸ jg) (by decide),Pl,λh' yr dm=>?_⟩))
 obtain ⟨o',qA,xd,g2,xM,ji,xO,qN,qM⟩:=yr
 have nA:without ay k=fy k ay:=(Lv k ay hN).symm
 rw [nA] at qN qM
 exact cr (q g _ _ (.refl g) (I.cellSet (t:=s.toks+1) h1 dm g2 ⟨an (Lx k es) jg,qA,xd,fy k ay,xM,ji,xO,qN,qM,LA hA,(λz=>by cases z)⟩) trivial)
theorem Tn (I:ai V F m C g s) {o i:D} {a b:Value} (ro:af V g o a) (ri:af V g i b) :
  aJ V F A d7 (delItem a b) g s (hZ (o4 o i C) m):=by
 induction ho:o4 o i C with
 |none=>trivial
 |some C'=>
  show aJ V F A d7 (delItem a b) g s (.ok () ⟨m,C'⟩)
  obtain ⟨j,e1,p1⟩:=aS ho
  obtain ⟨k,e2,p2⟩:=aS p1
  obtain ⟨ch,hC,p3⟩:=aS p2
  clear p1 p2 ho
  obtain rfl:=j0 e1
  obtain ⟨t,rfl⟩:=ri.fR e2
  induction ch using Ch.casesOn<;>first|exact aq p3|skip
  obtain ⟨hk,p4⟩:=eZ p3
  obtain rfl:=ad p4
  exact Lz I ro hC hk
theorem U2 {i:Expr} {b c:E} (ho:aA V F A cl b o) (hi:aA V F A cl c i) :
  aO V F A cl (.qx b c) (.Delete [.Subscript o i ap] p):=λm C g s I=>by
 refine aj.seq (ho m C g s I).1 (λQ E x=>wpAny_Delete (wpAny_deleteEach_cons (wpAny_delete_Subscript (gl x (λov au et=>gl et (λiv aM jW=>gl jW (λu' cT g8=>wpAny_deleteEach_nil g8) λu' u' e=>e) λu' u' e=>e) λu' u' e=>e))))
  (K:=λov Q E au=>wpAny V.M A (eval i F.env) (λiv aM=>wpAny V.M A (delItem ov iv) (λu'=>Q .next) E aM) E au) λy st aV au ov u' u' aF ry=>?_
 refine aj.seq (hi _ _ _ _ aF).1 (λu' u' x=>x) λz gH dD cT iv u' jC cV rz=>?_
 exact aj.seq (Tn (A:=A) cV (ry.mono jC.toLe) rz) (λu' u' x=>x) (K:=λu' Q E s=>Q .next s) λu' u' xH iV u' u' u' kn u'=>λQ E q=>q _ _ _ (.refl _) kn .next
noncomputable def s8 (c:aN) (e:Expr) (n:Nat):Prop := ∃ x p,e=.Name x p/\dA c x=some n
theorem Hk (h:gb e=some x) : ∃ p,e=.Name x p:=by
 induction e using Expr.casesOn<;>first|((first|exact aq h|obtain rfl:=ad h); exact ⟨_,rfl⟩)|exact aq h
theorem V0 {c:aN} : ∀ {es:List Expr} {ns:List Nat},((es.mapM gb).bind λxs=>xs.mapM (dA c))=some ns->aY (s8 c) es ns:=λ{es}=>by
 induction es with
 |nil=>
  intro ns h
  simp at h; subst h; trivial
 |cons e es ih=>
  intro ns h
  rw [mapM_cons] at h
  obtain ⟨xs,h1,h2⟩:=aS h
  obtain ⟨x,h0,h9⟩:=aS h1
  obtain ⟨p,rfl⟩:=Hk h0
  obtain ⟨ys,h3,h4⟩:=aS h9
  obtain rfl:=ad h4
  rw [mapM_cons] at h2
  obtain ⟨n,h5,h6⟩:=aS h2
  obtain ⟨ms,h7,h8⟩:=aS h6
  obtain rfl:=ad h8
  exact ⟨⟨x,p,rfl,h5⟩,ih (by rw [h3]; exact h7)⟩
theorem Hm {c:aN} {es:List Expr} {ns:List Nat} (h:aY (s8 c) es ns):(assignEach es env).findIdx? (·.1)=none/\(assignEach es env).length=ns.length:=
 h.ind (P:=λes ns=>(assignEach es env).findIdx? (·.1)=none/\(assignEach es env).length=ns.length) ⟨rfl,rfl⟩ λe n es ns a _ ih=>by
  obtain ⟨x,p,rfl,_⟩:=a
  show ((false,assign (.Name x p) env)::assignEach es env).findIdx? (·.1)=none/\((false,assign (.Name x p) env)::assignEach es env).length=_
  rw [List.findIdx?_cons,ih.1]
  exact ⟨rfl,congrArg (· + 1) ih.2⟩
theorem zM (K:F.Ok) {c:aN} (hc:F.ctx c) : ∀ {es:List Expr} {ns:List Nat} {ds:List D} {vs:List Value} {m:List (Option D)} {C:ah} {g:Gh} {s:Shared},aY (s8 c) es ns->aI V g ds vs->ns.length=ds.length->ai V F m C g s->
  aJ V F A d7 (assignInOrder ((assignEach es F.env).map (·.2)) vs) g s (mH ns ds ⟨m,C⟩)
 |[],[],[],_,m,C,g,s,_,.nil,_,I=>λQ E q=>cr (q g _ _ (.refl g) I trivial)
 |e::es,n::ns,d::ds,_,m,C,g,s,h,.cons (v:=v) (vs:=vs) r rs,hl,I=>by
  obtain ⟨⟨x,p,rfl,hk⟩,hr⟩:=h
  refine aj.seq (oA (A:=A) K I hc hk r) (λQ E x=>ce (ls (wpAny_assign_Name x))) (K:=λu' Q E s=>wpAny V.M A (assignInOrder ((assignEach es F.env).map (·.2)) vs) Q E s) λu' st aV au u' u' u9 aF u'=>?_
  exact zM K hc hr (rs.mono u9.toLe) (by simpa using hl) aF
 |[],_::_,_,_,_,_,_,_,h,_,_,_=>h.elim
 |_::_,[],_,_,_,_,_,_,h,_,_,_=>h.elim
 |_,_::_,[],_,_,_,_,_,_,_,h,_=>by simp at h
 |_,[],_::_,_,_,_,_,_,_,_,h,_=>by simp at h
theorem RC {es:List Expr} {cx:Nat} {tp:Pos} (ht:yT e=false):swappedStores [.Tuple es cx tp] e env=pure none:=by
 induction e using Expr.casesOn<;>first|rfl|exact fJ ht
theorem UP (K:F.Ok) (eV:cl.fuel≠0->A.handled=none) {c:aN} (hc:F.ctx c) {es:List Expr} {ns:List Nat} (kS:((es.mapM gb).bind λxs=>xs.mapM (dA c))=some ns) {cx:Nat} {tp:Pos} {a:E}
  (hn:k7 e=false) (ht:yT e=false) (h:aA V F A cl a e):aO V F A cl (.oP ns a) (.Assign [.Tuple es cx tp] e p):=λm C g s I=>by
 show aj _ _ _ _ _ _ (if cl.fuel==0 then _ else _)
 split
 ·trivial
 ·rename_i hf
  have hh:A.handled=none:=eV λz=>hf (by rw [z]; rfl)
  refine aj.seq (h m C g s I).1 (λQ E x=>wpAny_Assign_stores x (by unfold swapsWithSole; exact zj hn) (RC ht)) λd st aV au v u' u' aF r=>?_
  induction d using D.casesOn with
  |tup ds=>
   show aj _ _ _ _ _ _ (if ns.length==ds.length then _ else _)
   split
   ·rename_i hl
    have hl:=im hl
    obtain ⟨la,vs,k,rfl,rh,hz,rs⟩:=aF.tup r
    have hT:=V0 kS
    have N9:(assignEach [.Tuple es cx tp] F.env).map (·.2)=[assign (.Tuple es cx tp) F.env]:=by rfl
    obtain ⟨rA,er⟩:=Hm (env:=F.env) hT
    refine aj.seq (R:=d7) (W:=wpAny V.M A (assign (.Tuple es cx tp) F.env (.ref la))) (K:=λu' Q E s=>Q .next s) ?_ (λQ E x=>by rw [N9]; exact x) λu' bQ bl aM u' u' u' aP u'=>λQ E q=>q _ _ _ (.refl _) aP .next
    have cV : ∀ h',Heap.ExtBut au.heap.objs.size au.heap h'->ai V F st.m st.C aV {au with heap:=h'}:=λh' he=>aF.heap λb o e=>he b o (ne_of_lt (Heap.lt_size e)) e
    have key : ∀ h',Heap.ExtBut au.heap.objs.size au.heap h'->aJ V F A d7 (assignInOrder ((assignEach es F.env).map (·.2)) vs) aV {au with heap:=h'} (mH ns ds st):=λh' he=>zM K hc hT rs hl (cV h' he)
    induction ho:mH ns ds st with
    |fail=>trivial
    |ok b ao=>
     intro Q E q
     refine wpAny_assign_Tuple hh ⟨_,rh,rfl,_,rfl⟩ (by rw [er,hl,rs.length]; simp) rA λh' he=>?_
     have:=key h' he
     rw [ho] at this
     exact this Q E q
    |exc b ao=>
     intro Q E q
     refine wpAny_assign_Tuple hh ⟨_,rh,rfl,_,rfl⟩ (by rw [er,hl,rs.length]; simp) rA λh' he=>?_
     have:=key h' he
     rw [ho] at this
     exact this Q E q
   ·trivial
  |_=>trivial
theorem GI (I:ai V F m C g s) (rs:aI V g ds vs) (hz:ds.length<=aH) {t:Nat}
  (q : ∀ g' a s',g.Step g'->ai V F m (C++[.list ds]) g' s'->af V g' (.loc C.length) a->Q a s') :
  Q (.ref s.heap.objs.size) {s with heap:=s.heap.push {cls:=.type "list",data:=.seq vs.toArray n},toks:=t}:=by
 have hl:=rs.length
 obtain ⟨st,I',r'⟩:=I.uZ (c:=.list ds) (t:=t) (λu' u' h=>dL _ h) (lw s.heap (o:={cls:=.type "list",data:=.seq vs.toArray n}) rfl)
  ⟨vs,⟨hl ▸ hz,n,rfl⟩,rs.mono (Gh.sE (i:=C.length) I.fI).toLe⟩
 exact q _ _ _ st I' r'
set_option tactic.hygienic true in
theorem UD {es:List Expr} (h : ∀ e∈es,aA V F A cl (f e) e):dS V F A cl (.list (lR f es)) (.List es p):=λm C g s I=>by
 unfold lR
 induction hs:es.any dI with
 |true=>trivial
 |false=>
  rw [if_neg (by decide)]
  have e:((ev V.P cl (.list (bD f es)) ⟨m,C⟩).bind λx st=>gk (cN (.list (bD f es))) x st)=(bM V.P cl (bD f es) ⟨m,C⟩).bind λd st=>match d with
    |.lst ds=>if ds.length<=aH then .ok (.loc st.C.length) ⟨st.m,st.C++[.list ds]⟩ else .fail
    |_=>.fail:=by
   show (match bM V.P cl (bD f es) ⟨m,C⟩ with|.ok (.lst ds) aa=>(if ds.length<=aH then .ok (.lst ds) aa else .fail:ak D)|.exc x aa=>.exc x aa|_=>.fail).bind _=_
   induction bM V.P cl (bD f es) ⟨m,C⟩ with
   |ok d ae=>
    induction d using D.casesOn<;>try rfl
    rename_i ds
    show (if ds.length<=aH then (.ok (.lst ds) ae:ak D) else .fail).bind _=(if ds.length<=aH then _ else _)
    split<;>rfl
   |exc x ae=>rfl
   |fail=>rfl
  rw [e]
  refine aj.seq (zL (p:=p) es hs h m C g s I) (λu' u' x=>wpAny_List_spliced x) λd st aV au vs u' u' aF rd=>?_
  obtain ⟨ds,rfl,rs⟩:=rd
  dsimp only
  split
  ·rename_i hz
   have gz:vs.length<=aH:=by rw [<-rs.length]; exact hz
   exact λQ E k=>⟨dO gz,GI (n:=0) (t:=au.toks) aF rs hz k⟩
  ·trivial
theorem SW (I:ai V F m C g s) {x y:D} {a b:Value} (hx:af V g x a) (hy:af V g y b) :
  aJ V F A (af V) (binaryOp .Add a b) g s ((dp (eH C .add x y) ⟨m,C⟩).bind λx st=>gk true x st):=by
 induction h:eH C .add x y with
 |none=>trivial
 |some d=>
  rcases Bd h with ⟨i,j,_,_,e⟩|⟨_,⟨i,j,_,_,e⟩|e⟩
  ·obtain ⟨z,_,rfl⟩:=cq e
   trivial
  ·obtain ⟨_,e⟩:=eZ e
   obtain rfl:=ad e
   trivial
  ·obtain ⟨xs,ex,e⟩:=aS e
   obtain ⟨ys,ey,e⟩:=aS e
   obtain ⟨hz,e⟩:=eZ e
   obtain rfl:=ad e
   obtain ⟨l,vs,n,rfl,hl,mn,r1⟩:=I.list hx ex
   obtain ⟨l',ws,n',rfl,dG,Pz,r2⟩:=I.list hy ey
   intro Q E k
   have e1:=r1.length
   have e2:=r2.length
   refine P.add_list hl dG ?_ (dO (by simpa [<-e1,<-e2] using hz))
   rw [show vs.toArray++ws.toArray=(vs++ws).toArray from by simp]
   exact GI (n:=0) (t:=s.toks) I (r1.append r2) (by simpa using hz) k
theorem UC {a b:E} {l r:Expr} (hl:aA V F A cl a l) (hr:aA V F A cl b r):dS V F A cl (.bin .add a b) (.BinOp l .Add r p):=λm C g s I=>by
 have e:((ev V.P cl (.bin .add a b) ⟨m,C⟩).bind λx st=>gk (cN (.bin .add a b)) x st)=(ev V.P cl a ⟨m,C⟩).bind λx aa=>(ev V.P cl b aa).bind λy ae=>(dp (eH ae.C .add x y) ae).bind λx st=>gk true x st:=by
  show ((ev V.P cl a ⟨m,C⟩).bind λx aa=>(ev V.P cl b aa).bind λy ae=>dp (eH ae.C .add x y) ae).bind _=_
  rw [ak.bind_assoc]
  congr 1; funext x aa
  rw [ak.bind_assoc]
  rfl
 rw [e]
 exact aj.seq (hl m C g s I).1 (λu' u' x=>wpAny_BinOp x) λu' u' u' u' u' u' u' aF rx=>
  aj.seq (hr _ _ _ _ aF).1 (λu' u' x=>x) λu' u' u' u' u' u' bQ aP ry=>SW aP (rx.mono bQ.toLe) ry
theorem U3:aA V F A cl .nu (.Dict [] [] p):=.of rfl λm C g s I Q E q=>by
 refine wpAny_Dict_empty ?_
 obtain ⟨st,I',r'⟩:=I.uZ (c:=.dict true []) (t:=s.toks) (λu' u' h=>dL _ h) (lw s.heap (o:={cls:=.type "dict",data:=.dict #[]}) rfl)
  ⟨by decide,#[],_,[],⟨rfl,rfl,rfl⟩,rfl,(by intro e h; simp at h),.nil,nodup_nil,trivial,λu'=>rfl⟩
 exact q _ _ _ st I' r'
variable {oc:ak Fl}
theorem Hx {a:E} {t:Expr} {x y:Ss} {o:List Stmt} (h:aA V F A cl a t) (hb:c8 V F A cl x b) (ho:c8 V F A cl y o) (kU:oc≠.fail)
   (I:ai V F m C g s) (e:whileLoop (λaa=>ev V.P cl a aa) (λaa=>ax V.P cl x aa) (λaa=>ax V.P cl y aa) n ⟨m,C⟩=oc)
  (dX : ∀ fl ao,oc=.ok fl ao->∀ g' f s',g.Step g'->ai V F ao.m ao.C g' s'->dR V g' fl f->R (.ok f) s')
  (hex : ∀ xx ao,oc=.exc xx ao->∀ g' e s',g.Step g'->fj V F xx ao g' e s'->notedBy V.M A F.env (λe s'=>R (.error e) s') e s') :
  codeAny V.M A (.whileLoop t b o F.env) R s:=by
 refine codeAny_whileLoop (λn s => ∃ g1 m1 C1,g.Step g1/\ai V F m1 C1 g1 s/\whileLoop (λaa=>ev V.P cl a aa) (λaa=>ax V.P cl x aa) (λaa=>ax V.P cl y aa) n ⟨m1,C1⟩=oc) (λn s hI=>?_) n ⟨g,m,C,.refl g,I,e⟩
 obtain ⟨g1,m1,C1,aa,I1,e1⟩:=hI
 induction n using Nat.casesOn with
 |zero=>exact absurd e1.symm kU
 |succ n=>
  have ht:=(h m1 C1 g1 s I1).2
  unfold whileLoop at e1
  induction hc:ev V.P cl a ⟨m1,C1⟩ with
  |fail=>rw [hc] at e1; exact absurd e1.symm kU
  |exc xx st=>
   rw [hc] at e1 ht
   exact ht _ _ λg' e s' q1 hx=>hex xx st e1.symm g' e s' (aa.trans q1) hx
  |ok d st=>
   rw [hc] at e1 ht
   have EO:aJ V F A ko (isTrue t F.env (eval t F.env)) g1 s (jK (bH st.C d) st):=ht
   dsimp only at e1
   induction hd:bH st.C d with
   |none=>rw [hd] at e1; exact absurd e1.symm kU
   |some bb=>
    rw [hd] at e1 EO
    refine EO _ _ λg2 b2 s2 q1 I2 r=>?_
    subst r
    induction bb with
    |false=>
     dsimp only at e1
     rw [if_neg (by decide)]
     have hs:=ho _ _ _ _ I2
     rw [e1] at hs
     induction oc with
     |fail=>exact absurd rfl kU
     |ok fl ao=>exact hs _ _ λg' f s' q2 I' r'=>dX fl ao rfl g' f s' ((aa.trans q1).trans q2) I' r'
     |exc xx ao=>exact hs _ _ λg' e s' q2 hx=>hex xx ao rfl g' e s' ((aa.trans q1).trans q2) hx
    |true=>
     dsimp only at e1
     rw [if_pos rfl]
     have hs:=hb _ _ _ _ I2
     induction hx:ax V.P cl x st with
     |fail=>rw [hx] at e1; exact absurd e1.symm kU
     |exc xx ao=>
      rw [hx] at e1 hs
      exact hs _ _ λg' e s' q2 hx=>hex xx ao e1.symm g' e s' ((aa.trans q1).trans q2) hx
     |ok fl ao=>
      rw [hx] at e1 hs
      refine hs _ _ λg' f s' q2 I' r'=>?_
      induction r' using dR.casesOn with
      |next=>exact ⟨n,lt_succ_self _,g',ao.m,ao.C,(aa.trans q1).trans q2,I',e1⟩
      |cont=>exact ⟨n,lt_succ_self _,g',ao.m,ao.C,(aa.trans q1).trans q2,I',e1⟩
      |brk=>exact dX .next ao e1.symm g' .next s' ((aa.trans q1).trans q2) I' .next
      |ret r=>exact dX _ ao e1.symm g' _ s' ((aa.trans q1).trans q2) I' (.ret r)
noncomputable def mQ (V:av) (F:aD) (x:X) (st:St) (g:Gh) (e:Value) (s:Shared):Prop:=
 fj V F x st g e s/\∃ a oe vs T,e=.ref a/\s.heap.get? a=some oe/\oe.data=.fields vs/\vs[1]?=some (.ref T)
noncomputable def sV (V:av) (F:aD) (A:Around):Prop := ∀ (x:X) (st:St) (g:Gh) (e:Value) (s:Shared) (E:Value->Shared->Prop),fj V F x st g e s->
 (∀ g' s',g.Step g'->mQ V F x st g' e s'->E e s')->notedBy V.M A F.env E e s
noncomputable def sP (V:av) (F:aD) (A:Around):Prop := ∀ (x:X) (st:St) (g:Gh) (e:Value) (s:Shared) (E:Value->Shared->Prop),mQ V F x st g e s->
 (∀ g' s',g.Step g'->fj V F x st g' e s'->E e s')->cameBackBy V.M A F.env E e s
theorem Vv (hN:sV V F A) (hB:sP V F A) {a:E} {t:Expr} {x y:Ss} {o:List Stmt} (h:aA V F A cl a t) (hb:c8 V F A cl x b) (ho:c8 V F A cl y o) :
  aO V F A cl (.lG a x y) (.While t b o p):=λm C g s I=>by
 show aj _ _ _ _ _ _ (whileLoop (λaa=>ev V.P cl a aa) (λaa=>ax V.P cl x aa) (λaa=>ax V.P cl y aa) cl.fuel ⟨m,C⟩)
 induction hw:whileLoop (λaa=>ev V.P cl a aa) (λaa=>ax V.P cl x aa) (λaa=>ax V.P cl y aa) cl.fuel ⟨m,C⟩ with
 |fail=>trivial
 |ok fl ao=>
  intro Q E q
  refine wpAny_While (Hx h hb ho (oc:=.ok fl ao) (by intro z; exact FW z) I hw (λxt f9 e g' f s' q1 I' r=>?_) (λxx f9 e=>by cases e))
  obtain ⟨rfl,rfl⟩:=ak.ok.inj e
  exact q g' f s' q1 I' r
 |exc xx ao=>
  intro Q E q
  refine wpAny_While (Hx h hb ho (oc:=.exc xx ao) (by intro z; exact Ds z) I hw (λxt f9 e=>by exact xl e) (λWI f9 e g' e' s' q1 hx=>?_))
  cases e
  refine hN _ _ _ _ _ _ hx λg2 s2 q2 nT=>?_
  exact hB _ _ _ _ _ _ nT λg3 s3 q3 gZ=>q g3 e' s3 ((q1.trans q2).trans q3) gZ
theorem ai.away (I:ai V F m C g s) {t:Nat} {T:Addr} (hT:g T=none) (h0:V.h₀.get? T=none) (hs:Heap.SameBut T s.heap h'):ai V F m C g {s with heap:=h',toks:=t}:=by
 have ne : ∀ {b y},g b=some y->b≠T:=λ{b y} e z=>by subst z; rw [hT] at e; exact aq e
 have nk : ∀ {b o},V.h₀.get? b=some o->b≠T:=λ{b o} e z=>by subst z; rw [h0] at e; exact aq e
 refine ⟨λb o e=>(hs.2 b (nk e)).trans (I.keep b o e),I.new,λb y e=>?_,λb o e=>(hs.2 b (ne e)).trans (I.aB b o e),λb o e=>?_,λj c e=>?_,I.uniq,I.dC,?_,I.gens,I.os⟩
 ·obtain ⟨o,ho⟩:=I.live b y e
  exact ⟨o,(hs.2 b (ne e)).trans ho⟩
 ·obtain ⟨sl,q,q'⟩:=I.az b o e
  exact ⟨sl,(hs.2 b (ne e)).trans q,q'⟩
 ·obtain ⟨b,o,h1,h2,h3⟩:=I.cell j c e
  exact ⟨b,o,h1,(hs.2 b (ne h1)).trans h2,h3⟩
 ·have x:=I.fr
  refine ⟨x.len,x.above,x.out,x.here,?_,λy hy=>?_,x.free⟩
  ·obtain ⟨M,a,b⟩:=x.loc
   exact ⟨M,a.sameBut hs (ne x.here),b⟩
  ·obtain ⟨c,v,a,b,d,e⟩:=x.cell y hy
   exact ⟨c,v,a,b,d.sameBut hs (ne b),e⟩
theorem IB:sP V F A:=λx st g e s E hx k=>by
 obtain ⟨⟨I,a,cls,args,L,rfl,hL,hr,hT⟩,a',oe,vs,T,ha,iP,hd,h1⟩:=hx
 cases ha
 obtain ⟨jw,eY,rV,iX,t,h2,h3,h4,h5,h6,h7,h8⟩:=hT
 rw [iP] at h2; obtain rfl:=ad h2
 rw [hd] at h4; cases h4
 rcases h8 with h8|⟨T',oT,ts,e1,e2,e3,e4,e5,e6,e7⟩
 ·rw [h1] at h8; cases h8
 rw [h1] at e1; cases e1
 have hsz:3<ts.size:=by
  rcases e7 with e7|e7<;>exact (Array.getElem?_eq_some_iff.mp e7).1
 unfold cameBackBy
 refine ce (wpAny_field iP hd h1 ?_)
 rw [if_neg (by simp)]
 unfold setFlight
 refine ce (wpAny_field iP hd h1 ?_)
 rw [if_pos (show (Value.ref T != Value.none)=true from by simp)]
 refine wpAny_setField e5 e6 hsz ?_
 rw [hL]
 have hs:Heap.SameBut T s.heap (s.heap.update T (Obj.mapFields (·.setIfInBounds 3 (rawInt L)))):=mo ..
 have qO:a≠T:=λz=>e2 z.symm
 have gp:=Obj.data_mapFields e6 (·.setIfInBounds 3 (rawInt L))
 have rB:=Heap.get?_update_self (Obj.mapFields (·.setIfInBounds 3 (rawInt L))) e5 (Obj.isFreed_of_fields gp)
 refine k g _ (.refl g) ⟨I.away (t:=s.toks) e3 e4 hs,a,cls,args,L,rfl,hL,hr,jw,eY,oe,vs,t,(hs.2 a qO).trans iP,h3,hd,h5,?_,h7,.inr ⟨T,_,_,h1,e2,e3,e4,rB,gp,.inr ?_⟩⟩
 ·obtain ⟨o,n,q1,q2,q3⟩:=h6
  refine ⟨o,n,(hs.2 t λz=>?_).trans q1,q2,q3⟩
  rw [z,e5] at q1; obtain rfl:=ad q1
  rw [e6] at q3; cases q3
 ·simp [hsz]
open Classical in
noncomputable def fB (h:Heap) (P:Addr->Prop):Heap:=⟨h.objs.mapIdx λi o=>if P i then {cls:=.none,data:=.freed} else o,h.life⟩
variable {P:Addr->Prop}
theorem qW (q:P a):(fB h P).get? a=none:=by
 unfold fB Heap.get?
 simp only [Array.getElem?_mapIdx]
 induction h.objs[a]? with
 |none=>rfl
 |some o=>simp [q]
theorem pn (q : ¬ P a):(fB h P).get? a=h.get? a:=by
 unfold fB Heap.get?
 simp only [Array.getElem?_mapIdx]
 induction h.objs[a]? with
 |none=>rfl
 |some o=>simp [q]
theorem ue:(fB h P).StaysIn h:=λb o e=>by
 by_cases q:P b
 ·rw [qW q] at e; exact aq e
 ·rwa [pn q] at e
theorem tS (I:ai V F m C g s) (h:eP F g L) : ∃ o,s.heap.get? L=some o/\(∀ vs,o.data≠.fields vs):=by
 rcases h with rfl|⟨o,es,n,h,hd⟩
 ·obtain ⟨M,hM,_⟩:=I.fr.loc
  obtain ⟨o,es,n,ho,hd,_⟩:=hM
  exact ⟨o,ho,λvs=>by rw [hd]; intro z; cases z⟩
 ·obtain ⟨sl,ho,_⟩:=I.az _ _ h
  exact ⟨_,ho,λvs=>by rw [hd]; intro z; cases z⟩
theorem DN (I:ai V F m C g s) (h:eP F g L):HO g L:=by
 rcases h with rfl|h
 ·exact .inl I.fr.here
 ·exact .inr h
theorem Nb (I:ai V F m C g s) (hP : ∀ L,eP F g L->P L) : ∀ {l:List Env},(∀ e∈l,e∈F.stack)->s.heap.FunFrames (fB s.heap P) l:=λ{l}=>by
 induction l with
 |nil=>
  intro _
  exact trivial
 |cons e l ih=>
  intro h
  obtain ⟨k,L,q,r⟩:=I.fr.out e (h e (.head _))
  obtain ⟨o,ho,hf⟩:=tS I r
  exact ⟨k,⟨L,o,q,qW (hP L r),ho,hf⟩,ih λe' he=>h e' (.tail _ he)⟩
theorem ai.MZ (I:ai V F m C g s) {t:Nat} (up:s.heap.UpToSlots h') (k : ∀ b o,¬ eP F g b->(g b≠none\/V.h₀.get? b≠none)->s.heap.get? b=some o->h'.get? b=some o) :
  ai V F m C g {s with heap:=h',toks:=t}:=by
 have nP : ∀ {b y},g b=some y->(y≠.locals)->(∀ o,y≠.az o)->¬ eP F g b:=λ{b y} e h1 h2 q=>by
  rcases q with z|⟨o,es,n,z,_⟩
  ·have:=I.fr.here; rw [<-z,e] at this; obtain rfl:=ad this; exact h1 rfl
  ·rw [e] at z; obtain rfl:=ad z; exact h2 _ rfl
 have kk : ∀ {b y o},g b=some y->¬ eP F g b->s.heap.get? b=some o->h'.get? b=some o:=λ{b y o} e q=>k b o q (.inl (by rw [e]; intro z; exact lA z))
 refine ⟨λb o e=>k b o (λq=>?_) (.inr (by rw [e]; intro z; exact lA z)) (I.keep b o e),I.new,λb y e=>?_,λb o e=>kk e (nP e (by intro z; cases z) (by intro o z; cases z)) (I.aB b o e),λb o e=>?_,λj c e=>?_,I.uniq,I.dC,?_,I.gens,I.os⟩
 ·rcases DN I q with z|⟨o',es,n,z,_⟩<;>(have:=I.new _ _ z; rw [e] at this; exact lA this)
 ·by_cases q:eP F g b
  ·obtain ⟨o,ho,hf⟩:=tS I q
   obtain ⟨sl,h⟩:=up b o ho hf
   exact ⟨_,h⟩
  ·obtain ⟨o,ho⟩:=I.live b y e
   exact ⟨o,kk e q ho⟩
 ·obtain ⟨sl,q,q'⟩:=I.az b o e
  by_cases z:eP F g b
  ·obtain ⟨o1,fC,bC⟩:=tS I z
   rw [q] at fC; obtain rfl:=ad fC
   obtain ⟨Ut,h⟩:=up b _ q bC
   refine ⟨Ut,h,λhT=>?_⟩
   rcases DN I z with z|⟨o',es,n,z,zd⟩
   ·rw [e] at z; cases z
   ·rw [e] at z; cases z; exact absurd zd (hT.2 es n)
  ·exact ⟨sl,kk e z q,q'⟩
 ·obtain ⟨b,o,h1,h2,h3⟩:=I.cell j c e
  exact ⟨b,o,h1,kk h1 (nP h1 (by intro z; cases z) (by intro o z; cases z)) h2,h3⟩
 ·have x:=I.fr
  refine ⟨x.len,x.above,x.out,x.here,?_,λy hy=>?_,x.free⟩
  ·obtain ⟨M,a,b⟩:=x.loc
   exact ⟨M,up.ns a,b⟩
  ·obtain ⟨c,v,a,b,d,e⟩:=x.cell y hy
   obtain ⟨o,ho,hr⟩:=d
   exact ⟨c,v,a,b,⟨o,kk b (nP b (by intro z; cases z) (by intro o z; cases z)) ho,hr⟩,e⟩
variable {outer:List Env}
theorem zl (eW:A.frames=some F.stack) (aW:F.stack=F.env::outer) {x:X} {st:St} {e:Value} {Q:Shared->Prop} {E:Value->Shared->Prop} (hx:fj V F x st g e s)
  (k : ∀ g' s',g.Step g'->mQ V F x st g' e s'->Q s'):wpAny V.M A (noteFrame e F.env) (λu' s'=>Q s') E s:=by
 obtain ⟨I,a,cls,args,L,rfl,hL,hr,hT⟩:=id hx
 obtain ⟨jw,eY,oe,vs,t,h2,h3,h4,h5,h6,h7,h8⟩:=hT
 have hP : ∀ L,eP F g L->(λb=>eP F g b\/(g b=none/\V.h₀.get? b=none)) L:=λu' h=>.inl h
 have hl:s.heap.FunFrames (fB s.heap λb=>eP F g b\/(g b=none/\V.h₀.get? b=none)) (F.env::outer):=Nb I hP (λe he=>by rw [aW]; exact he)
 rw [aW] at eW
 have Ei:(fB s.heap λb=>eP F g b\/(g b=none/\V.h₀.get? b=none)).get? a=none:=qW (.inr ⟨jw,eY⟩)
 have fin : ∀ h',Heap.NotedW (fB s.heap λb=>eP F g b\/(g b=none/\V.h₀.get? b=none)) (F.env::outer) a oe.cls (.ref t) (rawInt L) s.heap h'->Q {s with heap:=h'}:=by
  intro h' hz
  obtain ⟨x1,x2,⟨rV,iX,T,oT,ts,q1,⟨q2,q3⟩,q4,q5,q6,q7,q8,q9,Sq⟩,x4⟩:=hz
  have Ea:g T=none/\V.h₀.get? T=none:=by
   by_cases z:eP F g T
   ·obtain ⟨o,ho,hf⟩:=tS I z
    obtain ⟨sl,q⟩:=x4 T o ho hf
    rw [q8] at q; obtain rfl:=ad q
    exact absurd q9 (hf ts)
   ·by_cases w:g T=none/\V.h₀.get? T=none
    ·exact w
    ·rw [pn (by intro y; rcases y with y|y; exact z y; exact w y)] at q6
     refine ⟨I.apart q6,?_⟩
     induction y:V.h₀.get? T with
     |none=>rfl
     |some o=>rw [I.keep _ _ y] at q6; exact lA q6
  refine k g _ (.refl g) ⟨⟨I.MZ (t:=s.toks) x4 (λb o nf tr e=>x1 b o ?_),a,cls,args,L,rfl,hL,hr,jw,eY,rV,iX,t,q1,q2.trans h3,q4,q3,h6.of_slots x4,h7,.inr ⟨T,oT,ts,q5,q7,Ea.1,Ea.2,q8,q9,.inr Sq⟩⟩,a,rV,iX,T,rfl,q1,q4,q5⟩
  rw [pn (by
   intro y; rcases y with y|y
   ·exact nf y
   ·rcases tr with tr|tr
    ·exact tr y.1
    ·exact tr y.2)]
  exact e
 rcases h8 with h8|⟨T,oT,ts,e1,e2,e3,e4,e5,e6,e7⟩
 ·unfold noteFrame
  simp only [hL]
  refine ce (wpAny_field h2 h4 h8 ?_)
  rw [if_neg (by decide)]
  exact wpAny_entryW eW hl hL h2 ue Ei h4 (Array.getElem?_eq_some_iff.mp h8).1 h5 fin
 ·rcases e7 with e7|e7
  ·exact wpAny_noteFrame_onW eW hl hL ⟨oe,vs,T,oT,ts,h2,⟨rfl,h5⟩,h4,e1,qW (.inr ⟨e3,e4⟩),e2,e5,e6,e7⟩ ue Ei fin
  ·exact wpAny_noteFrame_inFlight hL h2 h4 e1 e5 e6 e7 (k g _ (.refl g) ⟨hx,a,oe,vs,T,rfl,h2,h4,e1⟩)
theorem RJ (eW:A.frames=some F.stack) (aW:F.stack=F.env::outer):sV V F A:=λx st g e s E hx k=>zl eW aW hx k
theorem PW {x:D} {p:Nat × Nat} (h:Fc x=some p):x=.inst p.1 p.2:=by induction x using D.casesOn<;>first|exact aq h|(obtain rfl:=ad h; rfl)
mutual
theorem A8 : ∀ {a b:D},D.beq a b=true->a=b
 |.int x,b,h=>(rJ (im h)).symm
 |.bool x,b,h=>(Fb (im h)).symm
 |.str x,b,h=>(uF (im h)).symm
 |.loc x,b,h=>(j0 (im h)).symm
 |.inst x y,b,h=>(PW (im h)).symm
 |.lst x,b,h=>by
  induction b using D.casesOn<;>first|exact bA h|exact congrArg D.lst (v9 h)
 |.none,b,h=>bA h
 |.bytes _,b,h=>bA h
 |.bn _,b,h=>bA h
 |.fn _,b,h=>bA h
 |.cls _,b,h=>bA h
 |.tup _,b,h=>bA h
 |.cP _ _,b,h=>bA h
 |.bm _ _,b,h=>bA h
 |.di _,b,h=>bA h
 |.iW _,b,h=>bA h
theorem v9 : ∀ {a b:List D},D.mY a b=true->a=b
 |[],b,h=>(isEmpty_iff.mp h).symm
 |x::a,b,h=>by
  induction b using List.casesOn with
  |nil=>exact bA h
  |cons y b=>
   obtain ⟨h1,h2⟩:=and_eq_true_iff.mp (show (D.beq x y&&D.mY a b)=true from h)
   rw [A8 h1,v9 h2]
end
theorem A6 : ∀ {a b:List (Int × D)},oS a b=true->a=b
 |[],b,h=>(isEmpty_iff.mp h).symm
 |x::a,b,h=>by
  induction b using List.casesOn with
  |nil=>exact bA h
  |cons y b=>
   obtain ⟨h1,h2⟩:=and_eq_true_iff.mp (show (x.1==y.1&&D.beq x.2 y.2&&oS a b)=true from h)
   obtain ⟨h3,h4⟩:=and_eq_true_iff.mp h1
   rw [show x=y from Prod.ext (eq_of_beq h3) (A8 h4),A6 h2]
set_option tactic.hygienic true in
theorem SV {c c':Ch} (h:Gy c c'=true):c=c':=by
 induction c using Ch.casesOn<;>first|exact bA h|skip
 ·induction c' using Ch.casesOn<;>first|exact bA h|exact congrArg Ch.list (v9 h)
 ·rename_i b es
  induction b<;>first|exact bA h|skip
  induction c' using Ch.casesOn<;>first|exact bA h|skip
  rename_i b nA
  induction b<;>first|exact bA h|exact congrArg (Ch.dict true) (A6 h)
variable {C':ah}
theorem z9 (h:kj C C' i=true):C'[i]?=C[i]?:=by
 unfold kj at h
 induction h1:C[i]? with
 |none=>rw [h1] at h; exact bA h
 |some c=>
  induction h2:C'[i]? with
  |none=>rw [h1,h2] at h; exact bA h
  |some c'=>rw [h1,h2] at h; rw [SV h]
theorem Hb {y:D} (h:br C C' y=true) {items:List D} (e:bV C y=some items):bV C' y=some items:=by
 induction y using D.casesOn<;>first|exact aq e|exact e|skip
 ·exact (congrArg (·.bind pL) (z9 h)).trans e
 ·exact (congrArg (·.bind Ai) (z9 h)).trans e
noncomputable def fS (C:ah):D->Bool
 |.loc i=>match C[i]? with
  |some (.dict _ _)=>true
  |_=>false
 |_=>false
theorem Bv (h:C[i]?=some (.list ds)):fS C (.loc i)=false:=by unfold fS; dsimp only; rw [h]
theorem Bu {b:Bool} (h:C[i]?=some (.dict b es)):fS C (.loc i)=true:=by unfold fS; dsimp only; rw [h]
set_option tactic.hygienic true in
theorem Ha {y:D} (h:br C C' y=true):fS C' y=fS C y:=by
 induction y using D.casesOn<;>first|rfl|skip
 rename_i i
 unfold fS
 dsimp only
 rw [z9 h]
noncomputable def cU (V:av) (g:Gh) (k:Bool) (items:List D) (i:Nat) (y:D) (o:Obj):Prop:=match y with
 |.lst _ => ∃ l,af V g y (.ref l)/\o.cls=.type "list_iterator"/\o.data=.fields #[.ref l,.int i 0]
 |.tup _ => ∃ l,af V g y (.ref l)/\o.cls=.type "tuple_iterator"/\o.data=.fields #[.ref l,.int i 0]
 |.cP a _=>o={cls:=.type "range_iterator",dict:=none,data:=.fields #[rawInt (a+(i:Int)),rawInt ((items.length:Int) - (i:Int)),rawInt 1],slots := #[]}
 |.bytes b => ∃ t,b.length<=aH/\o.cls=.type "bytes_iterator"/\o.data=.fields #[.bytes b.toArray t,.int i 0]
 |.loc _ => ∃ l,af V g y (.ref l)/\((k=false/\o.cls=.type "list_iterator"/\o.data=.fields #[.ref l,.int i 0])\/(k=true/\o.cls=.type "dict_keyiterator"/\o.data=.fields #[.ref l,.int i 0,.int items.length 0,.int items.length 0]))
 |.di j => ∃ d,g d=some (.cell j)/\o.cls=.type "dict_valueiterator"/\o.data=.fields #[.ref d,.int i 0,.int items.length 0,.int items.length 0]
 |_=>False
theorem cU.mono (L:g.Le g') {k:Bool} {items:List D} {y:D} {o:Obj} (h:cU V g k items i y o):cU V g' k items i y o:=by
 induction y using D.casesOn<;>first|exact h|skip
 ·obtain ⟨l,a,b⟩:=h; exact ⟨l,a.mono L,b⟩
 ·obtain ⟨l,a,b⟩:=h; exact ⟨l,a.mono L,b⟩
 ·obtain ⟨l,a,b⟩:=h; exact ⟨l,a.mono L,b⟩
 ·obtain ⟨l,a,b⟩:=h; exact ⟨l,L.cell _ _ a,b⟩
theorem cU.vp {k:Bool} {items:List D} {y:D} {o:Obj} (h:cU V g k items i y o):kq o:=by
 have key : ∀ {vs},o.data=.fields vs->kq o:=λe=>⟨λv z=>(by rw [e] at z; cases z),λes n z=>(by rw [e] at z; cases z)⟩
 induction y using D.casesOn<;>first|(exact h.elim)|skip
 ·obtain ⟨t,_,_,e⟩:=h; exact key e
 ·obtain ⟨l,_,_,e⟩:=h; exact key e
 ·obtain ⟨l,_,_,e⟩:=h; exact key e
 ·have h:o=_:=h; subst h; exact key rfl
 ·obtain ⟨l,_,⟨_,_,e⟩|⟨_,_,e⟩⟩:=h<;>exact key e
 ·obtain ⟨d,_,_,e⟩:=h; exact key e
theorem ai.Iz (I:ai V F m C g s) {t:Nat} {T:Addr} (hT:g T=none) (h0:V.h₀.get? T=none) (hs:Heap.ExtBut T s.heap h'):ai V F m C g {s with heap:=h',toks:=t}:=by
 have ne : ∀ {b y},g b=some y->b≠T:=λ{b y} e z=>by subst z; rw [hT] at e; exact aq e
 have nk : ∀ {b o},V.h₀.get? b=some o->b≠T:=λ{b o} e z=>by subst z; rw [h0] at e; exact aq e
 refine ⟨λb o e=>hs b o (nk e) (I.keep b o e),I.new,λb y e=>?_,λb o e=>hs b o (ne e) (I.aB b o e),λb o e=>?_,λj c e=>?_,I.uniq,I.dC,?_,I.gens,I.os⟩
 ·obtain ⟨o,ho⟩:=I.live b y e
  exact ⟨o,hs b o (ne e) ho⟩
 ·obtain ⟨sl,q,q'⟩:=I.az b o e
  exact ⟨sl,hs b _ (ne e) q,q'⟩
 ·obtain ⟨b,o,h1,h2,h3⟩:=I.cell j c e
  exact ⟨b,o,h1,hs b o (ne h1) h2,h3⟩
 ·have x:=I.fr
  refine ⟨x.len,x.above,x.out,x.here,?_,λy hy=>?_,x.free⟩
  ·obtain ⟨M,a,b⟩:=x.loc
   exact ⟨M,a.extBut hs (ne x.here),b⟩
  ·obtain ⟨c,v,a,b,⟨oc,d,d'⟩,e⟩:=x.cell y hy
   exact ⟨c,v,a,b,⟨oc,hs c oc (ne b) d,d'⟩,e⟩
theorem Sw {a b:Int} (h:(fZ a b)[i]?=some d):d=.int (a+(i:Int))/\i<(fZ a b).length:=by
 have hl:i<(fZ a b).length:=(be h).1
 unfold fZ at h
 rw [getElem?_map] at h
 obtain ⟨j,h1,h2⟩:=cq h
 have:i<(b - a).toNat:=by simpa [fZ] using hl
 rw [getElem?_range this] at h1
 obtain rfl:=ad h1
 exact ⟨h2.symm,hl⟩
theorem Sx {a b:Int}:Builtin.Range.rangeSize a b 1=((fZ a b).length:Int):=by
 unfold Builtin.Range.rangeSize fZ
 simp
 split
 ·rename_i h; exact (Int.max_eq_left (Int.sub_nonneg_of_le (Int.le_of_lt h))).symm
 ·rename_i h; exact (Int.max_eq_right (Int.sub_nonpos_of_le (Int.not_lt.mp h))).symm
set_option tactic.hygienic true in
theorem vg (B:V.Base) (I:ai V F m C g s) {y:D} (r:af V g y v) {items:List D} (h:bV C y=some items) {E:Value->Shared->Prop}
  (q : ∀ o h',cU V g (fS C y) items 0 y o->(∀ b o,s.heap.get? b=some o->h'.get? b=some o)->ai V F m C (g.put s.heap.objs.size (some (.az o))) {s with heap:=h'}->Q (.ref s.heap.objs.size) {s with heap:=h'}):wpAny V.M A (pyIter v) Q E s:=by
 have new : ∀ o:Obj,o.isFreed=false->ai V F m C (g.put s.heap.objs.size (some (.az o))) {s with heap:=s.heap.push o}:=λo hf=>
  I.more (t:=s.toks) (λu' u' h=>dL _ h) (f8 (le_refl _)) (lw _ hf) (.inr rfl)
 induction y using D.casesOn<;>first|exact aq h|skip
 ·obtain rfl:=ad h
  obtain ⟨t,hz,rfl⟩:=r.nW
  exact W.KBw.pyIter_bytes (q _ _ ⟨t,hz,rfl,rfl⟩ (λu' u' h=>dL _ h) (new _ rfl))
 ·obtain rfl:=ad h
  obtain ⟨l,vs,n,rfl,hl,hz,rs⟩:=I.tup r
  exact wpAny_pyIter_tuple ⟨_,hl,rfl,_,rfl⟩ (q _ _ ⟨l,r,rfl,rfl⟩ (λu' u' h=>dL _ h) (new _ rfl))
 ·obtain rfl:=ad h
  obtain ⟨l,vs,n,rfl,hl,hz,rs⟩:=I.list r (ds:=_) rfl
  exact wpAny_pyIter_list hl.isList (q _ _ ⟨l,r,rfl,rfl⟩ (λu' u' h=>dL _ h) (new _ rfl))
 ·rename_i a b
  obtain ⟨hr,h⟩:=eZ h
  obtain rfl:=ad h
  obtain ⟨ra,o,lC,lD,lE,h1,h2,rfl⟩:=r.PE
  have O8:IsRange s.heap ra a b 1 lC lD lE:=by rw [fm] at h2; subst h2; exact I.aB _ _ h1
  refine wpAny_pyIter_range O8 (Gu hr).1 (q _ _ ?_ (λu' u' h=>dL _ h) (new _ rfl))
  rw [Sx]
  show _=_
  simp
 ·obtain ⟨ch,hC,h⟩:=aS h
  obtain ⟨l,hg,rfl⟩:=r.gA
  induction ch using Ch.casesOn<;>first|exact aq h|skip
  ·obtain rfl:=ad h
   obtain ⟨l',vs,n,e,_,hl,hz,rs⟩:=I.mz (.loc hg) hC
   cases e
   exact wpAny_pyIter_list hl.isList (q _ _ ⟨l,.loc hg,.inl ⟨Bv hC,rfl,rfl⟩⟩ (λu' u' h=>dL _ h) (new _ rfl))
  ·rename_i b es
   induction b<;>first|exact aq h|skip
   obtain rfl:=ad h
   obtain ⟨hz,ay,ep,hd,hA,kL⟩:=I.dictAt hg hC
   have e1:ay.length=es.length:=hA.length.symm
   refine wpAny_pyIter_dict (knd:=intKind V.prog V.w) (sH I hg B.mods) hd (q _ _ ⟨l,.loc hg,.inr ⟨Bu hC,rfl,?_⟩⟩ (λu' u' h=>dL _ h) (new _ rfl))
   rw [kL rfl,e1,length_map]; rfl
 ·obtain ⟨ch,hC,h⟩:=aS h
  induction ch using Ch.casesOn<;>first|exact aq h|skip
  rename_i b es
  induction b<;>first|exact aq h|skip
  obtain rfl:=ad h
  obtain ⟨a,d,o,h1,h2,h3,rfl⟩:=r.PG
  obtain ⟨hz,ay,ep,hd,hA,kL⟩:=I.dictAt h3 hC
  have e1:ay.length=es.length:=hA.length.symm
  have hv:s.heap.IsValuesView a d:=by
   have:=I.aB _ _ h1
   rw [fm] at h2; subst h2
   exact ⟨_,this,rfl,rfl⟩
  refine wpAny_pyIter_values (knd:=intKind V.prog V.w) hv hd (q _ _ ⟨d,h3,rfl,?_⟩ (λu' u' h=>dL _ h) (new _ rfl))
  rw [kL rfl,e1,length_map]; rfl
noncomputable def WQ (M:Model) (A:Around) (it:Addr) (Q:Option Value->Shared->Prop) (E:Value->Shared->Prop) (s:Shared):Prop:=wpAny M A (pyNext (.ref it)) Q E s
theorem aY.get {R:α->β->Prop} {as:List α} {bs:List β} {a:α} {b:β} (h:aY R as bs):as[i]?=some a->bs[i]?=some b->R a b:=
 h.ind (P:=λas bs => ∀ i,as[i]?=some a->bs[i]?=some b->R a b) (λ_ h _=>aq h)
  (λ_ _ _ _ r _ ih i=>Nat.casesOn i (λh1 h2=>ad h1 ▸ ad h2 ▸ r) λi=>ih i) i
structure mO (V:av) (g:Gh) (s:Shared) (it:Addr) (k:Bool) (items:List D) (i:Nat) (y:D) (Q:Option Value->Shared->Prop):Prop where
 stop:items[i]?=none->∀ h',Heap.ExtBut it s.heap h'->Q none {s with heap:=h'}
 go : ∀ {d v o'} {h':Heap} (t:Nat),items[i]?=some d->af V g d v->h'.get? it=some o'->Heap.SameBut it s.heap h'->cU V g k items (i+1) y o'->Q (some v) {s with heap:=h',toks:=t}
section
variable {items:List D} {o:Obj} {k:Bool} {Q:Option Value->Shared->Prop} {E:Value->Shared->Prop}
theorem LN (hh:A.handled=none) {b:List UInt8} (ho:s.heap.get? it=some o) (hi:cU V g k items i (.bytes b) o) (h:bV C (.bytes b)=some items) (N:mO V g s it k items i (.bytes b) Q):wpAny V.M A (pyNext (.ref it)) Q E s:=by
 obtain ⟨t,hz,hc,hd⟩:=hi
 obtain rfl:=ad h
 have hit:W.KBw.IsBytesIter s.heap it b.toArray t i:=⟨o,ho,hc,hd⟩
 induction hb:b[i]? with
 |none=>exact W.KBw.next_end hh hit (by simpa using hb) (N.stop (by rw [getElem?_map,hb]; rfl))
 |some c=>
  refine W.KBw.next_item hit (c:=c) (by simpa using hb) λh' ⟨o',h1,h2,h3⟩ hs=>N.go (s.toks+1) (d:=.int c.toNat) (by rw [getElem?_map,hb]; rfl) (.int _ _) h1 hs ⟨t,hz,h2,h3⟩
theorem LR (hh:A.handled=none) (I:ai V F m C g s) (ho:s.heap.get? it=some o) (hi:cU V g k items i (.tup ds) o) (h:bV C (.tup ds)=some items) (N:mO V g s it k items i (.tup ds) Q):wpAny V.M A (pyNext (.ref it)) Q E s:=by
 obtain ⟨l,r,hc,hd⟩:=hi
 obtain rfl:items=ds:=(ad h).symm
 obtain ⟨l',vs,n,ev,hl,hz,rs⟩:=I.tup r
 cases ev
 have hit:s.heap.IsTupleIter it l i:=⟨o,ho,hc,hd⟩
 have ER:s.heap.IsTuple l vs.toArray:=⟨_,hl,rfl,_,rfl⟩
 induction hx:items[i]? with
 |none=>
  refine wpAny_pyNext_tuple_end hh hit ER ?_ (N.stop hx)
  exact te rs.length hx
 |some d=>
  obtain ⟨v,hv,rv⟩:=rs.get hx
  exact wpAny_pyNext_tuple_item hit ER (x:=v) (by simpa using hv) λh' ⟨o',h1,h2,h3⟩ hs=>N.go s.toks hx rv h1 hs ⟨l,r,h2,h3⟩
theorem LP (hh:A.handled=none) (I:ai V F m C g s) (ho:s.heap.get? it=some o) (hi:cU V g k items i (.lst ds) o) (h:bV C (.lst ds)=some items) (N:mO V g s it k items i (.lst ds) Q):wpAny V.M A (pyNext (.ref it)) Q E s:=by
 obtain ⟨l,r,hc,hd⟩:=hi
 obtain rfl:items=ds:=(ad h).symm
 obtain ⟨l',vs,n,ev,hl,hz,rs⟩:=I.list r (ds:=items) rfl
 cases ev
 have hit:s.heap.IsListIter it l i:=⟨o,ho,hc,hd⟩
 induction hx:items[i]? with
 |none=>
  refine wpAny_pyNext_list_end hh hit hl.isList ?_ (N.stop hx)
  exact te rs.length hx
 |some d=>
  obtain ⟨v,hv,rv⟩:=rs.get hx
  exact wpAny_pyNext_list_item hit hl.isList (x:=v) (by simpa using hv) λh' ⟨o',h1,h2,h3⟩ hs=>N.go s.toks hx rv h1 hs ⟨l,r,h2,h3⟩
theorem LQ (hh:A.handled=none) {a b:Int} (ho:s.heap.get? it=some o) (hi:cU V g k items i (.cP a b) o) (h:bV C (.cP a b)=some items) (N:mO V g s it k items i (.cP a b) Q):wpAny V.M A (pyNext (.ref it)) Q E s:=by
 have hi:o=_:=hi
 subst hi
 obtain ⟨_,h⟩:=eZ h
 ·obtain rfl:=ad h
  have hit:IsRangeIter s.heap it (a+(i:Int)) (((fZ a b).length:Int) - (i:Int)) 1:=ho
  induction hx:(fZ a b)[i]? with
  |none=>
   rw [List.getElem?_eq_none_iff] at hx
   exact wpAny_pyNext_range_end hh hit (Int.sub_nonpos_of_le (ofNat_le.mpr hx)) (N.stop (List.getElem?_eq_none_iff.mpr hx))
  |some d=>
   obtain ⟨rfl,aZ⟩:=Sw hx
   refine wpAny_pyNext_range_item hit (Int.sub_pos_of_lt (ofNat_lt.mpr aZ)) λh' h1 hs=>N.go (s.toks+1) hx (.int _ _) h1 hs ?_
   show _=_
   have e1:a+(i:Int)+1=a+((i+1:Nat):Int):=Int.add_assoc a i 1
   have e2:((fZ a b).length:Int) - (i:Int) - 1=((fZ a b).length:Int) - ((i+1:Nat):Int):=Int.sub_sub _ (i:Int) 1
   rw [e1,e2]
set_option tactic.hygienic true in
theorem LO (hh:A.handled=none) (I:ai V F m C g s) (ho:s.heap.get? it=some o) (hi:cU V g k items i (.loc j) o) (h:bV C (.loc j)=some items) (hk:fS C (.loc j)=k) (N:mO V g s it k items i (.loc j) Q):wpAny V.M A (pyNext (.ref it)) Q E s:=by
 obtain ⟨l,r,hs⟩:=hi
 obtain ⟨ch,hC,h⟩:=aS h
 induction ch using Ch.casesOn<;>first|exact aq h|skip
 ·cases h
  have iN:k=false:=hk.symm.trans (Bv hC)
  obtain ⟨l',vs,n,ev,_,hl,hz,rs⟩:=I.mz r hC
  cases ev
  rcases hs with ⟨_,hc,hd⟩|⟨z,_⟩
  ·have hit:s.heap.IsListIter it l i:=⟨o,ho,hc,hd⟩
   induction hx:items[i]? with
   |none=>
    refine wpAny_pyNext_list_end hh hit hl.isList ?_ (N.stop hx)
    exact te rs.length hx
   |some d=>
    obtain ⟨v,hv,rv⟩:=rs.get hx
    exact wpAny_pyNext_list_item hit hl.isList (x:=v) (by simpa using hv) λh' ⟨o',h1,h2,h3⟩ hs=>N.go s.toks hx rv h1 hs ⟨l,r,.inl ⟨iN,h2,h3⟩⟩
  ·rw [iN] at z; exact bA z
 ·rename_i b es
  induction b<;>first|exact aq h|skip
  obtain rfl:=ad h
  have iN:k=true:=hk.symm.trans (Bu hC)
  rcases hs with ⟨z,_⟩|⟨_,hc,hd⟩
  ·rw [iN] at z; exact fJ z
  ·cases r with
   |loc Ep=>
    obtain ⟨hz,ay,ep,qS,hA,kL⟩:=I.dictAt Ep hC
    have e1:ay.length=es.length:=hA.length.symm
    have e2:(es.map λe=>D.int e.1).length=ay.length:=by rw [length_map,e1]
    have e3:ay.length=ep:=by rw [e1,kL rfl]
    rw [e2] at hd
    have hit:s.heap.IsKeyIter it l i ay.length ep:=⟨o,ho,hc,by rw [hd,e3]⟩
    induction hx:ay[i]? with
    |none=>
     refine wpAny_pyNext_dict_end (knd:=intKind V.prog V.w) hh hit qS hx (N.stop ?_)
     rw [List.getElem?_eq_none_iff] at hx ⊢
     exact an (le_of_eq e2) hx
    |some kv=>
     obtain ⟨key,v⟩:=kv
     refine wpAny_pyNext_dict_item (knd:=intKind V.prog V.w) hit qS hx λkk h' qY ⟨o',h1,h2,h3⟩ hs=>?_
     have aZ:i<es.length:=by rw [<-e1]; exact (be hx).1
     have OH:=aY.Qf hA
     have OG:es[i].1=key:=by
      have h5:(es.map (·.1))[i]?=(ay.map (·.1))[i]?:=by rw [OH]
      rw [getElem?_map,getElem?_map,hx,getElem?_eq_getElem aZ] at h5
      simpa using h5
     obtain ⟨t,rfl⟩:=Value.isInt_shape qY
     refine N.go s.toks (d:=.int key) ?_ (.int _ _) h1 hs ⟨l,.loc Ep,.inr ⟨iN,h2,by rw [h3,e2,e3]⟩⟩
     rw [getElem?_map,getElem?_eq_getElem aZ]
     show some (D.int es[i].1)=_
     rw [OG]
set_option tactic.hygienic true in
theorem LS (hh:A.handled=none) (I:ai V F m C g s) (ho:s.heap.get? it=some o) (hi:cU V g k items i (.di j) o) (h:bV C (.di j)=some items) (N:mO V g s it k items i (.di j) Q):wpAny V.M A (pyNext (.ref it)) Q E s:=by
 obtain ⟨dd,En,hc,hd⟩:=hi
 obtain ⟨ch,hC,h⟩:=aS h
 induction ch using Ch.casesOn<;>first|exact aq h|skip
 ·rename_i b es
  induction b<;>first|exact aq h|skip
  obtain rfl:=ad h
  obtain ⟨hz,ay,ep,qS,hA,kL⟩:=I.dictAt En hC
  have e1:ay.length=es.length:=hA.length.symm
  have e2:(es.map λe=>e.2).length=ay.length:=by rw [length_map,e1]
  have e3:ay.length=ep:=by rw [e1,kL rfl]
  rw [e2] at hd
  have hit:s.heap.IsValIter it dd i ay.length ep:=⟨o,ho,hc,by rw [hd,e3]⟩
  induction hx:ay[i]? with
  |none=>
   refine wpAny_pyNext_values_end (knd:=intKind V.prog V.w) hh hit qS hx (N.stop ?_)
   rw [List.getElem?_eq_none_iff] at hx ⊢
   exact an (le_of_eq e2) hx
  |some kv=>
   obtain ⟨key,v⟩:=kv
   refine wpAny_pyNext_values_item (knd:=intKind V.prog V.w) hit qS hx λh' ⟨o',h1,h2,h3⟩ hs=>?_
   have aZ:i<es.length:=by rw [<-e1]; exact (be hx).1
   have hv:fN V g es[i] (key,v):=aY.get hA (getElem?_eq_getElem aZ) hx
   refine N.go s.toks (d:=es[i].2) ?_ hv.2 h1 hs ⟨dd,En,h2,by rw [h3,e2,e3]⟩
   rw [getElem?_map,getElem?_eq_getElem aZ]; rfl
end
theorem GG (hh:A.handled=none) (I:ai V F m C g s) {y:D} {items:List D} {o:Obj} (hg:g it=some (.az o)) {k:Bool} (hi:cU V g k items i y o) (h:bV C y=some items) (hk:fS C y=k)
  {Q:Option Value->Shared->Prop} {E:Value->Shared->Prop}
  (q : ∀ d,items[i]?=some d->∀ v o' h' t,af V (g.put it (some (.az o'))) d v->cU V (g.put it (some (.az o'))) k items (i+1) y o'->ai V F m C (g.put it (some (.az o'))) {s with heap:=h',toks:=t}->Q (some v) {s with heap:=h',toks:=t})
  (e:items[i]?=none->∀ h',ai V F m C (g.put it none) {s with heap:=h'}->Q none {s with heap:=h'}):wpAny V.M A (pyNext (.ref it)) Q E s:=by
 have ht:=hi.vp
 have ho:=I.mD hg ht
 have Lp : ∀ x,g.Le (g.put it x):=λx=>⟨λb o' e'=>by rw [Gh.bf _ _ (λz=>by subst z; rw [hg] at e'; cases e')]; exact e',λb o' e'=>by rw [Gh.bf _ _ (λz=>by subst z; rw [hg] at e'; cases e')]; exact e'⟩
 have stop:items[i]?=none->∀ h',Heap.ExtBut it s.heap h'->Q none {s with heap:=h'}:=λhn h' he=>
  e hn h' ((I.r7 hg ht).Iz (t:=s.toks) (Gh.bz ..) (I.new _ _ hg) he)
 have go : ∀ {d v o'} {h':Heap} (t:Nat),items[i]?=some d->af V g d v->h'.get? it=some o'->Heap.SameBut it s.heap h'->cU V g k items (i+1) y o'->Q (some v) {s with heap:=h',toks:=t}:=λ{d v o' h'} t hd r dH hs jV=>
  q d hd v o' h' t (r.mono (Lp _)) (jV.mono (Lp _)) (I.pW hg ht hs.extBut dH)
 have N:mO V g s it k items i y Q:=⟨stop,go⟩
 induction y using D.casesOn<;>first|exact aq h|skip
 ·exact LN hh ho hi h N
 ·exact LR hh I ho hi h N
 ·exact LP hh I ho hi h N
 ·exact LQ hh ho hi h N
 ·exact LO hh I ho hi h hk N
 ·exact LS hh I ho hi h N
theorem Gh.bT.drop {S:Addr} (h:Gh.bT S g g') (hg:g S=none):g.Step (g'.put S none):=by
 refine ⟨⟨λa o e=>?_,λa i e=>?_⟩,λa o=>?_⟩
 ·have ne:a≠S:=λz=>by subst z; rw [hg] at e; exact aq e
  rw [Gh.bf _ _ ne]; exact h.aB a o ne e
 ·have ne:a≠S:=λz=>by subst z; rw [hg] at e; exact aq e
  rw [Gh.bf _ _ ne]; exact h.cell a i ne e
 ·by_cases ne:a=S
  ·subst ne; rw [Gh.bz,hg]
  ·rw [Gh.bf _ _ ne]; exact h.az a o ne
variable {cD:Gh}
theorem uR {o:Obj} (hg:g it=some (.az o)) (x:Option GO):g.Le (g.put it x):=
 ⟨λb o' e'=>by rw [Gh.bf _ _ (λz=>by subst z; rw [hg] at e'; cases e')]; exact e',λb o' e'=>by rw [Gh.bf _ _ (λz=>by subst z; rw [hg] at e'; cases e')]; exact e'⟩
theorem fj.drop {x:X} {st:St} {e:Value} (h:fj V F x st g e s) {o:Obj} (hg:g it=some (.az o)) (ht:kq o):fj V F x st (g.put it none) e s:=by
 obtain ⟨I,a,cls,args,L,rfl,hL,hr,⟨jw,eY,oe,vs,t,h2,h3,h4,h5,h6,h7,h8⟩⟩:=h
 have dn : ∀ {b},g b=none->g.put it none b=none:=λ{b} e=>by
  by_cases z:b=it
  ·subst z; exact Gh.bz ..
  ·rw [Gh.bf _ _ z]; exact e
 refine ⟨I.r7 hg ht,a,cls,args,L,rfl,hL,hr,⟨dn jw,eY,oe,vs,t,h2,h3,h4,h5,h6,⟨h7.1,dn h7.2⟩,?_⟩⟩
 rcases h8 with h8|⟨T,oT,ts,e1,e2,e3,e4⟩
 ·exact .inl h8
 ·exact .inr ⟨T,oT,ts,e1,e2,dn e3,e4⟩
inductive vF (V:av) (F:aD) (it:Addr) (cD:Gh) (y:D) (items:List D) (loop:List D->St->ak Fl) (oc:ak Fl) (n:Nat) (s:Shared):Prop
 |mk (g1:Gh) (m1:List (Option D)) (C1:ah) (i:Nat) (o:Obj) (b1:Gh.bT it cD g1) (jt:g1 it=some (.az o)) (qU:cU V g1 (fS C1 y) items i y o) (nL:bV C1 y=some items) (I1:ai V F m1 C1 g1 s)
   (hn:n=items.length+1 - i) (hle:i<=items.length) (e1:loop (items.drop i) ⟨m1,C1⟩=oc):vF V F it cD y items loop oc n s
theorem DL (hh:A.handled=none) (K:F.Ok) {c:aN} (hc:F.ctx c) {px:Pos} (hk:dA c x=some k) {body:Ss} (hb:c8 V F A cl body b) {y:D} {items:List D}
   (kU:oc≠.fail) (nJ:cD it=none)
   {o:Obj} (l9:Gh.bT it cD g) (hg:g it=some (.az o)) (hi:cU V g (fS C y) items 0 y o) (hit:bV C y=some items) (I:ai V F m C g s)
  (e:forLoop (λC C'=>br C C' y) (.one k) (λae=>ax V.P cl body ae) items ⟨m,C⟩=oc)
  (dX : ∀ fl ao,oc=.ok fl ao->∀ g' f s',cD.Step g'->ai V F ao.m ao.C g' s'->dR V g' fl f->R (.ok f) s')
  (hex : ∀ xx ao,oc=.exc xx ao->∀ g' e s',cD.Step g'->fj V F xx ao g' e s'->notedBy V.M A F.env (λe s'=>R (.error e) s') e s') :
  codeAny V.M A (.forLoop (.Name x px) (.ref it) b [] F.env) R s:=by
 refine codeAny_forLoop (vF V F it cD y items (forLoop (λC C'=>br C C' y) (.one k) (λae=>ax V.P cl body ae)) oc) (λn s hI=>?_) (items.length+1) ⟨g,m,C,0,o,l9,hg,hi,hit,I,rfl,zero_le _,e⟩
 obtain ⟨g1,m1,C1,i,o1,b1,jt,qU,nL,I1,rfl,hle,e1⟩:=hI
 refine GG hh I1 jt qU nL rfl (λd hd v o2 h2 t2 rd qV I2=>?_) λhn h2 I2=>?_
 ·have aZ:i<items.length:=(be hd).1
  have yd:items.drop i=d::items.drop (i+1):=by
   rw [List.drop_eq_getElem_cons aZ]
   rw [getElem?_eq_getElem aZ] at hd
   obtain rfl:=ad hd; rfl
  rw [yd] at e1
  rw [xA] at e1
  dsimp only
  refine wpAny_assign_Name ?_
  have aW:=oA (A:=A) K I2 hc hk rd
  unfold fH at aW
  unfold iE at e1
  dsimp only at e1 aW
  by_cases mf:k<m1.length
  ·rw [if_pos mf] at e1 aW
   dsimp only at e1
   refine aW _ _ λg3 u' s3 q3 I3 u'=>?_
   have b3:Gh.bT it cD g3:=(b1.trans (Gh.bT.put it g1 _)).trans (q3.but it)
   have yh:g3 it=some (.az o2):=(q3.az _ _).mp (Gh.bz ..)
   have hs:=hb _ _ _ _ I3
   have iM:=qV.mono q3.toLe
   have ht:=qV.vp
   have turn : ∀ aa g4 s4,ax V.P cl body ⟨m1.set k (some d),C1⟩=.ok .next aa\/ax V.P cl body ⟨m1.set k (some d),C1⟩=.ok .cont aa->g3.Step g4->ai V F aa.m aa.C g4 s4->
     (if br C1 aa.C y then forLoop (λC C'=>br C C' y) (.one k) (λae=>ax V.P cl body ae) (items.drop (i+1)) aa else .fail)=oc->
     ∃ mm,mm<items.length+1 - i/\vF V F it cD y items (forLoop (λC C'=>br C C' y) (.one k) (λae=>ax V.P cl body ae)) oc mm s4:=by
    intro aa g4 s4 _ q4 I4 e4
    split at e4
    ·rename_i aW
     refine ⟨items.length+1 - (i+1),Nat.sub_lt_sub_left (lt_succ_of_lt aZ) (lt_succ_self i),g4,aa.m,aa.C,i+1,o2,b3.trans (q4.but it),(q4.az _ _).mp yh,?_,Hb aW nL,I4,rfl,aZ,e4⟩
     rw [Ha aW]
     exact iM.mono q4.toLe
    ·exact absurd e4.symm kU
   induction hx:ax V.P cl body ⟨m1.set k (some d),C1⟩ with
   |fail=>rw [hx] at e1; exact absurd e1.symm kU
   |exc xx ao=>
    rw [hx] at e1 hs
    refine hs _ _ λg4 e4 s4 q4 yC=>hex xx ao e1.symm _ _ _ ((b3.trans (q4.but it)).drop nJ) (yC.drop ((q4.az _ _).mp yh) ht)
   |ok fl ao=>
    rw [hx] at e1 hs
    refine hs _ _ λg4 f s4 q4 I4 r4=>?_
    have ua:=(q4.az _ _).mp yh
    have L4:=uR ua none
    have dt:cD.Step (g4.put it none):=(b3.trans (q4.but it)).drop nJ
    have I5:=I4.r7 ua ht
    induction r4 using dR.casesOn with
    |next=>exact turn ao g4 s4 (.inl hx) q4 I4 e1
    |cont=>exact turn ao g4 s4 (.inr hx) q4 I4 e1
    |brk=>exact dX .next ao e1.symm _ .next s4 dt I5 .next
    |ret r=>exact dX _ ao e1.symm _ _ s4 dt I5 (.ret (r.mono L4))
  ·rw [if_neg mf] at e1; exact absurd e1.symm kU
 ·have yu:items.drop i=[]:=by rw [List.getElem?_eq_none_iff] at hn; exact List.drop_eq_nil_of_le hn
  rw [yu] at e1
  refine wpAny_execs_nil ?_
  exact dX .next ⟨m1,C1⟩ e1.symm _ .next _ (b1.drop nJ) I2 .next
theorem U5 (B:V.Base) (hN:sV V F A) (hB:sP V F A) (eV:cl.fuel≠0->A.handled=none) (K:F.Ok) {c:aN} (hc:F.ctx c) {px:Pos} (hk:dA c x=some k)
  {a:E} {t:Expr} {body:Ss} (h:aA V F A cl a t) (hb:c8 V F A cl body b) (hs : ∀ x,foldedSetIterable t F.env x=pure x) :
  aO V F A cl (.fA (.one k) a body) (.For (.Name x px) t b [] p):=λm C g s I=>by
 show aj V F (dR V) _ g s (if cl.fuel==0 then .fail else (ev V.P cl a ⟨m,C⟩).bind λy aa=>match bV aa.C y with
  |some items=>forLoop (λC C'=>br C C' y) (.one k) (λae=>ax V.P cl body ae) items aa
  |none=>.fail)
 split
 ·trivial
 rename_i hf
 have hh:A.handled=none:=eV λz=>hf (by rw [z]; rfl)
 refine aj.seq (K:=λv Q E au=>wpAny V.M A (pyIter v) (λit aM=>codeAny V.M A (.forLoop (.Name x px) it b [] F.env) (λr s'=>match r with|.ok f=>Q f s'|.error e=>cameBackBy V.M A F.env E e s') aM) E au)
  (h m C g s I).1 (λQ E z=>wpAny_For z hs) λy st aV au v u' u9 aF r=>?_
 induction hi:bV st.C y with
 |none=>trivial
 |some items=>
  dsimp only
  have hsz:=aF.fI
  induction hw:forLoop (λC C'=>br C C' y) (.one k) (λae=>ax V.P cl body ae) items st with
  |fail=>trivial
  |ok fl ao=>
   intro Q E q
   refine vg B aF r hi λo h' ho u' aP=>?_
   refine DL hh K hc hk hb (oc:=.ok fl ao) (by intro z; exact FW z) hsz (Gh.bT.put _ aV _) (Gh.bz ..) (ho.mono (Gh.gB _ hsz)) hi aP hw (λxt f9 e g' f s' q1 I' r=>?_) (λxx f9 e=>by cases e)
   obtain ⟨rfl,rfl⟩:=ak.ok.inj e
   exact q g' f s' q1 I' r
  |exc xx ao=>
   intro Q E q
   refine vg B aF r hi λo h' ho u' aP=>?_
   refine DL hh K hc hk hb (oc:=.exc xx ao) (by intro z; exact Ds z) hsz (Gh.bT.put _ aV _) (Gh.bz ..) (ho.mono (Gh.gB _ hsz)) hi aP hw (λxt f9 e=>by exact xl e) (λWI f9 e g' e' s' q1 hx=>?_)
   cases e
   refine hN _ _ _ _ _ _ hx λg2 s2 q2 nT=>?_
   exact hB _ _ _ _ _ _ nT λg3 s3 q3 gZ=>q g3 e' s3 ((q1.trans q2).trans q3) gZ
structure a0.Exc (G:a0):Prop where
 value:G.glob.lookup ("ValueError":Str)=some (.bn .vv)
 stop:G.glob.lookup ("StopIteration":Str)=some (.bn .stopIteration)
 iG:G.glob.lookup ("CycleError":Str)=some (.cls 1)
inductive km (V:av):Prop
 |mk (nm:_) (q:_) (N:_) (bs:_) (md:_) (sn:_) (sub:_) (ab:_) (col:_) (dd:_) (k0:_) (k1:_) (k2:_) (k3:_) (k5:_) (mN:_)
   (h1:V.h₀.get? (V.ba 1)=some (excClassObj nm q (V.ba 1) N bs [.type "ValueError",.type "Exception",.type "BaseException",.type "object"] md sn sub ab col dd k0 k1 k2 k3 k5 "ValueError.__new__")) (h2:V.h₀.Ns N mN) (h3:mN "__init__"=none):km V
variable {np:Pos}
theorem ai.t4 (I:ai V F m C g s) (h:s.heap.get? a=none):V.h₀.get? a=none:=by
 induction q:V.h₀.get? a with
 |none=>rfl
 |some o=>rw [I.keep _ _ q] at h; exact lA h
theorem fj.made (hf:F.env.frame=some L) {st:St} {x:X} (I:ai V F st.m st.C g s) {e:Addr} {cls:Value} {args:List Value} (hx:vR V x cls args)
  (hk : ∀ b o,s.heap.get? b=some o->h'.get? b=some o) (hn:s.heap.get? e=none)
  (ht : ∃ t,h'.get? e=some {cls:=cls,data:=.fields #[.ref t,.none,.none,.none,.bool false,.none]}/\s.heap.get? t=none/\h'.get? t=some {cls:=.type "tuple",data:=.seq args.toArray}) :
  fj V F x st g (.ref e) {s with heap:=h'}:=by
 obtain ⟨t,h1,h2,h3⟩:=ht
 exact ⟨I.heap hk,e,cls,args,L,rfl,hf,hx,⟨I.apart hn,I.t4 hn,_,_,t,h1,rfl,rfl,rfl,⟨_,_,h3,rfl,rfl⟩,⟨I.t4 h2,I.apart h2⟩,.inl rfl⟩⟩
theorem Ri {c:aN} (h:oi c x=true) (hd:G.glob.lookup x=some d):mC G c x=.cst d:=by
 unfold mC
 rw [eq_of_beq h,hd]
theorem Vl (O:V.Ok G) (K:F.Ok) (GE:G.Exc) (gT:km V) (eV:cl.fuel≠0->A.handled=none) (hf:F.env.frame=some L) {c:aN} (hc:F.ctx c) (hx:oi c x=true) (hv:x=("CycleError":Str))
  {a a2:E} {e2:Expr} {cp:Pos} (hs:dI e=false) (er:dI e2=false) (h:aA V F A cl a e) (h2:aA V F A cl a2 e2):aO V F A cl (.sd a a2) (.Raise (some (.Call (.Name x np) [e,e2] [] cp)) none p):=λm C g s I=>by
 show aj V F (dR V) _ g s (if cl.fuel==0 then .fail else (ev V.P cl a ⟨m,C⟩).bind λu' aa=>(ev V.P cl a2 aa).bind λu' ae=>.exc .iG ae)
 split
 ·trivial
 rename_i dj
 have hh:A.handled=none:=eV λz=>dj (by rw [z]; rfl)
 have OU:aJ V F A (af V) (eval (.Name x np) F.env) g s (.ok (.cls 1) ⟨m,C⟩):=by
  have:=GJ (A:=A) (P:=V.P) (cl:=cl) (p:=np) (x:=x) O K I hc
  rwa [Ri hx (by rw [hv]; exact GE.iG)] at this
 have aW:(backTo cp (starEach [e,e2] F.env)).any (·.1)=false:=by rw [tf]; exact vn (by rw [any_cons,any_cons,hs,er]; rfl)
 obtain ⟨nm,q,N,bs,md,sn,sub,ab,col,dd,k0,k1,k2,k3,k5,mN,hC,hN,pC⟩:=gT
 show aj V F (dR V) _ g s ((.ok (D.cls 1) ⟨m,C⟩:ak D).bind λu' cu=>(ev V.P cl a cu).bind λu' aa=>(ev V.P cl a2 aa).bind λu' ae=>.exc .iG ae)
 refine aj.seq (K:=λf Q E au=>f=.ref (V.ba 1)/\wpAny V.M A (evalArgs (.ref (V.ba 1)) true (backTo cp (starEach [e,e2] F.env)) [])
   (λa aM=>a.kw=[]/\a.pos.length<=sizeLine/\aM.heap.get? (V.ba 1)=some (excClassObj nm q (V.ba 1) N bs [.type "ValueError",.type "Exception",.type "BaseException",.type "object"] md sn sub ab col dd k0 k1 k2 k3 k5 "ValueError.__new__")/\aM.heap.Ns N mN/\
    ∀ h' e,Heap.MadeExcOf aM.heap h' e (.ref (V.ba 1)) a.pos->E (.ref e) {aM with heap:=h'}) E au) OU
  (λQ E z=>wpAny_Raise_call_sub PySem.F.excBase_ValueError hh aW pC z) λd st aV au fv eo u9 aF r=>?_
 obtain ⟨rfl,rfl⟩:=ak.ok.inj eo
 obtain rfl:=r.EY
 refine aj.seq (K:=λv Q E aM=>wpAny V.M A (eval e2 F.env) (λu aM=>aM.heap.get? (V.ba 1)=some (excClassObj nm q (V.ba 1) N bs [.type "ValueError",.type "Exception",.type "BaseException",.type "object"] md sn sub ab col dd k0 k1 k2 k3 k5 "ValueError.__new__")/\aM.heap.Ns N mN/\
    ∀ h' ee,Heap.MadeExcOf aM.heap h' ee (.ref (V.ba 1)) [v,u]->E (.ref ee) {aM with heap:=h'}) E aM) (h _ _ _ _ aF).1 (λQ E z=>⟨rfl,xj aW rfl ?_⟩) λd st bl aM v u' mE aP r=>?_
 ·rw [mK hs,mK er]
  refine Calls.spliced_cons (gl z (λv aM k=>Calls.spliced_cons (gl k (λu cT k=>Calls.spliced_nil (wpAny_evalAll_nil ⟨rfl,?_,k⟩)) λu' u' z=>z)) λu' u' z=>z)
  rw [sizeLine_eq]; show 2<=_; omega
 ·refine aj.seq (K:=λu Q E aM=>aM.heap.get? (V.ba 1)=some (excClassObj nm q (V.ba 1) N bs [.type "ValueError",.type "Exception",.type "BaseException",.type "object"] md sn sub ab col dd k0 k1 k2 k3 k5 "ValueError.__new__")/\aM.heap.Ns N mN/\
    ∀ h' ee,Heap.MadeExcOf aM.heap h' ee (.ref (V.ba 1)) [v,u]->E (.ref ee) {aM with heap:=h'}) (h2 _ _ _ _ aP).1 (λQ E z=>z) λd st dD cT u u' jC cV r=>?_
  exact λQ E k=>⟨cV.keep _ _ hC,hN.keeps cV.keep,λh' ee hm=>k dD _ _ (.refl _) (fj.made hf cV rfl hm.keeps hm.new hm.there)⟩
variable {body:List Stmt}
theorem DG {x:X} {st:St} {e:Value} {Q:Shared->Prop} {E:Value->Shared->Prop} (hx:mQ V F x st g e s) (k : ∀ s',mQ V F x st g e s'->Q s'):wpAny V.M A (setFlight e none) (λu' s'=>Q s') E s:=by
 obtain ⟨⟨I,a,cls,args,L,rfl,hL,hr,hT⟩,a',oe,vs,T,ha,iP,hd,h1⟩:=hx
 cases ha
 obtain ⟨jw,eY,rV,iX,t,h2,h3,h4,h5,h6,h7,h8⟩:=hT
 rw [iP] at h2; obtain rfl:=ad h2
 rw [hd] at h4; cases h4
 rcases h8 with h8|⟨T',oT,ts,e1,e2,e3,e4,e5,e6,e7⟩
 ·rw [h1] at h8; cases h8
 rw [h1] at e1; cases e1
 have hsz:3<ts.size:=by
  rcases e7 with e7|e7<;>exact (Array.getElem?_eq_some_iff.mp e7).1
 refine wpAny_setFlight_none iP hd h1 e5 e6 hsz ?_
 have hs:Heap.SameBut T s.heap (s.heap.update T (Obj.mapFields (·.setIfInBounds 3 Value.none))):=mo ..
 have qO:a≠T:=λz=>e2 z.symm
 have gp:=Obj.data_mapFields e6 (·.setIfInBounds 3 Value.none)
 have rB:=Heap.get?_update_self (Obj.mapFields (·.setIfInBounds 3 Value.none)) e5 (Obj.isFreed_of_fields gp)
 have um:=(hs.2 a qO).trans iP
 refine k _ ⟨⟨I.away (t:=s.toks) e3 e4 hs,a,cls,args,L,rfl,hL,hr,jw,eY,oe,vs,t,um,h3,hd,h5,?_,h7,.inr ⟨T,_,_,h1,e2,e3,e4,rB,gp,.inl ?_⟩⟩,a,oe,vs,T,rfl,um,hd,h1⟩
 ·obtain ⟨o,n,q1,q2,q3⟩:=h6
  refine ⟨o,n,(hs.2 t λz=>?_).trans q1,q2,q3⟩
  rw [z,e5] at q1; obtain rfl:=ad q1
  rw [e6] at q3; cases q3
 ·simp [hsz]
noncomputable def Xb (V:av):Nat->Value
 |0=>.type "StopIteration"
 |1=>.ref (V.ba 1)
 |_=>.type "ValueError"
theorem MA {X':X} (h:qs (kF x) X'=true):(x=("StopIteration":Str)/\kF x=0/\X'=.stop)\/(x=("CycleError":Str)/\kF x=1/\X'=.iG)\/(x=("ValueError":Str)/\kF x=2/\∃ m,X'=.value m):=by
 unfold kF at h ⊢
 split at h
 ·rename_i e
  induction X'<;>first|((first|exact bA h|cases h); done)|skip
  exact .inl ⟨im e,by rw [if_pos e],rfl⟩
 ·split at h
  ·rename_i e0 e
   induction X'<;>first|((first|exact bA h|cases h); done)|skip
   exact .inr (.inl ⟨im e,by rw [if_neg e0,if_pos e],rfl⟩)
  ·split at h
   ·rename_i e0 e1 e
    induction X'<;>first|((first|exact bA h|cases h); done)|skip
    exact .inr (.inr ⟨im e,by rw [if_neg e0,if_neg e1,if_pos e],_,rfl⟩)
   ·induction X'<;>exact bA h
theorem zh (O:V.Ok G) (K:F.Ok) (I:ai V F m C g s) {c:aN} (hc:F.ctx c) (hx:oi c x=true) (hd:G.glob.lookup x=some d) {E:Value->Shared->Prop}
  (q : ∀ v,(∀ g,af V g d v)->Q v s):wpAny V.M A (eval (.Name x np) F.env) Q E s:=by
 have hk:F.names.lookup x=some .globalImplicit:=by rw [<-hc.1]; exact im hx
 have pB:=K.kinds x _ hk
 obtain ⟨mg,mb,h1,h2,h3⟩:=O.glob
 obtain ⟨v,hv,r⟩:=h3 x d hd
 have e1:s.heap.Ns F.env.globals mg:=by rw [K.glob]; exact h1.keeps I.keep
 have e2:s.heap.Ns F.env.builtins mb:=by rw [K.blt]; exact h2.keeps I.keep
 refine Calls.Name_function_global K.fn pB ?_ (K.pV hk)
 rcases hv with hv|⟨hm,hv⟩
 ·exact Calls.loadGlobal_global e1 hv (q v r)
 ·exact Calls.loadGlobal_builtin e1 hm e2 hv (q v r)
theorem P2:isSubtype (.type "StopIteration") (.type "StopIteration")=pure true:=by rw [isSubtype_type]; kernel_rfl
theorem P4:isSubtype (.type "ValueError") (.type "ValueError")=pure true:=by rw [isSubtype_type]; kernel_rfl
theorem PY:isSubtype (.type "StopIteration") (.type "BaseException")=pure true:=by rw [isSubtype_type]; kernel_rfl
theorem RI:isSubtype (.type "type") (.type "tuple")=pure false:=by rw [isSubtype_type]; kernel_rfl
theorem RH:isSubtype (.type ((Manifest.find? "StopIteration").elim "type" λx=>x.metatype)) (.type "tuple")=pure false:=by
 rw [show ((Manifest.find? "StopIteration").elim "type" λx=>x.metatype)="type" from by rw [find?_eq_fast]; kernel_rfl]; exact RI
theorem QT (O:V.Ok G) (K:F.Ok) (GE:G.Exc) (gT:km V) {c:aN} (hc:F.ctx c) (hx:oi c x=true) {X':X} (hX:qs (kF x) X'=true) {st:St} {e:Value} (h:mQ V F X' st g e s)
  {Q:Bool->Shared->Prop} {E:Value->Shared->Prop} (q:Q true s) :
  wpAny V.M A (eval (.Name x np) F.env) (λcv au=>wpAny V.M A (excMatches e cv) Q E au) E s:=by
 obtain ⟨⟨I,a,cls,args,L,rfl,hL,hr,hT⟩,_⟩:=h
 obtain ⟨jw,eY,oe,vs,t,h2,h3,h4,h5,h6,h7,h8⟩:=hT
 rcases MA hX with ⟨rfl,_,rfl⟩|⟨rfl,_,rfl⟩|⟨rfl,_,msg,rfl⟩
 ·refine zh O K I hc hx GE.stop λv r=>?_
  cases r g
  obtain ⟨rfl,_⟩:=hr
  exact wpAny_excMatches_type (X:="StopIteration") (T:="StopIteration") ⟨oe,h2,h3⟩ PY RH P2 q
 ·refine zh O K I hc hx GE.iG λv r=>?_
  cases r g
  have hr:cls=.ref (V.ba 1):=hr
  subst hr
  obtain ⟨nm,q',N,bs,md,sn,sub,ab,col,dd,k0,k1,k2,k3,k5,mN,hC,hN,pC⟩:=gT
  obtain ⟨hh,gg,WU,tk,os⟩:=s
  exact wpAny_excMatches_sub_self (I.keep _ _ hC) h2 h3 (by decide +kernel) q
 ·refine zh O K I hc hx GE.value λv r=>?_
  cases r g
  obtain ⟨rfl,_⟩:=hr
  exact wpAny_excMatches_type (X:="ValueError") (T:="ValueError") ⟨oe,h2,h3⟩ PySem.F.isExc_ValueError PySem.F.notTuple_ValueError P4 q
theorem H8 (h:fL F A cl n l) (e:Value):fL F (A.mark (some e)) jA n l:=
 ⟨h.frames,h.depth,h.units,λz=>absurd rfl z⟩
theorem Vq (O:V.Ok G) (K:F.Ok) (GE:G.Exc) (gT:km V) (eW:A.frames=some F.stack) (aW:F.stack=F.env::outer) {c:aN} (hc:F.ctx c) (hx:oi c x=true)
  {b h:Ss} {sG:List Stmt} {wm:Stmt} {hp:Pos} (hb:c8 V F A cl b body) (hh : ∀ e,c8 V F (A.mark (some e)) jA h (wm::sG)) :
  aO V F A cl (.oI b (kF x) none h) (.Try body [.ExceptHandler (some (.Name x np)) none (wm::sG) hp] [] [] p):=λm C g s I=>by
 show aj V F (dR V) _ g s (if cl.fuel==0 then .fail else match ax V.P cl b ⟨m,C⟩ with
  |.exc x' aa=>if qs (kF x) x' then (match ax V.P jA h aa with|.ok f ae=>.ok f ae|_=>.fail) else .fail
  |o=>o)
 split
 ·trivial
 have hB:=hb m C g s I
 induction ho:ax V.P cl b ⟨m,C⟩ with
 |fail=>trivial
 |ok f st=>
  rw [ho] at hB
  intro Q E q
  refine wpAny_Try_except (hB _ _ λg' fl s' ao I' r=>?_)
  induction r using dR.casesOn with
  |next=>exact wpAny_execs_nil (q _ _ _ ao I' .next)
  |brk=>exact q _ _ _ ao I' .brk
  |cont=>exact q _ _ _ ao I' .cont
  |ret r=>exact q _ _ _ ao I' (.ret r)
 |exc X' st=>
  rw [ho] at hB
  dsimp only
  split
  ·rename_i hX
   induction hH:ax V.P jA h st with
   |fail=>trivial
   |exc _ _=>trivial
   |ok f ae=>
    intro Q E q
    refine wpAny_Try_except (hB _ _ λg' e s' ao gy=>?_)
    refine zl eW aW gy λg2 s2 q2 nT=>?_
    refine DG nT λs3 gZ=>?_
    refine wpAny_handleBy_cons (codeAny_handlers_test (QT (A:=A.mark (some e)) O K GE gT hc hx hX gZ ?_)) (by obtain ⟨⟨_,a,_,_,_,rfl,_⟩,_⟩:=gZ; intro z; cases z)
    refine codeAny_handlers_suite (DG gZ λs4 yC=>?_)
    have hs:=hh e _ _ _ _ yC.1.1
    rw [hH] at hs
    exact hs _ _ λg5 fl s5 q5 I5 r5=>q _ _ _ ((ao.trans q2).trans q5) I5 r5
  ·trivial
noncomputable def Gh.bE (g:Gh) (h:Heap):Gh:=λa=>match g a with
 |some .locals=>(h.get? a).map GO.az
 |some (.cj _)=>(h.get? a).map GO.az
 |r=>r
noncomputable def Gh.over (N:Addr->Option GO) (g:Gh):Gh:=λa=>match N a with
 |some x=>some x
 |none=>g a
noncomputable def Gh.eF (g g':Gh):Gh:=λa=>match g a with
 |some .locals=>some .locals
 |some (.cj x)=>some (.cj x)
 |_=>match g' a with
  |some .locals=>none
  |some (.cj _)=>none
  |r=>r
theorem Gh.sC {o:Obj}:g.bE h a=some (.aB o)↔g a=some (.aB o):=by
 unfold Gh.bE
 induction g a with
 |none=>exact .rfl
 |some k=>induction k<;>first|exact .rfl|(induction h.get? a<;>simp)
theorem Gh.mI:g.bE h a=some (.cell i)↔g a=some (.cell i):=by
 unfold Gh.bE
 induction g a with
 |none=>exact .rfl
 |some k=>induction k<;>first|exact .rfl|(induction h.get? a<;>simp)
theorem Gh.mJ {o:Obj} (e:g a=some (.az o)):g.bE h a=some (.az o):=by
 unfold Gh.bE; rw [e]
theorem Gh.pZ {o:Obj} (e:g a=some .locals) (ho:h.get? a=some o):g.bE h a=some (.az o):=by
 unfold Gh.bE; rw [e]; simp [ho]
theorem Gh.sA {o:Obj} (e:g a=some (.cj x)) (ho:h.get? a=some o):g.bE h a=some (.az o):=by
 unfold Gh.bE; rw [e]; simp [ho]
theorem Gh.zP (e:g a=none):g.bE h a=none:=by unfold Gh.bE; rw [e]
theorem Gh.vi {x:GO} (e:g.bE h a=some x) : ∃ y,g a=some y:=by
 induction q:g a with
 |none=>rw [Gh.zP q] at e; exact aq e
 |some y=>exact ⟨y,rfl⟩
theorem Gh.uS:g.Le (g.bE h):=⟨λu' u' e=>Gh.sC.mpr e,λu' u' e=>Gh.mI.mpr e⟩
theorem Gh.se (h1:g a≠some .locals) (h2 : ∀ x,g a≠some (.cj x)):g.eF g' a=match g' a with
  |some .locals=>none
  |some (.cj _)=>none
  |r=>r:=by
 unfold Gh.eF
 split
 ·exact absurd ‹_› h1
 ·exact absurd ‹_› (h2 _)
 ·rfl
theorem Gh.SE (h:g a=some .locals):g.eF g' a=some .locals:=by unfold Gh.eF; rw [h]
theorem Gh.SD (h:g a=some (.cj x)):g.eF g' a=some (.cj x):=by unfold Gh.eF; rw [h]
variable {m₁:List (Option D)} {au:Shared} {N:Addr->Option GO}
section
variable {vG:aD} {mM:ah} {aM:Shared}
structure iZ (s au:Shared) (N:Addr->Option GO):Prop where
 new : ∀ a x,N a=some x->s.heap.get? a=none
 there : ∀ a x,N a=some x->∃ o,au.heap.get? a=some o
 kind : ∀ a x,N a=some x->x=.locals\/∃ y,x=.cj y
theorem iZ.none (I:ai V F m C g s) (hN:iZ s au N) {x:GO} (h:g a=some x):N a=none:=by
 induction q:N a with
 |none=>rfl
 |some y=>rw [I.apart (hN.new a y q)] at h; exact aq h
set_option tactic.hygienic true in
theorem oq (I:ai V F m C g s) (hN:iZ s au N):(g.bE s.heap).Step (Gh.over N (g.bE s.heap)):=by
 have key : ∀ {a x},g.bE s.heap a=some x->Gh.over N (g.bE s.heap) a=some x:=λ{a x} e=>by
  obtain ⟨y,hy⟩:=Gh.vi e
  unfold Gh.over; rw [hN.none I hy]; exact e
 refine ⟨⟨λa o e=>key e,λa i e=>key e⟩,λa o=>⟨λe=>key e,λe=>?_⟩⟩
 unfold Gh.over at e
 split at e
 ·rename_i x hx
  obtain rfl:=ad e
  rcases hN.kind a _ hx with z|⟨y,z⟩<;>cases z
 ·exact e
set_option tactic.hygienic true in
theorem ai.enter (I:ai V F m C g s) (hN:iZ s au N) (hk : ∀ b o,s.heap.get? b=some o->au.heap.get? b=some o) (hg:au.gens=s.gens) (ho:au.os=s.os)
  (fr:lK V vG m₁ (Gh.over N (g.bE s.heap)) au.heap):ai V vG m₁ C (Gh.over N (g.bE s.heap)) au:=by
 have aW:=oq I hN
 have bR : ∀ {a x},Gh.over N (g.bE s.heap) a=some x->(N a=some x)\/(N a=none/\g.bE s.heap a=some x):=λ{a x} e=>by
  unfold Gh.over at e
  split at e
  ·rename_i y hy; obtain rfl:=ad e; exact .inl hy
  ·rename_i hy; exact .inr ⟨hy,e⟩
 have kinds : ∀ {a x},Gh.over N (g.bE s.heap) a=some x->x≠.locals->(∀ y,x≠.cj y)->g.bE s.heap a=some x:=λ{a x} e h1 h2=>by
  rcases bR e with e|⟨_,e⟩
  ·rcases hN.kind _ _ e with z|⟨y,z⟩
   ·exact absurd z h1
   ·exact absurd z (h2 y)
  ·exact e
 refine ⟨λb o e=>hk b o (I.keep b o e),λa x e=>?_,λa x e=>?_,λa o e=>?_,λa o e=>?_,λi c e=>?_,λa b i e e'=>?_,λa i e=>?_,fr,by rw [hg]; exact I.gens,by rw [ho]; exact I.os⟩
 ·rcases bR e with e|⟨_,e⟩
  ·exact I.t4 (hN.new _ _ e)
  ·obtain ⟨y,hy⟩:=Gh.vi e; exact I.new a y hy
 ·rcases bR e with e|⟨_,e⟩
  ·exact hN.there _ _ e
  ·obtain ⟨y,hy⟩:=Gh.vi e
   obtain ⟨o,ho⟩:=I.live a y hy
   exact ⟨o,hk a o ho⟩
 ·exact hk a o (I.aB a o (Gh.sC.mp (kinds e (by simp) (by simp))))
 ·have e:=kinds e (by simp) (by simp)
  obtain ⟨y,hy⟩:=Gh.vi e
  obtain ⟨o',dH⟩:=I.live a y hy
  induction y with
  |aB o1=>rw [Gh.sC.mpr hy] at e; cases e
  |cell i=>rw [Gh.mI.mpr hy] at e; cases e
  |az o1=>
   rw [Gh.mJ hy] at e; cases e
   obtain ⟨sl,h1,h2⟩:=I.az a o hy
   exact ⟨sl,hk a _ h1,h2⟩
  |locals=>
   rw [Gh.pZ hy dH] at e; cases e
   exact ⟨o.slots,hk a o dH,λu'=>rfl⟩
  |cj y=>
   rw [Gh.sA hy dH] at e; cases e
   exact ⟨o.slots,hk a o dH,λu'=>rfl⟩
 ·obtain ⟨a,o,h1,h2,h3⟩:=I.cell i c e
  exact ⟨a,o,aW.cell a i (Gh.mI.mpr h1),hk a o h2,h3.mono (Gh.uS.trans aW.toLe)⟩
 ·exact I.uniq a b i (Gh.mI.mp (kinds e (by simp) (by simp))) (Gh.mI.mp (kinds e' (by simp) (by simp)))
 ·exact I.dC a i (Gh.mI.mp (kinds e (by simp) (by simp)))
theorem vb (I:ai V F m C g s) (aW:(g.bE s.heap).Step bl):bl.Le (g.eF bl):=by
 have key : ∀ {a x},bl a=some x->(∀ o,x≠.az o)->x≠.locals->(∀ y,x≠.cj y)->g.eF bl a=some x:=λ{a x} e h0 h1 h2=>by
  have n1:g a≠some .locals:=λz=>by
   obtain ⟨o,ho⟩:=I.live a _ z
   have:=(aW.az a o).mp (Gh.pZ z ho)
   rw [e] at this; obtain rfl:=ad this; exact h0 o rfl
  have n2 : ∀ y,g a≠some (.cj y):=λy z=>by
   obtain ⟨o,ho⟩:=I.live a _ z
   have:=(aW.az a o).mp (Gh.sA z ho)
   rw [e] at this; obtain rfl:=ad this; exact h0 o rfl
  rw [Gh.se n1 n2,e]
  induction x<;>first|rfl|exact absurd rfl h1|exact absurd rfl (h2 _)
 exact ⟨λa o e=>key e (by simp) (by simp) (by simp),λa i e=>key e (by simp) (by simp) (by simp)⟩
set_option tactic.hygienic true in
theorem vc (I:ai V F m C g s) (aW:(g.bE s.heap).Step bl):g.Step (g.eF bl):=by
 have L:=vb I aW
 refine ⟨⟨λa o e=>L.aB a o (aW.aB a o (Gh.sC.mpr e)),λa i e=>L.cell a i (aW.cell a i (Gh.mI.mpr e))⟩,λa o=>⟨λe=>?_,λe=>?_⟩⟩
 ·rw [Gh.se (by rw [e]; simp) (by rw [e]; simp),(aW.az a o).mp (Gh.mJ e)]
 ·unfold Gh.eF at e
  split at e
  ·cases e
  ·cases e
  ·rename_i n1 n2
   have e2:bl a=some (.az o):=by
    split at e
    ·exact aq e
    ·exact aq e
    ·exact e
   have:=(aW.az a o).mpr e2
   unfold Gh.bE at this
   induction q:g a with
   |none=>rw [q] at this; exact this
   |some k=>rw [q] at this; induction k<;>first|exact this|exact absurd q n1|exact absurd q (n2 _)
theorem ai.leave (I:ai V F m C g s) (aW:(g.bE s.heap).Step bl) (aP:ai V vG m₁ mM bl aM):ai V F m mM (g.eF bl) aM:=by
 have L:=vb I aW
 have S:=vc I aW
 have bR : ∀ {a x},g.eF bl a=some x->x≠.locals->(∀ y,x≠.cj y)->bl a=some x:=λ{a x} e h1 h2=>by
  unfold Gh.eF at e
  split at e
  ·obtain rfl:=ad e; exact absurd rfl h1
  ·obtain rfl:=ad e; exact absurd rfl (h2 _)
  ·split at e
   ·exact aq e
   ·exact aq e
   ·exact e
 have loc : ∀ {a o},g a=some .locals->s.heap.get? a=some o->∃ sl,aM.heap.get? a=some {o with slots:=sl}:=λ{a o} e ho=>by
  obtain ⟨sl,h,_⟩:=aP.az a o ((aW.az a o).mp (Gh.pZ e ho)); exact ⟨sl,h⟩
 have Dv : ∀ {a o x},g a=some (.cj x)->s.heap.get? a=some o->∃ sl,aM.heap.get? a=some {o with slots:=sl}:=λ{a o x} e ho=>by
  obtain ⟨sl,h,_⟩:=aP.az a o ((aW.az a o).mp (Gh.sA e ho)); exact ⟨sl,h⟩
 refine ⟨aP.keep,λa x e=>?_,λa x e=>?_,λa o e=>aP.aB a o (bR e (by simp) (by simp)),λa o e=>aP.az a o (bR e (by simp) (by simp)),λi c e=>?_,λa b i e e'=>aP.uniq a b i (bR e (by simp) (by simp)) (bR e' (by simp) (by simp)),
  λa i e=>aP.dC a i (bR e (by simp) (by simp)),?_,aP.gens,aP.os⟩
 ·induction x with
  |locals=>
   unfold Gh.eF at e
   split at e
   ·exact I.new a _ ‹_›
   ·exact I.new a _ ‹_›
   ·split at e<;>first|(exact aq e; done)|exact aP.new a _ e
  |cj y=>
   unfold Gh.eF at e
   split at e
   ·exact I.new a _ ‹_›
   ·exact I.new a _ ‹_›
   ·split at e<;>first|(exact aq e; done)|exact aP.new a _ e
  |_=>exact aP.new a _ (bR e (by simp) (by simp))
 ·have old : ∀ y,g a=some y->∃ o,aM.heap.get? a=some o:=λy hy=>by
   obtain ⟨o,ho⟩:=I.live a y hy
   induction y with
   |locals=>obtain ⟨sl,h⟩:=loc hy ho; exact ⟨_,h⟩
   |cj z=>obtain ⟨sl,h⟩:=Dv hy ho; exact ⟨_,h⟩
   |aB o'=>exact aP.live a _ (aW.aB a o' (Gh.sC.mpr hy))
   |cell i=>exact aP.live a _ (aW.cell a i (Gh.mI.mpr hy))
   |az o'=>exact aP.live a _ ((aW.az a o').mp (Gh.mJ hy))
  unfold Gh.eF at e
  split at e
  ·exact old _ ‹_›
  ·exact old _ ‹_›
  ·split at e<;>first|(exact aq e; done)|exact aP.live a _ e
 ·obtain ⟨a,o,h1,h2,h3⟩:=aP.cell i c e
  exact ⟨a,o,L.cell a i h1,h2,h3.mono L⟩
 ·have fr:=I.fr
  refine ⟨fr.len,fr.above,λe he=>?_,Gh.SE fr.here,?_,λy hy=>?_,λx n d h1 h2 h3=>?_⟩
  ·obtain ⟨k,L',q,r⟩:=fr.out e he
   refine ⟨k,L',q,?_⟩
   rcases r with r|⟨o,es,n,r,z⟩
   ·exact .inl r
   ·exact .inr ⟨o,es,n,(S.az _ _).mp r,z⟩
  ·obtain ⟨M,⟨o,es,ep,ho,hd,hr⟩,b⟩:=fr.loc
   obtain ⟨sl,h⟩:=loc fr.here ho
   exact ⟨M,⟨_,es,ep,h,hd,hr⟩,λx n d h1 h2 h3=>(b x n d h1 h2 h3).imp λv q=>⟨q.1,q.2.mono S.toLe⟩⟩
  ·obtain ⟨c,v,h1,h2,⟨o,ho,hd⟩,h4⟩:=fr.cell y hy
   obtain ⟨sl,h⟩:=Dv h2 ho
   exact ⟨c,v,h1,Gh.SD h2,⟨_,h,hd⟩,λn d e1 e2=>(h4 n d e1 e2).imp λv q=>⟨q.1,q.2.mono S.toLe⟩⟩
  ·obtain ⟨c,o,v,h4,h5,h6,h7⟩:=fr.free x n d h1 h2 h3
   exact ⟨c,o,v,h4,(S.az _ _).mp h5,h6,h7.mono S.toLe⟩
end
theorem j4 : ∀ {l:List (Str × α)} {x:Str} {a:α},(l.map (·.1)).Nodup->(x,a)∈l->l.lookup x=some a:=λ{l}=>by
 induction l with
 |nil=>
  intro _ _ _ h
  cases h
 |cons e r ih=>
  intro x a hn h
  rw [map_cons,nodup_cons] at hn
  rw [lookup_cons]
  rcases bi h with rfl|h
  ·simp
  ·have:x≠e.1:=λz=>hn.1 (z ▸ mem_map_of_mem (f:=Prod.fst) h)
   rw [beq_false_of_ne this]
   exact ih hn.2 h
theorem n8 {l:List (Str × α)} {a:α}:(x,a)∈l->∃ b,l.lookup x=some b:=by
 induction l with
 |nil=>intro h; exact absurd h not_mem_nil
 |cons e r ih=>
  intro h
  rw [lookup_cons]
  induction q:x==e.1 with
  |true=>exact ⟨_,rfl⟩
  |false=>exact (bi h).elim (λz=>by rw [<-z,beq_self_eq_true] at q; exact fJ q) ih
theorem mA {a:α} {l l':List (Str × α)}:l.lookup x=some a->(l++l').lookup x=some a:=by
 induction l with
 |nil=>intro h; exact aq h
 |cons e r ih=>
  rw [cons_append,lookup_cons,lookup_cons]
  induction x==e.1 with
  |true=>exact id
  |false=>exact ih
theorem pP : ∀ {l l':List (Str × α)} {x:Str},l.lookup x=none->(l++l').lookup x=l'.lookup x:=λ{l}=>by
 induction l with
 |nil=>
  intro l' x h
  exact rfl
 |cons e r ih=>
  intro l' x h
  rw [cons_append,lookup_cons]
  rw [lookup_cons] at h
  induction q:x==e.1 with
  |true=>rw [q] at h; exact lA h
  |false=>rw [q] at h; exact ih h
theorem QC {p:Str->Bool} {a:α} : ∀ {l:List (Str × α)} {x:Str},(l.filter λe=>p e.1).lookup x=some a->l.lookup x=some a/\p x=true:=λ{l}=>by
 induction l with
 |nil=>
  intro x h
  exact aq h
 |cons e r ih=>
  intro x h
  rw [filter_cons] at h
  rw [lookup_cons]
  induction q:x==e.1 with
  |true=>
   have hx:=im q
   induction hp:p e.1 with
   |true=>
    rw [hp,if_pos rfl,lookup_cons,q] at h
    exact ⟨h,by rw [hx]; exact hp⟩
   |false=>
    rw [hp,if_neg (by decide)] at h
    have:=(ih h).2
    rw [hx,hp] at this; exact bA this
  |false=>
   induction hp:p e.1 with
   |true=>
    rw [hp,if_pos rfl,lookup_cons,q] at h
    exact ih h
   |false=>
    rw [hp,if_neg (by decide)] at h
    exact ih h
theorem ng : ∀ (names:List (Str × NameKind)) (n:Nat) (acc:List (Str × Addr)),cellsFrom n names acc=cellsFrom n names []++acc:=λnames=>by
 induction names with
 |nil=>
  intro _ _
  exact rfl
 |cons p0 r ih=>
  obtain ⟨x,k⟩:=p0
  intro n acc
  unfold cellsFrom
  split
  ·rw [ih (n+1) ((x,n)::acc),ih (n+1) [(x,n)]]; simp
  ·exact ih n acc
theorem BY : ∀ {names:List (Str × NameKind)} {n:Nat} {x:Str} {c:Addr},(x,c)∈cellsFrom n names []->(x,NameKind.cell)∈names:=λ{names}=>by
 induction names with
 |nil=>
  intro _ _ _ h
  cases h
 |cons p0 r ih=>
  obtain ⟨y,k⟩:=p0
  intro n x c h
  unfold cellsFrom at h
  split at h
  ·rename_i hk
   rw [ng] at h
   rcases mem_append.mp h with h|h
   ·exact .tail _ (ih h)
   ·rw [mem_singleton] at h; cases h
    rw [eq_of_beq hk]; exact .head _
  ·exact .tail _ (ih h)
theorem kC : ∀ {names:List (Str × NameKind)} {n:Nat} {x:Str},(x,NameKind.cell)∈names->∃ c,(x,c)∈cellsFrom n names []
 |(y,k)::r,n,x,h=>by
  unfold cellsFrom
  rcases bi h with e|h
  ·cases e
   rw [if_pos (beq_self_eq_true _),ng]
   exact ⟨n,mem_append_right _ (.head _)⟩
  ·split
   ·rw [ng]
    obtain ⟨c,hc⟩:=kC (n:=n+1) h
    exact ⟨c,mem_append_left _ hc⟩
   ·exact kC h
theorem Fu : ∀ {l:List (Str × α)} {x:Str},(∀ a,(x,a) ∉ l)->l.lookup x=none:=λ{l}=>by
 induction l with
 |nil=>
  intro _ _
  exact rfl
 |cons e r ih=>
  intro x h
  rw [lookup_cons]
  induction q:x==e.1 with
  |true=>exact absurd (by rw [eq_of_beq q]; exact .head _) (h e.2)
  |false=>exact ih λa z=>h a (.tail _ z)
noncomputable def eT (cells:List (Str × Addr)):List (Str × NameKind)->List (Str × Addr)->List (Str × Addr)
 |[],acc=>acc
 |(x,k)::r,acc=>if k==.free then eT cells r ((x,(cells.lookup x).getD 0)::acc) else eT cells r acc
variable {scope:Scope}
theorem Kb (h : ∀ x,(x,NameKind.free)∈scope.names->(env.cells.lookup x).isSome=true):closureFor scope env=pure (eT env.cells scope.names []):=by
 have key : ∀ (names:List (Str × NameKind)) (acc:List (Str × Addr)),(∀ x,(x,NameKind.free)∈names->(env.cells.lookup x).isSome=true)->
   (forIn names acc λ(p:Str × NameKind) (r:List (Str × Addr))=>(if (p.2==.free)=true then (do let a <-cellOf env p.1; pure (ForInStep.yield ((p.1,a)::r))) else pure (ForInStep.yield r):Sem (ForInStep (List (Str × Addr)))))=pure (eT env.cells names acc):=by
  intro names
  induction names with
  |nil=>intro acc _; rfl
  |cons p r ih=>
   intro acc hn
   obtain ⟨x,k⟩:=p
   rw [forIn_cons]
   unfold eT
   dsimp only
   induction hk:(k==NameKind.free) with
   |true=>
    rw [if_pos rfl,if_pos rfl]
    have hx:=hn x (by rw [eq_of_beq hk]; exact .head _)
    obtain ⟨c,hc⟩:=isSome_iff_exists.mp hx
    have:cellOf env x=pure c:=by unfold cellOf; rw [hc]
    rw [this,hc]
    simp only [pure_bind,Option.getD_some]
    exact ih _ λy hy=>hn y (.tail _ hy)
   |false=>
    rw [if_neg (by decide),if_neg (by decide)]
    simp only [pure_bind]
    exact ih _ λy hy=>hn y (.tail _ hy)
 have e:=key scope.names [] h
 unfold closureFor
 simp only [bind_pure_comp] at e ⊢
 first|(rw [e]; rfl)|(simp only [e]; rfl)
variable {cells:List (Str × Addr)}
theorem Ka : ∀ {names:List (Str × NameKind)} {acc:List (Str × Addr)} {x:Str} {a:Addr},(x,a)∈eT cells names acc->(x,a)∈acc\/a=(cells.lookup x).getD 0:=λ{names}=>by
 induction names with
 |nil=>
  intro acc x a h
  exact .inl h
 |cons p0 r ih=>
  obtain ⟨y,k⟩:=p0
  intro acc x a h
  unfold eT at h
  split at h
  ·rcases ih h with h|h
   ·rcases bi h with h|h
    ·cases h; exact .inr rfl
    ·exact .inl h
   ·exact .inr h
  ·exact ih h
theorem J8 : ∀ {names:List (Str × NameKind)} {acc:List (Str × Addr)} {p:Str × Addr},p∈acc->p∈eT cells names acc:=λ{names}=>by
 induction names with
 |nil=>
  intro acc p h
  exact h
 |cons p0 r ih=>
  obtain ⟨y,k⟩:=p0
  intro acc p h
  unfold eT
  split
  ·exact ih (.tail _ h)
  ·exact ih h
theorem wU {cells:List (Str × Addr)} : ∀ {names:List (Str × NameKind)} {acc:List (Str × Addr)} {x:Str},(x,NameKind.free)∈names->∃ a,(x,a)∈eT cells names acc
 |(y,k)::r,acc,x,h=>by
  unfold eT
  rcases bi h with e|h
  ·cases e
   rw [if_pos (beq_self_eq_true _)]
   exact ⟨_,J8 (.head _)⟩
  ·split
   ·exact wU h
   ·exact wU h
variable {names:List (Str × NameKind)}
theorem J9 {c:Addr} (h:(x,NameKind.free)∈names) (hc:cells.lookup x=some c):(eT cells names []).lookup x=some c:=by
 obtain ⟨a,ha⟩:=wU (cells:=cells) (acc:=[]) h
 obtain ⟨b,hb⟩:=n8 ha
 rw [hb]
 rcases Ka (mem_of_lookup hb) with z|z
 ·cases z
 ·rw [z,hc]; rfl
section
variable {M:Model} {E:Value->Shared->Prop}
theorem Rm {globals:Addr} {cl:List (Str × Addr)} {qual:Str} {outer:Env} {Q:Env->Shared->Prop}
  (h:Q (newEnv scope s.heap.objs.size globals (cellsFrom (s.heap.objs.size+1) scope.names cl) qual none .none (some outer) builtinsNs) {s with heap:=pushCells (s.heap.push {cls:=.type "dict",data:=.dict #[]}) scope.names}) :
  wpAny M A (newFunctionEnv scope globals cl [] qual none .none (some outer)) Q E s:=by
 simp only [newFunctionEnv,isSome_some,if_true]
 refine ce (wpAny_alloc ?_)
 refine ce (wpAny_layCells _ (λname kind cells=>by induction OF:kind==NameKind.cell<;>simp [OF]) _ _ _ _ ?_)
 rw [show ({s with heap:=s.heap.push {cls:=.type "dict",data:=.dict #[]}}:Shared).heap.objs.size=s.heap.objs.size+1 from Heap.size_push ..]
 exact ce (cr (cr h))
end
noncomputable def Kl (sc:Scope) (cl:List (Str × Addr)) (L:Addr) (env:Env):Env:={newEnv sc L env.globals (cellsFrom (L+1) sc.names cl) env.qual none .none (some env) builtinsNs with scope:=relabel sc env}
noncomputable def aD.comp (F:aD) (sc:Scope) (L:Addr):aD where
 env:=Kl sc (eT F.env.cells sc.names []) L F.env
 names:=sc.names
 slots:=F.slots.filter λp=>!own sc.names p.1
 base:=F.base
 stack:=F.stack
noncomputable def bw (L:Addr) (names:List (Str × NameKind)):Addr->Option GO:=λa=>if a=L then some .locals else ((cellsFrom (L+1) names []).find? λp=>p.2==a).map λp=>.cj p.1
theorem QF (env:Env) : ∀ (names:List (Str × NameKind)) (x:Str),(names.map λ(n,k)=>if (k==NameKind.free&&env.scope.kind==.function&&env.kindOf n==some .cell) then (n,NameKind.cell) else (n,k)).lookup x =
  (names.lookup x).map λk=>if (k==NameKind.free&&env.scope.kind==.function&&env.kindOf x==some .cell) then NameKind.cell else k:=λnames=>by
 induction names with
 |nil=>
  intro _
  exact rfl
 |cons p0 r ih=>
  obtain ⟨n,k⟩:=p0
  intro x
  have ih:=ih x
  show List.lookup x ((if (k==NameKind.free&&env.scope.kind==.function&&env.kindOf n==some .cell)=true then (n,NameKind.cell) else (n,k))::_)=_
  by_cases hc:(k==NameKind.free&&env.scope.kind==.function&&env.kindOf n==some .cell)=true
  ·rw [if_pos hc,lookup_cons,lookup_cons]
   induction q:x==n with
   |true=>
    have e:=im q
    subst e
    show some NameKind.cell=some (if _ then _ else _)
    rw [if_pos hc]
   |false=>exact ih
  ·rw [if_neg hc,lookup_cons,lookup_cons]
   induction q:x==n with
   |true=>
    have e:=im q
    subst e
    show some k=some (if _ then _ else _)
    rw [if_neg hc]
   |false=>exact ih
structure iz (c:aN) (sc:Scope):Prop where
 fn:sc.kind=.function
 nodup:(sc.names.map (·.1)).Nodup
 free : ∀ x,(x,NameKind.free)∈sc.names->c.names.lookup x=some .cell\/c.names.lookup x=some .free
 debug:sc.names.lookup ("__debug__":Str)=none
 m8:sc.names.lookup ("__classdict__":Str)=none
variable {sc:Scope}
theorem wZ {c:aN} (h:nq c sc=true):iz c sc:=by
 unfold nq at h
 simp only [and_eq_true,isNone_iff_eq_none,decide_eq_true_eq] at h
 obtain ⟨⟨⟨⟨h1,h2⟩,h3⟩,h4⟩,h5⟩:=h
 refine ⟨im h1,h2,λx hx=>?_,h4,h5⟩
 have:=all_eq_true.mp h3 _ hx
 simp only [or_eq_true,bne_self_eq_false,false_eq_true,false_or] at this
 rcases this with h|h
 ·exact .inl (im h)
 ·exact .inr (im h)
theorem Ga (h:own names x=false):names.lookup x≠some .local/\names.lookup x≠some .cell:=by
 unfold own at h
 refine ⟨λz=>?_,λz=>?_⟩<;>(rw [z] at h; exact fJ h)
section
variable {c:aN}
theorem o3 (h:(F.comp sc L).slots.lookup x=some n):F.slots.lookup x=some n/\own sc.names x=false:=by
 have:=QC (p:=λx=>!own sc.names x) h
 exact ⟨this.1,by simpa using this.2⟩
theorem Ko {cl:List (Str × Addr)} (hn:(sc.names.map (·.1)).Nodup) (h:(x,NameKind.free)∈sc.names):(cellsFrom (L+1) sc.names cl).lookup x=cl.lookup x:=by
 rw [ng]
 refine pP (Fu λa z=>?_)
 have h1:=j4 hn (BY z)
 have h2:=j4 hn h
 rw [h1] at h2; cases h2
theorem xC (K:F.Ok) (hc:F.ctx c) (ok:iz c sc) (h:(x,NameKind.free)∈sc.names) : ∃ a,F.env.cells.lookup x=some a/\(F.comp sc L).env.cells.lookup x=some a:=by
 have hx:=ok.free x h
 rw [hc.1] at hx
 have:(F.env.cells.lookup x).isSome=true:=by
  rcases hx with hx|hx
  ·exact K.cells x _ hx (.inl rfl)
  ·exact K.cells x _ hx (.inr rfl)
 obtain ⟨a,ha⟩:=isSome_iff_exists.mp this
 refine ⟨a,ha,?_⟩
 show (cellsFrom (L+1) sc.names (eT F.env.cells sc.names [])).lookup x=some a
 rw [Ko ok.nodup h]
 exact J9 h ha
theorem Kv (K:F.Ok) (hc:F.ctx c) (ok:iz c sc):(F.comp sc L).Ok:=by
 refine ⟨ok.fn,K.glob,K.blt,λx k h=>?_,λx y n h1 h2=>?_,λx n h=>K.bound x n (o3 h).1,K.frame,λx k h hk=>?_,ok.debug,ok.m8⟩
 ·have e:(F.comp sc L).env.kindOf x=(sc.names.lookup x).map λk=>if (k==NameKind.free&&F.env.scope.kind==.function&&F.env.kindOf x==some .cell) then NameKind.cell else k:=QF F.env sc.names x
  have h:sc.names.lookup x=some k:=h
  rw [e,h]
  induction k using NameKind.casesOn<;>first|rfl|skip
  show AE .free (some (if _ then NameKind.cell else NameKind.free))
  split
  ·exact .inr rfl
  ·exact .inl rfl
 ·exact K.inj x y n (o3 h1).1 (o3 h2).1
 ·have h:sc.names.lookup x=some k:=h
  have hm:=mem_of_lookup h
  rcases hk with rfl|rfl
  ·obtain ⟨a,ha⟩:=kC (n:=L+1) hm
   obtain ⟨b,hb⟩:=n8 ha
   show ((cellsFrom (L+1) sc.names _).lookup x).isSome=true
   rw [ng,mA hb]; rfl
  ·obtain ⟨a,_,ha⟩:=xC (L:=L) K hc ok hm
   rw [ha]; rfl
theorem Co (K:F.Ok) (hc:F.ctx c) (ok:iz c sc):closureFor sc F.env=pure (eT F.env.cells sc.names []):=
 Kb λx h=>by
  obtain ⟨a,ha,_⟩:=xC (L:=0) K hc ok h
  rw [ha]; rfl
theorem DQ (h:Heap) (o:Obj) (names:List (Str × NameKind)) (ho:o.isFreed=false) (e:au.heap=pushCells (h.push o) names) (hs:s.heap=h):iZ s au (bw h.objs.size names):=by
 subst hs
 have ok:=cellsFrom_ok names (s.heap.push o) (s.heap.objs.size+1) [] ⟨λu' u' z=>(nomatch z),List.Pairwise.nil⟩ (by rw [Heap.size_push]; exact le_refl _)
 rw [Heap.size_push] at ok
 have bR : ∀ {a x},bw s.heap.objs.size names a=some x->(a=s.heap.objs.size/\x=.locals)\/∃ y,(y,a)∈cellsFrom (s.heap.objs.size+1) names []/\x=.cj y:=λ{a x} h=>by
  unfold bw at h
  split at h
  ·rename_i q; obtain rfl:=ad h; exact .inl ⟨q,rfl⟩
  ·obtain ⟨p,hp,hx⟩:=cq h
   have h1:=mem_of_find?_eq_some hp
   have h2:=find?_some hp
   obtain ⟨y,b⟩:=p
   have h2:b=a:=im h2
   subst h2
   exact .inr ⟨y,h1,hx.symm⟩
 refine ⟨λa x h=>?_,λa x h=>?_,λa x h=>?_⟩
 ·rcases bR h with ⟨rfl,_⟩|⟨y,hy,_⟩
  ·exact f8 (le_refl _)
  ·exact f8 (Nat.le_of_succ_le (ok.empty y a hy).2)
 ·rcases bR h with ⟨rfl,_⟩|⟨y,hy,_⟩
  ·rw [e]; exact ⟨o,pushCells_keeps _ _ _ _ (lw _ ho)⟩
  ·rw [e]; obtain ⟨o',h1,_⟩:=(ok.empty y a hy).1; exact ⟨o',h1⟩
 ·rcases bR h with ⟨_,rfl⟩|⟨y,_,rfl⟩
  ·exact .inl rfl
  ·exact .inr ⟨y,rfl⟩
theorem Rn {o:Obj} (hx:(x,a)∈cellsFrom (h.objs.size+1) names []):bw h.objs.size names a=some (.cj x)/\(pushCells (h.push o) names).IsCell a none:=by
 have ok:=cellsFrom_ok names (h.push o) (h.objs.size+1) [] ⟨λu' u' z=>(nomatch z),List.Pairwise.nil⟩ (by rw [Heap.size_push]; exact le_refl _)
 rw [Heap.size_push] at ok
 obtain ⟨h1,h2⟩:=ok.empty x a hx
 refine ⟨?_,h1⟩
 unfold bw
 rw [if_neg (λz=>by rw [z] at h2; exact absurd h2 (Nat.not_succ_le_self _))]
 induction hf:(cellsFrom (h.objs.size+1) names []).find? λp=>p.2==a with
 |none=>
  have:=List.find?_eq_none.mp hf _ hx
  simp at this
 |some p=>
  have h3:=mem_of_find?_eq_some hf
  have h4:=find?_some hf
  obtain ⟨y,b⟩:=p
  have h4:b=a:=im h4
  subst h4
  rw [name_of_addr ok.apart h3 hx]; rfl
theorem Kr (I:ai V F m C g s) (K:F.Ok) (hc:F.ctx c) (ok:iz c sc) :
  ai V (F.comp sc s.heap.objs.size) m C (Gh.over (bw s.heap.objs.size sc.names) (g.bE s.heap)) {s with heap:=pushCells (s.heap.push {cls:=.type "dict",data:=.dict #[]}) sc.names}:=by
 have hN:iZ s {s with heap:=pushCells (s.heap.push {cls:=.type "dict",data:=.dict #[]}) sc.names} (bw s.heap.objs.size sc.names):=DQ s.heap _ sc.names rfl rfl rfl
 have hk : ∀ b o,s.heap.get? b=some o->(pushCells (s.heap.push {cls:=.type "dict",data:=.dict #[]}) sc.names).get? b=some o:=λb o e=>pushCells_keeps _ _ b o (dL _ e)
 have aW:=oq I hN
 have L1:g.Le (Gh.over (bw s.heap.objs.size sc.names) (g.bE s.heap)):=Gh.uS.trans aW.toLe
 have fr:=I.fr
 refine I.enter hN hk rfl rfl ⟨fr.len,?_,λe he=>?_,?_,⟨_,(Heap.Ns.new s.heap (.type "dict")).keeps (pushCells_keeps _ _),λx n d h1 h2 h3=>?_⟩,λx hx=>?_,λx n d h1 h2 h3=>?_⟩
 ·obtain ⟨o,ho⟩:=I.live _ _ fr.here
  exact an fr.above (ln (Heap.lt_size ho))
 ·obtain ⟨k,L',q,r⟩:=fr.out e he
  refine ⟨k,L',q,.inr ?_⟩
  rcases r with rfl|⟨o,es,n,r,z⟩
  ·obtain ⟨M,⟨o,es,ep,ho,hd,_⟩,_⟩:=fr.loc
   exact ⟨o,es,ep,(aW.az _ _).mp (Gh.pZ fr.here ho),hd⟩
  ·exact ⟨o,es,n,(aW.az _ _).mp (Gh.mJ r),z⟩
 ·show Gh.over _ _ s.heap.objs.size=_
  unfold Gh.over bw
  rw [if_pos rfl]
 ·have h1:sc.names.lookup x=some .local:=h1
  exact absurd h1 (Ga (o3 h2).2).1
 ·have hx:sc.names.lookup x=some .cell:=hx
  have hm:=mem_of_lookup hx
  obtain ⟨a,ha⟩:=kC (n:=s.heap.objs.size+1) hm
  obtain ⟨b,hb⟩:=n8 ha
  obtain ⟨h1,h2⟩:=Rn (o:={cls:=.type "dict",data:=.dict #[]}) (mem_of_lookup hb)
  refine ⟨b,none,?_,?_,h2,λn d e1 e2=>?_⟩
  ·show (cellsFrom (s.heap.objs.size+1) sc.names _).lookup x=some b
   rw [ng,mA hb]
  ·unfold Gh.over; rw [h1]
  ·exact absurd hx (Ga (o3 e1).2).2
 ·have h1:sc.names.lookup x=some .free:=h1
  obtain ⟨h2,_⟩:=o3 h2
  have hm:=mem_of_lookup h1
  obtain ⟨a,ha,t5⟩:=xC (L:=s.heap.objs.size) K hc ok hm
  have hx:=ok.free x hm
  rw [hc.1] at hx
  rcases hx with hx|hx
  ·obtain ⟨c',v,e1,e2,⟨o,ho,hd⟩,e4⟩:=fr.cell x hx
   rw [ha] at e1; obtain rfl:=ad e1
   obtain ⟨v',rfl,r⟩:=e4 n d h2 h3
   exact ⟨a,o,v',t5,(aW.az _ _).mp (Gh.sA e2 ho),hd,r.mono L1⟩
  ·obtain ⟨c',o,v,e1,e2,e3,r⟩:=fr.free x n d hx h2 h3
   rw [ha] at e1; obtain rfl:=ad e1
   exact ⟨a,o,v,t5,(aW.az _ _).mp (Gh.mJ e2),e3,r.mono L1⟩
end
noncomputable def lL (M:Model) (A:Around) (elt:Expr) (gens:List Comprehension) (scope:Scope) (pos:Pos) (depth:Nat) (acc:Value) (env:Env):Tr Unit:=λQ E s=>match gens[depth+1]? with
 |some g=>wpAny M A (eval g.iter env) (λx au=>g.is_async=0/\foldedSetIterable g.iter env x=pure x/\wpAny M A (pyIter x) (λit aM=>
   codeAny M A (.compStart (.ListComp elt gens scope pos) (depth+1) it acc env) (λr s'=>match r with|.ok _=>Q () s'|.error e=>cameBackBy M A env E e s') aM) E au) E s
 |none=>wpAny M A (eval elt env) (λx au=>wpAny M A (call (.builtin "list.append") [acc,x]) (λu' aM=>Q () aM) E au) E s
noncomputable def sI (ifs:List Expr) (env:Env):Sem Bool:=forIn ifs true λc r=>if r=true then do let ok <-isTrue c env (eval c env); pure (ForInStep.yield ok) else pure (ForInStep.yield r)
variable {elt target iter:Expr} {gens:List Comprehension} {depth:Nat} {ifs:List Expr}
section
variable {E:Value->Shared->Prop}
theorem Kh {it acc:Value} (hg:gens[depth]?=some ⟨target,iter,ifs,0⟩) (J:Nat->Shared->Prop)
  (turn : ∀ n s,J n s->wpAny (model prog w) A (pyNext it) (λr au=>match r with
   |none=>R (.ok .next) au
   |some v=>wpAny (model prog w) A (letOwnedTupleGo target it v) (λu' Hi=>wpAny (model prog w) A (assign target env v) (λu' aM=>wpAny (model prog w) A (sI ifs env) (λok cT=>
     if ok=true then lL (model prog w) A elt gens scope pos depth acc env (λu' iV => ∃ m,m<n/\J m iV) (notedBy (model prog w) A env λe s'=>R (.error e) s') cT else ∃ m,m<n/\J m cT)
     (notedBy (model prog w) A env λe s'=>R (.error e) s') aM) (notedBy (model prog w) A env λe s'=>R (.error e) s') Hi) (notedBy (model prog w) A env λe s'=>R (.error e) s') au) (notedBy (model prog w) A env λe s'=>R (.error e) s') s)
  (n:Nat) (h:J n s):codeAny (model prog w) A (.compLoop (.ListComp elt gens scope pos) depth it acc env) R s:=by
 refine codeAny_loop rfl J (λn s hI=>?_) n h
 show wpAny _ A ((compTurn (.ListComp elt gens scope pos) depth it acc env).onRaise (λx=>do noteFrame x env; theTreesLotGoes x)) _ _ s
 refine wpAny_noted ?_
 unfold compTurn
 dsimp only
 rw [hg]
 dsimp only
 refine ce (wpAny_standAt ?_)
 rw [if_neg (by decide)]
 refine ce (gl (turn n s hI) (λr au et=>?_) λu' u' h'=>h')
 induction r with
 |none=>exact cr et
 |some v=>
  refine ce (gl et (λu' Hi PB=>?_) λu' u' h'=>h')
  refine ce (gl PB (λu' aM jW=>?_) λu' u' h'=>h')
  refine ce (gl jW (λok cT g8=>?_) λu' u' h'=>h')
  induction ok with
  |false=>
   rw [if_neg (by decide)] at g8
   rw [if_neg (by decide)]
   exact cr ⟨rfl,g8⟩
  |true=>
   rw [if_pos rfl] at g8
   rw [if_pos rfl]
   unfold lL at g8
   split at g8
   ·rename_i g' nI
    rw [nI]
    dsimp only
    refine ce (gl g8 (λx iV nV=>?_) λu' u' h'=>h')
    obtain ⟨ha,hf,nV⟩:=nV
    refine ce (wpAny_standAt ?_)
    rw [ha,if_neg (by decide),hf]
    refine ce (cr ?_)
    rw [if_neg (by decide)]
    refine ce (ls (gl nV (λfW Hj yF=>?_) λu' u' h'=>h'))
    refine ce (wpAny_runOwn (codeAny_mono yF λr s' hr=>?_))
    induction r using Except.casesOn with
    |ok f=>exact cr ⟨rfl,hr⟩
    |error e=>exact hr
   ·rename_i nI
    rw [nI]
    dsimp only
    exact ce (ce (gl g8 (λx iV nV=>ce (gl nV (λu' Hj yF=>cr (cr ⟨rfl,yF⟩)) λu' u' h'=>h')) λu' u' h'=>h'))
theorem Ck {it acc:Value} (hg:gens[depth]?=some ⟨target,iter,ifs,0⟩)
  (h0:codeAny (model prog w) A (.compLoop (.ListComp elt gens scope pos) depth it acc env) R s)
  (h:wpAny (model prog w) A (pyIter it) (λfW s'=>fW=it/\s'=s) (notedBy (model prog w) A env λx s'=>R (.error x) s') s) :
  codeAny (model prog w) A (.compStart (.ListComp elt gens scope pos) depth it acc env) R s:=by
 have hc:(clausesOf (.ListComp elt gens scope pos))[depth]?=some ⟨target,iter,ifs,0⟩:=hg
 refine codeAny_of_tree ?_
 show wpAny _ _ ((compStart (.ListComp elt gens scope pos) depth it acc env).onRaise (λx=>do noteFrame x env; standAt theWindowsPlace)) _ _ s
 refine wpAny_notedAt ?_
 unfold compStart
 rw [hc]
 show wpAny _ _ (ask >>= _) _ _ s
 refine ce (wpAny_askSetting (wpAny_ite ?_))
 split
 ·first
   |exact ce (cr (cr (And.intro rfl h0)))
   |exact cr (And.intro rfl h0)
 ·have fin : ∀ fW s',(fW=it/\s'=s)->wpAny (model prog w) A (again (.compLoop (.ListComp elt gens scope pos) depth fW acc env)) (λfin s'=>match fin with|.done f=>R (.ok f) s'|.again c'=>c'.quiet=true/\codeAny (model prog w) A c' R s') (notedBy (model prog w) A env λx s'=>R (.error x) s') s':=by
   rintro fW s' ⟨rfl,rfl⟩
   exact cr (And.intro rfl h0)
  refine ce (wpAny_rule ?_)
  show wpAny _ _ (standAt iter.pos >>= _) _ _ s
  exact ce (wpAny_standAt (ce (gl h (λfW s' h'=>fin fW s' h') λu' u' x=>x)))
end
theorem GH (I:ai V F m C g s) {k:Bool} {y:D} {items:List D} {o:Obj} (hg:g it=some (.az o)) (hi:cU V g k items i y o) {E:Value->Shared->Prop} (q:Q (.ref it) s):wpAny V.M A (pyIter (.ref it)) Q E s:=by
 have ho:=I.mD hg hi.vp
 induction y using D.casesOn<;>first|(exact hi.elim)|skip
 ·obtain ⟨t,hz,hc,hd⟩:=hi
  exact W.KBw.pyIter_self (i:=i) (b:=_) ⟨o,ho,hc,hd⟩ q
 ·obtain ⟨l,r,hc,hd⟩:=hi
  exact wpAny_pyIter_tupleiter ⟨o,ho,hc,hd⟩ q
 ·obtain ⟨l,r,hc,hd⟩:=hi
  exact wpAny_pyIter_listiter ⟨o,ho,hc,hd⟩ q
 ·have hi:o=_:=hi
  subst hi
  exact wpAny_pyIter_rangeiter ho q
 ·obtain ⟨l,r,⟨_,hc,hd⟩|⟨_,hc,hd⟩⟩:=hi
  ·exact wpAny_pyIter_listiter ⟨o,ho,hc,hd⟩ q
  ·exact wpAny_pyIter_keyiter (n:=items.length) (ep:=items.length) ⟨o,ho,hc,hd⟩ q
 ·obtain ⟨d,r,hc,hd⟩:=hi
  exact wpAny_pyIter_valiter (n:=items.length) (ep:=items.length) ⟨o,ho,hc,hd⟩ q
theorem cU.kind {k:Bool} {y:D} {items:List D} {o:Obj} (hi:cU V g k items i y o) : ∃ T vs,o.cls=.type T/\o.data=.fields vs/\
  (["enumerate","zip","dict_itemiterator","dict_reverseitemiterator","odict_iterator","itertools.zip_longest","itertools.pairwise"].contains T)=false:=by
 induction y using D.casesOn<;>first|(exact hi.elim)|skip
 ·obtain ⟨t,hz,hc,hd⟩:=hi
  exact ⟨_,_,hc,hd,by decide⟩
 ·obtain ⟨l,r,hc,hd⟩:=hi
  exact ⟨_,_,hc,hd,by decide⟩
 ·obtain ⟨l,r,hc,hd⟩:=hi
  exact ⟨_,_,hc,hd,by decide⟩
 ·have hi:o=_:=hi
  subst hi
  exact ⟨_,_,rfl,rfl,by decide⟩
 ·obtain ⟨l,r,⟨_,hc,hd⟩|⟨_,hc,hd⟩⟩:=hi
  ·exact ⟨_,_,hc,hd,by decide⟩
  ·exact ⟨_,_,hc,hd,by decide⟩
 ·obtain ⟨d,r,hc,hd⟩:=hi
  exact ⟨_,_,hc,hd,by decide⟩
theorem TF (I:ai V F m C g s) {k:Bool} {y:D} {items:List D} {o:Obj} (hg:g it=some (.az o)) (hi:cU V g k items i y o) {Q:Unit->Shared->Prop} {E:Value->Shared->Prop} (q:Q () s) :
  wpAny V.M A (letOwnedTupleGo target (.ref it) v) Q E s:=by
 have ho:=I.mD hg hi.vp
 obtain ⟨T,vs,hc,hd,hT⟩:=hi.kind
 have key : ∀ a,wpAny V.M A (do
   let o <-load it
   match o.cls,o.data with
   |.type n,.fields vs=>
    if ["enumerate","zip","dict_itemiterator","dict_reverseitemiterator","odict_iterator","itertools.zip_longest","itertools.pairwise"].contains n&&vs[0]?==some (rawInt a) then
     rule "for.unpacks-the-owned-tuple"
     updateField it 0 .none
   |_,_=>pure ()) Q E s:=λa=>by
  refine ce (wpAny_load ho ?_)
  rw [hc,hd]
  dsimp only
  rw [hT,Bool.false_and,if_neg (by decide)]
  exact cr q
 unfold letOwnedTupleGo
 induction target using Expr.casesOn<;>first|exact cr q|(induction v using Value.casesOn<;>first|exact cr q|exact key _)
noncomputable def aD.ext (F:aD) (xs:List Str):aD:={F with slots:=cJ xs F.base++F.slots,base:=F.base+xs.length}
theorem An : ∀ (xs:List Str) (k b:Nat),(xs.zipIdx k).map (λp=>(p.1,b+p.2))=cJ xs (b+k)
 |[],_,_=>rfl
 |x::r,k,b=>by
  have ih:=An r (k+1) b
  have yM:=An r 1 (b+k)
  unfold cJ
  rw [zipIdx_cons,zipIdx_cons,map_cons,map_cons,ih]
  rw [show (0:Nat)+1=1 from rfl,yM]
  simp [add_assoc]
theorem vz (x:Str) (r:List Str) (b:Nat):cJ (x::r) b=(x,b)::cJ r (b+1):=by
 have:=An r 1 b
 unfold cJ
 rw [zipIdx_cons,map_cons,show (0:Nat)+1=1 from rfl,this]; rfl
theorem iq : ∀ {xs:List Str} {b:Nat} {x:Str} {n:Nat},(cJ xs b).lookup x=some n->x∈xs/\b<=n/\n<b+xs.length/\xs[n - b]?=some x:=λ{xs}=>by
 induction xs with
 |nil=>
  intro _ _ _ h
  exact aq h
 |cons y r ih=>
  intro b x n h
  rw [vz,lookup_cons] at h
  induction q:x==y with
  |true=>
   rw [q] at h
   obtain rfl:=ad h
   have e:=im q
   subst e
   exact ⟨.head _,le_refl _,by simp,by simp⟩
  |false=>
   rw [q] at h
   obtain ⟨h1,h2,h3,h4⟩:=ih h
   refine ⟨.tail _ h1,Nat.le_of_succ_le h2,by rw [length_cons,add_comm r.length,<-add_assoc]; exact h3,?_⟩
   rw [show n - b=(n - (b+1))+1 from (Nat.sub_add_cancel (sub_pos_of_lt h2)).symm]
   exact h4
variable {xs:List Str}
theorem WK : ∀ {b:Nat} {x:Str},x∈xs->∃ n,(cJ xs b).lookup x=some n:=by
 induction xs with
 |nil=>intro _ _ h; exact absurd h not_mem_nil
 |cons y r ih=>
  intro b x h
  rw [vz,lookup_cons]
  induction q:x==y with
  |true=>exact ⟨_,rfl⟩
  |false=>exact (bi h).elim (λz=>by rw [z,beq_self_eq_true] at q; exact fJ q) ih
theorem tM (hx : ∀ x∈xs,F.slots.lookup x=none):(F.ext xs).slots.lookup x=some n↔(cJ xs F.base).lookup x=some n\/F.slots.lookup x=some n:=by
 show (cJ xs F.base++F.slots).lookup x=some n↔_
 induction q:(cJ xs F.base).lookup x with
 |some k=>
  rw [mA q]
  refine ⟨λh=>.inl h,λh=>?_⟩
  rcases h with h|h
  ·exact h
  ·rw [hx x (iq q).1] at h; exact aq h
 |none=>
  rw [pP q]
  refine ⟨λh=>.inr h,λh=>?_⟩
  rcases h with h|h
  ·exact aq h
  ·exact h
theorem qI (K:F.Ok) (hx : ∀ x∈xs,F.slots.lookup x=none):(F.ext xs).Ok:=by
 refine ⟨K.fn,K.glob,K.blt,K.kinds,λx y n h1 h2=>?_,λx n h=>?_,K.frame,K.cells,K.debug,K.m8⟩
 ·rw [tM hx] at h1 h2
  rcases h1 with h1|h1<;>rcases h2 with h2|h2
  ·have e1:=(iq h1).2.2.2
   rw [(iq h2).2.2.2] at e1
   obtain rfl:=ad e1; rfl
  ·exact absurd (K.bound _ _ h2) (not_lt.mpr (iq h1).2.1)
  ·exact absurd (K.bound _ _ h1) (not_lt.mpr (iq h2).2.1)
  ·exact K.inj x y n h1 h2
 ·rw [tM hx] at h
  show n<F.base+xs.length
  rcases h with h|h
  ·exact (iq h).2.2.1
  ·exact am (K.bound _ _ h) (jp _ _)
theorem Du {c:aN} (hc:F.ctx c) (xs:List Str):(F.ext xs).ctx (eI c xs):=by
 obtain ⟨h1,h2,h3⟩:=hc
 refine ⟨h1,?_,?_⟩
 ·show cJ xs c.base++c.slots=cJ xs F.base++F.slots
  rw [h2,h3]
 ·show c.base+xs.length=F.base+xs.length
  rw [h3]
variable {T':T}
section
variable {F':aD} {m':List (Option D)}
theorem ai.Gq (I:ai V F m C g s) (he:F'.env=F.env) (hn:F'.names=F.names) (hs:F'.stack=F.stack) (hl:m'.length=F'.base)
  (h : ∀ x n d,F'.slots.lookup x=some n->m'[n]?=some (some d)->F.slots.lookup x=some n/\m[n]?=some (some d)):ai V F' m' C g s:=by
 refine ⟨I.keep,I.new,I.live,I.aB,I.az,I.cell,I.uniq,I.dC,?_,I.gens,I.os⟩
 have fr:=I.fr
 refine ⟨hl,by rw [he]; exact fr.above,by rw [hs]; intro e h; obtain ⟨k,L,q,r⟩:=fr.out e h; refine ⟨k,L,q,?_⟩; (rcases r with r|r; exact .inl (by rw [he]; exact r); exact .inr r),by rw [he]; exact fr.here,?_,λx hx=>?_,λx n d h1 h2 h3=>?_⟩
 ·obtain ⟨M,a,b⟩:=fr.loc
  exact ⟨M,by rw [he]; exact a,λx n d h1 h2 h3=>let ⟨p,q⟩:=h x n d h2 h3; b x n d (by rw [<-hn]; exact h1) p q⟩
 ·obtain ⟨c,v,h1,h2,h3,h4⟩:=fr.cell x (by rw [<-hn]; exact hx)
  exact ⟨c,v,by rw [he]; exact h1,h2,h3,λn d e1 e2=>let ⟨p,q⟩:=h x n d e1 e2; h4 n d p q⟩
 ·obtain ⟨p,q⟩:=h x n d h2 h3
  obtain ⟨c,o,v,h4,h5⟩:=fr.free x n d (by rw [<-hn]; exact h1) p q
  exact ⟨c,o,v,by rw [he]; exact h4,h5⟩
theorem ai.extend (K:F.Ok) (I:ai V F m C g s) (hx : ∀ x∈xs,F.slots.lookup x=none):ai V (F.ext xs) (m++replicate xs.length none) C g s:=by
 refine I.Gq rfl rfl rfl ?_ λx n d h1 h2=>?_
 ·rw [length_append,List.length_replicate,I.fr.len]; rfl
 ·rw [tM hx] at h1
  rcases h1 with h1|h1
  ·have h3:=(iq h1).2.1
   rw [getElem?_append_right (by rw [I.fr.len]; exact h3),List.getElem?_replicate] at h2
   split at h2<;>(first|exact aq h2|cases h2)
  ·refine ⟨h1,?_⟩
   have:=K.bound _ _ h1
   rwa [List.getElem?_append_left (by rw [I.fr.len]; exact this)] at h2
theorem ai.SM (K:F.Ok) (hx : ∀ x∈xs,F.slots.lookup x=none) (I:ai V (F.ext xs) m C g s):ai V F (m.take F.base) C g s:=by
 refine I.Gq (F:=F.ext xs) rfl rfl rfl ?_ λx n d h1 h2=>?_
 ·rw [length_take,I.fr.len]; exact min_eq_left (jp _ _)
 ·have:=K.bound _ _ h1
  rw [getElem?_take,if_pos this] at h2
  exact ⟨(tM hx).mpr (.inr h1),h2⟩
inductive mV (c:aN):Expr->T->Prop where
 |one {x:Str} {p:Pos} {n:Nat}:dA c x=some n->mV c (.Name x p) (.one n)
 |many {es:List Expr} {cx:Nat} {p:Pos} {ns:List Nat}:aY (s8 c) es ns->mV c (.Tuple es cx p) (.many ns)
theorem G3 {c:aN} (hc:F.ctx c) (hf:kG c xs=true) (h:(cJ xs c.base).lookup x=some n):dA (eI c xs) x=some n:=by
 unfold kG at hf
 rw [and_eq_true] at hf
 have:=all_eq_true.mp hf.2 x (iq h).1
 rw [and_eq_true] at this
 have ho:=this.1
 unfold dA
 unfold own at ho
 show (match c.names.lookup x with|some .local|some .cell=>(cJ xs c.base++c.slots).lookup x|_=>none)=some n
 rw [mA h]
 induction hx:c.names.lookup x with
 |none=>rw [hx] at ho; exact bA ho
 |some kd=>rw [hx] at ho; induction kd using NameKind.casesOn<;>first|exact bA ho|rfl
theorem WJ : ∀ {b i:Nat} {x:Str},xs.Nodup->xs[i]?=some x->(cJ xs b).lookup x=some (b+i):=by
 induction xs with
 |nil=>intro _ _ _ _ h; exact aq h
 |cons y r ih=>
  intro b i x hn h
  rw [nodup_cons] at hn
  rw [vz,lookup_cons]
  induction i using Nat.casesOn with
  |zero=>obtain rfl:=ad h; rw [beq_self_eq_true]; rfl
  |succ i=>
   rw [beq_false_of_ne (λz:x=y=>hn.1 (by rw [<-z]; exact mem_of_getElem? h))]
   exact (ih (b:=b+1) hn.2 h).trans (congrArg some ((add_assoc b 1 i).trans (congrArg (b + ·) (add_comm 1 i))))
theorem QP : ∀ {es:List Expr} {xs:List Str},es.mapM gb=some xs->xs.length=es.length/\∀ (i:Nat) (e:Expr),es[i]?=some e->∃ x p,e=Expr.Name x p/\xs[i]?=some x:=λ{es}=>by
 induction es with
 |nil=>
  intro xs h
  simp at h; subst h; exact ⟨rfl,λi e h=>by cases h⟩
 |cons e es ih=>
  intro xs h
  rw [mapM_cons] at h
  simp only [Option.pure_def,Option.bind_eq_bind] at h
  obtain ⟨x,h1,h2⟩:=aS h
  obtain ⟨ys,h3,h4⟩:=aS h2
  obtain rfl:=ad h4
  obtain ⟨hl,ih⟩:=ih h3
  obtain ⟨p,rfl⟩:=Hk h1
  refine ⟨by simp [hl],λi e he=>?_⟩
  induction i using Nat.casesOn with
  |zero=>obtain rfl:=ad he; exact ⟨x,p,rfl,rfl⟩
  |succ i=>exact ih i e he
theorem AU {R:α->β->Prop} : ∀ {as:List α} {bs:List β},as.length=bs.length->(∀ (i:Nat) (a:α) (b:β),as[i]?=some a->bs[i]?=some b->R a b)->aY R as bs:=λ{as}=>by
 induction as with
 |nil=>intro bs hl _; induction bs using List.casesOn<;>first|exact trivial|exact absurd hl (succ_ne_zero _).symm
 |cons a as ih=>
  intro bs hl h
  induction bs using List.casesOn with
  |nil=>exact absurd hl (succ_ne_zero _)
  |cons b bs=>exact ⟨h 0 a b rfl rfl,ih (kt hl) λi x y e1 e2=>h (i+1) x y e1 e2⟩
theorem DE {c:aN} (hc:F.ctx c) (hf:kG c xs=true) : ∀ x∈xs,F.slots.lookup x=none:=λx h=>by
 unfold kG at hf
 rw [and_eq_true] at hf
 have:=all_eq_true.mp hf.2 x h
 rw [and_eq_true] at this
 have:=this.2
 rw [hc.2.1] at this
 exact isNone_iff_eq_none.mp this
set_option tactic.hygienic true in
theorem Hl {c:aN} (hc:F.ctx c) {t:Expr} (hx:qb t=some xs) (hf:kG c xs=true):mV (eI c xs) t (lq xs (j3 t) c.base)/\(lq xs (j3 t) c.base).width=xs.length:=by
 have gv:xs.Nodup:=by
  unfold kG at hf; rw [and_eq_true] at hf; exact io hf.1
 induction t using Expr.casesOn<;>first|((first|exact aq hx|obtain rfl:=ad hx); done)|skip
 ·obtain rfl:=ad hx
  refine ⟨.one (G3 hc hf ?_),rfl⟩
  rw [vz,lookup_cons]; simp
 ·rename_i es cx p
  have hx:es.mapM gb=some xs:=hx
  obtain ⟨hl,hg⟩:=QP hx
  refine ⟨.many ?_,by show List.length _=_; simp⟩
  refine AU (by simp [hl]) λi e n he hn=>?_
  obtain ⟨x,q,rfl,h1⟩:=hg i e he
  refine ⟨x,q,rfl,G3 hc hf ?_⟩
  rw [WJ gv h1]
  rw [getElem?_map,List.getElem?_zipIdx,h1] at hn
  simpa using hn
set_option tactic.hygienic true in
theorem S7 (hh:A.handled=none) (K:F.Ok) {c:aN} (hc:F.ctx c) {t:Expr} (ht:mV c t T') (I:ai V F m C g s) (r:af V g d v) :
  aJ V F A d7 (assign t F.env v) g s (jL T' d ⟨m,C⟩):=by
 induction ht using mV.casesOn with
 |one hk=>exact (oA (A:=A) K I hc hk r).wp λu' u' x=>wpAny_assign_Name x
 |many hT=>
  rename_i es cx p ns
  induction d using D.casesOn with
  |tup ds=>
   show aj _ _ _ _ _ _ (if ns.length==ds.length then _ else _)
   split
   ·rename_i hl
    have hl:=im hl
    obtain ⟨la,vs,k,rfl,rh,hz,rs⟩:=I.tup r
    obtain ⟨rA,er⟩:=Hm (env:=F.env) hT
    have cV : ∀ h',Heap.ExtBut s.heap.objs.size s.heap h'->ai V F m C g {s with heap:=h'}:=λh' he=>I.heap λb o e=>he b o (ne_of_lt (Heap.lt_size e)) e
    have key : ∀ h',Heap.ExtBut s.heap.objs.size s.heap h'->aJ V F A d7 (assignInOrder ((assignEach es F.env).map (·.2)) vs) g {s with heap:=h'} (mH ns ds ⟨m,C⟩):=λh' he=>zM K hc hT rs hl (cV h' he)
    induction ho:mH ns ds ⟨m,C⟩ with
    |fail=>trivial
    |ok b ao=>
     intro Q E q
     refine wpAny_assign_Tuple hh ⟨_,rh,rfl,_,rfl⟩ (by rw [er,hl,rs.length]; simp) rA λh' he=>?_
     have:=key h' he
     rw [ho] at this
     exact this Q E q
    |exc b ao=>
     intro Q E q
     refine wpAny_assign_Tuple hh ⟨_,rh,rfl,_,rfl⟩ (by rw [er,hl,rs.length]; simp) rA λh' he=>?_
     have:=key h' he
     rw [ho] at this
     exact this Q E q
   ·trivial
  |_=>trivial
theorem VZ {M:Model} {Q:Bool->Shared->Prop} {E:Value->Shared->Prop} : ∀ {ifs:List Expr},Q false s->wpAny M A (forIn ifs false λc r=>if r=true then do let ok <-isTrue c env (eval c env); pure (ForInStep.yield ok) else pure (ForInStep.yield r)) Q E s:=λ{ifs}=>by
 induction ifs with
 |nil=>
  intro h
  rw [List.forIn_nil]; exact cr h
 |cons e r ih=>
  intro h
  rw [forIn_cons,if_neg (by decide)]
  exact ce (cr (ih h))
theorem GS {f:Expr->E} : ∀ {ifs:List Expr},(∀ e∈ifs,aA V F A cl (f e) e)->∀ m C g s,ai V F m C g s->aj V F (λ_ (d:D) (b:Bool)=>d=.bool b) (wpAny V.M A (sI ifs F.env)) g s (c9 V.P cl (bD f ifs) ⟨m,C⟩)
 |[],_,m,C,g,s,I=>λQ E q=>cr (q g true s (.refl g) I rfl)
 |e::r,h,m,C,g,s,I=>by
  have e1:c9 V.P cl (bD f (e::r)) ⟨m,C⟩=(cQ (ev V.P cl (f e) ⟨m,C⟩)).bind λq aa=>if q then c9 V.P cl (bD f r) aa else .ok (.bool false) aa:=by
   show (ev V.P cl (f e) ⟨m,C⟩).bind _=_
   unfold cQ
   rw [ak.bind_assoc]
   congr 1; funext x aa
   induction bH aa.C x with
   |none=>rfl
   |some q=>induction q<;>rfl
  rw [e1]
  have ih:=GS (f:=f) (ifs:=r) λx hx=>h x (.tail _ hx)
  refine aj.seq (h e (.head _) m C g s I).2 (K:=λb Q E s=>if b=true then wpAny V.M A (sI r F.env) Q E s else Q false s) (λQ E x=>?_) λq st aV au q' u' u' aF rq=>?_
  ·unfold sI
   rw [forIn_cons,if_pos rfl]
   refine ce (ce (gl x (λb au y=>cr ?_) λu' u' y=>y))
   induction b with
   |true=>exact y
   |false=>exact VZ y
  ·cases rq
   induction q
   ·exact λQ E k=>k _ _ _ (.refl _) aF rfl
   ·exact ih _ _ _ _ aF
end
structure Gh.Off (P:Addr->Prop) (g g':Gh):Prop where
 aB : ∀ a o,¬ P a->g a=some (.aB o)->g' a=some (.aB o)
 cell : ∀ a i,¬ P a->g a=some (.cell i)->g' a=some (.cell i)
 az : ∀ a o,¬ P a->(g a=some (.az o)↔g' a=some (.az o))
theorem Gh.Off.trans {aV dD:Gh} (x:Gh.Off P aV bl) (y:Gh.Off P bl dD):Gh.Off P aV dD:=
 ⟨λa o h e=>y.aB a o h (x.aB a o h e),λa o h e=>y.cell a o h (x.cell a o h e),λa o h=>(x.az a o h).trans (y.az a o h)⟩
theorem Gh.Step.off (x:g.Step g') (P:Addr->Prop):Gh.Off P g g':=⟨λa o u' e=>x.aB a o e,λa i u' e=>x.cell a i e,λa o u'=>x.az a o⟩
theorem Gh.Off.put (h:P a) (g:Gh) (x:Option GO):Gh.Off P g (g.put a x):=by
 have key : ∀ {b},¬ P b->g.put a x b=g b:=λ{b} hb=>Gh.bf _ _ λz=>hb (z ▸ h)
 exact ⟨λb o hb e=>by rw [key hb]; exact e,λb o hb e=>by rw [key hb]; exact e,λb o hb=>by rw [key hb]⟩
theorem Gh.bT.off {S:Addr} (x:Gh.bT S g g') (h:P S):Gh.Off P g g':=
 ⟨λa o hb e=>x.aB a o (λz=>hb (z ▸ h)) e,λa o hb e=>x.cell a o (λz=>hb (z ▸ h)) e,λa o hb=>x.az a o (λz=>hb (z ▸ h))⟩
theorem Gh.Off.but {S:Addr} (x:Gh.Off (λa=>a=it\/a=S) g g') (hg:g it=none):Gh.bT S g (g'.put it none):=by
 refine ⟨λa o h e=>?_,λa i h e=>?_,λa o h=>?_⟩
 ·have n:a≠it:=λz=>by subst z; rw [hg] at e; exact aq e
  rw [Gh.bf _ _ n]; exact x.aB a o (λz=>z.elim n h) e
 ·have n:a≠it:=λz=>by subst z; rw [hg] at e; exact aq e
  rw [Gh.bf _ _ n]; exact x.cell a i (λz=>z.elim n h) e
 ·by_cases n:a=it
  ·subst n; rw [Gh.bz,hg]
  ·rw [Gh.bf _ _ n]; exact x.az a o λz=>z.elim n h
inductive dP (V:av) (g:Gh) (Dd:Addr) (ds:List Mine.Lake.D):Prop
 |mk (vs:List Value) (k:Nat) (h1:g Dd=some (.az (bP vs k))) (h2:aI V g ds vs) (h3:vs.length<=aH):dP V g Dd ds
theorem dP.mono (L:g.Le g') {D:Addr} (hp : ∀ o,g D=some (.az o)->g' D=some (.az o)) {ds:List Mine.Lake.D} (h:dP V g D ds):dP V g' D ds:=
 let ⟨vs,k,a,b,c⟩:=h; ⟨vs,k,hp _ a,b.mono L,c⟩
theorem dP.step (L:g.Step g') {D:Addr} {ds:List Mine.Lake.D} (h:dP V g D ds):dP V g' D ds:=h.mono L.toLe λo=>(L.az D o).mp
noncomputable def mU (V:av) (F:aD) (D:Addr) (W:Tr Unit) (g:Gh) (s:Shared):ak Mine.Lake.D->Prop
 |.ok (.lst ds) st => ∀ (Q:Unit->Shared->Prop) (E:Value->Shared->Prop),(∀ g' s',Gh.bT D g g'->dP V g' D ds->ai V F st.m st.C g' s'->Q () s')->W Q E s
 |_=>True
variable {acc:List Mine.Lake.D} {tests:St->ak Mine.Lake.D} {inner:List Mine.Lake.D->St->ak Mine.Lake.D} {ao:St}
section
variable {m:List (Option Mine.Lake.D)}
theorem Tp {D:Addr} (hg:gens[depth+1]?=none) {c:Mine.Lake.E} (h:aA V F A cl c elt) {acc:List Mine.Lake.D} (I:ai V F m C g s) (ha:dP V g D acc) :
  mU V F D (lL V.M A elt gens scope pos depth (.ref D) F.env) g s (fU V.P cl (λst=>ev V.P cl c st) .nil acc ⟨m,C⟩):=by
 show mU _ _ _ _ _ _ ((ev V.P cl c ⟨m,C⟩).bind λx aa=>if acc.length<aH then .ok (.lst (acc++[x])) aa else .fail)
 have hs:=(h m C g s I).1
 induction ho:ev V.P cl c ⟨m,C⟩ with
 |fail=>trivial
 |exc _ _=>trivial
 |ok x st=>
  rw [ho] at hs
  show mU _ _ _ _ _ _ (if acc.length<aH then ak.ok (Mine.Lake.D.lst (acc++[x])) st else .fail)
  split
  ·rename_i hz
   intro Q E q
   unfold lL
   rw [hg]
   dsimp only
   refine hs _ _ λg' v s' ao I' r=>?_
   obtain ⟨vs,k,hD,rs,hl⟩:=ha.step ao
   have kT:=I'.mD hD jz
   have hlen:=rs.length
   refine call_meets PySem.F.slot_list_append ⟨_,kT,rfl⟩ PySem.F.entry_list_append (PySem.F.args_list_append_2 _ _) (PySem.list_append D vs.toArray k v (dO (by simpa using hl))) ⟨kT,?_⟩
   obtain ⟨k₁,eY⟩:=Gk kT v
   have l9:Gh.bT D g (g'.put D (some (.az (bP (vs++[v]) k₁)))):=(ao.but D).trans (Gh.bT.put D g' _)
   have L':g'.Le (g'.put D (some (.az (bP (vs++[v]) k₁)))):=(Gh.bT.put D g' _).le hD
   exact q _ _ l9 ⟨vs++[v],k₁,Gh.bz ..,(rs.mono L').append (.cons (r.mono L') .nil),by simp; omega⟩ (I'.pW (t:=s'.toks) hD jz ((mo s'.heap D (Obj.mapSeq (·.push v))).extBut) eY)
  ·trivial
inductive vH (t:T) (tests:St->ak Mine.Lake.D) (inner:List Mine.Lake.D->St->ak Mine.Lake.D) (a7:ah->ah->Bool) (L:List Mine.Lake.D->List Mine.Lake.D->St->ak Mine.Lake.D) (d:Mine.Lake.D) (r acc:List Mine.Lake.D) (st:St) (x:Mine.Lake.D) (ao:St):Prop
 |mk (u:Unit) (aa:St) (b:Bool) (ae:St) (bu:List Mine.Lake.D) (aK:St) (h1:jL t d ⟨st.m++replicate t.width none,st.C⟩=.ok u aa) (h2:tests aa=.ok (.bool b) ae)
   (h3:(if b=true then inner acc ae else .ok (.lst acc) ae)=.ok (.lst bu) aK) (h4:a7 st.C aK.C=true) (h5:L r bu ⟨aK.m.take st.m.length,aK.C⟩=.ok x ao):vH t tests inner a7 L d r acc st x ao
set_option tactic.hygienic true in
theorem Wc {st aK:St} {x:Mine.Lake.D} (e:cw tests inner acc st=.ok x aK) : ∃ b ae,tests st=.ok (.bool b) ae/\(if b=true then inner acc ae else .ok (.lst acc) ae)=.ok x aK:=by
 unfold cw at e
 induction h:tests st with
 |fail=>rw [h] at e; exact cC e
 |exc _ _=>rw [h] at e; exact cC e
 |ok d ae=>
  rw [h] at e
  induction d using D.casesOn<;>first|(exact cC e; done)|skip
  rename_i b
  induction b<;>exact ⟨_,_,rfl,e⟩
set_option tactic.hygienic true in
theorem Nj {t:T} {a7:ah->ah->Bool} {d:Mine.Lake.D} {r:List Mine.Lake.D} {st:St} {x:Mine.Lake.D} (e:eh t (cw tests inner) a7 (d::r) acc st=.ok x ao) :
  vH t tests inner a7 (eh t (cw tests inner) a7) d r acc st x ao:=by
 have e:(match jL t d ⟨st.m++replicate t.width none,st.C⟩ with
  |.ok _ aa=>match cw tests inner acc aa with
   |.ok (.lst bu) ae=>if a7 st.C ae.C then eh t (cw tests inner) a7 r bu ⟨ae.m.take st.m.length,ae.C⟩ else .fail
   |_=>.fail
  |_=>.fail)=.ok x ao:=e
 induction h1:jL t d ⟨st.m++replicate t.width none,st.C⟩ with
 |fail=>rw [h1] at e; exact cC e
 |exc _ _=>rw [h1] at e; exact cC e
 |ok u aa=>
  rw [h1] at e
  dsimp only at e
  induction h2:cw tests inner acc aa with
  |fail=>rw [h2] at e; exact cC e
  |exc _ _=>rw [h2] at e; exact cC e
  |ok y aK=>
   rw [h2] at e
   induction y using D.casesOn<;>first|(exact cC e; done)|skip
   rename_i bu
   dsimp only at e
   induction h4:a7 st.C aK.C with
   |false=>rw [h4] at e; exact cC e
   |true=>
    rw [h4,if_pos rfl] at e
    obtain ⟨b,ae,a1,a2⟩:=Wc h2
    exact ⟨u,aa,b,ae,bu,aK,h1,a1,a2,h4,e⟩
inductive vB (V:av) (F:aD) (it Dd:Addr) (cD:Gh) (y:Mine.Lake.D) (items:List Mine.Lake.D) (loop:List Mine.Lake.D->List Mine.Lake.D->St->ak Mine.Lake.D) (ds:List Mine.Lake.D) (ao:St) (n:Nat) (s:Shared):Prop
 |mk (g1:Gh) (m1:List (Option Mine.Lake.D)) (C1:ah) (i:Nat) (o:Obj) (oL:List Mine.Lake.D) (b1:Gh.Off (λa=>a=it\/a=Dd) cD g1) (jt:g1 it=some (.az o)) (qU:cU V g1 (fS C1 y) items i y o) (nL:bV C1 y=some items)
   (kI:dP V g1 Dd oL) (I1:ai V F m1 C1 g1 s) (hn:n=items.length+1 - i) (hle:i<=items.length) (e1:loop (items.drop i) oL ⟨m1,C1⟩=.ok (.lst ds) ao):vB V F it Dd cD y items loop ds ao n s
theorem Ku (hh:A.handled=none) (K:F.Ok) {D:Addr} (jj:D≠it) (kN:gens[depth]?=some ⟨target,iter,ifs,0⟩)
  {c:aN} (hc:(F.ext xs).ctx c) (hx : ∀ x∈xs,F.slots.lookup x=none) (hT:mV c target T') (hw:T'.width=xs.length) {tests:St->ak Mine.Lake.D} (rD : ∀ m C g s,ai V (F.ext xs) m C g s->aj V (F.ext xs) (λ_ (d:Mine.Lake.D) (b:Bool)=>d=.bool b) (wpAny V.M A (sI ifs F.env)) g s (tests ⟨m,C⟩))
  {inner:List Mine.Lake.D->St->ak Mine.Lake.D} (iM : ∀ acc m C g s,ai V (F.ext xs) m C g s->dP V g D acc->mU V (F.ext xs) D (lL V.M A elt gens scope pos depth (.ref D) F.env) g s (inner acc ⟨m,C⟩))
  {y:Mine.Lake.D} {items:List Mine.Lake.D} (nJ:cD it=none) {m:List (Option Mine.Lake.D)} {o:Obj} (rm:Gh.Off (λa=>a=it\/a=D) cD g) (hg:g it=some (.az o)) (hi:cU V g (fS C y) items 0 y o) (hit:bV C y=some items) {acc:List Mine.Lake.D} (ha:dP V g D acc) (I:ai V F m C g s)
  {ds:List Mine.Lake.D} {L:List Mine.Lake.D->List Mine.Lake.D->St->ak Mine.Lake.D} (yu : ∀ acc st,L [] acc st=.ok (.lst acc) st) (N4 : ∀ d r acc st,L (d::r) acc st=.ok (.lst ds) ao->vH T' tests inner (λC C'=>br C C' y) L d r acc st (.lst ds) ao)
  (e:L items acc ⟨m,C⟩=.ok (.lst ds) ao)
  (dX : ∀ g' s',Gh.bT D cD g'->dP V g' D ds->ai V F ao.m ao.C g' s'->R (.ok .next) s') :
  codeAny V.M A (.compLoop (.ListComp elt gens scope pos) depth (.ref it) (.ref D) F.env) R s:=by
 refine Kh kN (vB V F it D cD y items L ds ao) (λn s hI=>?_) (items.length+1) ⟨g,m,C,0,o,acc,rm,hg,hi,hit,ha,I,rfl,zero_le _,e⟩
 obtain ⟨g1,m1,C1,i,o1,oL,b1,jt,qU,nL,kI,I1,rfl,hle,e1⟩:=hI
 refine GG hh I1 jt qU nL rfl (λd hd v o2 h2 t2 rd qV I2=>?_) λhn h2 I2=>?_
 ·have aZ:i<items.length:=(be hd).1
  have yd:items.drop i=d::items.drop (i+1):=by
   rw [List.drop_eq_getElem_cons aZ]
   rw [getElem?_eq_getElem aZ] at hd
   obtain rfl:=ad hd; rfl
  rw [yd] at e1
  dsimp only
  refine cps λQ0 k0=>?_
  obtain ⟨u,aa,b0,ae,bu,aK,Ee,Od,Eu,aW,e5⟩:=N4 _ _ _ _ e1
  have Lp:g1.Le (g1.put it (some (.az o2))):=uR jt _
  have kO:(g1.put it (some (.az o2))) it=some (.az o2):=Gh.bz ..
  have I3:=I2.extend K hx
  have nO:m1.length=F.base:=I1.fr.len
  rw [hw] at Ee
  have hb:=S7 (A:=A) hh (qI K hx) hc hT I3 rd
  rw [Ee] at hb
  refine k0 (TF I2 kO qV (hb _ _ λg4 u' s4 q4 I4 u'=>?_))
  clear k0 hb
  refine cps λQ1 k1=>?_
  have b4:Gh.Off (λa=>a=it\/a=D) cD g4:=(b1.trans (Gh.Off.put (.inl rfl) g1 _)).trans (q4.off _)
  have ua:g4 it=some (.az o2):=(q4.az _ _).mp kO
  have NT:dP V g4 D oL:=(kI.mono Lp λo h=>by rw [Gh.bf _ _ jj]; exact h).step q4
  have rD:=rD aa.m aa.C g4 s4 I4
  rw [show (⟨aa.m,aa.C⟩:St)=aa from rfl,Od] at rD
  have next : ∀ (g5:Gh) (s5:Shared),Gh.Off (λa=>a=it\/a=D) cD g5->g5 it=some (.az o2)->g4.Le g5->dP V g5 D bu->ai V (F.ext xs) aK.m aK.C g5 s5->
    ∃ mm,mm<items.length+1 - i/\vB V F it D cD y items L ds ao mm s5:=λg5 s5 b5 ub Ou nE I5=>
   ⟨items.length+1 - (i+1),Nat.sub_lt_sub_left (lt_succ_of_lt aZ) (lt_succ_self i),g5,aK.m.take m1.length,aK.C,i+1,o2,bu,b5,ub,by rw [Ha aW]; exact (qV.mono q4.toLe).mono Ou,Hb aW nL,nE,by rw [nO]; exact I5.SM K hx,rfl,aZ,e5⟩
  refine k1 (rD _ _ λg5 b s5 q5 I5 rb=>?_)
  cases (show Mine.Lake.D.bool b0=.bool b from rb)
  clear k1 rD
  have b5:=b4.trans (q5.off _)
  have ub:=(q5.az _ _).mp ua
  have nE:=NT.step q5
  induction b0 with
  |false=>
   rw [if_neg (by decide)]
   cases Eu
   exact next g5 s5 b5 ub q5.toLe nE I5
  |true=>
   rw [if_pos rfl]
   have hn:=iM oL ae.m ae.C g5 s5 I5 nE
   rw [show (⟨ae.m,ae.C⟩:St)=ae from rfl,show inner oL ae=_ from Eu] at hn
   refine hn _ _ λg6 s6 b6 NU I6=>?_
   obtain ⟨Xq,k5,NA,_⟩:=id nE
   exact next g6 s6 (b5.trans (b6.off (.inr rfl))) ((b6.az it o2 jj.symm).mp ub) (q5.toLe.trans (b6.le NA)) NU I6
 ·have OT:items.drop i=[]:=by rw [List.getElem?_eq_none_iff] at hn; exact List.drop_eq_nil_of_le hn
  rw [OT,yu] at e1
  cases e1
  have ji : ∀ o,g1 D=some (.az o)->(g1.put it none) D=some (.az o):=λo h=>by rw [Gh.bf _ _ jj]; exact h
  exact dX _ _ (b1.but nJ) (kI.mono (uR jt none) ji) I2
theorem Cp (hh:A.handled=none) (K:F.Ok) {D:Addr} (jj:D≠it) (kN:gens[depth]?=some ⟨target,iter,ifs,0⟩)
  {c:aN} (hc:(F.ext xs).ctx c) (hx : ∀ x∈xs,F.slots.lookup x=none) (hT:mV c target T') (hw:T'.width=xs.length) {f:Expr->Mine.Lake.E} (Ow : ∀ e∈ifs,aA V (F.ext xs) A cl (f e) e)
  {inner:List Mine.Lake.D->St->ak Mine.Lake.D} (iM : ∀ acc m C g s,ai V (F.ext xs) m C g s->dP V g D acc->mU V (F.ext xs) D (lL V.M A elt gens scope pos depth (.ref D) F.env) g s (inner acc ⟨m,C⟩))
  {y:Mine.Lake.D} {items:List Mine.Lake.D} (nJ:cD it=none) {m:List (Option Mine.Lake.D)} {o:Obj} (rm:Gh.Off (λa=>a=it\/a=D) cD g) (hg:g it=some (.az o)) (hi:cU V g (fS C y) items 0 y o) (hit:bV C y=some items) {acc:List Mine.Lake.D} (ha:dP V g D acc) (I:ai V F m C g s)
  {ds:List Mine.Lake.D} (e:eh T' (cw (λae=>c9 V.P cl (bD f ifs) ae) inner) (λC C'=>br C C' y) items acc ⟨m,C⟩=.ok (.lst ds) ao)
  (dX : ∀ g' s',Gh.bT D cD g'->dP V g' D ds->ai V F ao.m ao.C g' s'->R (.ok .next) s') :
  codeAny V.M A (.compLoop (.ListComp elt gens scope pos) depth (.ref it) (.ref D) F.env) R s:=
 Ku hh K jj kN hc hx hT hw (GS (A:=A) (F:=F.ext xs) Ow) iM nJ rm hg hi hit ha I (λ_ _=>rfl) (λ_ _ _ _ e=>Nj e) e dX
end
theorem tR {it:Expr} (h:mr it=false) (x:Value):foldedSetIterable it env x=pure x:=by induction it using Expr.casesOn<;>first|rfl|exact fJ h
section
theorem Kt (B:V.Base) (hh:A.handled=none) {D:Addr} {f:aN->Expr->E} : ∀ (r:List Comprehension) (depth:Nat) (F:aD) (c:aN) (G':Gs) (cz:aN),(∀ i,gens[depth+1+i]?=r[i]?)->F.Ok->F.ctx c->
  oX f c r=some (G',cz)->(∀ (F':aD) (c':aN) (e':Expr),F'.Ok->F'.ctx c'->F'.stack=F.stack->F'.env=F.env->aA V F' A cl (f c' e') e')->∀ acc m C g s,ai V F m C g s->dP V g D acc->
  mU V F D (lL V.M A elt gens scope pos depth (.ref D) F.env) g s (fU V.P cl (λst=>ev V.P cl (f cz elt) st) G' acc ⟨m,C⟩):=λr=>by
 induction r with
 |nil=>
  intro depth F c G' cz hr K hc hG hE acc m C g s I ha
  cases hG
  exact Tp (by have:=hr 0; simpa using this) (hE F c elt K hc rfl rfl) I ha
 |cons p0 r ih=>
  obtain ⟨t,it,ifs,a⟩:=p0
  intro depth F c G' cz hr K hc hG hE acc m C g s I ha
  unfold oX at hG
  induction hx:qb t with
  |none=>rw [hx] at hG; exact aq hG
  |some xs=>
   rw [hx] at hG
   dsimp only at hG
   split at hG
   ·rename_i hb
    simp only [and_eq_true,not_eq_true'] at hb
    obtain ⟨⟨xV,l8⟩,pk⟩:=hb
    have xT:a=0:=im xV
    subst xT
    obtain ⟨⟨G2,w7⟩,NC,ND⟩:=cq hG
    cases ND
    have jt:gens[depth+1]?=some ⟨t,it,ifs,0⟩:=by have:=hr 0; simpa using this
    have jv:=DE hc pk
    obtain ⟨hT,hw⟩:=Hl hc hx pk
    have nH:=Du hc xs
    have ih:=ih (depth+1) (F.ext xs) (eI c xs) G2 w7 (λi=>by have:=hr (i+1); rw [show depth+1+1+i=depth+1+(i+1) from Nat.succ_add (depth+1) i]; simpa using this)
     (qI K jv) nH NC (λF' c' e' k1 k2 k3 k4=>hE F' c' e' k1 k2 k3 k4)
    show mU V F D _ g s ((ev V.P cl (f c it) ⟨m,C⟩).bind λy aa=>match bV aa.C y with
     |some items=>eh (lq xs (j3 t) c.base) (cw (λae=>c9 V.P cl (bD (f (eI c xs)) ifs) ae) (λacc ae=>fU V.P cl (λst=>ev V.P cl (f w7 elt) st) G2 acc ae)) (λC C'=>br C C' y) items acc aa
     |none=>.fail)
    have hs:=(hE F c it K hc rfl rfl m C g s I).1
    induction ho:ev V.P cl (f c it) ⟨m,C⟩ with
    |fail=>trivial
    |exc _ _=>trivial
    |ok y aa=>
     rw [ho] at hs
     dsimp only [ak.bind]
     induction hi:bV aa.C y with
     |none=>trivial
     |some items=>
      dsimp only
      induction hl:eh (lq xs (j3 t) c.base) (cw (λae=>c9 V.P cl (bD (f (eI c xs)) ifs) ae) (λacc ae=>fU V.P cl (λst=>ev V.P cl (f w7 elt) st) G2 acc ae)) (λC C'=>br C C' y) items acc aa with
      |fail=>trivial
      |exc _ _=>trivial
      |ok dd ao=>
       cases dd<;>first|trivial|skip
       rename_i ds
       intro Q E q
       unfold lL
       rw [jt]
       dsimp only
       refine hs _ _ λg1 v s1 q1 I1 ry=>⟨rfl,tR l8 v,?_⟩
       have hsz:=I1.fI
       have kI:=ha.step q1
       have jj:D≠s1.heap.objs.size:=λz=>by
        obtain ⟨vs,k,hD,_⟩:=kI
        rw [z,hsz] at hD; exact aq hD
       refine vg B I1 ry hi λo h' gX u' I2=>?_
       have hL:g1.Le (g1.put s1.heap.objs.size (some (.az o))):=Gh.gB _ hsz
       have kO:(g1.put s1.heap.objs.size (some (.az o))) s1.heap.objs.size=some (.az o):=Gh.bz ..
       have t6:dP V (g1.put s1.heap.objs.size (some (.az o))) D acc:=kI.mono hL λo' h=>by rw [Gh.bf _ _ jj]; exact h
       refine Ck jt (Cp hh K jj jt nH jv hT hw (f:=f (eI c xs)) (λe u'=>hE (F.ext xs) (eI c xs) e (qI K jv) nH rfl rfl) ih hsz (Gh.Off.put (.inl rfl) g1 _) kO (gX.mono hL) hi t6 I2 hl λg' s' b' t5 I'=>?_) (GH I2 kO (gX.mono hL) ⟨rfl,rfl⟩)
       exact q g' s' ((q1.but D).trans b') t5 I'
   ·exact aq hG
variable {m:List (Option Mine.Lake.D)}
theorem Kp (B:V.Base) (hh:A.handled=none) (K:F.Ok) {c:aN} (hc:F.ctx c) {t it:Expr} {r:List Comprehension} {f:aN->Expr->E} (ok:iz c sc) (hx:qb t=some xs) (hf:kG (cX c sc) xs=true)
  {G':Gs} {cz:aN} (hG:oX f (eI (cX c sc) xs) r=some (G',cz))
  (hE : ∀ (F':aD) (c':aN) (e':Expr),F'.Ok->F'.ctx c'->F'.stack=F.stack->F'.env.frame=F.env.frame->aA V F' A cl (f c' e') e')
  (I:ai V F m C g s) {y:Mine.Lake.D} (ry:af V g y v) {items:List Mine.Lake.D} (hi:bV C y=some items) {ds:List Mine.Lake.D}
  (hl:eh (lq xs (j3 t) (cX c sc).base) (cw (λae=>c9 V.P cl (bD (f (eI (cX c sc) xs)) ifs) ae) (λacc ae=>fU V.P cl (λst=>ev V.P cl (f cz elt) st) G' acc ae)) (λC C'=>br C C' y) items [] ⟨m,C⟩=.ok (.lst ds) ao)
  {RR:Value->Addr->Result->Shared->Prop} {E:Value->Shared->Prop}
  (q : ∀ g' s' a vs k L M,g.Step g'->g' a=none->V.h₀.get? a=none->s'.heap.get? a=some (bP vs k)->aI V g' ds vs->vs.length<=aH->ai V F m ao.C g' s'->g' L=none->V.h₀.get? L=none->a≠L->s'.heap.Ns L M->RR (.ref a) L (.ok .next) s') :
  wpAny V.M A (pyIter v) (λyW aM=>wpAny V.M A (newList []) (λacc cT=>wpAny V.M A (newFunctionEnv sc F.env.globals (eT F.env.cells sc.names []) [] F.env.qual none .none (some F.env)) (λqt iV=>
   codeAny V.M A (.compStart (.ListComp elt (⟨t,it,ifs,0⟩::r) sc pos) 0 yW acc {qt with scope:=relabel sc F.env}) (RR acc qt.locals) iV) E cT) E aM) E s:=by
 have hsz:=I.fI
 refine vg B I ry hi λo h2 gX kP I2=>?_
 refine wpAny_newObj_type ?_
 have xK:(g.put s.heap.objs.size (some (.az o))) h2.objs.size=none:=I2.fI
 have I3:=I2.more (t:=s.toks) (a:=h2.objs.size) (o:=bP [] 0) (x:=.az (bP [] 0)) (h':=h2.push (bP [] 0)) (λu' u' h=>dL _ h) (f8 (le_refl _)) (lw _ rfl) (.inr rfl)
 have jj:h2.objs.size≠s.heap.objs.size:=λz=>by
  rw [z,Gh.bz] at xK; cases xK
 have yn:g.Le (g.put s.heap.objs.size (some (.az o))):=Gh.gB _ hsz
 have q0:(g.put s.heap.objs.size (some (.az o))).Le ((g.put s.heap.objs.size (some (.az o))).put h2.objs.size (some (.az (bP [] 0)))):=Gh.gB _ xK
 have Qc : ∀ b o,s.heap.get? b=some o->(h2.push (bP [] 0)).get? b=some o:=λb o' e=>dL _ (kP b o' e)
 generalize kO:(g.put s.heap.objs.size (some (.az o))).put h2.objs.size (some (.az (bP [] 0)))=g3 at I3 q0
 have DS:g3 s.heap.objs.size=some (.az o):=by rw [<-kO,Gh.bf _ _ jj.symm]; exact Gh.bz ..
 have tU:g3 h2.objs.size=some (.az (bP [] 0)):=by rw [<-kO]; exact Gh.bz ..
 have Nc : ∀ a,a≠s.heap.objs.size->a≠h2.objs.size->g3 a=g a:=λa h1 h3=>by rw [<-kO,Gh.bf _ _ h3,Gh.bf _ _ h1]
 generalize W7:s.heap.objs.size=fW at *
 generalize ji:h2.objs.size=D at *
 refine Rm ?_
 have I4:=Kr I3 K hc ok
 generalize uu:({s with heap:=h2.push (bP [] 0)}:Shared)=s3 at *
 have Pc:s3.heap=h2.push (bP [] 0):=by rw [<-uu]
 have uJ : ∀ b o,s.heap.get? b=some o->s3.heap.get? b=some o:=λb o' e=>by rw [Pc]; exact Qc b o' e
 have pg:iZ s3 {s3 with heap:=pushCells (s3.heap.push {cls:=.type "dict",data:=.dict #[]}) sc.names} (bw s3.heap.objs.size sc.names):=DQ s3.heap _ sc.names rfl rfl rfl
 have zY:=oq I3 pg
 have NO:iZ s {s3 with heap:=pushCells (s3.heap.push {cls:=.type "dict",data:=.dict #[]}) sc.names} (bw s3.heap.objs.size sc.names):=⟨λa x h=>(by
   have:=pg.new a x h
   induction q':s.heap.get? a with
   |none=>rfl
   |some o'=>rw [uJ a o' q'] at this; cases this),pg.there,pg.kind⟩
 have VK:=oq I NO
 have NN:bw s3.heap.objs.size sc.names fW=none:=pg.none I3 DS
 have NL:bw s3.heap.objs.size sc.names D=none:=pg.none I3 tU
 have Ni:Gh.over (bw s3.heap.objs.size sc.names) (g.bE s.heap) fW=none:=by unfold Gh.over; rw [NN]; exact Gh.zP hsz
 have gD:g D=none:=by
  induction q':g D with
  |none=>rfl
  |some x=>obtain ⟨o',dH⟩:=I.live D x q'; have:=kP D o' dH; rw [<-ji,Heap.get?_none_of_le (le_refl _)] at this; cases this
 have Nh:Gh.over (bw s3.heap.objs.size sc.names) (g.bE s.heap) D=none:=by unfold Gh.over; rw [NL]; exact Gh.zP gD
 have same : ∀ a,¬ (a=fW\/a=D)->Gh.over (bw s3.heap.objs.size sc.names) (g3.bE s3.heap) a=Gh.over (bw s3.heap.objs.size sc.names) (g.bE s.heap) a:=λa ha=>by
  have h1:=Nc a (λz=>ha (.inl z)) (λz=>ha (.inr z))
  unfold Gh.over Gh.bE
  rw [h1]
  induction bw s3.heap.objs.size sc.names a with
  |some x=>rfl
  |none=>
   dsimp only
   split
   ·rename_i hq; obtain ⟨o',dH⟩:=I.live a _ hq; rw [dH,uJ a o' dH]
   ·rename_i hq; obtain ⟨o',dH⟩:=I.live a _ hq; rw [dH,uJ a o' dH]
   ·rfl
 have rm:Gh.Off (λa=>a=fW\/a=D) (Gh.over (bw s3.heap.objs.size sc.names) (g.bE s.heap)) (Gh.over (bw s3.heap.objs.size sc.names) (g3.bE s3.heap)):=
  ⟨λa o h e=>by rw [same a h]; exact e,λa o h e=>by rw [same a h]; exact e,λa o h=>by rw [same a h]⟩
 have D5:g.Le (Gh.over (bw s3.heap.objs.size sc.names) (g3.bE s3.heap)):=yn.trans (q0.trans (Gh.uS.trans zY.toLe))
 have DT:=(zY.az _ _).mp (Gh.mJ (h:=s3.heap) DS)
 have Nd:=(zY.az _ _).mp (Gh.mJ (h:=s3.heap) tU)
 have ya:(F.comp sc s3.heap.objs.size).ctx (cX c sc):=by
  obtain ⟨c1,c2,c3⟩:=hc
  exact ⟨rfl,by show c.slots.filter _=F.slots.filter _; rw [c2],c3⟩
 have Kc:=Kv (L:=s3.heap.objs.size) K hc ok
 have jv:=DE ya hf
 obtain ⟨hT,hw⟩:=Hl ya hx hf
 have nH:=Du ya xs
 have gL:g s3.heap.objs.size=none:=by
  induction q':g s3.heap.objs.size with
  |none=>rfl
  |some x=>obtain ⟨o',dH⟩:=I.live _ x q'; have:=uJ _ o' dH; rw [Heap.get?_none_of_le (le_refl _)] at this; cases this
 have DY:D≠s3.heap.objs.size:=λz=>by
  obtain ⟨o',dH⟩:=I3.live _ _ tU
  rw [z,Heap.get?_none_of_le (le_refl _)] at dH; cases dH
 subst uu
 refine Ck (env:=(F.comp sc _).env) rfl (Cp hh Kc (Ne.symm (λz=>jj z.symm)) rfl nH jv hT hw (f:=f (eI (cX c sc) xs)) (λe u'=>hE _ _ e (qI Kc jv) nH rfl rfl)
  (Kt B hh (elt:=elt) (gens:=⟨t,it,ifs,0⟩::r) (scope:=sc) (pos:=pos) (f:=f) r 0 _ _ G' cz (λi=>by rw [show 0+1+i=i+1 from add_comm (0+1) i]; rfl) (qI Kc jv) nH hG (λF' c' e' k1 k2 k3 k4=>hE F' c' e' k1 k2 k3 (by rw [k4]; rfl)))
  Ni rm DT (gX.mono D5) hi ⟨[],0,Nd,.nil,zero_le _⟩ I4 hl λg5 s5 b5 nE I5=>?_) (GH I4 DT (gX.mono D5) ⟨rfl,rfl⟩)
 obtain ⟨vs,k,xJ,rs,nM⟩:=nE
 obtain ⟨M5,NJ,_⟩:=I5.fr.loc
 have I6:=I5.r7 xJ jz
 have z8:=VK.trans (b5.drop Nh)
 have I7:=I.leave z8 I6
 have L7:=vb I z8
 have NH:(g.eF (g5.put D none)) ({s with heap:=h2.push (bP [] 0)}:Shared).heap.objs.size=none:=by
  rw [Gh.se (by rw [gL]; simp) (by rw [gL]; simp),Gh.bf _ _ DY.symm]
  have:g5 ({s with heap:=h2.push (bP [] 0)}:Shared).heap.objs.size=some .locals:=I5.fr.here
  rw [this]
 have l7:(g.eF (g5.put D none)) D=none:=by
  rw [Gh.se (by rw [gD]; simp) (by rw [gD]; simp),Gh.bz]
 have Nv:V.h₀.get? ({s with heap:=h2.push (bP [] 0)}:Shared).heap.objs.size=none:=I3.t4 (f8 (le_refl _))
 have Nu:V.h₀.get? D=none:=I3.new _ _ tU
 exact q _ _ D vs k _ M5 (vc I z8) l7 Nu (I5.mD xJ jz) (rs.mono ((uR xJ none).trans L7)) nM I7 NH Nv DY NJ
end
section
variable {m:List (Option Mine.Lake.D)}
theorem ai.AS (I:ai V F m C g s) {o:Obj} {c:Ch} (hg:g a=none) (hn:V.h₀.get? a=none) (ho:s.heap.get? a=some o) (hc:lJ V (g.put a (some (.cell C.length))) c o) :
  ai V F m (C++[c]) (g.put a (some (.cell C.length))) s:=by
 have L:g.Le (g.put a (some (.cell C.length))):=Gh.gB _ hg
 have other : ∀ {b y},g b=some y->g.put a (some (.cell C.length)) b=some y:=λ{b y} e=>by
  rw [Gh.bf]; exact e; intro q; subst q; rw [hg] at e; exact aq e
 refine ⟨I.keep,λb y e=>?_,λb y e=>?_,λb o' e=>?_,λb o' e=>?_,λi c' e=>?_,λb c' i e e'=>?_,λb i e=>?_,?_,I.gens,I.os⟩
 ·rcases Gh.bG e with ⟨rfl,_⟩|⟨_,q⟩
  ·exact hn
  ·exact I.new b y q
 ·rcases Gh.bG e with ⟨rfl,_⟩|⟨_,q⟩
  ·exact ⟨o,ho⟩
  ·exact I.live b y q
 ·rcases Gh.bG e with ⟨rfl,q⟩|⟨_,q⟩
  ·cases q
  ·exact I.aB b o' q
 ·rcases Gh.bG e with ⟨rfl,q⟩|⟨_,q⟩
  ·cases q
  ·exact I.az b o' q
 ·rw [List.getElem?_append] at e
  split at e
  ·obtain ⟨b,o',h1,h2,h3⟩:=I.cell i c' e
   exact ⟨b,o',other h1,h2,h3.mono L⟩
  ·rename_i hi
   have jV:i=C.length:=by
    induction hq:i - C.length using Nat.casesOn with
    |zero=>exact le_antisymm (Nat.le_of_sub_eq_zero hq) (not_lt.mp hi)
    |succ n=>rw [hq] at e; simp at e
   subst jV
   simp at e
   subst e
   exact ⟨a,o,Gh.bz ..,ho,hc⟩
 ·rcases Gh.bG e with ⟨rfl,q⟩|⟨_,q⟩
  ·cases q
   rcases Gh.bG e' with ⟨rfl,_⟩|⟨_,q'⟩
   ·rfl
   ·exact absurd (I.dC _ _ q') (lt_irrefl _)
  ·rcases Gh.bG e' with ⟨rfl,q'⟩|⟨_,q'⟩
   ·cases q'; exact absurd (I.dC _ _ q) (lt_irrefl _)
   ·exact I.uniq b c' i q q'
 ·rw [length_append]
  rcases Gh.bG e with ⟨rfl,q⟩|⟨_,q⟩
  ·cases q; simp
  ·exact am (I.dC b i q) (jp ..)
 ·exact I.fr.mono L (λc e=>other e) (λc y e=>other e) (λc o e=>other e)
noncomputable def pf (V:av) (F:aD) (A:Around) (cl:Calls) (f:aN->Expr->E):Prop := ∀ (F':aD) (c':aN) (e':Expr),F'.Ok->F'.ctx c'->F'.stack=F.stack->F'.env.frame=F.env.frame->aA V F' A cl (f c' e') e'
noncomputable def CH (V:av) (F:aD) (A:Around) (elt:Expr) (gens:List Comprehension) (sc:Scope) (pos:Pos) (RR:Value->Addr->Result->Shared->Prop) (E:Value->Shared->Prop) (s:Shared):Prop:=match gens with
 |[]=>True
 |⟨t,it,ifs,a⟩::r=>a=0/\mr it=false/\wpAny V.M A (eval it F.env) (λv au=>wpAny V.M A (pyIter v) (λyW aM=>wpAny V.M A (newList []) (λacc cT=>wpAny V.M A (newFunctionEnv sc F.env.globals (eT F.env.cells sc.names []) [] F.env.qual none .none (some F.env)) (λqt iV=>
   codeAny V.M A (.compStart (.ListComp elt (⟨t,it,ifs,0⟩::r) sc pos) 0 yW acc {qt with scope:=relabel sc F.env}) (RR acc qt.locals) iV) E cT) E aM) E au) E s
noncomputable def As (V:av) (F:aD) (g:Gh) (s:Shared) (W:(Value->Addr->Result->Shared->Prop)->(Value->Shared->Prop)->Prop):ak Mine.Lake.D->Prop
 |.ok d st => ∃ ds,d=.lst ds/\∀ RR E,(∀ g' s' a vs k L M,g.Step g'->g' a=none->V.h₀.get? a=none->s'.heap.get? a=some (bP vs k)->aI V g' ds vs->vs.length<=aH->ai V F st.m st.C g' s'->g' L=none->V.h₀.get? L=none->a≠L->s'.heap.Ns L M->RR (.ref a) L (.ok .next) s')->W RR E
 |.exc x st => ∀ RR E,(∀ g' e s',g.Step g'->fj V F x st g' e s'->E e s')->W RR E
 |.fail=>True
set_option tactic.hygienic true in
theorem zH (B:V.Base) (eV:cl.fuel≠0->A.handled=none) (K:F.Ok) {c:aN} (hc:F.ctx c) {f:aN->Expr->E} (ok:iz c sc) (hE:pf V F A cl f) (I:ai V F m C g s) :
  As V F g s (λRR E=>gens≠[]/\CH V F A elt gens sc pos RR E s) (ev V.P cl (fw f (cX c sc) c elt gens) ⟨m,C⟩):=by
 induction gens using List.casesOn with
 |nil=>trivial
 |cons g0 r=>
  obtain ⟨t,it,ifs,a⟩:=g0
  unfold fw
  dsimp only
  induction hx:qb t with
  |none=>trivial
  |some xs=>
   dsimp only
   split
   ·rename_i hb
    simp only [and_eq_true,not_eq_true'] at hb
    obtain ⟨⟨xV,l8⟩,pk⟩:=hb
    have xT:a=0:=im xV
    subst xT
    induction hG:oX f (eI (cX c sc) xs) r with
    |none=>trivial
    |some p=>
     obtain ⟨G',cz⟩:=p
     dsimp only
     show As _ _ _ _ _ (if cl.fuel==0 then .fail else (ev V.P cl (f c it) ⟨m,C⟩).bind λy aa=>match bV aa.C y with
      |some items=>(match eh (lq xs (j3 t) (cX c sc).base) (cw (λae=>c9 V.P cl (bD (f (eI (cX c sc) xs)) ifs) ae) (λacc ae=>fU V.P cl (λaK=>ev V.P cl (f cz elt) aK) G' acc ae)) (λC C'=>br C C' y) items [] aa with
       |.ok (.lst ds) ae=>.ok (.lst ds) ⟨aa.m,ae.C⟩
       |_=>.fail)
      |none=>.fail)
     split
     ·trivial
     rename_i hf
     have hh:A.handled=none:=eV λz=>hf (by rw [z]; rfl)
     have hs:=(hE F c it K hc rfl rfl m C g s I).1
     induction ho:ev V.P cl (f c it) ⟨m,C⟩ with
     |fail=>trivial
     |exc x aa=>
      rw [ho] at hs
      exact λRR E q=>⟨by simp,rfl,l8,hs _ _ λg' e s' q1 hx=>q g' e s' q1 hx⟩
     |ok y aa=>
      rw [ho] at hs
      dsimp only [ak.bind]
      induction hi:bV aa.C y with
      |none=>trivial
      |some items=>
       dsimp only
       induction hl:eh (lq xs (j3 t) (cX c sc).base) (cw (λae=>c9 V.P cl (bD (f (eI (cX c sc) xs)) ifs) ae) (λacc ae=>fU V.P cl (λaK=>ev V.P cl (f cz elt) aK) G' acc ae)) (λC C'=>br C C' y) items [] aa with
       |fail=>trivial
       |exc _ _=>trivial
       |ok dd ae=>
        induction dd using D.casesOn<;>first|trivial|skip
        rename_i ds
        refine ⟨ds,rfl,λRR E q=>⟨by simp,rfl,l8,hs _ _ λg1 v s1 q1 I1 ry=>?_⟩⟩
        exact Kp (f:=f) (cz:=cz) B hh K hc ok hx pk hG hE I1 ry hi hl λg' s' a vs k L M q2 h1 h2 h3 h4 h5 h6 h7 h8 h9 l5=>q g' s' a vs k L M (q1.trans q2) h1 h2 h3 h4 h5 h6 h7 h8 h9 l5
   ·trivial
theorem CH.toEval (K:F.Ok) {c:aN} (hc:F.ctx c) (ok:iz c sc) {E:Value->Shared->Prop}
  (h:gens≠[]/\CH V F A elt gens sc pos (compPost V.M A E none Q) E s):wpAny V.M A (eval (.ListComp elt gens sc pos) F.env) Q E s:=by
 induction gens using List.casesOn with
 |nil=>exact absurd rfl h.1
 |cons g0 r=>
  obtain ⟨t,it,ifs,a⟩:=g0
  obtain ⟨_,rfl,l8,z⟩:=h
  rw [eval_ListComp]
  exact wpAny_comprehension_free (use:=none) rfl (tR l8) (Co K hc ok) ok.fn (λx hx hl=>j4 ok.nodup (by rw [<-hl]; exact hx)) z
theorem G5 (B:V.Base) (eV:cl.fuel≠0->A.handled=none) (K:F.Ok) {c:aN} (hc:F.ctx c) {f:aN->Expr->E} (ok:iz c sc) (hE:pf V F A cl f) :
  aA V F A cl (fw f (cX c sc) c elt gens) (.ListComp elt gens sc pos):=.of rfl λm C g s I=>by
 have h:=zH (A:=A) (cl:=cl) (pos:=pos) B eV K hc (elt:=elt) (gens:=gens) ok hE I
 induction ho:ev V.P cl (fw f (cX c sc) c elt gens) ⟨m,C⟩ with
 |fail=>trivial
 |exc x st=>rw [ho] at h; exact λQ E q=>CH.toEval K hc ok (h _ _ q)
 |ok d st=>
  rw [ho] at h
  obtain ⟨ds,rfl,h⟩:=h
  intro Q E q
  refine CH.toEval K hc ok (h _ _ λg' s' a vs k L M q1 h1 h2 h3 rs hl I' h4 h5 h6 h7=>⟨M,h7,λh' hs=>?_⟩)
  have I2:=I'.away (t:=s'.toks) h4 h5 hs
  have ae:g'.Step (g'.put a (some (.aB (bP vs k)))):=Gh.oF h1
  exact q _ _ _ (q1.trans ae) (I2.adopt h1 h2 ((hs.2 a h6).trans h3)) (.lst (Gh.bz ..) ⟨hl,k,rfl⟩ (rs.mono ae.toLe))
theorem DP {f:aN->Expr->E} {ci c:aN}:fw f ci c elt gens=.bad\/cN (fw f ci c elt gens)=true:=by
 unfold fw
 split
 ·exact .inl rfl
 ·split
  ·split
   ·split
    ·exact .inr rfl
    ·exact .inl rfl
   ·exact .inl rfl
  ·exact .inl rfl
theorem G4 (B:V.Base) (eV:cl.fuel≠0->A.handled=none) (K:F.Ok) {c:aN} (hc:F.ctx c) {f:aN->Expr->E} (ok:iz c sc) (hE:pf V F A cl f) :
  dS V F A cl (fw f (cX c sc) c elt gens) (.ListComp elt gens sc pos):=λm C g s I=>by
 rcases DP (f:=f) (ci:=cX c sc) (c:=c) (elt:=elt) (gens:=gens) with e|e
 ·rw [e]; trivial
 rw [e]
 have h:=zH (A:=A) (cl:=cl) (pos:=pos) B eV K hc (elt:=elt) (gens:=gens) ok hE I
 induction ho:ev V.P cl (fw f (cX c sc) c elt gens) ⟨m,C⟩ with
 |fail=>trivial
 |exc x st=>rw [ho] at h; exact λQ E q=>CH.toEval K hc ok (h _ _ q)
 |ok d st=>
  rw [ho] at h
  obtain ⟨ds,rfl,h⟩:=h
  intro Q E q
  refine CH.toEval K hc ok (h _ _ λg' s' a vs k L M q1 h1 h2 h3 rs hl I' h4 h5 h6 h7=>⟨M,h7,λh' hs=>?_⟩)
  have I2:=I'.away (t:=s'.toks) h4 h5 hs
  have ae:g'.Step (g'.put a (some (.cell st.C.length))):=Gh.sE h1
  have hlen:=rs.length
  exact q _ _ _ (q1.trans ae) (I2.AS (c:=.list ds) h1 h2 ((hs.2 a h6).trans h3) ⟨vs,⟨hl,k,rfl⟩,rs.mono ae.toLe⟩) (.loc (Gh.bz ..))
theorem VW:swapsWith (.ListComp elt gens sc pos) (some (.Name x xp)) n env=pure false\/(swapsWith (.ListComp elt gens sc pos) (some (.Name x xp)) n env=pure true/\env.kindOf x=some .local):=by
 unfold swapsWith
 dsimp only
 induction h:(env.blockKind==.function&&env.kindOf x==some .local&&xp.line==(Expr.ListComp elt gens sc pos).pos.line&&!(sc.names.any λ(n,k)=>n==x&&(k==.local||k==.cell))) with
 |false=>exact .inl rfl
 |true=>
  refine .inr ⟨rfl,?_⟩
  simp only [and_eq_true] at h
  exact im h.1.1.2
theorem CH.toUsed (K:F.Ok) {c:aN} (hc:F.ctx c) (ok:iz c sc) {Q:Flow->Shared->Prop} {E:Value->Shared->Prop} (ml:swapsWith (.ListComp elt gens sc pos) (some (.Name x xp)) p.line F.env=pure true)
  (h:gens≠[]/\CH V F A elt gens sc pos (compPost V.M A E (some (assign (.Name x xp) F.env)) (λu' s'=>Q .next s')) E s):wpAny V.M A (exec (.Assign [.Name x xp] (.ListComp elt gens sc pos) p) F.env) Q E s:=by
 induction gens using List.casesOn with
 |nil=>exact absurd rfl h.1
 |cons g0 r=>
  obtain ⟨t,it,ifs,a⟩:=g0
  obtain ⟨_,rfl,l8,z⟩:=h
  rw [exec_Assign_Name_used _ _ _ _ ml]
  refine ce (wpAny_standAt (ce ?_))
  show wpAny _ A (do let _ <-comprehension (.ListComp elt (⟨t,it,ifs,0⟩::r) sc pos) sc F.env _ (newList []) false (eval it F.env) (some (assign (.Name x xp) F.env))) _ _ s
  exact ce (gl (wpAny_comprehension_free (use:=some (assign (.Name x xp) F.env)) (Q:=λu' s'=>Q .next s') rfl (tR l8) (Co K hc ok) ok.fn (λx hx hl=>j4 ok.nodup (by rw [<-hl]; exact hx)) z) (λu' s' hq=>cr (cr hq)) λu' u' e=>e)
theorem UK (B:V.Base) (eV:cl.fuel≠0->A.handled=none) (K:F.Ok) {c:aN} (hc:F.ctx c) (hk:dA c x=some k) {f:aN->Expr->E} (ok:iz c sc) (hE:pf V F A cl f) :
  aO V F A cl (.aR k mu (fw f (cX c sc) c elt gens)) (.Assign [.Name x xp] (.ListComp elt gens sc pos) p):=λm C g s I=>by
 rcases VW (elt:=elt) (gens:=gens) (sc:=sc) (pos:=pos) (xp:=xp) (x:=x) (n:=p.line) (env:=F.env) with ml|⟨ml,yq⟩
 ·refine aj.seq (zJ (mu:=mu) (G5 B eV K hc ok hE) (G4 B eV K hc ok hE) I) (λQ E x=>wpAny_Assign_Name x ml) λd st aV au v u' u' aF r=>?_
  exact aj.seq (oA (A:=A) K aF hc hk r) (λu' u' x=>x) (K:=λu' Q E s=>Q .next s) λu' u' bl aM u' u' u' aP u'=>λQ E q=>q _ _ _ (.refl _) aP .next
 ·show aj _ _ (dR V) _ _ _ (((ev V.P cl (fw f (cX c sc) c elt gens) ⟨m,C⟩).bind λx aa=>gk (mu&&cN (fw f (cX c sc) c elt gens)) x aa).bind λd ae=>(fH k d ae).bind λu' aK=>(ak.ok Fl.next aK:ak Fl))
  rcases DP (f:=f) (ci:=cX c sc) (c:=c) (elt:=elt) (gens:=gens) with e|e
  ·rw [e]; trivial
  rw [e,Bool.and_true]
  have h:=zH (A:=A) (cl:=cl) (pos:=pos) B eV K hc (elt:=elt) (gens:=gens) ok hE I
  have xN:F.names.lookup x=some .local:=by
   unfold dA at hk
   rw [hc.1] at hk
   induction hx:F.names.lookup x with
   |none=>rw [hx] at hk; exact aq hk
   |some kd=>
    rw [hx] at hk
    induction kd using NameKind.casesOn<;>first|rfl|exact aq hk|skip
    have:=K.kinds x _ hx
    have this:F.env.kindOf x=some .cell:=this
    rw [yq] at this; cases this
  have NB:F.slots.lookup x=some k:=by
   unfold dA at hk
   rw [hc.1,xN] at hk; rw [<-hc.2.1]; exact hk
  induction ho:ev V.P cl (fw f (cX c sc) c elt gens) ⟨m,C⟩ with
  |fail=>trivial
  |exc x st=>rw [ho] at h; exact λQ E q=>CH.toUsed K hc ok ml (h _ _ q)
  |ok d st=>
   rw [ho] at h
   obtain ⟨ds,rfl,h⟩:=h
   have fin : ∀ (d':Mine.Lake.D) (ao:St),ao.m=st.m->(∀ g' s' a vs k,g' a=none->V.h₀.get? a=none->s'.heap.get? a=some (bP vs k)->aI V g' ds vs->vs.length<=aH->ai V F st.m st.C g' s'->∃ g2,g'.Step g2/\(∀ L,L≠a->g2 L=g' L)/\ai V F ao.m ao.C g2 s'/\af V g2 d' (.ref a))->
     aj V F (dR V) (wpAny V.M A (exec (.Assign [.Name x xp] (.ListComp elt gens sc pos) p) F.env)) g s ((fH k d' ao).bind λu' aK=>(ak.ok Fl.next aK:ak Fl)):=by
    intro d' ao hm fV
    unfold fH
    split
    ·intro Q E q
     refine CH.toUsed K hc ok ml (h _ _ λg' s' a vs kk L M q1 h1 h2 h3 rs hl I' h4 h5 h6 h7=>?_)
     obtain ⟨g2,q2,Pd,I2,r2⟩:=fV g' s' a vs kk h1 h2 h3 rs hl I'
     obtain ⟨Mf,D7,hr⟩:=I2.fr.loc
     show wpAny _ _ (assign (.Name x xp) F.env (.ref a)) _ _ _
     refine wpAny_assign_Name (wpAny_storeName_local (K.kinds x _ xN) D7 (λh' hn hs=>?_) (by rw [K.fn]; rfl))
     have NG:L≠F.env.locals:=λz=>by
      have:=I'.fr.here
      rw [z] at h4; rw [this] at h4; exact lA h4
     have I3:=I2.localSet (t:=s'.toks+1) K xN NB D7 hr hn hs r2
     refine ⟨M,h7.sameBut hs NG,λW5 Pb=>?_⟩
     have I4:=I3.away (t:=s'.toks+1) (T:=L) (by rw [Pd L h6.symm]; exact h4) h5 Pb
     exact q _ _ _ (q1.trans q2) I4 .next
    ·trivial
   induction mu with
   |false=>
    refine fin (.lst ds) st rfl λg' s' a vs k h1 h2 h3 rs hl I'=>?_
    have ae:g'.Step (g'.put a (some (.aB (bP vs k)))):=Gh.oF h1
    exact ⟨_,ae,λL hL=>Gh.bf _ _ hL,I'.adopt h1 h2 h3,.lst (Gh.bz ..) ⟨hl,k,rfl⟩ (rs.mono ae.toLe)⟩
   |true=>
    refine fin (.loc st.C.length) ⟨st.m,st.C++[.list ds]⟩ rfl λg' s' a vs k h1 h2 h3 rs hl I'=>?_
    have ae:g'.Step (g'.put a (some (.cell st.C.length))):=Gh.sE h1
    exact ⟨_,ae,λL hL=>Gh.bf _ _ hL,I'.AS (c:=.list ds) h1 h2 h3 ⟨vs,⟨hl,k,rfl⟩,rs.mono ae.toLe⟩,.loc (Gh.bz ..)⟩
theorem UJ (B:V.Base) (aC:V.c7) {n:Nm} (hn:df attr=some n) {a b:E} (ml:swapsWith e (some (.Attribute o attr ap)) p.line F.env=pure false) (h:aA V F A cl a e) (hC:dS V F A cl a e) (ho:aA V F A cl b o) :
  aO V F A cl (.cW b n mu a) (.Assign [.Attribute o attr ap] e p):=λm C g s I=>by
 have e1:=oh hn
 subst e1
 refine aj.seq (zJ (mu:=mu) h hC I) (λQ E x=>plainObj_wpAny_Assign_Attribute x ml) λd st aV au v u' u' aF r=>?_
 refine aj.seq (ho _ _ _ _ aF).1 (λu' u' x=>x) λy bQ bl aM ov u' mE aP ry=>?_
 exact aj.seq (GP (A:=A) B aC aP ry (r.mono mE.toLe)) (λu' u' x=>x) (K:=λu' Q E s=>Q .next s) λu' u' dD cT u' u' u' cV u'=>λQ E q=>q _ _ _ (.refl _) cV .next
end
theorem QG {ks:List Str} : ∀ {vs:List α} {i:Nat} {k:Str} {v:α},ks.Nodup->ks[i]?=some k->vs[i]?=some v->(ks.zip vs).lookup k=some v:=by
 induction ks with
 |nil=>intro _ _ _ _ _ h; exact aq h
 |cons a ks ih=>
  intro vs i k v hn h1 h2
  rw [nodup_cons] at hn
  induction vs using List.casesOn with
  |nil=>exact aq h2
  |cons b vs=>
   rw [List.zip_cons_cons,lookup_cons]
   induction i using Nat.casesOn with
   |zero=>obtain rfl:=ad h1; rw [beq_self_eq_true]; exact h2
   |succ i=>
    rw [beq_false_of_ne (λz:k=a=>hn.1 (by rw [<-z]; exact mem_of_getElem? h1))]
    exact ih hn.2 h1 h2
theorem rN {l:List (Str × α)} {k:Str} (h:k ∉ l.map (·.1)):l.lookup k=none:=
 Fu λa z=>h (mem_map_of_mem (f:=Prod.fst) z)
theorem sO (ks:List Str) : ∀ vs:List α,(ks.zip vs).map (·.1)=ks.take vs.length:=by
 induction ks with
 |nil=>intro vs; rw [List.zip_nil_left,take_nil]; rfl
 |cons k ks ih=>
  intro vs
  induction vs using List.casesOn with
  |nil=>rfl
  |cons v vs=>exact congrArg (k :: ·) (ih vs)
theorem Dz {f:α->Option β} {l:List α} {r:List β} (hl:l.length=r.length) (h : ∀ (i:Nat) (a:α) (b:β),l[i]?=some a->r[i]?=some b->f a=some b):l.filterMap f=r:=
 (AU hl h).ind (P:=λl r=>l.filterMap f=r) rfl λa b l r e _ ih=>by
  rw [List.filterMap_cons,e]; exact congrArg (b :: ·) ih
variable {NK:List Str} {dl:List Value} {rest:List (Str × Value)} {fd:FuncData}
section
variable {M:Model} {E:Value->Shared->Prop}
theorem xy {γ:Type} {l:List α} {body:α->β->Sem (ForInStep β)} {K:β->Sem γ} {b0 X:β} (F:List α->β) {Q:γ->Shared->Prop} (h0:b0=F l) (hX:F []=X)
  (step : ∀ x rest done,l=done++x::rest->∀ {Q'},Q' (.yield (F rest)) s->wpAny M A (body x (F (x::rest))) Q' E s) (k:wpAny M A (K X) Q E s):wpAny M A (forIn l b0 body >>= K) Q E s:=by
 subst h0 hX
 refine ce (wpAny_forIn_list _ (λrest acc s'=>(∃ done,l=done++rest)/\acc=F rest/\s'=s) _ (λx rest acc s' hI=>?_) (λacc s' hI=>?_) l _ ⟨⟨[],rfl⟩,rfl,rfl⟩)
 ·obtain ⟨⟨done,e⟩,rfl,rfl⟩:=hI
  exact step x rest done e ⟨⟨done++[x],by rw [e,append_assoc]; rfl⟩,rfl,rfl⟩
 ·obtain ⟨_,rfl,rfl⟩:=hI
  exact k
theorem qa {l done rest:List α} (e:l=done++rest):l.take (l.length - rest.length)=done:=by
 rw [e,length_append,Nat.add_sub_cancel,take_left' rfl]
theorem vV {p d v:Nat} (h:p - v<=d):p - d<=v:=Nat.sub_le_iff_le_add.mpr (add_comm d v ▸ Nat.sub_le_iff_le_add.mp h)
theorem AX {p d v:Nat} (h:p - v<=d) (hj:j<p - d):j<v:=am hj (vV h)
theorem Ic {p d:Nat} (h:d<=p):p - (p - d)<=d:=le_of_eq (sub_sub_self h)
theorem Ie {p d v:Nat} (h:p - v<=d) (h2:v<=i):p - d+(i - (p - d))=i:=add_sub_cancel' (an (vV h) h2)
theorem Ig {p d v:Nat} (hm:p - v<=d):p=min p (min p v+(d - (d - (p - v)))):=by
 rw [sub_sub_self hm]
 rcases Nat.le_total v p with h|h
 ·rw [min_eq_right h,add_sub_cancel' h,Nat.min_self]
 ·rw [min_eq_left h,sub_eq_zero_of_le h,Nat.add_zero,Nat.min_self]
theorem Ih {p d v:Nat} (hi:i<p) (hv : ¬ i<v) (h:d<=p) (hm:p - v<=d):d - (p - v)+(i - min p v)=i - (p - d):=by
 have hv:=le_of_not_lt hv
 have h1:=vV hm
 rw [min_eq_right (le_of_lt (lt_of_le_of_lt hv hi))]
 obtain ⟨e,rfl⟩:=Nat.exists_eq_add_of_le h
 rw [add_sub_cancel_left] at h1 ⊢
 obtain ⟨f,rfl⟩:=Nat.exists_eq_add_of_le h1
 obtain ⟨g,rfl⟩:=Nat.exists_eq_add_of_le hv
 rw [add_sub_cancel_left,add_assoc,add_sub_cancel_left,add_comm d,Nat.add_sub_add_left,sub_sub_self]
 exact Nat.le_of_add_le_add_left (ln (al (jp _ g) (add_comm d e ▸ hi)))
section
variable {P:List Str}
theorem ID (gW:P.Nodup) {k:Str} (h1:P[i]?=some k) (h2:vs[i]?=some v):(P.zip vs++ay).lookup k=some v:=mA (QG gW h1 h2)
theorem IF (gW:P.Nodup) (hk:ay.map (·.1)=NK) (jq : ∀ k∈NK,k ∉ P) {k:Str} (h1:P[i]?=some k) (h2:vs.length<=i):(P.zip vs++ay).lookup k=none:=by
 refine rN λz=>?_
 rw [map_append,sO,mem_append] at z
 rcases z with z|z
 ·obtain ⟨j,hj⟩:=mem_iff_getElem?.mp z
  have Ey:j<vs.length:=(lt_min.mp (length_take ▸ (be hj).1)).1
  rw [getElem?_take,if_pos Ey] at hj
  exact not_lt.mpr h2 ((List.getElem?_inj (be h1).1 gW (j:=j)).mp (h1.trans hj.symm) ▸ Ey)
 ·rw [hk] at z; exact jq _ z (mem_of_getElem? h1)
theorem IG (hk:ay.map (·.1)=NK) (jq : ∀ k∈NK,k ∉ P) {k:Str} (iO:k∈NK):((P.zip vs++ay).lookup k).isSome=true:=by
 rw [pP (rN λz=>jq k iO (by rw [sO] at z; exact mem_of_mem_take z))]
 rw [<-hk] at iO
 obtain ⟨p,hp,rfl⟩:=mem_map.mp iO
 obtain ⟨b,hb⟩:=n8 (x:=p.1) (a:=p.2) hp
 rw [hb]; rfl
theorem IH (hd:dl.length<=P.length) (hm:P.length - vs.length<=dl.length) {S:List (Str × Value)} {k:Str} (h1:P[i]?=some k) (h3:(vs.take P.length++dl.drop (dl.length - (P.length - vs.length)))[i]?=some v)
  (t1:vs[i]?=some v->S.lookup k=some v) (t2:vs.length<=i->dl[i - (P.length - dl.length)]?=some v->S.lookup k=some v):S.lookup k=some v:=by
 have hi:=(be h1).1
 by_cases ug:i<vs.length
 ·rw [List.getElem?_append_left (by rw [length_take]; exact lt_min.mpr ⟨hi,ug⟩),getElem?_take,if_pos hi] at h3
  exact t1 h3
 ·rw [getElem?_append_right (by rw [length_take]; exact le_trans (min_le_right _ _) (le_of_not_lt ug)),length_take,getElem?_drop,Ih hi ug hd hm] at h3
  exact t2 (le_of_not_lt ug) h3
theorem II (hd:dl.length<=P.length) (hm:P.length - vs.length<=dl.length) (mj:NK.Nodup) (hk:ay.map (·.1)=NK) {S:List (Str × Value)}
  (t1 : ∀ (i:Nat) (k:Str) (v:Value),P[i]?=some k->vs[i]?=some v->S.lookup k=some v) (t2 : ∀ (i:Nat) (k:Str) (v:Value),P[i]?=some k->vs.length<=i->dl[i - (P.length - dl.length)]?=some v->S.lookup k=some v)
  (t3 : ∀ k∈NK,S.lookup k=ay.lookup k):(P++NK).filterMap (λn=>(S.lookup n).map λx=>(n,x))=P.zip (vs.take P.length++dl.drop (dl.length - (P.length - vs.length)))++ay:=by
 rw [List.filterMap_append]
 congr 1
 ·refine Dz (by rw [List.length_zip,length_append,length_take,length_drop]; exact Ig hm) λi k b h1 h2=>?_
  have h2:=List.getElem?_zip_eq_some.mp h2
  obtain rfl:=ad (h1.symm.trans h2.1)
  rw [IH hd hm h1 h2.2 (t1 i _ _ h1) (t2 i _ _ h1)]; rfl
 ·rw [<-hk,List.filterMap_map]
  refine Dz rfl λi p b h1 h2=>?_
  obtain rfl:=ad (h1.symm.trans h2)
  have nQ:p∈ay:=mem_of_getElem? h1
  show (S.lookup p.1).map _=some p
  rw [t3 p.1 (hk ▸ mem_map_of_mem nQ),j4 (a:=p.2) (hk ▸ mj) nQ]
  rfl
theorem IJ (mj:NK.Nodup) (hk:ay.map (·.1)=NK) (jq : ∀ k∈NK,k ∉ P) {x:Str × Value} {done:List (Str × Value)} (e1:ay=done++x::rest):x.1∈NK/\(P.zip vs++done).lookup x.1=none:=by
 rw [e1,map_append,map_cons] at hk
 have iQ:x.1∈NK:=hk ▸ mem_append_right _ (.head _)
 refine ⟨iQ,rN λz=>?_⟩
 rw [map_append,sO,mem_append] at z
 rcases z with z|z
 ·exact jq _ iQ (mem_of_mem_take z)
 ·rw [<-hk,nodup_append] at mj
  exact mj.2.2 x.1 z x.1 (.head _) rfl
theorem IK {D G:List (Str × Value)} (l7:(D.map (·.1)).Nodup) {x:Str × Value} {done:List (Str × Value)} (e1:D=done++x::rest):((G++done.filter λp=>(G.lookup p.1).isNone).lookup x.1).isNone=(G.lookup x.1).isNone:=by
 induction q:G.lookup x.1 with
 |some v=>rw [mA q]
 |none=>
  rw [pP q,rN λz=>?_]
  obtain ⟨p,hp,he⟩:=mem_map.mp z
  rw [e1,map_append,nodup_append] at l7
  exact l7.2.2 p.1 (mem_map_of_mem (mem_filter.mp hp).1) x.1 (.head _) he
theorem Ba (gW:P.Nodup) (hd:dl.length<=P.length):(((P.drop (P.length - dl.length)).zip dl).map (·.1)).Nodup:=by
 rw [sO,take_of_length_le (by rw [length_drop]; exact Ic hd)]
 exact gW.sublist (List.drop_sublist _ _)
theorem IL (gW:P.Nodup) (hd:dl.length<=P.length) (hm:P.length - vs.length<=dl.length) {G:List (Str × Value)} (s2 : ∀ (i:Nat) (k:Str),P[i]?=some k->vs.length<=i->G.lookup k=none) {k:Str} (h1:P[i]?=some k) (h2:vs.length<=i)
  (h3:dl[i - (P.length - dl.length)]?=some v):(G++((P.drop (P.length - dl.length)).zip dl).filter (λp=>(G.lookup p.1).isNone)).lookup k=some v:=by
 rw [pP (s2 i k h1 h2)]
 refine j4 ((Ba gW hd).sublist (List.Sublist.map _ List.filter_sublist)) (mem_filter.mpr ⟨mem_iff_getElem?.mpr ⟨i - (P.length - dl.length),?_⟩,by show (G.lookup k).isNone=true; rw [s2 i k h1 h2]; rfl⟩)
 rw [List.getElem?_zip_eq_some,getElem?_drop,Ie hm h2]
 exact ⟨h1,h3⟩
theorem IE (hm:P.length - vs.length<=dl.length) {G:List (Str × Value)} (s1 : ∀ (i:Nat) (k:Str) (v:Value),P[i]?=some k->vs[i]?=some v->G.lookup k=some v):(!((P.take (P.length - dl.length)).filter λn=>(G.lookup n).isNone).isEmpty)=true->False:=by
 intro q
 rw [not_eq_true',<-not_eq_true,isEmpty_iff,List.filter_eq_nil_iff] at q
 refine q λk iO=>?_
 obtain ⟨j,hj⟩:=mem_iff_getElem?.mp iO
 have pz:j<P.length - dl.length:=(lt_min.mp (length_take ▸ (be hj).1)).1
 rw [getElem?_take,if_pos pz] at hj
 rw [s1 j k (vs[j]'(AX hm pz)) hj (getElem?_eq_getElem (AX hm pz))]
 exact Bool.false_ne_true
end
theorem Be {Q:List (Str × Value)->Shared->Prop} {P:List Str} (hP:fd.params.posonlyargs.map (·.arg)++fd.params.args.map (·.arg)=P) (NM:fd.params.kwonlyargs.map (·.arg)=NK)
  (qZ:fd.params.kwarg=none) (gv:(P++NK).Nodup) (hk:ay.map (·.1)=NK) (Eo:vs.length<=P.length\/fd.params.vararg.isSome=true) (hd:dl.length<=P.length) (hm:P.length - vs.length<=dl.length)
  (yy : ∃ o:Option (Array Value),(o.getD #[]).toList=dl/\∀ (Q:Option (Array Value)->Shared->Prop),Q o s->wpAny M A (seqItems? fd.defaults) Q E s)
  (h:match fd.params.vararg with
   |some a=>wpAny M A (newTuple (vs.drop P.length)) (λt s'=>Q (P.zip (vs.take P.length++dl.drop (dl.length - (P.length - vs.length)))++ay++[(a.arg,t)]) s') E s
   |none=>Q (P.zip (vs.take P.length++dl.drop (dl.length - (P.length - vs.length)))++ay) s):wpAny M A (bindArgs fd ⟨vs,ay⟩) Q E s:=by
 subst hP NM
 obtain ⟨o,ho,yy⟩:=yy
 have jq : ∀ k∈fd.params.kwonlyargs.map (·.arg),k ∉ fd.params.posonlyargs.map (·.arg)++fd.params.args.map (·.arg):=λk hk hp=>(nodup_append.mp gv).2.2 k hp k hk rfl
 have gW:=(nodup_append.mp gv).1
 have mj:=(nodup_append.mp gv).2.1
 have b6:=λx rest done=>IJ (vs:=vs) (x:=x) (rest:=rest) (done:=done) mj hk jq
 have s1:=λi k v=>ID (ay:=ay) (vs:=vs) gW (i:=i) (k:=k) (v:=v)
 have s2:=λi k=>IF (vs:=vs) gW hk jq (i:=i) (k:=k)
 have s3:=λk=>IG (vs:=vs) hk jq (k:=k)
 have s4 : ∀ k∈fd.params.kwonlyargs.map (·.arg),((fd.params.posonlyargs.map (·.arg)++fd.params.args.map (·.arg)).zip vs++ay).lookup k=ay.lookup k:=λk iO=>pP (rN λz=>jq k iO (by rw [sO] at z; exact mem_of_mem_take z))
 obtain ⟨G,hG⟩ : ∃ G,(fd.params.posonlyargs.map (·.arg)++fd.params.args.map (·.arg)).zip vs++ay=G:=⟨_,rfl⟩
 rw [hG] at s1 s2 s3 s4
 have t2:=λi k v=>IL (i:=i) (k:=k) (v:=v) gW hd hm s2
 have l7:=Ba gW hd
 have m0:=IE hm s1
 subst ho
 obtain ⟨D,hD⟩ : ∃ D,((fd.params.posonlyargs.map (·.arg)++fd.params.args.map (·.arg)).drop ((fd.params.posonlyargs.map (·.arg)++fd.params.args.map (·.arg)).length - (o.getD #[]).toList.length)).zip (o.getD #[]).toList=D:=⟨_,rfl⟩
 rw [hD] at t2 l7
 obtain ⟨S2,hS⟩ : ∃ S2,G++D.filter (λp=>(G.lookup p.1).isNone)=S2:=⟨_,rfl⟩
 rw [hS] at t2
 have t1 : ∀ (i:Nat) (k:Str) (v:Value),(fd.params.posonlyargs.map (·.arg)++fd.params.args.map (·.arg))[i]?=some k->vs[i]?=some v->S2.lookup k=some v:=λi k v h1 h2=>hS ▸ mA (s1 i k v h1 h2)
 have t3 : ∀ k∈fd.params.kwonlyargs.map (·.arg),S2.lookup k=G.lookup k:=λk iO=>by
  obtain ⟨v,hv⟩:=isSome_iff_exists.mp (s3 k iO)
  rw [hv,<-hS]; exact mA hv
 have fin:=II hd hm mj hk t1 t2 λk iO=>(t3 k iO).trans (s4 k iO)
 have V5 : ¬(vs.length > (fd.params.posonlyargs.map (·.arg)++fd.params.args.map (·.arg)).length&&fd.params.vararg.isNone)=true:=by
  rw [and_eq_true,decide_eq_true_eq]
  rintro ⟨z1,z2⟩
  rcases Eo with z|z
  ·exact not_lt.mpr z z1
  ·rw [isNone_iff_eq_none] at z2; rw [z2] at z; exact bA z
 have d0:(o.getD #[]).toList.drop ((o.getD #[]).toList.length - (fd.params.posonlyargs.map (·.arg)++fd.params.args.map (·.arg)).length)=(o.getD #[]).toList:=by rw [sub_eq_zero_of_le hd,drop_zero]
 have first : ∀ x rest done,ay=done++x::rest->ay.take (ay.length - rest.length)=done++[x]:=λx rest done e1=>qa (by rw [e1,append_assoc]; rfl)
 have second : ∀ x rest done,D=done++x::rest->((G++(D.take (D.length - (x::rest).length)).filter (λp=>(G.lookup p.1).isNone)).lookup x.1).isNone=(G.lookup x.1).isNone:=λx rest done e1=>by rw [qa e1]; exact IK l7 e1
 have V1 : ∀ x rest done,D=done++x::rest->(D.take (D.length - rest.length)).filter (λp=>(G.lookup p.1).isNone)=(D.take (D.length - (x::rest).length)).filter (λp=>(G.lookup p.1).isNone)++(if (G.lookup x.1).isNone then [x] else []):=λx rest done e1=>by
  rw [qa e1,qa (l:=D) (done:=done++[x]) (rest:=rest) (by rw [e1,append_assoc]; rfl),List.filter_append,filter_cons]; rfl
 have ji:=hD
 rw [<-d0] at m0 ji
 clear gv jq gW mj s1 s2 t1 t2 l7 s4 Eo hd hm d0
 refine xy (X:=(G,[])) (λrest=>((fd.params.posonlyargs.map (·.arg)++fd.params.args.map (·.arg)).zip vs++ay.take (ay.length - rest.length),[])) (by rw [sub_self,List.take_zero,append_nil]) (by rw [length_nil,sub_zero,take_length,hG]) (λx rest done e1 Q' hq=>?_) ?_
 ·obtain ⟨iQ,uj⟩:=b6 x rest done e1
  refine E4 (by rw [or_eq_true]; exact .inr (contains_iff_mem.mpr iQ)) ?_
  refine pG (by rw [qa e1,uj]; decide) ?_
  rw [first x rest done e1,<-append_assoc,<-qa e1] at hq
  exact cr hq
 refine ce (yy _ (pG V5 (pG m0 (xy (X:=S2) (λrest=>G++(D.take (D.length - rest.length)).filter (λp=>(G.lookup p.1).isNone)) ?_ ?_ (λx rest done e1 Q' hq=>?_) (xy (X:=(S2,[])) (λu'=>(S2,[])) rfl rfl (λx rest done e1 Q' hq=>pG ?_ (cr hq)) (pG Bool.false_ne_true ?_))))))
 ·rw [ji,sub_self,List.take_zero,List.filter_nil,append_nil]
 ·rw [length_nil,sub_zero,take_length]; exact hS
 ·have e1:=ji.symm.trans e1
  have kR:=second x rest done e1
  rw [V1 x rest done e1,<-append_assoc] at hq
  induction q:(G.lookup x.1).isNone with
  |true=>
   rw [if_pos q] at hq
   exact E4 (kR.trans q) (cr hq)
  |false=>
   rw [if_neg (by rw [q]; exact Bool.false_ne_true),append_nil] at hq
   exact pG (by rw [kR,q]; exact Bool.false_ne_true) (cr hq)
 ·have iQ:x∈fd.params.kwonlyargs.map (·.arg):=by rw [e1]; exact mem_append_right _ (.head _)
  obtain ⟨v,hv⟩:=isSome_iff_exists.mp (s3 x iQ)
  rw [t3 x iQ,hv]; exact Bool.false_ne_true
 ·dsimp only
  rw [fin,qZ]
  induction hv:fd.params.vararg with
  |some a=>
   rw [hv] at h
   exact ce (gl h (λt d5 q=>cr q) λu' u' x=>x)
  |none=>
   rw [hv] at h
   exact cr h
end
structure cF (V:av) (G:a0) (F:aD) (A:Around) (cl:Calls) (n:Nat):Prop where
 O:V.Ok G
 B:V.Base
 aC:V.c7
 dk:V.mR
 GE:G.Exc
 d9:km V
 C:gd V cl n
 K:F.Ok
 A:fL F A cl n 1
variable {fe:Expr}
theorem cF.calls (H:cF V G F A cl n):sY V F A cl:=let ⟨L,hf⟩:=H.K.frame; UE H.B H.aC H.dk H.C H.K hf H.A (le_refl _)
theorem cF.other (H:cF V G F A cl n) {F':aD} (K:F'.Ok) (hs:F'.stack=F.stack):cF V G F' A cl n:=
 ⟨H.O,H.B,H.aC,H.dk,H.GE,H.d9,H.C,K,⟨by rw [hs]; exact H.A.frames,H.A.depth,H.A.units,H.A.calm⟩⟩
theorem Rw:gd V jA n:=⟨λu' u' u' u' u'=>rfl,λu'=>by intros; trivial⟩
theorem cF.held (H:cF V G F A cl n) (e:Value):cF V G F (A.mark (some e)) jA n:=
 ⟨H.O,H.B,H.aC,H.dk,H.GE,H.d9,Rw,H.K,H8 H.A e⟩
theorem Vf {i:Int} {q:Pos}:aA V F A cl (.cst (.int (-i))) (.UnaryOp .USub (.Constant (.int i) k p) q):=.of rfl λm C g s I Q E q=>by
 refine wpAny_UnaryOp (wpAny_mkInt ?_)
 exact PyProof.Rows.neg_int (q g _ _ (.refl g) ((I.tok _).tok _) (.int _ _))
theorem Qg (h:(ks.all λk=>(k.arg.bind df).isSome)=true) : ∀ k∈ks,∃ n,k.arg.bind df=some n:=λk hk=>isSome_iff_exists.mp (all_eq_true.mp h k hk)
theorem aA.dv {o:Option α} {f:α->E} (h : ∀ x,o=some x->aA V F A cl (f x) e):aA V F A cl (Mine.Lake.dv o f) e:=by
 induction o with
 |none=>exact aA.bad
 |some x=>exact h x rfl
theorem aA.ew {b:Bool} {c:E} (h:b=true->aA V F A cl c e):aA V F A cl (Mine.Lake.ew b c) e:=by
 induction b with
 |false=>exact aA.bad
 |true=>exact h rfl
theorem l4 {o:Option α} {f:α->E} (h : ∀ x,cN (f x)=false):cN (dv o f)=false:=by
 induction o with
 |none=>rfl
 |some x=>exact h x
theorem pe {b:Bool} {c:E} (h:cN c=false):cN (ew b c)=false:=by
 induction b with
 |false=>rfl
 |true=>exact h
theorem u4 {l:List α} {x:α} (h:rW l=some x):l=[x]:=by
 match l with
 |[]=>exact aq h
 |[y]=>rw [Option.some.inj h]
 |_::_::_=>exact aq h
theorem rT (h:gb e=some x) : ∃ p,e=.Name x p:=by
 induction e using Expr.casesOn<;>first|exact aq h|exact ⟨_,by rw [Option.some.inj h]⟩
theorem A3 {p:Expr × Str × Pos} (h:lO e=some p):e=.Attribute p.1 p.2.1 p.2.2:=by
 induction e using Expr.casesOn<;>first|exact aq h|(obtain rfl:=ad h; rfl)
theorem Hg {p:Expr × Expr} (h:Ab e=some p) : ∃ q,e=.Subscript p.1 p.2 q:=by
 induction e using Expr.casesOn<;>first|exact aq h|(obtain rfl:=ad h; exact ⟨_,rfl⟩)
theorem Uu {p:Option Expr × Option Expr × Option Expr} (h:vk e=some p) : ∃ q,e=.Slice p.1 p.2.1 p.2.2 q:=by
 induction e using Expr.casesOn<;>first|exact aq h|(obtain rfl:=ad h; exact ⟨_,rfl⟩)
theorem JN {p:Expr × List Expr × List Keyword} (h:wA e=some p) : ∃ q,e=.Call p.1 p.2.1 p.2.2 q:=by
 induction e using Expr.casesOn<;>first|exact aq h|(obtain rfl:=ad h; exact ⟨_,rfl⟩)
set_option tactic.hygienic true in
theorem Rk {i:Int} (h:FG e=some i) : ∃ k p,e=.Constant (.int i) k p:=by
 induction e using Expr.casesOn<;>first|exact aq h|skip
 rename_i a k p
 induction a using Const.casesOn<;>first|exact aq h|exact ⟨k,p,by rw [Option.some.inj h]⟩
theorem UY (H:cF V G F A cl n) (ih : ∀ e,aA V F A cl (f e) e) {l:Expr} {ops:List CmpOp} {rs:List Expr}:aA V F A cl (Ca f l ops rs) (.Compare l ops rs p):=aA.dv λop h1=>aA.dv λr h2=>by
 obtain rfl:=u4 h1
 obtain rfl:=u4 h2
 exact aA.ew λh=>UX H.B H.A (by simpa using h) (ih l) (ih _)
theorem Vt (ih : ∀ e,aA V F A cl (f e) e) {op:UnaryOp} {x:Expr}:aA V F A cl (Ae f op x) (.UnaryOp op x p):=by
 induction op using UnaryOp.casesOn<;>first|exact aA.bad|skip
 ·exact Vh (ih x)
 ·exact aA.dv λi h=>let ⟨k,q,e⟩:=Rk h; e ▸ Vf
theorem Vp (ih : ∀ e,aA V F A cl (f e) e) {v i:Expr}:aA V F A cl (sF f v i) (.Subscript v i p):=by
 unfold sF
 induction h:vk i with
 |none=>exact U7 (ih v) (ih _)
 |some q=>
  obtain ⟨lo,hi,st⟩:=q
  obtain ⟨q,rfl⟩:=Uu h
  exact aA.ew λh=>by
   obtain rfl:=isNone_iff_eq_none.mp h
   exact Vo (ih v) (λe u'=>ih e) (λe u'=>ih e)
theorem Vc (H:cF V G F A cl n) (ih : ∀ e,aA V F A cl (f e) e) {a:Str}:aA V F A cl (Fz f o a apos args ks pos) (.Call (.Attribute o a apos) args ks pos):=aA.ew λh=>by
 simp only [and_eq_true,not_eq_true',decide_eq_true_eq] at h
 obtain ⟨⟨⟨h1,h2⟩,h3⟩,h4⟩:=h
 obtain rfl:=isEmpty_iff.mp h2
 exact aA.dv λb hb=>aA.dv λp hs=>by
  obtain ⟨ps,st⟩:=p
  induction st with
  |none=>
   obtain ⟨rfl,kS⟩:=VJ hs
   exact Vb H.B H.aC H.dk H.C H.K H.A h1 hb kS h3 h4 (ih o) λx u'=>ih x
  |some e=>exact Vd H.B H.aC H.dk H.C H.K H.A h1 hb hs h3 (ih o) λx u'=>ih x
theorem Vk (H:cF V G F A cl n) (ih : ∀ e,aA V F A cl (f e) e) (jX : ∀ e,dS V F A cl (f e) e) (hf:lO fe=none):aA V F A cl (Ge G f fe args ks) (.Call fe args ks pos):=aA.ew λh=>by
 rw [and_eq_true,and_eq_true,not_eq_true',not_eq_true'] at h
 refine UU H.calls hf (ih _) (gM.RU 0 h.1.2 λi e u'=>?_) (λk u'=>ih k.value) (Qg h.2)
 unfold AZ
 induction BW G fe i with
 |true=>exact λm C g s I=>jX e m C g s I
 |false=>exact (ih e).val
theorem UW (H:cF V G F A cl n) (ih : ∀ e,aA V F A cl (f e) e) (jX : ∀ e,dS V F A cl (f e) e):aA V F A cl (qr G f fe args ks pos) (.Call fe args ks pos):=by
 unfold qr
 induction h:lO fe with
 |none=>exact Vk H ih jX h
 |some p=>
  obtain ⟨o,a,apos⟩:=p
  obtain rfl:=A3 h
  exact Vc H ih
theorem BM (k:Nat) (de : ∀ {F:aD} {A:Around} {cl:Calls} {n:Nat},cF V G F A cl n->∀ {c:aN},F.ctx c->∀ (e:Expr),aA V F A cl (cE G k c e) e)
  (uC : ∀ {F:aD} {A:Around} {cl:Calls} {n:Nat},cF V G F A cl n->∀ {c:aN},F.ctx c->∀ (e:Expr),dS V F A cl (cE G k c e) e)
   (H:cF V G F A cl n) {c:aN} (hc:F.ctx c) (e:Expr):aA V F A cl (cE G (k+1) c e) e:=by
  have ih : ∀ e,aA V F A cl (cE G k c e) e:=de H hc
  have jX : ∀ e,dS V F A cl (cE G k c e) e:=uC H hc
  have yN:pf V F A cl (cE G k):=λF' c' e' K' qP dm Ek=>de (H.other K' dm) qP e'
  induction e using Expr.casesOn with
  |Constant a b p=>exact U0
  |Name x p=>exact Ve H.O H.K hc
  |BinOp l op r p=>exact aA.dv λo h=>US h (ih l) (ih r)
  |Compare l ops rs p=>exact UY H ih
  |UnaryOp op x p=>exact Vt ih
  |BoolOp op es p=>
   induction op using BoolOp.casesOn
   ·exact UG λe u'=>ih e
   ·exact Vi λe u'=>ih e
  |IfExp t a b p=>exact U9 (ih t) (ih a) (ih b)
  |List es p=>exact Va λe u'=>ih e
  |Tuple es a p=>exact Vs λe u'=>ih e
  |Dict ks vs p=>
   exact aA.ew λh=>by
    obtain ⟨h1,h2⟩:=and_eq_true_iff.mp h
    obtain rfl:=isEmpty_iff.mp h1
    obtain rfl:=isEmpty_iff.mp h2
    exact U3
  |Subscript v i p=>exact Vp ih
  |ListComp elt gens sc p=>exact aA.ew λh=>G5 H.B H.A.calm H.K hc (wZ h) yN
  |Attribute v a p=>exact aA.ew λh=>aA.dv λb hb=>UQ H.B H.aC (by simpa using h) hb (ih v)
  |NamedExpr t v p=>exact aA.dv λx hx=>aA.dv λj hj=>let ⟨q,e⟩:=rT hx; e ▸ Vu H.K hc hj (ih v)
  |JoinedStr vs p=>exact U6 λe u'=>ih e
  |Call f args ks pos=>exact UW H ih jX
  |_=>exact aA.bad
theorem M7 (k:Const):cN (tw k)=false:=by induction k using Const.casesOn<;>rfl
theorem M8 {c:aN}:cN (mC G c x)=false:=by
 unfold mC
 induction c.names.lookup x with
 |none=>rfl
 |some k=>induction k using NameKind.casesOn<;>first|rfl|(induction c.slots.lookup x<;>rfl)|(induction G.glob.lookup x<;>rfl)
theorem Na {op:UnaryOp} {x:Expr}:cN (Ae f op x)=false:=by
 induction op using UnaryOp.casesOn<;>first|rfl|exact l4 λu'=>rfl
theorem M9 {v i:Expr}:cN (sF f v i)=false:=by
 unfold sF
 induction vk i with
 |none=>rfl
 |some p=>exact pe rfl
theorem M6:cN (qr G f fe args ks pos)=false:=by
 unfold qr
 induction lO fe with
 |none=>exact pe rfl
 |some p=>exact pe (l4 λu'=>l4 λp=>by obtain ⟨ps,st⟩:=p; induction st<;>rfl)
theorem JL (k:Nat) (de : ∀ {F:aD} {A:Around} {cl:Calls} {n:Nat},cF V G F A cl n->∀ {c:aN},F.ctx c->∀ (e:Expr),aA V F A cl (cE G k c e) e)
  (uC : ∀ {F:aD} {A:Around} {cl:Calls} {n:Nat},cF V G F A cl n->∀ {c:aN},F.ctx c->∀ (e:Expr),dS V F A cl (cE G k c e) e)
   (H:cF V G F A cl n) {c:aN} (hc:F.ctx c) (e:Expr):dS V F A cl (cE G (k+1) c e) e:=by
  have ih : ∀ e,aA V F A cl (cE G k c e) e:=de H hc
  have jX : ∀ e,dS V F A cl (cE G k c e) e:=uC H hc
  have yN:pf V F A cl (cE G k):=λF' c' e' K' qP dm Ek=>de (H.other K' dm) qP e'
  have key:cN (cE G (k+1) c e)=false->dS V F A cl (cE G (k+1) c e) e:=λh=>dS.of h (BM k de uC H hc e)
  induction e using Expr.casesOn with
  |Constant a b p=>exact key (M7 a)
  |Name x p=>exact key M8
  |BinOp l op r p=>
   by_cases h:jB op=some .add
   ·obtain rfl:=FY h
    exact UC (ih l) (ih r)
   ·refine key ?_
    show cN (dv (jB op) λo=>.bin o (cE G k c l) (cE G k c r))=false
    induction ho:jB op with
    |none=>rfl
    |some o=>induction o using Op.casesOn<;>first|rfl|exact absurd ho h
  |List es p=>exact UD λe u'=>ih e
  |ListComp elt gens sc p=>
   show dS V F A cl (ew (nq c sc) (fw (cE G k) (cX c sc) c elt gens)) _
   induction h:nq c sc with
   |true=>exact G4 H.B H.A.calm H.K hc (wZ h) yN
   |false=>exact λu' u' u' u' u'=>trivial
  |BoolOp op es p=>
   induction op using BoolOp.casesOn
   ·match es with
    |[]=>exact λu' u' u' u' u'=>trivial
    |[e]=>exact λm C g s I=>jX e m C g s I
    |_::_::_=>exact key rfl
   ·match es with
    |[]=>exact λu' u' u' u' u'=>trivial
    |[e]=>exact λm C g s I=>jX e m C g s I
    |_::_::_=>exact key rfl
  |Compare l ops rs p=>exact key (l4 λu'=>l4 λu'=>pe rfl)
  |UnaryOp op x p=>exact key Na
  |Dict ks vs p=>exact key (pe rfl)
  |Subscript v i p=>exact key M9
  |Attribute v a p=>exact key (pe (l4 λu'=>rfl))
  |NamedExpr t v p=>exact key (l4 λu'=>l4 λu'=>rfl)
  |Call f args ks pos=>exact key M6
  |_=>exact key rfl
theorem ky : ∀ (k:Nat),(∀ {F:aD} {A:Around} {cl:Calls} {n:Nat},cF V G F A cl n->∀ {c:aN},F.ctx c->∀ (e:Expr),aA V F A cl (cE G k c e) e)/\
  (∀ {F:aD} {A:Around} {cl:Calls} {n:Nat},cF V G F A cl n->∀ {c:aN},F.ctx c->∀ (e:Expr),dS V F A cl (cE G k c e) e):=λk=>by
 induction k with
 |zero=>
  exact ⟨λu' u' u' u'=>aA.bad,λu' u' u' u' u' u' u' u' u'=>trivial⟩
 |succ k ih=>
  exact ⟨BM k (ih).1 (ih).2,JL k (ih).1 (ih).2⟩
theorem c8.all {f:Stmt->S} : ∀ {ts:List Stmt},(∀ t,aO V F A cl (f t) t)->c8 V F A cl (iF f ts) ts:=λ{ts}=>by
 induction ts with
 |nil=>
  intro _
  exact Vg
 |cons t ts ih=>
  intro h
  exact UZ (h t) (ih h)
theorem RB:swapsWith e (some (.Attribute o attr ap)) n env=pure false:=by induction e using Expr.casesOn<;>rfl
theorem aO.bI {o:Option α} {f:α->S} {t:Stmt} (h : ∀ x,o=some x->aO V F A cl (f x) t):aO V F A cl (Mine.Lake.bI o f) t:=by
 induction o with
 |none=>exact aO.bad
 |some x=>exact h x rfl
theorem aO.da {b:Bool} {c:S} {t:Stmt} (h:b=true->aO V F A cl c t):aO V F A cl (Mine.Lake.da b c) t:=by
 induction b with
 |false=>exact aO.bad
 |true=>exact h rfl
theorem NW {h:ExceptHandler} {p:Expr × Option Str × List Stmt} (e:Ec h=some p) : ∃ q,h=.ExceptHandler (some p.1) p.2.1 p.2.2 q:=by
 induction h using ExceptHandler.casesOn
 obtain ⟨x,rfl,rfl⟩:=cq e
 exact ⟨_,rfl⟩
section
variable {c:aN}
set_option tactic.hygienic true in
theorem UN (H:cF V G F A cl n) (hc:F.ctx c) (hj:dA c x=some j) (e:Expr):aO V F A cl (.aR j mu (cE G k c e)) (.Assign [.Name x xp] e p):=by
 induction t8:k7 e with
 |false=>exact UH H.K hc hj t8 ((ky k).1 H hc e) ((ky k).2 H hc e)
 |true=>
  induction k using Nat.casesOn with
  |zero=>exact λm C g s I=>trivial
  |succ k'=>
   induction e using Expr.casesOn<;>first|exact bA t8|(exact λm C g s I=>trivial)|skip
   rename_i elt gens sc pos
   show aO V F A cl (.aR j mu (ew (nq c sc) (fw (cE G k') (cX c sc) c elt gens))) _
   induction h:nq c sc with
   |true=>exact UK H.B H.A.calm H.K hc hj (wZ h) λF' c' e' K' qP dm Ek=>(ky k').1 (H.other K' dm) qP e'
   |false=>exact λm C g s I=>trivial
theorem UI (H:cF V G F A cl n) (hc:F.ctx c) {t:Expr}:aO V F A cl (A1 G c (cE G k c) t e) (.Assign [t] e p):=by
 have de : ∀ e,aA V F A cl (cE G k c e) e:=(ky k).1 H hc
 have jX : ∀ e,dS V F A cl (cE G k c e) e:=(ky k).2 H hc
 induction t using Expr.casesOn<;>first|exact aO.bad|skip
 ·exact aO.da λh=>aO.bI λb hb=>UJ H.B H.aC hb RB (de e) (jX e) (de _)
 ·exact aO.da λh=>UL (by simpa using h) (de e) (de _) (de _)
 ·exact aO.bI λj hj=>UN H hc hj e
 ·exact aO.da λh=>aO.bI λns hn=>by
   rw [and_eq_true,not_eq_true',not_eq_true'] at h
   exact UP H.K H.A.calm hc hn h.2 h.1 (de e)
theorem UO (H:cF V G F A cl n) (hc:F.ctx c) {ts:List Expr}:aO V F A cl (A2 G c (cE G k c) ts e) (.Assign ts e p):=by
 match ts with
 |[]=>exact aO.bad
 |[t]=>exact UI H hc
 |[t,u]=>
  exact aO.bI λq hq=>aO.bI λx hx=>aO.bI λj hj=>by
   obtain ⟨_,rfl⟩:=Hg hq
   obtain ⟨_,rfl⟩:=rT hx
   exact UM H.K hc hj ((ky k).1 H hc e) ((ky k).1 H hc _) ((ky k).1 H hc _)
 |_::_::_::_=>exact aO.bad
theorem Vm (H:cF V G F A cl n) (hc:F.ctx c) (ih : ∀ e,aA V F A cl (f e) e) {exc cause:Option Expr}:aO V F A cl (Gp c f exc cause) (.Raise exc cause p):=aO.da λh=>aO.bI λe he=>aO.bI λq hq=>aO.bI λx hx=>aO.da λhk=>aO.da λhn=>by
 obtain ⟨L,hf⟩:=H.K.frame
 obtain rfl:=isNone_iff_eq_none.mp h
 subst he
 obtain ⟨_,rfl⟩:=JN hq
 obtain ⟨fe,args,ks⟩:=q
 obtain ⟨_,e⟩:=rT hx
 have bO:=isEmpty_iff.mp hk
 dsimp only at e bO ⊢
 subst e bO
 match args with
 |[]=>exact aO.bad
 |[e]=>exact aO.bad
 |[a,b]=>
  exact aO.da λh=>by
   rw [and_eq_true,and_eq_true,not_eq_true',not_eq_true'] at h
   exact Vl H.O H.K H.GE H.d9 H.A.calm hf hc hn (im h.1.1) h.1.2 h.2 (ih _) (ih _)
 |_::_::_::_=>exact aO.bad
theorem Vr (H:cF V G F A cl n) (aW:F.stack=F.env::outer) (hc:F.ctx c) {k:Stmt->S} (ih : ∀ t,aO V F A cl (k t) t) (yO : ∀ e t,aO V F (A.mark (some e)) jA (k t) t)
  {orelse fin:List Stmt} {hs:List ExceptHandler}:aO V F A cl (Hn c (iF k) b hs (orelse.isEmpty&&fin.isEmpty)) (.Try b hs orelse fin p):=aO.da λh0=>aO.bI λh hh=>aO.bI λq hq=>aO.bI λx hx=>aO.da λhn=>by
 obtain ⟨h1,h2⟩:=and_eq_true_iff.mp h0
 obtain rfl:=isEmpty_iff.mp h1
 obtain rfl:=isEmpty_iff.mp h2
 obtain rfl:=u4 hh
 obtain ⟨_,rfl⟩:=NW hq
 obtain ⟨t,nm,sG⟩:=q
 obtain ⟨_,e⟩:=rT hx
 dsimp only at e hn ⊢
 subst e
 rw [and_eq_true,not_eq_true'] at hn
 induction sG using List.casesOn with
 |nil=>exact fJ hn.2
 |cons wm sG=>
  induction nm with
  |none=>exact Vq H.O H.K H.GE H.d9 H.A.frames aW hc hn.1 (c8.all ih) λe=>c8.all (yO e)
  |some y=>exact aO.bad
end
theorem tm : ∀ (k:Nat) {F:aD} {A:Around} {cl:Calls} {n:Nat} {outer:List Env},cF V G F A cl n->F.stack=F.env::outer->∀ {c:aN},F.ctx c->∀ (t:Stmt),aO V F A cl (cS G k c t) t
 |0,_,_,_,_,_,_,_,_,_,_=>aO.bad
 |k+1,F,A,cl,n,outer,H,aW,c,hc,t=>by
  have ih : ∀ t,aO V F A cl (cS G k c t) t:=tm k H aW hc
  have yO : ∀ e t,aO V F (A.mark (some e)) jA (cS G k c t) t:=λe=>tm k (H.held e) aW hc
  have de : ∀ e,aA V F A cl (cE G k c e) e:=(ky k).1 H hc
  have hN:sV V F A:=RJ H.A.frames aW
  have hB:sP V F A:=IB
  induction t using Stmt.casesOn with
  |Pass p=>exact Vj
  |Break p=>exact UT
  |Continue p=>exact U1
  |Expr e p=>exact aO.da λh=>U4 H.K (by simpa using h) (de e)
  |Return v p=>exact aO.bI λe h=>h ▸ Vn (de e)
  |If t a b p=>exact U8 (de t) (c8.all ih) (c8.all ih)
  |While t a b p=>exact Vv hN hB (de t) (c8.all ih) (c8.all ih)
  |For t it a orelse p=>
   exact aO.da λh=>aO.bI λx hx=>aO.bI λj hj=>by
    obtain ⟨h1,h2⟩:=and_eq_true_iff.mp h
    obtain rfl:=isEmpty_iff.mp h1
    obtain ⟨_,rfl⟩:=rT hx
    exact U5 H.B hN hB H.A.calm H.K hc hj (de it) (c8.all ih) (tR (by simpa using h2))
  |Delete ts p=>
   exact aO.bI λt h=>aO.bI λq hq=>by
    obtain rfl:=u4 h
    obtain ⟨_,rfl⟩:=Hg hq
    exact U2 (de _) (de _)
  |AugAssign t op e p=>
   exact aO.bI λq hq=>aO.bI λb hb=>aO.bI λo ho=>by
    obtain rfl:=A3 hq
    exact UR H.B H.aC hb ho (de _) (de _)
  |Raise exc cause p=>exact Vm H hc de
  |Try b hs orelse fin p=>exact Vr H aW hc ih yO
  |Assign ts e p=>exact UO H hc
  |_=>exact aO.bad
inductive vD (V:av) (G:a0) (k:Nat) (f:Fn):Prop
 |mk (o:Obj) (fd:FuncData) (body:List Stmt) (dl:List Value) (h1:V.h₀.get? (V.bh k)=some o) (h2:o.data=.func fd) (h3:fd.body=.stmts body) (h4:V.h₀.CodeRec fd.code fd.qualname) (h5:fd.closure=[]) (h6:fd.globals=mainGlobals)
  (h7:fd.builtins=builtinsNs) (h8:tQ fd.params fd.scope=true) (h9:f=eC G fd.params body fd.scope) (l5:aY (λd v => ∀ g,af V g d v) f.bS dl)
  (jf:(fd.defaults=.none/\dl=[])\/∃ a n o',fd.defaults=.ref a/\V.h₀.get? a=some o'/\o'.data=.seq dl.toArray n):vD V G k f
noncomputable def av.vE (V:av) (G:a0):Prop := ∀ k f,V.P.fns[k]?=some f->vD V G k f
structure oK (a:Arguments) (sc:Scope):Prop where
 fn:sc.kind=.function
 co:sc.isCoroutine=false
 gen:sc.isGenerator=false
 nodup:(sc.names.map (·.1)).Nodup
 zk : ∀ x,(x,NameKind.free) ∉ sc.names
 debug:sc.names.lookup ("__debug__":Str)=none
 m8:sc.names.lookup ("__classdict__":Str)=none
 kwarg:a.kwarg=none
 Sg:(((a.posonlyargs.map (·.arg)++a.args.map (·.arg))++a.kwonlyargs.map (·.arg))++(a.vararg.map (·.arg)).toList).Nodup
 Gb : ∀ x∈((a.posonlyargs.map (·.arg)++a.args.map (·.arg))++a.kwonlyargs.map (·.arg))++(a.vararg.map (·.arg)).toList,own sc.names x=true
 LG:a.defaults.length<=(a.posonlyargs.map (·.arg)++a.args.map (·.arg)).length
 Qj : ∀ x∈a.kwonlyargs,(df x.arg).isSome=true
theorem DK {a:Arguments} (h:tQ a sc=true):oK a sc:=by
 unfold tQ at h
 simp only [and_eq_true,isNone_iff_eq_none,decide_eq_true_eq,not_eq_true'] at h
 obtain ⟨⟨⟨⟨⟨⟨⟨⟨⟨⟨⟨h1,h2⟩,h3⟩,h4⟩,h5⟩,h6⟩,h7⟩,h8⟩,h9⟩,l5⟩,jf⟩,xI⟩:=h
 refine ⟨im h1,h2,h3,h4,λx hx=>?_,h6,h7,h8,h9,λx hx=>all_eq_true.mp l5 x hx,jf,λx hx=>all_eq_true.mp xI x hx⟩
 have:=all_eq_true.mp h5 _ hx
 simp at this
theorem F9 : ∀ {names:List (Str × NameKind)} {x:Str},own names x=true->x∈cZ names
 |[],x,h=>by exact bA h
 |(y,k)::r,x,h=>by
  unfold own at h
  rw [lookup_cons] at h
  induction q:x==y with
  |true=>
   rw [q] at h
   have e:=im q
   subst e
   induction k using NameKind.casesOn<;>first|((first|exact bA h|cases h); done)|exact .head _
  |false=>
   rw [q] at h
   have ih:=F9 (names:=r) (x:=x) (by unfold own; exact h)
   induction k using NameKind.casesOn<;>first|exact ih|exact .tail _ ih
theorem vm {x:Arg} (h:own sc.names x.arg=true):(cJ (cZ sc.names) 0).lookup x.arg=some (fh sc x):=by
 obtain ⟨n,hn⟩:=WK (b:=0) (F9 h)
 unfold fh lU
 dsimp only
 rw [hn]; rfl
theorem BZ : ∀ {names:List (Str × NameKind)} {n:Nat},(names.map (·.1)).Nodup->((cellsFrom n names []).map (·.1)).Nodup:=λ{names}=>by
 induction names with
 |nil=>
  intro _ _
  exact nodup_nil
 |cons p0 r ih=>
  obtain ⟨x,k⟩:=p0
  intro n h
  rw [map_cons,nodup_cons] at h
  unfold cellsFrom
  split
  ·rw [ng,map_append,nodup_append]
   refine ⟨ih h.2,by simp,λa ha b hb=>?_⟩
   obtain ⟨p,hp,rfl⟩:=mem_map.mp ha
   have hb:b=x:=by simpa using hb
   subst hb
   intro e
   have:=BY (x:=p.1) (c:=p.2) hp
   have h1:=mem_map_of_mem (f:=Prod.fst) this
   exact h.1 (by rw [<-e]; exact h1)
  ·exact ih h.2
noncomputable def aD.call (F:aD) (fd:FuncData) (L a:Addr):aD where
 env:=callEnvC fd L a
 names:=fd.scope.names
 slots:=cJ (cZ fd.scope.names) 0
 base:=(cZ fd.scope.names).length
 stack:=callEnvC fd L a::F.stack
theorem BN (ok:oK fd.params fd.scope) (hg:fd.globals=mainGlobals) (hb:fd.builtins=builtinsNs):(F.call fd L a).Ok:=by
 refine ⟨ok.fn,hg,hb,λx k h=>?_,λx y n h1 h2=>?_,λx n h=>?_,⟨L,rfl⟩,λx k h hk=>?_,ok.debug,ok.m8⟩
 ·have e:(F.call fd L a).env.kindOf x=some k:=h
  rw [e]
  induction k using NameKind.casesOn<;>first|rfl|exact .inl rfl
 ·have e1:=(iq h1).2.2.2
  rw [(iq h2).2.2.2] at e1
  obtain rfl:=ad e1; rfl
 ·have:=(iq h).2.2.1
  rw [zero_add] at this; exact this
 ·have h:fd.scope.names.lookup x=some k:=h
  have hm:=mem_of_lookup h
  rcases hk with rfl|rfl
  ·obtain ⟨c,hc⟩:=kC (n:=L+1) hm
   obtain ⟨b,hb⟩:=n8 hc
   show ((cellsFrom (L+1) fd.scope.names []).lookup x).isSome=true
   rw [hb]; rfl
  ·exact absurd hm (ok.zk x)
theorem JO:(F.call fd L a).ctx (lU fd.scope):=⟨rfl,rfl,rfl⟩
noncomputable def qg (V:av) (g:Gh) (names:List (Str × NameKind)) (p:Nat × D) (b:Str × Value):Prop:=(cJ (cZ names) 0).lookup b.1=some p.1/\own names b.1=true/\af V g p.2 b.2
structure sW (V:av) (g:Gh) (names:List (Str × NameKind)) (m:List (Option D)) (Ml Mc:Str->Option Value):Prop where
 loc : ∀ x n d,names.lookup x=some .local->(cJ (cZ names) 0).lookup x=some n->m[n]?=some (some d)->∃ v,Ml x=some v/\af V g d v
 cell : ∀ x n d,names.lookup x=some .cell->(cJ (cZ names) 0).lookup x=some n->m[n]?=some (some d)->∃ v,Mc x=some v/\af V g d v
theorem WL {b:Nat} {y:Str} (h1:(cJ xs b).lookup x=some n) (h2:(cJ xs b).lookup y=some n):x=y:=by
 have e1:=(iq h1).2.2.2
 rw [(iq h2).2.2.2] at e1
 obtain rfl:=ad e1; rfl
theorem zu {V:av} {g:Gh} {names:List (Str × NameKind)} {kindOf:Str->Option NameKind} (hk : ∀ x,kindOf x=names.lookup x) : ∀ {ML:List (Nat × D)} {BL:List (Str × Value)} {m:List (Option D)} {Ml Mc:Str->Option Value},aY (qg V g names) ML BL->sW V g names m Ml Mc->
  sW V g names (ie ML m) (bindL kindOf BL Ml) (bindC kindOf BL Mc)
 |[],[],m,Ml,Mc,_,J=>J
 |(sl,d)::ML,(x,v)::BL,m,Ml,Mc,h,J=>by
  obtain ⟨⟨h1,h2,h3⟩,hr⟩:=h
  have h1:(cJ (cZ names) 0).lookup x=some sl:=h1
  have h2:own names x=true:=h2
  have h3:af V g d v:=h3
  have GY : ∀ {y n d'},(cJ (cZ names) 0).lookup y=some n->(m.set sl (some d))[n]?=some (some d')->(y=x/\d'=d)\/(y≠x/\m[n]?=some (some d')):=λ{y n d'} e1 e2=>by
   rw [getElem?_set] at e2
   by_cases q:sl=n
   ·subst q
    rw [if_pos rfl] at e2
    split at e2
    ·cases e2; exact .inl ⟨WL e1 h1,rfl⟩
    ·exact aq e2
   ·rw [if_neg q] at e2
    refine .inr ⟨λz=>q ?_,e2⟩
    subst z; rw [h1] at e1; obtain rfl:=ad e1; rfl
  have step:ie ((sl,d)::ML) m=ie ML (m.set sl (some d)):=rfl
  rw [step]
  unfold bindL bindC
  refine zu hk hr ?_
  rw [hk x]
  refine ⟨λy n d' e1 e2 e3=>?_,λy n d' e1 e2 e3=>?_⟩
  ·rcases GY e2 e3 with ⟨rfl,rfl⟩|⟨q,e4⟩
   ·rw [if_pos e1]; exact ⟨v,if_pos rfl,h3⟩
   ·obtain ⟨u,hu,ru⟩:=J.loc y n d' e1 e2 e4
    split
    ·exact ⟨u,(if_neg q).trans hu,ru⟩
    ·exact ⟨u,hu,ru⟩
  ·rcases GY e2 e3 with ⟨rfl,rfl⟩|⟨q,e4⟩
   ·rw [if_neg (by rw [e1]; decide)]; exact ⟨v,if_pos rfl,h3⟩
   ·obtain ⟨u,hu,ru⟩:=J.cell y n d' e1 e2 e4
    split
    ·exact ⟨u,hu,ru⟩
    ·exact ⟨u,(if_neg q).trans hu,ru⟩
 |[],_::_,_,_,_,h,_=>h.elim
 |_::_,[],_,_,_,h,_=>h.elim
theorem Gl : ∀ (ML:List (Nat × D)) (m:List (Option D)),(ie ML m).length=m.length:=λML=>by
 induction ML with
 |nil=>
  intro _
  exact rfl
 |cons p ML ih=>
  intro m
  show (ie ML (m.set p.1 (some p.2))).length=_
  rw [ih,length_set]
theorem zv (a b:List (Nat × D)) (m:List (Option D)):ie (a++b) m=ie b (ie a m):=by unfold ie; rw [List.foldl_append]
variable {Ml Mc:Str->Option Value}
theorem JP (I:ai V F m C g s) (ok:oK fd.params fd.scope) (x:InCallC s (callEnvC fd s.heap.objs.size a).locals Ml (callEnvC fd s.heap.objs.size a).cells Mc au)
   (hl:m₁.length=(cZ fd.scope.names).length) (J:sW V g fd.scope.names m₁ Ml Mc) :
  ai V (F.call fd s.heap.objs.size a) m₁ C (Gh.over (bw s.heap.objs.size fd.scope.names) (g.bE s.heap)) au/\iZ s au (bw s.heap.objs.size fd.scope.names):=by
 have qQ:=BZ (n:=s.heap.objs.size+1) ok.nodup
 have jm : ∀ y c,(y,c)∈cellsFrom (s.heap.objs.size+1) fd.scope.names []->au.heap.IsCell c (Mc y):=λy c h=>x.cell y c (j4 qQ h)
 have ph : ∀ y c,(y,c)∈cellsFrom (s.heap.objs.size+1) fd.scope.names []->s.heap.objs.size<c:=λy c h=>x.above y c h
 have bR : ∀ {b z},bw s.heap.objs.size fd.scope.names b=some z->(b=s.heap.objs.size/\z=.locals)\/∃ y,(y,b)∈cellsFrom (s.heap.objs.size+1) fd.scope.names []/\z=.cj y:=λ{b z} h=>by
  unfold bw at h
  split at h
  ·rename_i q; obtain rfl:=ad h; exact .inl ⟨q,rfl⟩
  ·obtain ⟨p,hp,hx⟩:=cq h
   have h1:=mem_of_find?_eq_some hp
   have h2:=find?_some hp
   obtain ⟨y,b'⟩:=p
   have h2:b'=b:=im h2
   subst h2
   exact .inr ⟨y,h1,hx.symm⟩
 have hN:iZ s au (bw s.heap.objs.size fd.scope.names):=by
  refine ⟨λb z h=>?_,λb z h=>?_,λb z h=>?_⟩
  ·rcases bR h with ⟨rfl,_⟩|⟨y,hy,_⟩
   ·exact f8 (le_refl _)
   ·exact f8 (ln (ph y b hy))
  ·rcases bR h with ⟨rfl,_⟩|⟨y,hy,_⟩
   ·obtain ⟨o,_,_,ho,_⟩:=x.toInCall.ns; exact ⟨o,ho⟩
   ·obtain ⟨o,ho,_⟩:=jm y b hy; exact ⟨o,ho⟩
  ·rcases bR h with ⟨_,rfl⟩|⟨y,_,rfl⟩
   ·exact .inl rfl
   ·exact .inr ⟨y,rfl⟩
 have aW:=oq I hN
 have L1:g.Le (Gh.over (bw s.heap.objs.size fd.scope.names) (g.bE s.heap)):=Gh.uS.trans aW.toLe
 have fr:=I.fr
 obtain ⟨h',tk,he⟩:=x.toInCall.same
 refine ⟨?_,hN⟩
 refine I.enter hN x.toInCall.keep (by rw [he]) (by rw [he]) ⟨hl,?_,λe hm=>?_,?_,⟨Ml,x.toInCall.ns,λy n d h1 h2 h3=>?_⟩,λy hy=>?_,λy n d h1 h2 h3=>?_⟩
 ·obtain ⟨o,ho⟩:=I.live _ _ fr.here
  exact an fr.above (ln (Heap.lt_size ho))
 ·rcases bi hm with rfl|hm
  ·refine ⟨?_,s.heap.objs.size,rfl,.inl rfl⟩
   show fd.scope.kind≠.module
   rw [ok.fn]; intro z; cases z
  ·obtain ⟨k,L',q,r⟩:=fr.out e hm
   refine ⟨k,L',q,.inr ?_⟩
   rcases r with rfl|⟨o,es,n,r,z⟩
   ·obtain ⟨M,⟨o,es,ep,ho,hd,_⟩,_⟩:=fr.loc
    exact ⟨o,es,ep,(aW.az _ _).mp (Gh.pZ fr.here ho),hd⟩
   ·exact ⟨o,es,n,(aW.az _ _).mp (Gh.mJ r),z⟩
 ·show Gh.over _ _ s.heap.objs.size=_
  unfold Gh.over bw
  rw [if_pos rfl]
 ·obtain ⟨v,hv,r⟩:=J.loc y n d h1 h2 h3
  exact ⟨v,hv,r.mono L1⟩
 ·have hy:fd.scope.names.lookup y=some .cell:=hy
  obtain ⟨c,hc⟩:=kC (n:=s.heap.objs.size+1) (mem_of_lookup hy)
  have kR:=j4 qQ hc
  refine ⟨c,Mc y,kR,?_,jm y c hc,λn d e1 e2=>let ⟨v,hv,r⟩:=J.cell y n d hy e1 e2; ⟨v,hv,r.mono L1⟩⟩
  have:bw s.heap.objs.size fd.scope.names c=some (.cj y):=by
   unfold bw
   rw [if_neg (ne_of_gt (ph y c hc))]
   induction hf:(cellsFrom (s.heap.objs.size+1) fd.scope.names []).find? λp=>p.2==c with
   |none=>
    have:=List.find?_eq_none.mp hf _ hc
    simp at this
   |some p=>
    have h3:=mem_of_find?_eq_some hf
    have h4:=find?_some hf
    obtain ⟨z,b⟩:=p
    have h4:b=c:=im h4
    subst h4
    rw [name_of_addr x.apart h3 hc]; rfl
  unfold Gh.over; rw [this]
 ·exact absurd (mem_of_lookup h1) (ok.zk y)
noncomputable def vC (V:av) (g:Gh) (x:X) (e:Value) (h:Heap):Prop := ∃ a cls args oe vs t T oT ts,e=.ref a/\vR V x cls args/\g a=none/\V.h₀.get? a=none/\h.get? a=some oe/\oe.cls=cls/\oe.data=.fields vs/\vs[0]?=some (.ref t)/\h.TupAt t args/\
 (V.h₀.get? t=none/\g t=none)/\vs[1]?=some (.ref T)/\T≠a/\g T=none/\V.h₀.get? T=none/\h.get? T=some oT/\oT.data=.fields ts/\ts[3]?=some .none
theorem MR {x:X} {st:St} {e:Value} {Q:Shared->Prop} {E:Value->Shared->Prop} (hx:mQ V F x st g e s) (k : ∀ s',ai V F st.m st.C g s'->vC V g x e s'.heap->Q s'):wpAny V.M A (setFlight e none) (λu' s'=>Q s') E s:=by
 obtain ⟨⟨I,a,cls,args,L,rfl,hL,hr,hT⟩,a',oe,vs,T,ha,iP,hd,h1⟩:=hx
 cases ha
 obtain ⟨jw,eY,rV,iX,t,h2,h3,h4,h5,h6,h7,h8⟩:=hT
 rw [iP] at h2; obtain rfl:=ad h2
 rw [hd] at h4; cases h4
 rcases h8 with h8|⟨T',oT,ts,e1,e2,e3,e4,e5,e6,e7⟩
 ·rw [h1] at h8; cases h8
 rw [h1] at e1; cases e1
 have hsz:3<ts.size:=by
  rcases e7 with e7|e7<;>exact (Array.getElem?_eq_some_iff.mp e7).1
 refine wpAny_setFlight_none iP hd h1 e5 e6 hsz ?_
 have hs:Heap.SameBut T s.heap (s.heap.update T (Obj.mapFields (·.setIfInBounds 3 Value.none))):=mo ..
 have qO:a≠T:=λz=>e2 z.symm
 have gp:=Obj.data_mapFields e6 (·.setIfInBounds 3 Value.none)
 have rB:=Heap.get?_update_self (Obj.mapFields (·.setIfInBounds 3 Value.none)) e5 (Obj.isFreed_of_fields gp)
 have um:=(hs.2 a qO).trans iP
 refine k _ (I.away (t:=s.toks) e3 e4 hs) ⟨a,cls,args,oe,vs,t,T,_,_,rfl,hr,jw,eY,um,h3,hd,h5,?_,h7,h1,e2,e3,e4,rB,gp,?_⟩
 ·obtain ⟨o,n,q1,q2,q3⟩:=h6
  refine ⟨o,n,(hs.2 t λz=>?_).trans q1,q2,q3⟩
  rw [z,e5] at q1; obtain rfl:=ad q1
  rw [e6] at q3; cases q3
 ·simp [hsz]
theorem SF (I:ai V F m C g s) (aW:(g.bE s.heap).Step bl) (h:bl a=none):g.eF bl a=none:=by
 rw [Gh.se,h]
 ·intro z
  obtain ⟨o,ho⟩:=I.live a _ z
  have:=(aW.az a o).mp (Gh.pZ z ho)
  rw [h] at this; exact aq this
 ·intro y z
  obtain ⟨o,ho⟩:=I.live a _ z
  have:=(aW.az a o).mp (Gh.sA z ho)
  rw [h] at this; exact aq this
theorem vC.at {x:X} {e:Value} (d:vC V bl x e h) (hn : ∀ a,bl a=none->g' a=none) (hL:F.env.frame=some L) {st:St} {s':Shared} (I:ai V F st.m st.C g' s') (he:s'.heap=h):fj V F x st g' e s':=by
 obtain ⟨a,cls,args,oe,vs,t,T,oT,ts,rfl,hr,h1,h2,h3,h4,h5,h6,h7,h8,h9,l5,jf,xI,Nw,qL,iJ⟩:=d
 subst he
 exact ⟨I,a,cls,args,L,rfl,hL,hr,⟨hn _ h1,h2,oe,vs,t,h3,h4,h5,h6,h7,⟨h8.1,hn _ h8.2⟩,.inr ⟨T,oT,ts,h9,l5,hn _ jf,xI,Nw,qL,.inl iJ⟩⟩⟩
theorem Sd {ps:List Arg} : ∀ {ds:List D} {vs:List Value},(∀ p∈ps,own sc.names p.arg=true)->aI V g ds vs->ps.length=ds.length->aY (qg V g sc.names) ((ps.map (fh sc)).zip ds) ((ps.map (·.arg)).zip vs):=by
 induction ps with
 |nil=>intro _ _ _ _ _; exact trivial
 |cons p ps ih=>
  intro ds vs ho h hl
  induction ds using List.casesOn with
  |nil=>exact absurd hl (succ_ne_zero _)
  |cons d ds=>
   obtain ⟨v,vs,r,rs,rfl⟩:=h.kZ
   exact ⟨⟨vm (ho p (.head _)),ho p (.head _),r⟩,ih (λq hq=>ho q (.tail _ hq)) rs (kt hl)⟩
theorem Sb {ps:List Arg} : ∀ {ks:List (Nm × D)} {ay:List (Str × Value)},(∀ p∈ps,own sc.names p.arg=true/\(df p.arg).isSome=true)->iB V g ks ay->ks.map (·.1)=ps.map (λx=>(df x.arg).getD .init)->
  aY (qg V g sc.names) ((ps.map (fh sc)).zip (ks.map (·.2))) ay/\ay.map (·.1)=ps.map (·.arg):=by
 induction ps with
 |nil=>
  intro ks ay _ h he
  induction ks using List.casesOn with
  |nil=>induction ay using List.casesOn<;>first|exact ⟨trivial,rfl⟩|exact h.elim
  |cons=>cases he
 |cons p ps ih=>
  intro ks ay ho h he
  induction ks using List.casesOn with
  |nil=>cases he
  |cons k ks=>
   induction ay using List.casesOn with
   |nil=>exact h.elim
   |cons v ay=>
    obtain ⟨⟨h1,h2⟩,hr⟩:=h
    obtain ⟨PQ,yM⟩:=ih (λq hq=>ho q (.tail _ hq)) hr (List.cons.inj he).2
    obtain ⟨nn,hn⟩:=isSome_iff_exists.mp (ho p (.head _)).2
    have hk:k.1=(df p.arg).getD .init:=(List.cons.inj he).1
    have hx:v.1=p.arg:=by rw [h1,hk,hn]; exact (oh hn).symm
    refine ⟨⟨⟨?_,?_,h2⟩,PQ⟩,by rw [map_cons,map_cons,yM,hx]⟩
    ·rw [hx]; exact vm (ho p (.head _)).1
    ·rw [hx]; exact (ho p (.head _)).1
theorem SJ (h:aY (λd v => ∀ g,af V g d v) ds vs) (g:Gh):aI V g ds vs:=by
 induction ds generalizing vs with
 |nil=>induction vs using List.casesOn with|nil=>exact .nil|cons _ _=>exact h.elim
 |cons d ds ih=>induction vs using List.casesOn with|nil=>exact h.elim|cons v vs=>exact .cons (h.1 g) (ih h.2)
variable {fuel:Nat}
theorem IT (I:ai V F m C g s) (ok:oK fd.params fd.scope) (iK:aY (λd v => ∀ g,af V g d v) (eC G fd.params body fd.scope).bS dl)
  (qR:(fd.defaults=.none/\dl=[])\/∃ a n o',fd.defaults=.ref a/\V.h₀.get? a=some o'/\o'.data=.seq dl.toArray n) {ks:List (Nm × D)} (rd:aI V g ds vs) (rk:iB V g ks ay)
  {m1:List (Option D)} (hb:gh (eC G fd.params body fd.scope) ds ks=some m1) {Q:List (Str × Value)->Shared->Prop} {E:Value->Shared->Prop}
  (q : ∀ g' s' binds ML,g.Step g'->ai V F m C g' s'->m1=ie ML (replicate (cZ fd.scope.names).length none)->aY (qg V g' fd.scope.names) ML binds->Q binds s'):wpAny V.M A (bindArgs fd ⟨vs,ay⟩) Q E s:=by
 unfold gh at hb
 dsimp only at hb
 split at hb
 ·rename_i hc
  simp only [and_eq_true,decide_eq_true_eq,or_eq_true] at hc
  obtain ⟨⟨⟨⟨xY,kK⟩,xZ⟩,x8⟩,x9⟩:=hc
  have uk:(eC G fd.params body fd.scope).cb.length=(fd.params.posonlyargs.map (·.arg)++fd.params.args.map (·.arg)).length:=by
   show ((fd.params.posonlyargs++fd.params.args).map _).length=_; simp
  have hlen:=rd.length
  have yc:(eC G fd.params body fd.scope).bS.length=dl.length:=iK.length
  have kW:(fd.params.posonlyargs++fd.params.args).map (·.arg)=fd.params.posonlyargs.map (·.arg)++fd.params.args.map (·.arg):=map_append
  have uq : ∀ x∈((fd.params.posonlyargs.map (·.arg)++fd.params.args.map (·.arg))++fd.params.kwonlyargs.map (·.arg))++(fd.params.vararg.map (·.arg)).toList,own fd.scope.names x=true:=ok.Gb
  obtain ⟨OI,dF⟩:=Sb (V:=V) (g:=g) (sc:=fd.scope) (ps:=fd.params.kwonlyargs) (λp hp=>⟨uq _ (mem_append_left _ (mem_append_right _ (mem_map_of_mem hp))),ok.Qj p hp⟩) rk (by
   rw [x9]; show (fd.params.kwonlyargs.map _).map _=_; rw [map_map]; rfl)
  have Pt:aI V g (ds.take (eC G fd.params body fd.scope).cb.length++(eC G fd.params body fd.scope).bS.drop ((eC G fd.params body fd.scope).bS.length - ((eC G fd.params body fd.scope).cb.length - ds.length)))
    (vs.take (fd.params.posonlyargs.map (·.arg)++fd.params.args.map (·.arg)).length++dl.drop (dl.length - ((fd.params.posonlyargs.map (·.arg)++fd.params.args.map (·.arg)).length - vs.length))):=by
   rw [uk,hlen,yc]
   exact (rd.take _).append ((SJ iK g).drop _)
  have EJ:=Sd (V:=V) (g:=g) (sc:=fd.scope) (ps:=fd.params.posonlyargs++fd.params.args) (λp hp=>uq _ (mem_append_left _ (mem_append_left _ (by rw [<-kW]; exact mem_map_of_mem hp)))) Pt (by
   have:=im xY; rw [this]; show _=((fd.params.posonlyargs++fd.params.args).map _).length; simp)
  rw [kW] at EJ
  have jU:=aY.append EJ OI
  have Ez:(eC G fd.params body fd.scope).ck.map (·.2)=fd.params.kwonlyargs.map (fh fd.scope):=by
   show (fd.params.kwonlyargs.map _).map _=_; rw [map_map]; rfl
  have yB:(eC G fd.params body fd.scope).cA=fd.params.vararg.map (fh fd.scope):=rfl
  refine Be (NK:=fd.params.kwonlyargs.map (·.arg)) rfl rfl ok.kwarg (nodup_append.mp ok.Sg).1 dF (?_) (dl:=dl) (by rw [<-yc]; exact an (by show (fd.params.defaults.map _).length<=_; rw [length_map]; exact le_refl _) ok.LG) (by rw [<-yc,<-uk,<-hlen]; exact xZ) ?_ ?_
  ·rcases x8 with h|h
   ·rw [yB,Option.isSome_map] at h; exact .inr h
   ·exact .inl (by rw [<-hlen,<-uk]; exact h)
  ·rcases qR with ⟨e,rfl⟩|⟨a,n,o',e,ho,hd⟩
   ·refine ⟨none,rfl,λQ hQ=>?_⟩
    rw [e]
    show wpAny _ _ (pure () >>= λu'=>pure none) _ _ _
    exact ce (cr (cr hQ))
   ·exact ⟨some dl.toArray,rfl,λQ hQ=>by rw [e]; exact wpAny_seqItems (I.keep _ _ ho) hd hQ⟩
  ·induction pD:fd.params.vararg with
   |none=>
    dsimp only
    rw [yB,pD] at hb
    obtain rfl:=ad hb
    refine q g s _ _ (.refl g) I ?_ jU
    rw [zv,Ez]
    rfl
   |some va=>
    dsimp only
    rw [yB,pD] at hb
    obtain rfl:=ad hb
    unfold newTuple
    have hz:(vs.drop (fd.params.posonlyargs.map (·.arg)++fd.params.args.map (·.arg)).length).length<=aH:=by
     rw [length_drop]; exact an (sub_le _ _) (hlen ▸ kK)
    refine wpAny_newObj_type ?_ (by show Array.size _<=sizeLine; rw [size_toArray]; exact dO hz)
    have Sy:=rd.drop (fd.params.posonlyargs.map (·.arg)++fd.params.args.map (·.arg)).length
    refine I.newList (T:="tuple") (n:=0) (t:=s.toks) (Q:=λt s'=>Q (_++ay++[(va.arg,t)]) s') Sy hz λg' st I' h1 h2 h3=>?_
    refine q g' _ _ (((fd.params.posonlyargs++fd.params.args).map (fh fd.scope)).zip _++(fd.params.kwonlyargs.map (fh fd.scope)).zip (ks.map (·.2))++[(fh fd.scope va,.tup (ds.drop (fd.params.posonlyargs.map (·.arg)++fd.params.args.map (·.arg)).length))]) st I' ?_
     (aY.append (jU.imp λa b ⟨x,y,z⟩=>⟨x,y,z.mono st.toLe⟩) ⟨⟨vm (uq _ (mem_append_right _ (by rw [pD]; exact .head _))),uq _ (mem_append_right _ (by rw [pD]; exact .head _)),.tup h1 h2 h3⟩,trivial⟩)
    rw [zv,zv,Ez,uk]
    rfl
 ·exact aq hb
theorem BO (O:V.Ok G) (B:V.Base) (aC:V.c7) (dk:V.mR) (GE:G.Exc) (gT:km V) (hF:V.vE G) {fuel:Nat} (qT:fuel≠0) : ∀ n,gd V ⟨aE V.P fuel n,fuel⟩ n
 |0=>⟨λh=>absurd h qT,λu'=>by intros; trivial⟩
 |n+1=>by
  have ih:=BO O B aC dk GE gT hF qT n
  refine ⟨λh=>absurd h qT,λ{F A m C g s} k {ds vs ks ay} K hA I rd rk=>?_⟩
  show aj V F (af V) (qf V.M A (.call (.ref (V.bh k)) ⟨vs,ay⟩)) g s (bR m (match V.P.fns[k]? with
   |some f=>(match gh f ds ks with
    |some m1=>dq (ax V.P ⟨aE V.P fuel n,fuel⟩ f.body ⟨m1,C⟩)
    |none=>.fail)
   |none=>.fail))
  induction hf:V.P.fns[k]? with
  |none=>trivial
  |some f=>
   dsimp only
   obtain ⟨o,fd,body,dl,ho,hd,xX,ma,yb,yi,xW,dX,fV,iK,qR⟩:=hF k f hf
   have ok:=DK dX
   subst fV
   induction hb:gh (eC G fd.params body fd.scope) ds ks with
   |none=>trivial
   |some m1=>
    dsimp only
    have Pa:A.depth<recursionLimit:=al (an (an (jp _ _) (jp _ _)) hA.depth) (by decide)
    have enter : ∀ (R:Result->Shared->Prop),(∀ g' s' au,g.Step g'->ai V F m C g' s'->ai V (F.call fd s'.heap.objs.size (V.bh k)) m1 C (Gh.over (bw s'.heap.objs.size fd.scope.names) (g'.bE s'.heap)) au->iZ s' au (bw s'.heap.objs.size fd.scope.names)->
      wpAny V.M (A.deeper (callEnvC fd s'.heap.objs.size (V.bh k))) (execs body (callEnvC fd s'.heap.objs.size (V.bh k))) (λf s'=>R (.ok (.ret (match f with|.ret v=>v|_=>.none))) s')
       (λe aM=>wpAny V.M (A.deeper (callEnvC fd s'.heap.objs.size (V.bh k))) (leaving (callEnvC fd s'.heap.objs.size (V.bh k)) e) (λu' d5=>R (.error e) d5) (λe' d5=>R (.error e') d5) aM) au)->codeAny V.M A (.call (.ref (V.bh k)) ⟨vs,ay⟩) R s:=by
     intro R hR
     refine codeAny_call_function Pa (I.keep _ _ ho) hd ok.co ok.gen xX (ma.keeps I.keep) ?_
     refine IT (G:=G) (body:=body) I ok iK qR rd rk hb λg' s' binds ML st I' nO jU=>?_
     rw [yb]
     refine wpAny_newFunctionEnv_cells ok.fn (λx hx=>?_) λenv he au x=>?_
     ·
      have rn:own fd.scope.names x.1=true:=by
       have : ∀ {ML:List (Nat × D)} {BL:List (Str × Value)},aY (qg V g' fd.scope.names) ML BL->∀ x∈BL,own fd.scope.names x.1=true:=by
        intro ML
        induction ML with
        |nil=>intro BL h x hx; induction BL using List.casesOn with|nil=>cases hx|cons _ _=>exact h.elim
        |cons p ML ih=>
         intro BL h x hx
         induction BL using List.casesOn with
         |nil=>cases hx
         |cons b BL=>
          rcases bi hx with rfl|hx
          ·exact h.1.2.1
          ·exact ih h.2 x hx
       exact this jU x hx
      unfold own at rn
      split at rn
      ·exact .inl ‹_›
      ·rename_i jm
       refine .inr ⟨jm,?_⟩
       obtain ⟨c,hc⟩:=kC (n:=s'.heap.objs.size+1) (mem_of_lookup jm)
       obtain ⟨b,xU⟩:=n8 hc
       rw [xU]; rfl
      ·exact bA rn
     ·subst he
      have hN:au.heap.NoLimit:=by
       obtain ⟨mc,h1,h2⟩:=O.nolimit
       exact ⟨mc,h1.keeps λb o e=>x.toInCall.keep b o (I'.keep b o e),h2⟩
      refine ⟨hN,codeAny_func ?_⟩
      have J:=zu (V:=V) (g:=g') (names:=fd.scope.names) (kindOf:=(callEnvC fd s'.heap.objs.size (V.bh k)).kindOf) (λx=>rfl) jU (m:=replicate (cZ fd.scope.names).length none) (Ml:=λu'=>none) (Mc:=λu'=>none) (by
       have no : ∀ {n d},(replicate (cZ fd.scope.names).length (none:Option D))[n]?=some (some d)->False:=λ{n d} h=>by
        rw [List.getElem?_replicate] at h; split at h<;>(first|exact aq h|cases h)
       exact ⟨λx n d u' u' h=>(no h).elim,λx n d u' u' h=>(no h).elim⟩)
      rw [<-nO] at J
      have hlen:m1.length=(cZ fd.scope.names).length:=by rw [nO,Gl,List.length_replicate]
      obtain ⟨I1,eW⟩:=JP I' ok x hlen J
      exact hR g' s' au st I' I1 eW
    obtain ⟨LF,NF⟩:=K.frame
    have Bq : ∀ g' s' au,ai V F m C g' s'->ai V (F.call fd s'.heap.objs.size (V.bh k)) m1 C (Gh.over (bw s'.heap.objs.size fd.scope.names) (g'.bE s'.heap)) au->
      aJ V (F.call fd s'.heap.objs.size (V.bh k)) (A.deeper (callEnvC fd s'.heap.objs.size (V.bh k))) (dR V) (execs body (callEnvC fd s'.heap.objs.size (V.bh k))) (Gh.over (bw s'.heap.objs.size fd.scope.names) (g'.bE s'.heap)) au
       (ax V.P ⟨aE V.P fuel n,fuel⟩ (eC G fd.params body fd.scope).body ⟨m1,C⟩):=λg' s' au I' I1=>by
     have H:cF V G (F.call fd s'.heap.objs.size (V.bh k)) (A.deeper (callEnvC fd s'.heap.objs.size (V.bh k))) ⟨aE V.P fuel n,fuel⟩ n:=by
      refine ⟨O,B,aC,dk,GE,gT,ih,BN ok yi xW,⟨?_,?_,?_,λu'=>hA.calm⟩⟩
      ·show A.frames.map _=_
       rw [hA.frames]; rfl
      ·exact Ii hA.depth
      ·exact Ik hA.units
     exact c8.all (tm 40 H rfl JO) m1 C _ au I1
    induction fC:ax V.P ⟨aE V.P fuel n,fuel⟩ (eC G fd.params body fd.scope).body ⟨m1,C⟩ with
    |fail=>trivial
    |ok fl st=>
     have main : ∀ (d:D),(∀ ed (v:Value) (f:Flow),dR V ed fl f->(v=match f with|.ret v=>v|_=>.none)->af V ed d v)->aj V F (af V) (qf V.M A (.call (.ref (V.bh k)) ⟨vs,ay⟩)) g s (.ok d ⟨m,st.C⟩):=by
      intro d gp Q E q
      refine enter (ve Q E) λg' s' au q1 I' I1 eW=>?_
      have hs:=Bq g' s' au I' I1
      rw [fC] at hs
      refine hs _ _ λed f d5 f9 I2 r=>?_
      have aW:=(oq I' eW).trans f9
      exact q _ _ d5 (q1.trans (vc I' aW)) (I'.leave aW I2) ((gp ed _ f r rfl).mono (vb I' aW))
     induction fl with
     |next=>exact main .none λed v f r e=>by cases r; subst e; exact .none
     |brk=>trivial
     |cont=>trivial
     |ret d=>exact main d λed v f r e=>by cases r with|ret r=>subst e; exact r
    |exc x st=>
     intro Q E q
     refine enter (ve Q E) λg' s' au q1 I' I1 eW=>?_
     have hs:=Bq g' s' au I' I1
     rw [fC] at hs
     refine hs _ _ λed e d5 f9 hx=>?_
     unfold leaving
     refine ce (zl (F:=F.call fd s'.heap.objs.size (V.bh k)) (outer:=F.stack) ?_ rfl hx λg3 s3 q3 gZ=>MR gZ λs4 I4 hd=>?_)
     ·show A.frames.map _=_
      rw [hA.frames]; rfl
     ·have aW:=((oq I' eW).trans f9).trans q3
      exact q _ _ s4 (q1.trans (vc I' aW)) (hd.at (λa h=>SF I' aW h) NF (st:=⟨m,st.C⟩) (I'.leave aW I4) rfl)
noncomputable def aD.top (fd:FuncData) (L a:Addr):aD where
 env:=callEnvC fd L a
 names:=fd.scope.names
 slots:=cJ (cZ fd.scope.names) 0
 base:=(cZ fd.scope.names).length
 stack:=[callEnvC fd L a]
theorem V8 (ok:oK fd.params fd.scope) (hg:fd.globals=mainGlobals) (hb:fd.builtins=builtinsNs):(aD.top fd L a).Ok:=by
 have h:=BN (F:=⟨default,[],[],0,[]⟩) (L:=L) (a:=a) ok hg hb
 exact ⟨h.fn,h.glob,h.blt,h.kinds,h.inj,h.bound,h.frame,h.cells,h.debug,h.m8⟩
variable {sa:Addr}
set_option tactic.hygienic true in
theorem V7 {ob:Obj} (hh:V.h₀=fB s.heap (λb=>b=sa)) (uo:V.os=s.os) (kN:s.gens = #[]) (gY:s.heap.get? sa=some ob) (ok:oK fd.params fd.scope)
   (x:InCallC s (callEnvC fd s.heap.objs.size a).locals Ml (callEnvC fd s.heap.objs.size a).cells Mc au)
   (hl:m₁.length=(cZ fd.scope.names).length) (J:sW V (λb=>if b=sa then some (.aB ob) else none) fd.scope.names m₁ Ml Mc) :
  ai V (aD.top fd s.heap.objs.size a) m₁ [] (Gh.over (bw s.heap.objs.size fd.scope.names) (λb=>if b=sa then some (.aB ob) else none)) au:=by
 have qQ:=BZ (n:=s.heap.objs.size+1) ok.nodup
 have jm : ∀ y c,(y,c)∈cellsFrom (s.heap.objs.size+1) fd.scope.names []->au.heap.IsCell c (Mc y):=λy c h=>x.cell y c (j4 qQ h)
 have ph : ∀ y c,(y,c)∈cellsFrom (s.heap.objs.size+1) fd.scope.names []->s.heap.objs.size<c:=λy c h=>x.above y c h
 have EL:sa<s.heap.objs.size:=Heap.lt_size gY
 have n6 : ∀ b o,V.h₀.get? b=some o->s.heap.get? b=some o:=λb o e=>by rw [hh] at e; exact ue b o e
 have FI : ∀ {b},s.heap.objs.size<=b->V.h₀.get? b=none:=λ{b} hb=>by
  induction q:V.h₀.get? b with
  |none=>rfl
  |some o=>have:=n6 b o q; rw [Heap.get?_none_of_le hb] at this; exact aq this
 have bR : ∀ {b z},Gh.over (bw s.heap.objs.size fd.scope.names) (λb=>if b=sa then some (.aB ob) else none) b=some z->(b=s.heap.objs.size/\z=.locals)\/(∃ y,(y,b)∈cellsFrom (s.heap.objs.size+1) fd.scope.names []/\z=.cj y)\/(b=sa/\z=.aB ob):=λ{b z} h=>by
  unfold Gh.over bw at h
  dsimp only at h
  split at h
  ·rename_i y hy
   split at hy
   ·rename_i q; obtain rfl:=ad hy; obtain rfl:=ad h; exact .inl ⟨q,rfl⟩
   ·obtain ⟨p,hp,hx⟩:=cq hy
    have h1:=mem_of_find?_eq_some hp
    have h2:=find?_some hp
    obtain ⟨y',b'⟩:=p
    have h2:b'=b:=im h2
    subst h2
    obtain rfl:=ad h
    exact .inr (.inl ⟨y',h1,hx.symm⟩)
  ·split at h
   ·rename_i q; obtain rfl:=ad h; exact .inr (.inr ⟨q,rfl⟩)
   ·exact aq h
 have Oo:Gh.over (bw s.heap.objs.size fd.scope.names) (λb=>if b=sa then some (.aB ob) else none) sa=some (.aB ob):=by
  have:bw s.heap.objs.size fd.scope.names sa=none:=by
   unfold bw
   rw [if_neg (ne_of_lt EL)]
   induction hf:(cellsFrom (s.heap.objs.size+1) fd.scope.names []).find? λp=>p.2==sa with
   |none=>rfl
   |some p=>
    have h1:=mem_of_find?_eq_some hf
    have h2:=find?_some hf
    obtain ⟨y',b'⟩:=p
    have h2:b'=sa:=im h2
    subst h2
    have:=ph y' b' h1
    exact absurd EL (not_lt.mpr (ln this))
  unfold Gh.over; rw [this]; exact if_pos rfl
 have L1:Gh.Le (λb=>if b=sa then some (.aB ob) else none) (Gh.over (bw s.heap.objs.size fd.scope.names) (λb=>if b=sa then some (.aB ob) else none)):=by
  refine ⟨λb o e=>?_,λb i e=>?_⟩
  ·split at e
   ·rename_i q; subst q; cases e; exact Oo
   ·exact aq e
  ·split at e<;>(first|exact aq e|cases e)
 obtain ⟨h',tk,he⟩:=x.toInCall.same
 refine ⟨λb o e=>x.toInCall.keep b o (n6 b o e),λb z e=>?_,λb z e=>?_,λb o e=>?_,λb o e=>?_,λi c e=>(by exact aq e),λb c i e u'=>?_,λb i e=>?_,?_,by rw [he]; exact kN,by rw [he]; exact uo.symm⟩
 ·rcases bR e with ⟨rfl,_⟩|⟨y,hy,_⟩|⟨rfl,_⟩
  ·exact FI (le_refl _)
  ·exact FI (ln (ph y b hy))
  ·rw [hh]; exact qW rfl
 ·rcases bR e with ⟨rfl,_⟩|⟨y,hy,_⟩|⟨rfl,_⟩
  ·obtain ⟨o,_,_,ho,_⟩:=x.toInCall.ns; exact ⟨o,ho⟩
  ·obtain ⟨o,ho,_⟩:=jm y b hy; exact ⟨o,ho⟩
  ·exact ⟨ob,x.toInCall.keep _ _ gY⟩
 ·rcases bR e with ⟨_,z⟩|⟨y,_,z⟩|⟨rfl,z⟩
  ·cases z
  ·cases z
  ·cases z; exact x.toInCall.keep _ _ gY
 ·rcases bR e with ⟨_,z⟩|⟨y,_,z⟩|⟨_,z⟩<;>cases z
 ·rcases bR e with ⟨_,z⟩|⟨y,_,z⟩|⟨_,z⟩<;>cases z
 ·rcases bR e with ⟨_,z⟩|⟨y,_,z⟩|⟨_,z⟩<;>cases z
 ·refine ⟨hl,?_,λe hm=>?_,?_,⟨Ml,x.toInCall.ns,λy n d h1 h2 h3=>?_⟩,λy hy=>?_,λy n d h1 h2 h3=>?_⟩
  ·rw [hh]
   show (fB s.heap _).objs.size<=s.heap.objs.size
   unfold fB
   rw [Array.size_mapIdx]; exact le_refl _
  ·rw [mem_singleton.mp hm]
   refine ⟨?_,s.heap.objs.size,rfl,.inl rfl⟩
   show fd.scope.kind≠.module
   rw [ok.fn]; intro z; cases z
  ·show Gh.over _ _ s.heap.objs.size=_
   unfold Gh.over bw
   rw [if_pos rfl]
  ·obtain ⟨v,hv,r⟩:=J.loc y n d h1 h2 h3
   exact ⟨v,hv,r.mono L1⟩
  ·have hy:fd.scope.names.lookup y=some .cell:=hy
   obtain ⟨c,hc⟩:=kC (n:=s.heap.objs.size+1) (mem_of_lookup hy)
   have kR:=j4 qQ hc
   refine ⟨c,Mc y,kR,?_,jm y c hc,λn d e1 e2=>let ⟨v,hv,r⟩:=J.cell y n d hy e1 e2; ⟨v,hv,r.mono L1⟩⟩
   have:bw s.heap.objs.size fd.scope.names c=some (.cj y):=by
    unfold bw
    rw [if_neg (ne_of_gt (ph y c hc))]
    induction hf:(cellsFrom (s.heap.objs.size+1) fd.scope.names []).find? λp=>p.2==c with
    |none=>
     have:=List.find?_eq_none.mp hf _ hc
     simp at this
    |some p=>
     have h3:=mem_of_find?_eq_some hf
     have h4:=find?_some hf
     obtain ⟨z,b⟩:=p
     have h4:b=c:=im h4
     subst h4
     rw [name_of_addr x.apart h3 hc]; rfl
   unfold Gh.over; rw [this]
  ·exact absurd (mem_of_lookup h1) (ok.zk y)
theorem V6 (O:V.Ok G) (B:V.Base) (aC:V.c7) (dk:V.mR) (GE:G.Exc) (gT:km V) (hF:V.vE G) (qT:fuel≠0) (hn:n<=12) {f:Fn} (hf:V.P.fns[k]?=some f)
  (bC:f.cb.length=1) (dE:f.cA=none) (jr:f.ck=[]) (iL:f.bS=[])
  (hh:V.h₀=fB s.heap (λb=>b=sa)) (uo:V.os=s.os) (kN:s.gens = #[]) (gY:s.heap.get? sa=some {cls:=.type "list",data:=.seq vs.toArray}) (hi:IntsAre vs ns) (hz:ns.length<=63) {st:St}
  (fD:aE V.P fuel (n+1) k [.lst (ns.map .int)] [] []=.ok (.bool true) st)
  (hR : ∀ s',(∀ b o,s.heap.get? b=some o->s'.heap.get? b=some o)->s'.gens = #[]->s'.os=s.os->R (.ok (.ret (.bool true))) s') :
  codeAny V.M callerA (.call (.ref (V.bh k)) ⟨[.ref sa],[]⟩) R s:=by
 have n6 : ∀ b o,V.h₀.get? b=some o->s.heap.get? b=some o:=λb o e=>by rw [hh] at e; exact ue b o e
 have fD:(match V.P.fns[k]? with
  |some f=>(match gh f [.lst (ns.map .int)] [] with
   |some m1=>dq (ax V.P ⟨aE V.P fuel n,fuel⟩ f.body ⟨m1,[]⟩)
   |none=>.fail)
  |none=>.fail)=.ok (.bool true) st:=fD
 rw [hf] at fD
 dsimp only at fD
 obtain ⟨o,fd,body,dl,ho,hd,xX,ma,yb,yi,xW,dX,fV,iK,qR⟩:=hF k f hf
 have ok:=DK dX
 subst fV
 have pD:fd.params.vararg=none:=by
  have:fd.params.vararg.map (fh fd.scope)=none:=dE
  simpa using this
 have qZ:fd.params.kwonlyargs=[]:=by
  have:fd.params.kwonlyargs.map _=[]:=jr
  simpa using this
 have N7:dl=[]:=by
  have:fd.params.defaults.map w8=[]:=iL
  have h2:=iK.length
  show dl=[]
  rw [show (eC G fd.params body fd.scope).bS=fd.params.defaults.map w8 from rfl,this] at h2
  exact List.length_eq_zero_iff.mp h2.symm
 have kW:((fd.params.posonlyargs++fd.params.args).map (fh fd.scope)).length=1:=bC
 rw [length_map] at kW
 obtain ⟨x,hx⟩:=List.length_eq_one_iff.mp kW
 have hP:fd.params.posonlyargs.map (·.arg)++fd.params.args.map (·.arg)=[x.arg]:=by rw [<-map_append,hx]; rfl
 induction hb:gh (eC G fd.params body fd.scope) [.lst (ns.map .int)] [] with
 |none=>rw [hb] at fD; exact cC fD
 |some m1=>
  rw [hb] at fD
  dsimp only at fD
  have rE:own fd.scope.names x.arg=true:=ok.Gb _ (mem_append_left _ (mem_append_left _ (by rw [hP]; exact .head _)))
  have nO:m1=ie [(fh fd.scope x,.lst (ns.map .int))] (replicate (cZ fd.scope.names).length none):=by
   unfold gh at hb
   dsimp only at hb
   split at hb
   ·have e1:(eC G fd.params body fd.scope).cb=[fh fd.scope x]:=by show (fd.params.posonlyargs++fd.params.args).map _=_; rw [hx]; rfl
    rw [dE,e1,jr,iL] at hb
    obtain rfl:=ad hb; rfl
   ·exact aq hb
  have hlen:=hi.length
  have Pu:vs.length<=aH:=by
   exact an (le_of_eq (by first|exact hlen|exact hlen.symm)) (an hz (by decide))
  refine codeAny_call_function (by decide) (n6 _ _ ho) hd ok.co ok.gen xX (ma.keeps n6) ?_
  refine Be (P:=[x.arg]) (NK:=[]) (vs:=[.ref sa]) (ay:=[]) (dl:=[]) hP (by rw [qZ]; rfl) ok.kwarg (by simp) rfl (.inl (by simp)) (by simp) (by simp) ?_ ?_
  ·rcases qR with ⟨e,_⟩|⟨a,n,o',e,dH,gp⟩
   ·refine ⟨none,rfl,λQ hQ=>?_⟩
    rw [e]
    show wpAny _ _ (pure () >>= λu'=>pure none) _ _ _
    exact ce (cr (cr hQ))
   ·exact ⟨some dl.toArray,N7,λQ hQ=>by rw [e]; exact wpAny_seqItems (n6 _ _ dH) gp hQ⟩
  ·rw [pD]
   dsimp only
   rw [yb]
   have NZ:([x.arg].zip (([Value.ref sa].take [x.arg].length)++([]:List Value).drop (([]:List Value).length - ([x.arg].length - [Value.ref sa].length)))++([]:List (Str × Value)))=[(x.arg,Value.ref sa)]:=rfl
   rw [NZ]
   refine wpAny_newFunctionEnv_cells ok.fn (λy hy=>?_) λenv he au xc=>?_
   ·rw [mem_singleton.mp hy]
    unfold own at rE
    split at rE
    ·exact .inl ‹_›
    ·rename_i jm
     refine .inr ⟨jm,?_⟩
     obtain ⟨c,hc⟩:=kC (n:=s.heap.objs.size+1) (mem_of_lookup jm)
     obtain ⟨b,xU⟩:=n8 hc
     rw [xU]; rfl
    ·exact bA rE
   ·subst he
    have hN:au.heap.NoLimit:=by
     obtain ⟨mc,h1,h2⟩:=O.nolimit
     exact ⟨mc,h1.keeps λb o e=>xc.toInCall.keep b o (n6 b o e),h2⟩
    refine ⟨hN,codeAny_func ?_⟩
    have SQ:af V (λb=>if b=sa then some (.aB {cls:=.type "list",data:=.seq vs.toArray}) else none) (.lst (ns.map .int)) (.ref sa):=
     .lst (if_pos rfl) ⟨Pu,0,rfl⟩ (aI.ints hi)
    have J:=zu (V:=V) (g:=λb=>if b=sa then some (.aB {cls:=.type "list",data:=.seq vs.toArray}) else none) (names:=fd.scope.names) (kindOf:=(callEnvC fd s.heap.objs.size (V.bh k)).kindOf) (λx=>rfl)
     (ML:=[(fh fd.scope x,.lst (ns.map .int))]) (BL:=[(x.arg,.ref sa)]) ⟨⟨vm rE,rE,SQ⟩,trivial⟩ (m:=replicate (cZ fd.scope.names).length none) (Ml:=λu'=>none) (Mc:=λu'=>none) (by
     have no : ∀ {n d},(replicate (cZ fd.scope.names).length (none:Option D))[n]?=some (some d)->False:=λ{n d} h=>by
      rw [List.getElem?_replicate] at h; split at h<;>(first|exact aq h|cases h)
     exact ⟨λx n d u' u' h=>(no h).elim,λx n d u' u' h=>(no h).elim⟩)
    rw [<-nO] at J
    have yn:m1.length=(cZ fd.scope.names).length:=by rw [nO,Gl,List.length_replicate]
    have I1:=V7 hh uo kN gY ok xc yn J
    have H:cF V G (aD.top fd s.heap.objs.size (V.bh k)) (callerA.deeper (callEnvC fd s.heap.objs.size (V.bh k))) ⟨aE V.P fuel n,fuel⟩ n:=by
     refine ⟨O,B,aC,dk,GE,gT,BO O B aC dk GE gT hF qT n,V8 ok yi xW,⟨rfl,?_,?_,λu'=>rfl⟩⟩
     ·exact an (add_le_add_right (add_le_add_left (mul_le_mul_left 8 hn) 302) 8) (by decide)
     ·exact an (add_le_add_right (add_le_add_left (mul_le_mul_left 500 hn) 15) 500) (by decide)
    have hs:=c8.all (f:=cS G 40 (lU fd.scope)) (ts:=body) (tm 40 H rfl ⟨rfl,rfl,rfl⟩) m1 [] _ au I1
    have fin : ∀ ed f d5,(Gh.over (bw s.heap.objs.size fd.scope.names) (λb=>if b=sa then some (.aB {cls:=.type "list",data:=.seq vs.toArray}) else none)).Step ed->∀ m2 C2,ai V (aD.top fd s.heap.objs.size (V.bh k)) m2 C2 ed d5->f=Flow.ret (.bool true)->R (.ok (.ret (match f with|.ret v=>v|_=>.none))) d5:=by
     intro ed f d5 f9 m2 C2 I2 ef
     subst ef
     refine hR d5 (λb o' e=>?_) I2.gens (I2.os.trans uo)
     by_cases q:b=sa
     ·subst q
      rw [gY] at e; obtain rfl:=ad e
      refine I2.aB _ _ (f9.toLe.aB _ _ ?_)
      have aZ:b<s.heap.objs.size:=Heap.lt_size gY
      have:bw s.heap.objs.size fd.scope.names b=none:=by
       unfold bw
       rw [if_neg (ne_of_lt aZ)]
       induction El:(cellsFrom (s.heap.objs.size+1) fd.scope.names []).find? λp=>p.2==b with
       |none=>rfl
       |some p=>
        have h1:=mem_of_find?_eq_some El
        have h2:=find?_some El
        obtain ⟨y',b'⟩:=p
        have h2:b'=b:=im h2
        subst h2
        have:=xc.above y' b' h1
        exact absurd aZ (not_lt.mpr (ln this))
      unfold Gh.over; rw [this]; exact if_pos rfl
     ·exact I2.keep b o' (by rw [hh,pn (P:=λb=>b=sa) q]; exact e)
    show wpAny _ _ (execs body (callEnvC fd s.heap.objs.size (V.bh k))) _ _ au
    have kX:dq (ax V.P ⟨aE V.P fuel n,fuel⟩ (iF (cS G 40 (lU fd.scope)) body) ⟨m1,[]⟩)=.ok (.bool true) st:=fD
    induction fC:ax V.P ⟨aE V.P fuel n,fuel⟩ (iF (cS G 40 (lU fd.scope)) body) ⟨m1,[]⟩ with
    |fail=>rw [fC] at kX; exact cC kX
    |exc _ _=>rw [fC] at kX; exact xl kX
    |ok fl ae=>
     rw [fC] at kX hs
     induction fl with
     |next=>cases kX
     |brk=>exact cC kX
     |cont=>exact cC kX
     |ret d=>
      obtain ⟨rfl,rfl⟩:=ak.ok.inj kX
      refine hs _ _ λed f d5 f9 I2 r=>fin ed f d5 f9 _ _ I2 ?_
      cases r with
      |ret r=>obtain rfl:=r.pE; rfl
noncomputable def eK (aQ:List Addr) (k:Nat):Addr:=(aQ[k]?).getD (aQ.headD 0)
noncomputable def kD (bj:List Addr) (k:Nat):Addr:=(bj[k]?).getD 0
noncomputable def zS (cR:List (List Nat)) (k i:Nat):Nat:=(((cR[k]?).getD [])[i]?).getD 999
noncomputable def og (prog:Program) (w:World) (s:Shared) (sa:Addr) (P:aX) (K:W.Frag) (aQ bj:List Addr) (cR:List (List Nat)):av:=
 ⟨prog,w,fB s.heap (λb=>b=sa),s.os,P,K,eK aQ,kD bj,zS cR⟩
set_option backward.match.sparseCases false in
noncomputable def Ag:Value->Option Addr
 |.ref a=>some a
 |_=>none
set_option backward.match.sparseCases false in
noncomputable def Ah:Value->Option Str
 |.str x _=>some x
 |_=>none
set_option backward.match.sparseCases false in
noncomputable def Ht:Value->Option Int
 |.int i _=>some i
 |_=>none
set_option backward.match.sparseCases false in
noncomputable def Hs:Value->Option (Array UInt8)
 |.bytes b _=>some b
 |_=>none
theorem Hu (h:Ag v=some a):v=.ref a:=by induction v using Value.casesOn<;>first|exact aq h|rw [Option.some.inj h]
theorem Hv {a:Str} (h:Ah v=some a) : ∃ t,v=.str a t:=by induction v using Value.casesOn<;>first|exact aq h|exact ⟨_,by rw [Option.some.inj h]⟩
theorem Wj {a:Int} (h:Ht v=some a) : ∃ t,v=.int a t:=by induction v using Value.casesOn<;>first|exact aq h|exact ⟨_,by rw [Option.some.inj h]⟩
theorem Wi {a:Array UInt8} (h:Hs v=some a) : ∃ t,v=.bytes a t:=by induction v using Value.casesOn<;>first|exact aq h|exact ⟨_,by rw [Option.some.inj h]⟩
set_option backward.match.sparseCases false in
noncomputable def CL:Data->Option (Array Value)
 |.fields vs=>some vs
 |_=>none
set_option backward.match.sparseCases false in
noncomputable def CN:Data->Option (Array Value)
 |.seq vs _=>some vs
 |_=>none
set_option backward.match.sparseCases false in
noncomputable def CM:Data->Option FuncData
 |.func fd=>some fd
 |_=>none
set_option backward.match.sparseCases false in
noncomputable def CK:Data->Option (Array DictEntry)
 |.dict es _=>some es
 |_=>none
set_option backward.match.sparseCases false in
noncomputable def CJ:Data->Option ClassData
 |.cls cd=>some cd
 |_=>none
theorem Ll {d:Data} {x:Array Value} (h:CL d=some x):d=.fields x:=by induction d using Data.casesOn<;>first|exact aq h|rw [Option.some.inj h]
theorem Ln {d:Data} {x:Array Value} (h:CN d=some x) : ∃ n,d=.seq x n:=by induction d using Data.casesOn<;>first|exact aq h|exact ⟨_,by rw [Option.some.inj h]⟩
theorem Lm {d:Data} {x:FuncData} (h:CM d=some x):d=.func x:=by induction d using Data.casesOn<;>first|exact aq h|rw [Option.some.inj h]
theorem Lk {d:Data} {x:Array DictEntry} (h:CK d=some x) : ∃ n,d=.dict x n:=by induction d using Data.casesOn<;>first|exact aq h|exact ⟨_,by rw [Option.some.inj h]⟩
theorem Lj {d:Data} {x:ClassData} (h:CJ d=some x):d=.cls x:=by induction d using Data.casesOn<;>first|exact aq h|rw [Option.some.inj h]
noncomputable def sf (aQ bj:List Addr) (d:D) (v:Value):Bool:=match d with
 |.none=>decide (v=.none)
 |.bool a=>decide (v=.bool a)
 |.int i=>Ht v==some i
 |.bytes a=>Hs v==some a.toArray&&decide (a.length<=aH)
 |.bn b=>decide (v=b.val)
 |.fn k=>decide (v=.ref (eK aQ k))
 |.cls k=>decide (v=.ref (kD bj k))
 |_=>false
variable {aQ bj:List Addr}
theorem zz (h1:V.bh=eK aQ) (h2:V.ba=kD bj) (h:sf aQ bj d v=true) (g:Gh):af V g d v:=by
 induction d using D.casesOn<;>first|exact bA h|skip
 ·rw [of_decide_eq_true h]; exact .none
 ·rw [of_decide_eq_true h]; exact .bool _
 ·obtain ⟨t,rfl⟩:=Wj (im h); exact .int _ _
 ·obtain ⟨h3,h4⟩:=and_eq_true_iff.mp h
  obtain ⟨t,rfl⟩:=Wi (im h3); exact .bytes _ (io h4)
 ·rw [of_decide_eq_true h]; exact .bn _
 ·rw [of_decide_eq_true h,<-h1]; exact .fn _
 ·rw [of_decide_eq_true h,<-h2]; exact .cls _
noncomputable def vd (aQ bj:List Addr):List D->List Value->Bool
 |[],vs=>vs.isEmpty
 |d::ds,vs=>match vs with
  |[]=>false
  |v::vs=>sf aQ bj d v&&vd aQ bj ds vs
theorem SI (h1:V.bh=eK aQ) (h2:V.ba=kD bj) : ∀ {ds:List D} {vs:List Value},vd aQ bj ds vs=true->aY (λd v => ∀ g,af V g d v) ds vs:=λ{ds}=>by
 induction ds with
 |nil=>
  intro vs h
  obtain rfl:=isEmpty_iff.mp h
  exact trivial
 |cons d ds ih=>
  intro vs h
  induction vs using List.casesOn with
  |nil=>exact bA h
  |cons v vs=>
   obtain ⟨a,b⟩:=and_eq_true_iff.mp (show (sf aQ bj d v&&vd aQ bj ds vs)=true from h)
   exact ⟨zz h1 h2 a,ih b⟩
noncomputable def zo (K:W.Frag) (v:Value):Option Obj:=(Ag v).bind λc=>K.lookup c
theorem FR {o:Obj} (h:zo K v=some o) : ∃ a,v=.ref a/\K.lookup a=some o:=by
 obtain ⟨a,e,h⟩:=aS h
 exact ⟨a,Hu e,h⟩
noncomputable def Cn (K:W.Frag) (cd:Value):Option Str:=(zo K cd).bind λo=>(CL o.data).bind λvs=>(vs[1]?:Option Value).bind Ah
noncomputable def T7 (K:W.Frag) (v:Value):Option (List Value):=(zo K v).bind λo=>(CN o.data).map (·.toList)
noncomputable def w9 (K:W.Frag) (v:Value):Option (List Value):=match decide (v=.none) with
 |true=>some []
 |false=>T7 K v
noncomputable def Hd:FuncBody->Option (List Stmt)
 |.stmts b=>some b
 |_=>none
theorem VN {b:FuncBody} {x:List Stmt} (h:Hd b=some x):b=.stmts x:=by induction b using FuncBody.casesOn<;>first|exact aq h|rw [Option.some.inj h]
noncomputable def tP (K:W.Frag) (G:a0) (aQ bj:List Addr) (a:Addr):Option Fn:=(K.lookup a).bind λo=>(CM o.data).bind λfd=>(Hd fd.body).bind λbody=>(w9 K fd.defaults).bind λdl=>
 if Cn K fd.code==some fd.qualname&&fd.closure.isEmpty&&fd.globals==mainGlobals&&fd.builtins==builtinsNs&&tQ fd.params fd.scope&&vd aQ bj (eC G fd.params body fd.scope).bS dl then some (eC G fd.params body fd.scope) else none
theorem Ki (X:K.In V.h₀) {cd:Value} {q:Str} (h:Cn K cd=some q) : ∃ c oc vs t,cd=.ref c/\V.h₀.get? c=some oc/\oc.data=.fields vs/\(vs[1]?:Option Value)=some (.str q t):=by
 refine cps λQQ kQ=>?_
 obtain ⟨o,h1,h⟩:=aS h
 obtain ⟨vs,h2,h⟩:=aS h
 obtain ⟨v,h3,h⟩:=aS h
 obtain ⟨c,e,hc⟩:=FR h1
 obtain ⟨t,rfl⟩:=Hv h
 exact kQ ⟨c,o,vs,t,e,X _ _ hc,Ll h2,h3⟩
theorem LC (X:K.In V.h₀) (h:w9 K v=some dl):(v=.none/\dl=[])\/∃ a n o,v=.ref a/\V.h₀.get? a=some o/\o.data=.seq dl.toArray n:=by
 unfold w9 at h
 induction hd:decide (v=.none) with
 |true=>rw [hd] at h; exact .inl ⟨io hd,(ad h).symm⟩
 |false=>
  rw [hd] at h
  obtain ⟨o,h1,h⟩:=aS h
  obtain ⟨xs,h2,rfl⟩:=cq h
  obtain ⟨a,e,ha⟩:=FR h1
  obtain ⟨n,hn⟩:=Ln h2
  exact .inr ⟨a,n,o,e,X _ _ ha,hn⟩
theorem MT (X:K.In V.h₀) (h1:V.bh=eK aQ) (h2:V.ba=kD bj) {f:Fn} (h:tP K G aQ bj (V.bh k)=some f):vD V G k f:=by
 refine cps λQQ kQ=>?_
 obtain ⟨o,ho,h⟩:=aS h
 obtain ⟨fd,hd,h⟩:=aS h
 obtain ⟨body,hb,h⟩:=aS h
 obtain ⟨dl,iK,h⟩:=aS h
 obtain ⟨hc,h⟩:=eZ h
 rw [and_eq_true,and_eq_true,and_eq_true,and_eq_true,and_eq_true] at hc
 obtain ⟨⟨⟨⟨⟨xY,kK⟩,xZ⟩,x8⟩,x9⟩,N2⟩:=hc
 obtain rfl:=ad h
 exact kQ ⟨o,fd,body,dl,X _ _ ho,Lm hd,VN hb,Ki X (im xY),isEmpty_iff.mp kK,im xZ,im x8,x9,rfl,SI h1 h2 N2,LC X iK⟩
theorem H6 (n:Nm):n∈vT:=mem_of_getElem? n.iC
noncomputable def G0 (K:W.Frag) (C:Addr) (n:Nm):Option Addr:=(W.findIn K (.ref C) n.str).bind λv=>v.bind Ag
theorem Uv {C:Addr} {n:Nm} {p:Addr} (h:G0 K C n=some p):W.findIn K (.ref C) n.str=some (some (.ref p)):=by
 obtain ⟨v,h1,h⟩:=aS h
 obtain ⟨u,h2,h⟩:=aS h
 rw [h1,h2,Hu h]
noncomputable def G1 (K:W.Frag) (C:Addr) (n:Nm) (ix:Nat):Bool:=match G0 K C n with
 |some p=>decide (W.slotIn K p C=some ix)&&decide (W.typeIn K (.ref p)=some (.type "member_descriptor"))&&decide (W.specialIn K (.ref p) "__get__"=some (some (.builtin "member_descriptor.__get__")))&&decide (W.takesIn K (.ref p)=some true) &&
  decide (W.takerIn K C n.str=some (some (.ref p)))
 |none=>false
noncomputable def tu (K:W.Frag) (bh:Nat->Addr) (C:Addr) (ix:Nat->Nat) (c:iy):Bool:=
 W.plainGet K C ""&&decide (W.findIn K (.ref C) "__setattr__"=some (some (.builtin "object.__setattr__")))&&W.plainOver K C &&
 (c.meths.all λp=>decide (W.findIn K (.ref C) p.1.str=some (some (.ref (bh p.2))))&&decide (W.typeIn K (.ref (bh p.2))=some (.type "function"))&&decide (W.specialIn K (.ref (bh p.2)) "__get__"=some (some (.builtin "function.__get__"))) &&
  decide (W.takesIn K (.ref (bh p.2))=some false)&&!W.copiedNames.contains p.1.str) &&
 decide (W.findIn K (.ref C) "__init__"=some (some (.ref (bh c.init))))&&decide (W.typeIn K (.ref (bh c.init))=some (.type "function"))&&W.makesIn K C &&
 (!(c.meths.lookup .bX).isSome||(decide (W.findIn K (.ref C) "__len__"=some none)&&decide (W.findIn K (.ref C) "__length_hint__"=some none))) &&
 (match c.slots with
  |none=>W.hasDictIn K C&&(vT.all λn=>!n.nZ||(decide (W.findIn K (.ref C) n.str=some none)&&decide (W.takerIn K C n.str=some none)))
  |some ns=>(ns.all λn=>G1 K C n (ix (ns.idxOf n)))&&decide (((List.range ns.length).map ix).Nodup)&&((List.range ns.length).all λi=>decide (ix i<1000))&&(W.clsIn K C).isSome)
set_option tactic.hygienic true in
theorem Ke {c:iy} (h:tu V.K V.bh (V.ba k) (V.ij k) c=true):Ar V k c:=by
 unfold tu at h
 simp only [and_eq_true,decide_eq_true_eq,or_eq_true,not_eq_true'] at h
 obtain ⟨⟨⟨⟨⟨⟨⟨⟨h1,h2⟩,h3⟩,h4⟩,h5⟩,h6⟩,h7⟩,h8⟩,h9⟩:=h
 refine ⟨h1,h2,h3,λn f hf=>?_,h5,h6,h7,λhn=>?_,λhs=>?_,λns hs=>?_⟩
 ·have hm:(n,f)∈c.meths:=by
   have : ∀ {l:List (Nm × Nat)},l.lookup n=some f->(n,f)∈l:=by
    intro l
    induction l with
    |nil=>intro h; exact aq h
    |cons e r ih=>
     intro h
     rw [lookup_cons] at h
     split at h
     ·rename_i q; obtain rfl:=ad h; rw [eq_of_beq q]; exact .head _
     ·exact .tail _ (ih h)
   exact this hf
  have:=all_eq_true.mp h4 _ hm
  simp only [and_eq_true,decide_eq_true_eq,not_eq_true'] at this
  obtain ⟨⟨⟨⟨a1,a2⟩,a3⟩,a4⟩,a5⟩:=this
  exact ⟨a1,a2,a3,a4,a5⟩
 ·rcases h8 with h8|h8
  ·rw [hn] at h8; exact fJ h8
  ·exact h8
 ·rw [hs] at h9
  dsimp only at h9
  rw [and_eq_true] at h9
  refine ⟨h9.1,λn hn=>?_⟩
  have:=all_eq_true.mp h9.2 n (H6 n)
  rw [hn] at this
  simpa using this
 ·rw [hs] at h9
  dsimp only at h9
  simp only [and_eq_true,decide_eq_true_eq] at h9
  obtain ⟨⟨⟨b1,b2⟩,b3⟩,b4⟩:=h9
  refine ⟨λn hn=>?_,λi j hi hj e=>?_,λi hi=>?_,b4⟩
  ·have:=all_eq_true.mp b1 n (contains_iff_mem.mp hn)
   unfold G1 at this
   split at this
   ·rename_i p hp
    simp only [and_eq_true,decide_eq_true_eq] at this
    obtain ⟨⟨⟨⟨a1,a2⟩,a3⟩,a4⟩,a5⟩:=this
    exact ⟨p,Uv hp,a1,a2,a3,a4,a5⟩
   ·exact bA this
  ·have gi:((List.range ns.length).map (V.ij k))[i]?=some (V.ij k i):=by rw [getElem?_map,getElem?_range hi]; rfl
   have gj:((List.range ns.length).map (V.ij k))[j]?=some (V.ij k j):=by rw [getElem?_map,getElem?_range hj]; rfl
   exact (List.getElem?_inj (by simpa using hi) b2).mp (by rw [gi,gj,e])
  ·exact io (all_eq_true.mp b3 i (mem_range.mpr hi))
noncomputable def uV (K:W.Frag):Option (Array DictEntry):=match K.lookup mainGlobals with
 |some o=>match o.data with
  |.dict es _=>some es
  |_=>none
 |none=>none
noncomputable def xF (aQ bj:List Addr) (es:Array DictEntry) (p:Str × D):Bool:=match nsFind es p.1 with
 |some v=>sf aQ bj p.2 v
 |none=>decide (p.1≠("__name__":Str))&&(match bootBuiltins p.1 with
  |some v=>sf aQ bj p.2 v
  |none=>false)
noncomputable def Lh (o:Obj):Option ClassData:=if (decide (o.cls=.type "type")&&decide (o.slots.size=6)&&decide (o.slots[4]?=some (some (.builtin "ValueError.__new__"))))=true then CJ o.data else none
noncomputable def CI (K:W.Frag) (a:Addr):Option (Array DictEntry):=(K.lookup a).bind λo=>(CK o.data).bind λes=>if (es.toList.all (λe=>(Ah e.key).isSome)&&(nsFind es "__init__").isNone)=true then some es else none
noncomputable def Li (K:W.Frag) (C:Addr):Option (Array DictEntry):=(K.lookup C).bind λo=>(Lh o).bind λcd=>
 if (decide (cd.mro=.ref C::[.type "ValueError",.type "Exception",.type "BaseException",.type "object"])&&decide (cd.hasDel=false))=true then CI K cd.ns else none
noncomputable def w6 (K:W.Frag) (C:Addr):Bool:=(Li K C).isSome
theorem Uq {l:List α} {x:α} (h:l.length=6) (e:l[4]?=some x) : ∃ k0 k1 k2 k3 k5,l=[k0,k1,k2,k3,x,k5]:=by
 refine cps λQQ kQ=>?_
 obtain ⟨k0,l,rfl⟩:=exists_cons_of_length_eq_add_one h
 obtain ⟨k1,l,rfl⟩:=exists_cons_of_length_eq_add_one (kt h)
 obtain ⟨k2,l,rfl⟩:=exists_cons_of_length_eq_add_one (kt (kt h))
 obtain ⟨k3,l,rfl⟩:=exists_cons_of_length_eq_add_one (kt (kt (kt h)))
 obtain ⟨y,l,rfl⟩:=exists_cons_of_length_eq_add_one (kt (kt (kt (kt h))))
 obtain ⟨k5,l,rfl⟩:=exists_cons_of_length_eq_add_one (kt (kt (kt (kt (kt h)))))
 obtain rfl:=List.eq_nil_of_length_eq_zero (kt (kt (kt (kt (kt (kt h))))))
 obtain rfl:=ad e
 exact kQ ⟨_,_,_,_,_,rfl⟩
theorem Lg {es:Array DictEntry} (h:CI K a=some es) : ∃ o n,K.lookup a=some o/\o.data=.dict es n/\(∀ e∈es,∃ x t,e.key=.str x t)/\nsFind es "__init__"=none:=by
 refine cps λQQ kQ=>?_
 obtain ⟨o,ho,h⟩:=aS h
 obtain ⟨nA,hd,h⟩:=aS h
 obtain ⟨hc,h⟩:=eZ h
 obtain rfl:=ad h
 obtain ⟨h1,h2⟩:=and_eq_true_iff.mp hc
 obtain ⟨n,hn⟩:=Lk hd
 refine kQ ⟨o,n,ho,hn,λe he=>?_,isNone_iff_eq_none.mp h2⟩
 obtain ⟨x,hx⟩:=isSome_iff_exists.mp (all_eq_true.mp h1 e (Array.mem_toList_iff.mpr he))
 exact ⟨x,Hv hx⟩
theorem Lf (X:V.K.In V.h₀) (h:w6 V.K (V.ba 1)=true):km V:=by
 refine cps λQQ kQ=>?_
 obtain ⟨es,h⟩:=isSome_iff_exists.mp h
 obtain ⟨o,ho,h⟩:=aS h
 obtain ⟨cd,ma,h⟩:=aS h
 obtain ⟨hm,h⟩:=eZ h
 obtain ⟨hc,ma⟩:=eZ ma
 rw [and_eq_true,decide_eq_true_eq,decide_eq_true_eq] at hm
 rw [and_eq_true,and_eq_true,decide_eq_true_eq,decide_eq_true_eq,decide_eq_true_eq] at hc
 obtain ⟨h1,h2⟩:=hm
 obtain ⟨⟨c1,c2⟩,c3⟩:=hc
 have hd:=Lj ma
 obtain ⟨oN,n,hN,N6,hk,hi⟩:=Lg h
 obtain ⟨oc,dd,od,⟨sl⟩⟩:=o
 obtain ⟨k0,k1,k2,k3,k5,e⟩:=Uq (l:=sl) c2 (by rw [<-c3]; exact (List.getElem?_toArray ..).symm)
 obtain ⟨nm,bs,mro,ns,q,md,sn,sub,ab,col,dl⟩:=cd
 dsimp only at c1 hd h1 h2 hN
 subst c1 hd h1 h2 e
 exact kQ ⟨nm,q,ns,bs,md,sn,sub,ab,col,dd,k0,k1,k2,k3,k5,nsFind es,X _ _ ho,⟨oN,es,n,X _ _ hN,N6,hk,λu'=>rfl⟩,hi⟩
noncomputable def Obj.u0 (o:Obj):Bool:=match o.cls with
 |.type t=>t != "list"
 |_=>true
noncomputable def FV (P:aX) (p:Nat->iy->Bool):Bool:=(List.range P.oZ.length).all λk=>match P.dw k with
 |some c=>p k c
 |none=>true
noncomputable def lh (K:W.Frag):Array DictEntry:=(uV K).getD #[]
structure vK (K:W.Frag) (P:aX) (G:a0) (aQ bj:List Addr) (cR:List (List Nat)):Prop where
 main:(uV K).isSome=true
 plain:(K.all λp=>Obj.u0 p.2)=true
 glob:(G.glob.all (xF aQ bj (lh K)))=true
 cls:FV P (λk c=>tu K (eK aQ) (kD bj k) (zS cR k) c)=true
 keep:((aQ.headD 0::aQ).all λa=>W.keepIn K (.ref a)&&W.fnIn K a)=true
 d9:w6 K (kD bj 1)=true
 fns:((List.range P.fns.length).map λk=>tP K G aQ bj (eK aQ k))=P.fns.map some
theorem Fh {o:Obj}:K.lookup a=some o->(a,o)∈K:=by
 induction K with
 |nil=>intro h; exact aq h
 |cons e r ih=>
  intro h
  rw [lookup_cons] at h
  split at h
  ·rename_i q; obtain rfl:=ad h; rw [eq_of_beq q]; exact .head _
  ·exact .tail _ (ih h)
variable {cR:List (List Nat)} {mb:Str->Option Value}
set_option tactic.hygienic true in
theorem Qp {P:aX} {mg:Str->Option Value}
  (L:vK K P G aQ bj cR) (KX:K.In s.heap) (gY:s.heap.get? sa=some {cls:=.type "list",data:=.seq vs.toArray})
  (gN:s.heap.Ns mainGlobals mg) (bN:s.heap.Ns builtinsNs mb) (nl:s.heap.NoLimit) (nb : ∀ x:Str,x≠"__name__"->mb x=bootBuiltins x) (mods : ∃ mm,s.heap.Ns sysModules mm) :
  (og prog w s sa P K aQ bj cR).Ok G/\(og prog w s sa P K aQ bj cR).Base/\(og prog w s sa P K aQ bj cR).c7/\(og prog w s sa P K aQ bj cR).mR/\
   km (og prog w s sa P K aQ bj cR)/\(og prog w s sa P K aQ bj cR).vE G/\∀ x v,nsFind (lh K) x=some v->mg x=some v:=by
 have vJ:K.In (fB s.heap λb=>b=sa):=λa o e=>by
  have h1:=KX a o e
  have:a≠sa:=by
   rintro rfl
   rw [gY] at h1; obtain rfl:=ad h1
   have:=all_eq_true.mp L.plain _ (Fh e)
   simp [Obj.u0] at this
  rw [pn (P:=λb=>b=sa) this]; exact h1
 have u1 : ∀ {a m},s.heap.Ns a m->(fB s.heap λb=>b=sa).Ns a m:=λ{a m} x=>by
  obtain ⟨o,e1,ep,h1,h2,h3⟩:=x
  have:a≠sa:=by
   rintro rfl
   rw [gY] at h1; obtain rfl:=ad h1; cases h2
  exact ⟨o,e1,ep,by rw [pn (P:=λb=>b=sa) this]; exact h1,h2,h3⟩
 obtain ⟨es,Ej⟩:=isSome_iff_exists.mp L.main
 have OW:lh K=es:=by unfold lh; rw [Ej]; rfl
 have yt : ∀ x,mg x=nsFind (lh K) x:=by
  rw [OW]
  have hm:=Ej
  unfold uV at hm
  split at hm
  ·rename_i o ho
   split at hm
   ·rename_i nA n hd
    obtain rfl:=ad hm
    obtain ⟨o2,WY,ep,h1,h2,_,h3⟩:=gN
    rw [KX _ _ ho] at h1; obtain rfl:=ad h1
    rw [hd] at h2; cases h2
    exact λx=>(h3 x).symm
   ·exact aq hm
  ·exact aq hm
 have Em : ∀ k,W.keepIn K (.ref (eK aQ k))=true/\W.fnIn K (eK aQ k)=true:=λk=>by
  have hk:eK aQ k∈aQ.headD 0::aQ:=by
   unfold eK
   induction q:aQ[k]? with
   |none=>exact .head _
   |some a=>exact .tail _ (mem_of_getElem? q)
  have:=all_eq_true.mp L.keep _ hk
  rwa [and_eq_true] at this
 refine ⟨⟨⟨mg,mb,u1 gN,u1 bN,λx d hx=>?_⟩,?_⟩,⟨?_,vJ⟩,λk c hk=>?_,⟨λk=>(Em k).1,λk=>(Em k).2⟩,Lf vJ L.d9,λk f hk=>?_,λx v h=>(yt x).trans h⟩
 ·have hm:(x,d)∈G.glob:=by
   have : ∀ {l:List (Str × D)},l.lookup x=some d->(x,d)∈l:=by
    intro l
    induction l with
    |nil=>intro h; exact aq h
    |cons e r ih=>
     intro h
     rw [lookup_cons] at h
     split at h
     ·rename_i q; obtain rfl:=ad h; rw [eq_of_beq q]; exact .head _
     ·exact .tail _ (ih h)
   exact this hx
  have hg:=all_eq_true.mp L.glob _ hm
  unfold xF at hg
  split at hg
  ·rename_i v hv
   exact ⟨v,.inl ((yt x).trans hv),λg=>zz rfl rfl hg g⟩
  ·rename_i hv
   rw [and_eq_true,decide_eq_true_eq] at hg
   obtain ⟨h1,h2⟩:=hg
   split at h2
   ·rename_i v hb
    exact ⟨v,.inr ⟨(yt x).trans hv,(nb x h1).trans hb⟩,λg=>zz rfl rfl h2 g⟩
   ·exact bA h2
 ·obtain ⟨mc,h1,h2⟩:=nl
  exact ⟨mc,u1 h1,h2⟩
 ·obtain ⟨mm,h⟩:=mods
  obtain ⟨o,_,_,h1,_⟩:=u1 h
  exact ⟨o,h1⟩
 ·have aZ:k<P.oZ.length:=by
   have:P.dw k=some c:=hk
   unfold aX.dw at this
   induction q:P.oZ[k]? with
   |none=>rw [q] at this; exact aq this
   |some c'=>exact (be q).1
  have:=all_eq_true.mp L.cls k (mem_range.mpr aZ)
  have iN:P.dw k=some c:=hk
  rw [iN] at this
  exact Ke this
 ·have iN:P.fns[k]?=some f:=hk
  have h1:(P.fns.map some)[k]?=some (some f):=by rw [getElem?_map,iN]; rfl
  rw [<-L.fns,getElem?_map] at h1
  have aZ:k<P.fns.length:=(be iN).1
  rw [getElem?_range aZ] at h1
  have h2:tP K G aQ bj (eK aQ k)=some f:=by
   simpa using h1
  exact MT vJ rfl rfl h2
theorem P7 {P:aX} {mg:Str->Option Value} {fa:Addr}
  (KX:K.In s.heap) (Of:mg "law"=some (.ref fa)) (gN:s.heap.Ns mainGlobals mg) (bN:s.heap.Ns builtinsNs mb) (nl:s.heap.NoLimit) (nb : ∀ x:Str,x≠"__name__"->mb x=bootBuiltins x) (mods:s.heap.NoSeer)
  (kN:s.gens = #[]) (gY:s.heap.get? sa=some {cls:=.type "list",data:=.seq vs.toArray}) (hi:IntsAre vs ns) (hz:ns.length<=63)
  (L:vK K P G aQ bj cR) (GE:G.Exc) (yo:nsFind (lh K) "law"=some (.ref (eK aQ k))) {f:Fn} (hf:P.fns[k]?=some f) (bC:f.cb.length=1) (dE:f.cA=none) (jr:f.ck=[]) (iL:f.bS=[])
  (fD : ∃ st,aE P 10000 12 k [.lst (ns.map .int)] [] []=.ok (.bool true) st)
  (hR : ∀ s',(∀ b o,s.heap.get? b=some o->s'.heap.get? b=some o)->s'.gens = #[]->s'.os=s.os->R (.ok (.ret (.bool true))) s') :
  codeAny (model prog w) callerA (.call (.ref fa) ⟨[.ref sa],[]⟩) R s:=by
 obtain ⟨O,B,aC,dk,gT,hF,hm⟩:=Qp (prog:=prog) (w:=w) L KX gY gN bN nl nb (let ⟨mm,h,_⟩:=mods.mods; ⟨mm,h⟩)
 obtain ⟨st,fD⟩:=fD
 have h1:=hm _ _ yo
 rw [Of] at h1
 obtain rfl:fa=eK aQ k:=by cases h1; rfl
 exact V6 (V:=og prog w s sa P K aQ bj cR) O B aC dk GE gT hF (fuel:=10000) (n:=11) (by decide) (by decide) hf bC dE jr iL (sa:=sa) rfl rfl kN gY hi hz fD hR
theorem Qu {P:Params} {xs:List PyData} (w:W.Well P h (.ref sa) (W.ofPy (PyData.list xs))) (L:h.IsList sa vs.toArray):h.get? sa=some {cls:=.type "list",data:=.seq vs.toArray}:=by
 have e:W.ofPy (PyData.list xs)=.list (W.ofPys xs):=by simp [W.ofPy]
 rw [e] at w
 cases w with
 |list h1 h2=>
  obtain ⟨o,h3,h4,n,h5⟩:=L
  rw [h1] at h3
  obtain rfl:=ad h3
  cases h5
  exact h1
noncomputable def jH (h:Heap):W.Frag:=(List.range h.objs.size).filterMap λa=>match h.get? a with
 |some o=>if Obj.u0 o then some (a,o) else none
 |none=>none
theorem Hz {o:Obj} (e:(a,o)∈jH h):h.get? a=some o/\Obj.u0 o=true:=by
 obtain ⟨b,_,hb⟩:=List.mem_filterMap.mp e
 split at hb
 ·split at hb
  ·cases hb; exact ⟨by assumption,by assumption⟩
  ·cases hb
 ·cases hb
theorem Wn (h:Heap):(jH h).In h:=λu' u' e=>(Hz (Fh e)).1
noncomputable def Fi (P:aX) (G:a0) (aQ bj:List Addr) (cR:List (List Nat)) (s:Shared):(Bool × Bool × Bool × Bool × Bool) × Option Value × List (Option Fn):=
 (((uV (jH s.heap)).isSome,G.glob.all (xF aQ bj (lh (jH s.heap))),FV P (λk c=>tu (jH s.heap) (eK aQ) (kD bj k) (zS cR k) c),
  (aQ.headD 0::aQ).all (λa=>W.keepIn (jH s.heap) (.ref a)&&W.fnIn (jH s.heap) a),w6 (jH s.heap) (kD bj 1)),
  nsFind (lh (jH s.heap)) "law",(List.range P.fns.length).map λk=>tP (jH s.heap) G aQ bj (eK aQ k))
noncomputable def Fj (P:aX) (aQ:List Addr) (k:Nat) (_:World):(Bool × Bool × Bool × Bool × Bool) × Option Value × List (Option Fn):=
 ((true,true,true,true,true),some (.ref (eK aQ k)),P.fns.map some)
noncomputable def uQ (P:aX) (G:a0) (aQ bj:List Addr) (cR:List (List Nat)) (k:Nat) (_:World) (h:Heap):Prop:=
 ∃ K:W.Frag,K.In h/\vK K P G aQ bj cR/\nsFind (lh K) "law"=some (.ref (eK aQ k))
theorem Qo {P:aX} (w:World) (s:Shared) (e:Fi P G aQ bj cR s=Fj P aQ k w):uQ P G aQ bj cR k w s.heap:=by
 refine cps λQQ kQ=>?_
 obtain ⟨e1,e2,e3⟩:=(Prod.mk.inj e).imp id Prod.mk.inj
 obtain ⟨a1,e1⟩:=Prod.mk.inj e1
 obtain ⟨a2,e1⟩:=Prod.mk.inj e1
 obtain ⟨a3,e1⟩:=Prod.mk.inj e1
 obtain ⟨a4,a5⟩:=Prod.mk.inj e1
 exact kQ ⟨jH s.heap,Wn _,⟨a1,all_eq_true.mpr λp hp=>(Hz (a:=p.1) (o:=p.2) hp).2,a2,a3,a4,a5,e3⟩,e2⟩
theorem Qn {P:aX} (w:World) (h h':Heap) (e:uQ P G aQ bj cR k w h) (q : ∀ b o,h.get? b=some o->h'.get? b=some o) :
  uQ P G aQ bj cR k w h':=let ⟨K,a,b⟩:=e; ⟨K,a.keeps q,b⟩
end Mine.Lake
end
section
open PySem
namespace Mine.Lake
noncomputable def iD:List UInt8:=[65,66,67,68,69,70,71,72,73,74,75,76,77,78,79,80,81,82,83,84,85,86,87,88,89,90,97,98,99,100,101,102,103,104,105,106,107,108,109,110,111,112,113,114,
 115,116,117,118,119,120,121,122,48,49,50,51,52,53,54,55,56,57,43,47]
noncomputable def JZ:Ss:=(.cons (.expr .bad) .nil)
noncomputable def J0:Ss:=(.cons (.ifs (.cmp .is (.var 1) (.cst (.bn .bytearray))) (.cons (.ret (.call (.cst (.bn .bytes)) (.cons (.var 0) .nil) .nil)) .nil) .nil) JZ)
noncomputable def J3:Ss:=(.cons (.ifs (.cmp .is (.var 1) (.cst (.bn .bytes))) (.cons (.ret (.var 0)) .nil) .nil) J0)
noncomputable def J4:Ss:=(.cons (.aR 1 false (.call (.cst (.bn .type)) (.cons (.var 0) .nil) .nil)) J3)
noncomputable def BU:Fn:={cb:=[0],bS:=[],ck:=[],cA:=none,size:=2,body:=J4}
noncomputable def Lb:Ss:=(.cons (.expr .bad) .nil)
noncomputable def Lc:Ss:=(.cons (.ifs (.or (.cmp .is (.var 0) (.cst .none)) (.or (.cmp .is (.var 1) (.cst (.bn .bool))) (.or (.cmp .is (.var 1) (.cst (.bn .int))) (.or (.cmp .is (.var 1) (.cst (.bn .float))) (.or (.cmp .is (.var 1) (.cst (.bn .complex))) (.or (.cmp .is (.var 1) (.cst (.bn .str))) (.or (.cmp .is (.var 1) (.cst (.bn .bytes))) (.or (.cmp .is (.var 1) (.cst (.bn .bytearray))) (.or (.cmp .is (.var 1) (.cst (.bn .list))) (.or (.cmp .is (.var 1) (.cst (.bn .tuple))) (.or (.cmp .is (.var 1) (.cst (.bn .dict))) (.or (.cmp .is (.var 1) (.cst (.bn .set))) (.or (.cmp .is (.var 1) (.cst (.bn .frozenset))) (.cmp .is (.var 1) (.cst (.bn .range)))))))))))))))) (.cons (.ret (.ite (.var 0) (.cst (.bool true)) (.cst (.bool false)))) .nil) .nil) Lb)
noncomputable def Ld:Ss:=(.cons (.aR 1 false (.call (.cst (.bn .type)) (.cons (.var 0) .nil) .nil)) Lc)
noncomputable def CF:Fn:={cb:=[0],bS:=[],ck:=[],cA:=none,size:=2,body:=Ld}
noncomputable def tq:Ss:=(.cons (.expr (.bo (.var 3) .append (.cons (.idx (.cst (.bytes iD)) (.bin .and (.bin .shr (.var 5) (.bin .sub (.var 4) (.cst (.int 6)))) (.cst (.int 63)))) .nil))) (.cons (.aR 4 false (.bin .sub (.var 4) (.cst (.int 6)))) .nil))
noncomputable def kB:Ss:=(.cons (.aR 5 false (.bin .and (.bin .or (.bin .shl (.var 5) (.cst (.int 8))) (.var 6)) (.cst (.int 65535)))) (.cons (.aR 4 false (.bin .add (.var 4) (.cst (.int 8)))) (.cons (.lG (.cmp .ge (.var 4) (.cst (.int 6))) tq .nil) .nil)))
noncomputable def wF:S:=(.fA (.one 6) (.var 2) kB)
noncomputable def BR:Ss:=(.cons (.ret (.call (.cst (.bn .bytes)) (.cons (.var 3) .nil) .nil)) .nil)
noncomputable def wG:Ss:=(.cons (.ifs (.var 1) (.cons (.expr (.bo (.var 3) .append (.cons (.cst (.int 10)) .nil))) .nil) .nil) BR)
noncomputable def wH:Ss:=(.cons (.ifs (.cmp .eq (.var 4) (.cst (.int 2))) (.cons (.expr (.bo (.var 3) .append (.cons (.idx (.cst (.bytes iD)) (.bin .shl (.bin .and (.var 5) (.cst (.int 3))) (.cst (.int 4)))) .nil))) (.cons (.expr (.bo (.var 3) .append (.cons (.cst (.int 61)) .nil))) (.cons (.expr (.bo (.var 3) .append (.cons (.cst (.int 61)) .nil))) .nil))) (.cons (.ifs (.cmp .eq (.var 4) (.cst (.int 4))) (.cons (.expr (.bo (.var 3) .append (.cons (.idx (.cst (.bytes iD)) (.bin .shl (.bin .and (.var 5) (.cst (.int 15))) (.cst (.int 2)))) .nil))) (.cons (.expr (.bo (.var 3) .append (.cons (.cst (.int 61)) .nil))) .nil)) .nil) .nil)) wG)
noncomputable def wI:Ss:=(.cons wF wH)
noncomputable def JV:Ss:=(.cons (.aR 5 false (.cst (.int 0))) wI)
noncomputable def JW:Ss:=(.cons (.aR 4 false (.cst (.int 0))) JV)
noncomputable def wJ:Ss:=(.cons (.aR 3 true (.list .nil)) JW)
noncomputable def wC:Ss:=(.cons (.aR 1 false (.call (.cst (.fn 1)) (.cons (.var 1) .nil) .nil)) wJ)
noncomputable def wD:Ss:=(.cons (.aR 2 false (.call (.cst (.fn 0)) (.cons (.var 0) .nil) .nil)) wC)
noncomputable def BQ:Fn:={cb:=[0],bS:=[],ck:=[(.newline,1)],cA:=none,size:=7,body:=wD}
noncomputable def JX:Ss:=(.cons (.ret (.var 2)) .nil)
noncomputable def JY:Ss:=(.cons (.ifs (.cmp .n5 (.var 1) (.cst .none)) (.cons .bad (.cons (.ret .bad) .nil)) .nil) JX)
noncomputable def wK:Ss:=(.cons (.aR 2 false (.call (.cst (.fn 2)) (.cons (.var 0) .nil) (.cons .newline (.cst (.bool false)) .nil))) JY)
noncomputable def BS:Fn:={cb:=[0,1],bS:=[.none],ck:=[],cA:=none,size:=3,body:=wK}
noncomputable def B4:Ss:=(.cons (.cW (.var 0) .func false (.var 1)) .nil)
noncomputable def wO:Ss:=(.cons (.cW (.var 0) .it false (.call (.cst (.bn .iter)) (.cons (.var 2) .nil) .nil)) B4)
noncomputable def B3:Fn:={cb:=[0,1,2],bS:=[],ck:=[],cA:=none,size:=3,body:=wO}
noncomputable def J5:Ss:=(.cons (.ret (.var 0)) .nil)
noncomputable def B5:Fn:={cb:=[0],bS:=[],ck:=[],cA:=none,size:=1,body:=J5}
noncomputable def nh:Ss:=(.cons (.aR 2 false (.call (.cst (.bn .next)) (.cons (.attr (.var 0) .it) .nil) .nil)) (.cons (.ifs (.or (.cmp .is (.var 1) (.cst .none)) (.cmp .is (.var 1) (.cst (.bn .bool)))) (.cons (.ifs (.not (.var 2)) (.cons (.ret (.var 2)) .nil) .nil) .nil) (.cons (.ifs (.not (.call (.var 1) (.cons (.var 2) .nil) .nil)) (.cons (.ret (.var 2)) .nil) .nil) .nil)) .nil))
noncomputable def B7:S:=(.lG (.cst (.bool true)) nh .nil)
noncomputable def wQ:Ss:=(.cons B7 .nil)
noncomputable def wR:Ss:=(.cons (.aR 1 false (.attr (.var 0) .func)) wQ)
noncomputable def B6:Fn:={cb:=[0],bS:=[],ck:=[],cA:=none,size:=3,body:=wR}
noncomputable def wN:Ss:=(.cons (.ret (.call (.cst (.bn .list)) (.cons (.call (.cst (.cls 3)) (.cons (.attr (.var 1) .bk) (.cons (.var 0) .nil)) .nil) .nil) .nil)) .nil)
noncomputable def B0:Fn:={cb:=[0,1],bS:=[],ck:=[],cA:=none,size:=2,body:=wN}
noncomputable def Cd:Ss:=(.cons (.cW (.var 0) .succ true (.list .nil)) .nil)
noncomputable def Ce:Ss:=(.cons (.cW (.var 0) .eN false (.cst (.int 0))) Cd)
noncomputable def wY:Ss:=(.cons (.cW (.var 0) .node false (.var 1)) Ce)
noncomputable def Cb:Fn:={cb:=[0,1],bS:=[],ck:=[],cA:=none,size:=2,body:=wY}
noncomputable def K3:Ss:=(.cons (.ifs (.cmp .n5 (.var 1) (.cst .none)) (.cons .bad .nil) .nil) .nil)
noncomputable def K4:Ss:=(.cons (.cW (.var 0) .eM false (.cst (.int 0))) K3)
noncomputable def K5:Ss:=(.cons (.cW (.var 0) .d4 false (.cst (.int 0))) K4)
noncomputable def K6:Ss:=(.cons (.cW (.var 0) .cf true (.cst .none)) K5)
noncomputable def w5:Ss:=(.cons (.cW (.var 0) .cO false .nu) K6)
noncomputable def CA:Fn:={cb:=[0,1],bS:=[.none],ck:=[],cA:=none,size:=4,body:=w5}
noncomputable def KR:Ss:=(.cons (.ret (.var 2)) .nil)
noncomputable def KS:Ss:=(.cons (.ifs (.cmp .is (.lF 2 (.bo (.attr (.var 0) .cO) .get (.cons (.var 1) .nil))) (.cst .none)) (.cons (.qp (.attr (.var 0) .cO) (.var 1) 2 (.call (.cst (.cls 0)) (.cons (.var 1) .nil) .nil)) .nil) .nil) KR)
noncomputable def Cx:Fn:={cb:=[0,1],bS:=[],ck:=[],cA:=none,size:=3,body:=KS}
noncomputable def Cq:Ss:=(.cons (.aR 5 false (.bo (.var 0) .nD (.cons (.var 4) .nil))) (.cons (.expr (.bo (.attr (.var 5) .succ) .append (.cons (.var 1) .nil))) .nil))
noncomputable def Kz:S:=(.fA (.one 4) (.var 2) Cq)
noncomputable def KA:Ss:=(.cons Kz .nil)
noncomputable def KC:Ss:=(.cons (.lP (.var 3) .eN .add (.call (.cst (.bn .len)) (.cons (.var 2) .nil) .nil)) KA)
noncomputable def KD:Ss:=(.cons (.aR 3 false (.bo (.var 0) .nD (.cons (.var 1) .nil))) KC)
noncomputable def Cr:Ss:=(.cons (.ifs (.cmp .n5 (.attr (.var 0) .cf) (.cst .none)) (.cons .bad .nil) .nil) KD)
noncomputable def qv:Fn:={cb:=[0,1],bS:=[],ck:=[],cA:=(some 2),size:=6,body:=Cr}
noncomputable def K9:Ss:=(.cons (.ifs (.var 1) (.cons (.sd (.tT (.cons (.cst (.str (Str.ofString "nodes are in a cycle"))) .nil)) (.var 1)) .nil) .nil) .nil)
noncomputable def CD:Ss:=(.cons (.aR 1 false (.bo (.var 0) .pa .nil)) K9)
noncomputable def La:Ss:=(.cons (.cW (.var 0) .cf true (.comp (.attr (.var 2) .node) (.cons (.one 2) (.bo (.attr (.var 0) .cO) .values .nil) (.cons (.cmp .eq (.attr (.var 2) .eN) (.cst (.int 0))) .nil) .nil))) CD)
noncomputable def CE:Ss:=(.cons (.ifs (.cmp .n5 (.attr (.var 0) .cf) (.cst .none)) (.cons .bad .nil) .nil) La)
noncomputable def CC:Fn:={cb:=[0],bS:=[],ck:=[],cA:=none,size:=2,body:=CE}
noncomputable def Cz:Ss:=(.cons (.cW (.idx (.var 2) (.var 3)) .eN false (.cst (.int (-1)))) .nil)
noncomputable def KU:S:=(.fA (.one 3) (.var 1) Cz)
noncomputable def KV:Ss:=(.cons (.ret (.var 1)) .nil)
noncomputable def KW:Ss:=(.cons (.lP (.var 0) .d4 .add (.call (.cst (.bn .len)) (.cons (.var 1) .nil) .nil)) KV)
noncomputable def KY:Ss:=(.cons (.expr (.bo (.attr (.var 0) .cf) .clear .nil)) KW)
noncomputable def KZ:Ss:=(.cons KU KY)
noncomputable def K0:Ss:=(.cons (.aR 2 false (.attr (.var 0) .cO)) KZ)
noncomputable def K1:Ss:=(.cons (.aR 1 false (.call (.cst (.bn .tuple)) (.cons (.attr (.var 0) .cf) .nil) .nil)) K0)
noncomputable def K2:Ss:=(.cons (.ifs (.cmp .is (.attr (.var 0) .cf) (.cst .none)) (.cons .bad .nil) .nil) K1)
noncomputable def Cy:Fn:={cb:=[0],bS:=[],ck:=[],cA:=none,size:=4,body:=K2}
noncomputable def K7:Ss:=(.cons (.ret (.or (.cmp .lt (.attr (.var 0) .eM) (.attr (.var 0) .d4)) (.call (.cst (.bn .bool)) (.cons (.attr (.var 0) .cf) .nil) .nil))) .nil)
noncomputable def K8:Ss:=(.cons (.ifs (.cmp .is (.attr (.var 0) .cf) (.cst .none)) (.cons .bad .nil) .nil) K7)
noncomputable def CB:Fn:={cb:=[0],bS:=[],ck:=[],cA:=none,size:=1,body:=K8}
noncomputable def w0:Ss:=(.cons (.aR 7 false (.idx (.var 2) (.var 6))) (.cons (.lP (.var 7) .eN .sub (.cst (.int 1))) (.cons (.ifs (.cmp .eq (.attr (.var 7) .eN) (.cst (.int 0))) (.cons (.expr (.bo (.attr (.var 0) .cf) .append (.cons (.var 6) .nil))) .nil) .nil) .nil)))
noncomputable def w2:Ss:=(.cons (.ifs (.cmp .is (.lF 4 (.bo (.var 2) .get (.cons (.var 3) .nil))) (.cst .none)) (.cons .bad .nil) .nil) (.cons (.aR 5 false (.attr (.var 4) .eN)) (.cons (.ifs (.cmp .ne (.var 5) (.cst (.int (-1)))) (.cons (.ifs (.cmp .ge (.var 5) (.cst (.int 0))) (.cons .bad .nil) (.cons (.ifs (.cmp .eq (.var 5) (.cst (.int (-2)))) (.cons .bad .nil) (.cons .bad .nil)) .nil)) .nil) .nil) (.cons (.cW (.var 4) .eN false (.cst (.int (-2)))) (.cons (.fA (.one 6) (.attr (.var 4) .succ) w0) (.cons (.lP (.var 0) .eM .add (.cst (.int 1))) .nil))))))
noncomputable def KG:S:=(.fA (.one 3) (.var 1) w2)
noncomputable def KH:Ss:=(.cons KG .nil)
noncomputable def KI:Ss:=(.cons (.aR 2 false (.attr (.var 0) .cO)) KH)
noncomputable def Cs:Ss:=(.cons (.ifs (.cmp .is (.attr (.var 0) .cf) (.cst .none)) (.cons .bad .nil) .nil) KI)
noncomputable def qw:Fn:={cb:=[0],bS:=[],ck:=[],cA:=(some 1),size:=8,body:=Cs}
noncomputable def Cu:Ss:=(.cons (.oI (.cons (.aR 6 false (.call (.idx (.var 3) (.cst (.int (-1)))) .nil .nil)) (.cons .brk .nil)) 0 none (.cons (.qx (.var 5) (.bo (.var 2) .pop .nil)) (.cons (.expr (.bo (.var 3) .pop .nil)) .nil))) .nil)
noncomputable def w3:Ss:=(.cons (.ifs (.cmp .ez (.var 6) (.var 4)) (.cons (.ifs (.cmp .ez (.var 6) (.var 5)) (.cons (.ret (.bin .add (.slice (.var 2) (.idx (.var 5) (.var 6)) (.cst .none)) (.list (.cons (.var 6) .nil)))) .nil) .nil) .nil) (.cons (.expr (.bo (.var 4) .add (.cons (.var 6) .nil))) (.cons (.expr (.bo (.var 3) .append (.cons (.attr (.call (.cst (.bn .iter)) (.cons (.attr (.idx (.var 1) (.var 6)) .succ) .nil) .nil) .bX) .nil))) (.cons (.kr (.var 5) (.var 6) (.call (.cst (.bn .len)) (.cons (.var 2) .nil) .nil)) (.cons (.expr (.bo (.var 2) .append (.cons (.var 6) .nil))) .nil))))) (.cons (.lG (.var 2) Cu (.cons .brk .nil)) .nil))
noncomputable def w4:Ss:=(.cons (.ifs (.cmp .ez (.var 6) (.var 4)) (.cons .cont .nil) .nil) (.cons (.lG (.cst (.bool true)) w3 .nil) .nil))
noncomputable def KJ:S:=(.fA (.one 6) (.var 1) w4)
noncomputable def KL:Ss:=(.cons (.ret (.cst .none)) .nil)
noncomputable def Cw:Ss:=(.cons KJ KL)
noncomputable def KN:Ss:=(.cons (.aR 5 false .nu) Cw)
noncomputable def KO:Ss:=(.cons (.aR 4 false (.call (.cst (.bn .set)) .nil .nil)) KN)
noncomputable def KP:Ss:=(.cons (.aR 3 true (.list .nil)) KO)
noncomputable def KQ:Ss:=(.cons (.aR 2 true (.list .nil)) KP)
noncomputable def Cv:Ss:=(.cons (.aR 1 false (.attr (.var 0) .cO)) KQ)
noncomputable def Ct:Fn:={cb:=[0],bS:=[],ck:=[],cA:=none,size:=7,body:=Cv}
noncomputable def BV:List iy:=[{init:=8,meths:=[(.init,8)],slots:=some [.node,.eN,.succ]},{init:=999,meths:=[],slots:=none},
 {init:=9,meths:=[(.init,9),(.nD,10),(.add,11),(.prepare,12),(.jT,13),(.nY,14),(.done,15),(.pa,16)],slots:=none},
 {init:=4,meths:=[(.init,4),(.i8,5),(.bX,6)],slots:=some [.it,.func]}]
noncomputable def JA:Ss:=(.cons (.ret (.cst (.int 47))) .nil)
noncomputable def JB:Ss:=(.cons (.ifs (.cmp .eq (.var 0) (.cst (.int 62))) (.cons (.ret (.cst (.int 43))) .nil) .nil) JA)
noncomputable def JC:Ss:=(.cons (.ifs (.cmp .lt (.var 0) (.cst (.int 62))) (.cons (.ret (.bin .sub (.var 0) (.cst (.int 4)))) .nil) .nil) JB)
noncomputable def JD:Ss:=(.cons (.ifs (.cmp .lt (.var 0) (.cst (.int 52))) (.cons (.ret (.bin .add (.cst (.int 71)) (.var 0))) .nil) .nil) JC)
noncomputable def JE:Ss:=(.cons (.ifs (.cmp .lt (.var 0) (.cst (.int 26))) (.cons (.ret (.bin .add (.cst (.int 65)) (.var 0))) .nil) .nil) JD)
noncomputable def Jz:Fn:={cb:=[0],bS:=[],ck:=[],cA:=none,size:=1,body:=JE}
noncomputable def JF:Ss:=(.cons (.expr (.gE (.var 2) .add (.cons (.var 3) .nil) (.idx (.var 1) (.var 3)))) .nil)
noncomputable def BE:S:=(.fA (.one 3) (.var 0) JF)
noncomputable def BF:Ss:=(.cons (.ret (.tup (.cons (.var 2) (.cons (.var 4) .nil)))) .nil)
noncomputable def JG:Ss:=(.cons (.oI (.cons (.expr (.bo (.var 2) .prepare .nil)) .nil) 1 none (.cons (.aR 4 false (.cst (.bool true))) .nil)) BF)
noncomputable def BG:Ss:=(.cons (.aR 4 false (.cst (.bool false))) JG)
noncomputable def JH:Ss:=(.cons BE BG)
noncomputable def BH:Ss:=(.cons (.aR 2 false (.call (.cst (.cls 2)) .nil .nil)) JH)
noncomputable def BD:Fn:={cb:=[0,1],bS:=[],ck:=[],cA:=none,size:=5,body:=BH}
noncomputable def Jw:Ss:=(.cons (.expr (.gE (.var 0) .done .nil (.var 3))) (.cons (.aR 2 false (.bin .add (.var 2) (.var 3))) (.cons (.aR 3 false (.call (.cst (.fn 7)) (.cons (.bo (.var 0) .jT .nil) (.cons (.list (.cons (.var 1) .nil)) .nil)) .nil)) .nil)))
noncomputable def BB:S:=(.lG (.cmp .ne (.var 3) (.list .nil)) Jw .nil)
noncomputable def Jx:Ss:=(.cons (.ret (.var 2)) .nil)
noncomputable def BC:Ss:=(.cons BB Jx)
noncomputable def Jy:Ss:=(.cons (.aR 3 false (.call (.cst (.fn 7)) (.cons (.bo (.var 0) .jT .nil) (.cons (.list (.cons (.var 1) .nil)) .nil)) .nil)) BC)
noncomputable def wy:Ss:=(.cons (.aR 2 false (.list .nil)) Jy)
noncomputable def BA:Fn:={cb:=[0,1],bS:=[],ck:=[],cA:=none,size:=4,body:=wy}
noncomputable def tl:Ss:=(.cons (.aR 6 false (.ite (.var 2) (.bin .or (.var 3) (.var 5)) (.bin .and (.var 3) (.var 5)))) (.cons (.ifs (.not (.idx (.var 4) (.var 6))) (.cons (.kr (.var 4) (.var 6) (.cst (.bool true))) (.cons (.expr (.bo (.var 0) .append (.cons (.var 6) .nil))) .nil)) .nil) .nil))
noncomputable def BJ:Ss:=(.cons (.fA (.one 3) (.call (.cst (.bn .list)) (.cons (.var 0) .nil) .nil) tl) .nil)
noncomputable def JI:S:=(.fA (.one 5) (.var 1) BJ)
noncomputable def JJ:Ss:=(.cons (.ret (.var 0)) .nil)
noncomputable def JK:Ss:=(.cons JI JJ)
noncomputable def BK:Ss:=(.cons (.aR 4 true (.comp (.cmp .ez (.var 7) (.var 0)) (.cons (.one 7) (.call (.cst (.bn .range)) (.cons (.cst (.int 64)) .nil) .nil) .nil .nil))) JK)
noncomputable def BI:Fn:={cb:=[0,1,2],bS:=[],ck:=[],cA:=none,size:=7,body:=BK}
noncomputable def Je:Ss:=(.cons (.kr (.var 1) (.bin .mod (.var 2) (.cst (.int 4))) (.bin .mod (.bin .add (.idx (.var 1) (.bin .mod (.var 2) (.cst (.int 4)))) (.var 3)) (.cst (.int 256)))) (.cons (.aR 2 false (.bin .add (.var 2) (.cst (.int 1)))) .nil))
noncomputable def Jf:S:=(.fA (.one 3) (.slice (.var 0) (.cst .none) (.cst (.int 63))) Je)
noncomputable def Jp:Ss:=(.cons (.aR 4 false (.bin .add (.bin .mul (.var 4) (.cst (.int 256))) (.var 5))) .nil)
noncomputable def Js:S:=(.fA (.one 5) (.var 1) Jp)
noncomputable def wu:Ss:=(.cons (.oP [12,13] (.call (.cst (.fn 18)) (.cons (.var 11) (.cons (.var 14) .nil)) .nil)) (.cons (.ifs (.var 13) (.cons (.ret (.cst (.bool false))) .nil) .nil) (.cons (.aR 17 false (.call (.cst (.fn 19)) (.cons (.var 12) (.cons (.var 16) .nil)) .nil)) (.cons (.ifs (.not (.bo (.var 12) .nY .nil)) (.cons (.ret (.cst (.bool false))) .nil) .nil) (.cons (.expr (.bo (.var 15) .append (.cons (.call (.cst (.bn .sum)) (.cons (.comp (.bin .pow (.cst (.int 2)) (.var 19)) (.cons (.one 19) (.call (.cst (.bn .range)) (.cons (.cst (.int 6)) .nil) .nil) (.cons (.cmp .ez (.idx (.var 9) (.var 19)) (.var 17)) .nil) .nil)) .nil) .nil) .nil))) .nil)))))
noncomputable def Bz:S:=(.fA (.one 16) (.var 11) wu)
noncomputable def Jt:Ss:=(.cons (.ret (.cmp .eq (.call (.cst (.bn .sorted)) (.cons (.call (.cst (.fn 20)) (.cons (.nc (.list (.cons (.cst (.int 63)) .nil))) (.cons (.var 15) (.cons (.cst (.bool false)) .nil))) .nil) .nil) .nil) (.call (.cst (.bn .sorted)) (.cons (.call (.cst (.fn 20)) (.cons (.nc (.list (.cons (.cst (.int 0)) .nil))) (.cons (.var 18) (.cons (.cst (.bool true)) .nil))) .nil) .nil) .nil))) .nil)
noncomputable def wx:Ss:=(.cons (.aR 18 false (.call (.cst (.fn 20)) (.cons (.nc (.list (.cons (.cst (.int 63)) .nil))) (.cons (.var 6) (.cons (.cst (.bool false)) .nil))) .nil)) Jt)
noncomputable def Ju:Ss:=(.cons Bz wx)
noncomputable def Jv:Ss:=(.cons (.aR 15 true (.list .nil)) Ju)
noncomputable def Jg:Ss:=(.cons (.aR 14 false (.comp (.comp (.var 20) (.cons (.one 20) (.idx (.var 10) (.var 19)) (.cons (.cmp .ez (.var 20) (.var 11)) .nil) .nil)) (.cons (.one 19) (.call (.cst (.bn .range)) (.cons (.cst (.int 6)) .nil) .nil) .nil .nil))) Jv)
noncomputable def Jh:Ss:=(.cons (.ifs (.cmp .ne (.var 13) (.cmp .lt (.call (.cst (.bn .len)) (.cons (.var 11) .nil) .nil) (.cst (.int 6)))) (.cons (.ret (.cst (.bool false))) .nil) .nil) Jg)
noncomputable def Ji:Ss:=(.cons (.oP [12,13] (.call (.cst (.fn 18)) (.cons (.list (.cons (.cst (.int 5)) (.cons (.cst (.int 4)) (.cons (.cst (.int 3)) (.cons (.cst (.int 2)) (.cons (.cst (.int 1)) (.cons (.cst (.int 0)) .nil))))))) (.cons (.var 10) .nil)) .nil)) Jh)
noncomputable def Jj:Ss:=(.cons (.aR 11 false (.comp (.var 19) (.cons (.one 19) (.list (.cons (.cst (.int 5)) (.cons (.cst (.int 4)) (.cons (.cst (.int 3)) (.cons (.cst (.int 2)) (.cons (.cst (.int 1)) (.cons (.cst (.int 0)) .nil))))))) (.cons (.cmp .eq (.idx (.var 9) (.var 19)) (.var 19)) .nil) .nil))) Ji)
noncomputable def Jk:Ss:=(.cons (.aR 10 false (.comp (.comp (.var 20) (.cons (.one 20) (.call (.cst (.bn .range)) (.cons (.cst (.int 6)) .nil) .nil) (.cons (.and (.cmp .ne (.var 20) (.var 19)) (.cmp .eq (.call (.cst (.fn 7)) (.cons (.idx (.var 8) (.var 19)) (.cons (.idx (.var 8) (.var 20)) .nil)) .nil) (.list .nil))) .nil) .nil)) (.cons (.one 19) (.call (.cst (.bn .range)) (.cons (.cst (.int 6)) .nil) .nil) .nil .nil))) Jj)
noncomputable def Jl:Ss:=(.cons (.aR 9 false (.comp (.call (.cst (.bn .min)) (.cons (.comp (.var 20) (.cons (.one 20) (.call (.cst (.bn .range)) (.cons (.cst (.int 6)) .nil) .nil) (.cons (.cmp .eq (.idx (.var 8) (.var 20)) (.idx (.var 8) (.var 19))) .nil) .nil)) .nil) .nil) (.cons (.one 19) (.call (.cst (.bn .range)) (.cons (.cst (.int 6)) .nil) .nil) .nil .nil))) Jk)
noncomputable def wq:Ss:=(.cons (.aR 8 false (.comp (.comp (.idx (.var 7) (.var 20)) (.cons (.one 20) (.call (.cst (.bn .range)) (.cons (.cst (.int 6)) .nil) .nil) (.cons (.cmp .eq (.bin .mod (.bin .fdiv (.idx (.var 6) (.var 20)) (.bin .pow (.cst (.int 2)) (.var 19))) (.cst (.int 2))) (.cst (.int 1))) .nil) .nil)) (.cons (.one 19) (.call (.cst (.bn .range)) (.cons (.cst (.int 6)) .nil) .nil) .nil .nil))) Jl)
noncomputable def Jm:Ss:=(.cons (.ifs (.or (.not (.call (.cst (.bn .isinstance)) (.cons (.var 7) (.cons (.cst (.bn .bytes)) .nil)) .nil)) (.cmp .ne (.call (.cst (.bn .list)) (.cons (.var 7) .nil) .nil) (.bin .add (.comp (.call (.cst (.fn 17)) (.cons (.var 19) .nil) .nil) (.cons (.one 19) (.var 6) .nil .nil)) (.list (.cons (.cst (.int 61)) (.cons (.cst (.int 61)) .nil)))))) (.cons (.ret (.cst (.bool false))) .nil) .nil) wq)
noncomputable def Jn:Ss:=(.cons (.aR 7 false (.call (.cst (.fn 3)) (.cons (.call (.cst (.bn .bytes)) (.cons (.var 1) .nil) .nil) .nil) .nil)) Jm)
noncomputable def Jo:Ss:=(.cons (.aR 6 false (.comp (.bin .mod (.bin .fdiv (.bin .mul (.var 4) (.cst (.int 16))) (.bin .pow (.cst (.int 64)) (.bin .sub (.cst (.int 5)) (.var 19)))) (.cst (.int 64))) (.cons (.one 19) (.call (.cst (.bn .range)) (.cons (.cst (.int 6)) .nil) .nil) .nil .nil))) Jn)
noncomputable def Bx:Ss:=(.cons Js Jo)
noncomputable def Jq:Ss:=(.cons (.aR 4 false (.cst (.int 0))) Bx)
noncomputable def By:Ss:=(.cons Jf Jq)
noncomputable def Jr:Ss:=(.cons (.aR 2 false (.cst (.int 0))) By)
noncomputable def wt:Ss:=(.cons (.aR 1 true (.list (.cons (.cst (.int 4)) (.cons (.cst (.int 49)) (.cons (.cst (.int 91)) (.cons (.cst (.int 149)) .nil)))))) Jr)
noncomputable def wo:Fn:={cb:=[0],bS:=[],ck:=[],cA:=none,size:=19,body:=wt}
noncomputable def P1:aX:={fns:=[BU,CF,BQ,BS,B3,B5,B6,B0,Cb,CA,Cx,qv,CC,Cy,CB,qw,Ct,Jz,BD,BA,BI,wo],oZ:=BV}
noncomputable def PP (r:List Fn):aX:={fns:=[BU,CF,BQ,BS,B3,B5,B6,B0,Cb,CA,Cx,qv,CC,Cy,CB,qw,Ct]++r,oZ:=BV}
variable {cl:Calls} {C:ah} {m m1:List (Option D)} {s:S} {r:Ss} {d x y:D} {e a b:E} {n i fuel:Nat} {es:Es} {ds args:List D} {f:St->ak Fl}
section
variable {P:aX} {st aa ae:St}
theorem bB (h:ex P cl s st=.ok .next aa):ax P cl (.cons s r) st=ax P cl r aa:=by
 show (match ex P cl s st with|.ok .next aa=>ax P cl r aa|o=>o)=_; rw [h]
theorem jR (h:ex P cl s st=.ok (.ret d) aa):ax P cl (.cons s r) st=.ok (.ret d) aa:=by
 show (match ex P cl s st with|.ok .next aa=>ax P cl r aa|o=>o)=_; rw [h]
theorem qH {x:X} (h:ex P cl s st=.exc x aa):ax P cl (.cons s r) st=.exc x aa:=by
 show (match ex P cl s st with|.ok .next aa=>ax P cl r aa|o=>o)=_; rw [h]
theorem aT {α β:Type} {o:ak α} {a:α} {f:α->St->ak β} (h:o=.ok a aa):o.bind f=f a aa:=by rw [h]; rfl
theorem oj {o:Option D} (h:o=some d):dp o st=.ok d st:=by rw [h]; rfl
theorem jb (h:ev P cl e st=.ok d aa):ex P cl (.expr e) st=.ok .next aa:=aT h
theorem aw (h:m[n]?=some (some d)):ev P cl (.var n) ⟨m,C⟩=.ok d ⟨m,C⟩:=by
 show (match m[n]? with|some (some d)=>(ak.ok d ⟨m,C⟩:ak D)|_=>.fail)=_; rw [h]
theorem cg {op:Op} {z:D} (ha:ev P cl a st=.ok x aa) (hb:ev P cl b aa=.ok y ae) (h:eH ae.C op x y=some z):ev P cl (.bin op a b) st=.ok z ae:=
 (aT ha).trans ((aT hb).trans (oj h))
theorem b7 {op:Cm} {z:Bool} (ha:ev P cl a st=.ok x aa) (hb:ev P cl b aa=.ok y ae) (h:jN ae.C op x y=some z):ev P cl (.cmp op a b) st=.ok (.bool z) ae:=
 (aT ha).trans ((aT hb).trans (oj (by rw [h]; rfl)))
theorem dW {z:D} (ha:ev P cl a st=.ok x aa) (hb:ev P cl b aa=.ok y ae) (h:g9 ae.C x y=some z):ev P cl (.idx a b) st=.ok z ae:=
 (aT ha).trans ((aT hb).trans (oj h))
theorem qD {b:Bool} (ha:ev P cl a st=.ok x aa) (h:bH aa.C x=some b):ev P cl (.not a) st=.ok (.bool (!b)) aa:=
 (aT ha).trans (oj (by rw [h]; rfl))
theorem Mp (ha:ev P cl a st=.ok x aa) (h:bH aa.C x=some true):ev P cl (.or a b) st=.ok x aa:=by
 refine (aT ha).trans ?_; rw [h]
theorem xf (ha:ev P cl a st=.ok x aa) (h:bH aa.C x=some false):ev P cl (.or a b) st=ev P cl b aa:=by
 refine (aT ha).trans ?_; rw [h]
theorem cH {n:Nm} (ha:ev P cl a st=.ok x aa) (h:ft P aa.C x n=some d):ev P cl (.attr a n) st=.ok d aa:=(aT ha).trans (oj h)
theorem oD (hn:n<m.length):fH n d ⟨m,C⟩=.ok () ⟨m.set n (some d),C⟩:=if_pos hn
theorem bU (h:ev P cl e st=.ok d ⟨m,C⟩) (hn:n<m.length):ex P cl (.aR n false e) st=.ok .next ⟨m.set n (some d),C⟩:=
 (aT (a:=d) (aT h)).trans (aT (oD hn))
theorem tJ {c:E} {a b:Ss} (h:ev P cl c st=.ok x aa) (ht:bH aa.C x=some true):ex P cl (.ifs c a b) st=ax P cl a aa:=by
 refine (aT h).trans ?_; rw [ht]
theorem l0 {c:E} {a b:Ss} (h:ev P cl c st=.ok x aa) (ht:bH aa.C x=some false):ex P cl (.ifs c a b) st=ax P cl b aa:=by
 refine (aT h).trans ?_; rw [ht]
theorem tK (h:ev P cl e st=.ok d aa):ex P cl (.ret e) st=.ok (.ret d) aa:=aT h
theorem tG (h:ev P cl e st=.ok d aa) (h2:bM P cl es aa=.ok (.lst ds) ae):bM P cl (.cons e es) st=.ok (.lst (d::ds)) ae:=by
 refine (aT h).trans ?_; rw [h2]
theorem b9 (h:ev P cl e st=.ok d aa):bM P cl (.cons e .nil) st=.ok (.lst [d]) aa:=tG h rfl
theorem lZ {f:E} {d2:D} (h:ev P cl e st=.ok d aa) (h2:ev P cl f aa=.ok d2 ae):bM P cl (.cons e (.cons f .nil)) st=.ok (.lst [d,d2]) ae:=tG h (b9 h2)
theorem jQ {f:E} {g:D} (hf:ev P cl f st=.ok g aa) (hs:bM P cl es aa=.ok (.lst ds) ae):ev P cl (.call f es .nil) st=m7 P cl g ds [] ae:=by
 refine (aT hf).trans ?_; rw [hs]; rfl
theorem qC {o:E} {n:Nm} {mk:MK} (ho:ev P cl o st=.ok x aa) (hm:dK P aa.C x n=some mk) (hs:bM P cl es aa=.ok (.lst ds) ae):ev P cl (.bo o n es) st=pS cl mk x ds ae:=by
 refine (aT ho).trans ?_; rw [hm]; exact aT hs
theorem tH {v:Nat} {nv:List D} {C1:ah} (hv:m[v]?=some (some (.loc i))) (h0:C[i]?=some (.list ds)) (he:ev P cl e ⟨m,C⟩=.ok d ⟨m1,C1⟩) (h1:C1[i]?=some (.list nv)) (hl:nv.length<aH) :
  ex P cl (.expr (.bo (.var v) .append (.cons e .nil))) ⟨m,C⟩=.ok .next ⟨m1,C1.set i (.list (nv++[d]))⟩:=by
 refine jb (d:=.none) ((qC (aw hv) (mk:=.mw) (show (C[i]?).bind (lp .append)=_ by rw [h0]; rfl) (b9 he)).trans ?_)
 show aL (e9 C1 i) (λds=>bJ (decide (ds.length<aH)) (.ok .none ⟨m1,C1.set i (.list (ds++[d]))⟩))=_
 rw [show e9 C1 i=some nv by unfold e9; rw [h1]]
 show bJ (decide (nv.length<aH)) _=_
 rw [decide_eq_true hl]; rfl
theorem kE {o:E} {a:Nm} {C':ah} (he:ev P cl e st=.ok d aa) (ho:ev P cl o aa=.ok y ae) (hs:fG P y a d ae.C=some C'):ex P cl (.cW o a false e) st=.ok .next ⟨ae.m,C'⟩:=
 (aT (a:=d) (aT he)).trans ((aT ho).trans (aT (a:=()) (by rw [hs]; rfl)))
theorem eR {E:ah} {c:Ch} (h:C[i]?=some c):(C++E)[i]?=some c:=by rw [List.getElem?_append_left (List.getElem?_eq_some_iff.mp h).1,h]
theorem vY (h:bW C (.loc i)=some ds):C[i]?=some (.list ds):=by
 unfold bW at h
 dsimp only at h
 induction e:C[i]? with
 |none=>rw [e] at h; exact aq h
 |some c=>rw [e] at h; induction c using Ch.casesOn<;>first|exact aq h|rw [Option.some.inj h]
theorem A0 {E:ah} {a:D} (h:bW C a=some ds):bW (C++E) a=some ds:=by
 induction a using D.casesOn<;>first|exact aq h|exact h|skip
 unfold bW; dsimp only; rw [eR (vY h)]
theorem Ip {E:ah} {a:D} (h:a9 C a=some ds):a9 (C++E) a=some ds:=by
 induction a using D.casesOn<;>first|exact aq h|exact h|skip
 unfold a9; dsimp only; rw [eR (vY h)]
theorem pJ : ∀ (xs:List Int),eA (xs.map .int)=some xs:=λxs=>by
 induction xs with
 |nil=>
  exact rfl
 |cons x r ih=>
  show (eA (r.map .int)).map (x :: ·)=_; rw [ih]; rfl
theorem E5 (x:Int) (xs:List Int):iR (.int x) (xs.map .int)=some (xs.contains x):=by
 unfold iR; rw [pJ]; rfl
theorem jd {a7:ah->ah->Bool} {t:T} (h1:iE t d m=some m1) (h2:f ⟨m1,C⟩=.ok .next aa) (h3:a7 C aa.C=true) :
  forLoop a7 t f (d::ds) ⟨m,C⟩=forLoop a7 t f ds aa:=by
 show (match iE t d m with
  |some m1=>match f ⟨m1,C⟩ with
   |.ok .next aa=>if a7 C aa.C then forLoop a7 t f ds aa else .fail
   |.ok .cont aa=>if a7 C aa.C then forLoop a7 t f ds aa else .fail
   |.ok .brk aa=>.ok .next aa
   |o=>o
  |none=>.fail)=_
 rw [h1]; dsimp only; rw [h2]; dsimp only; rw [if_pos h3]
theorem fx {b:Bn} (hz:cl.fuel≠0):jM P cl b args st=wh P cl b args st:=by
 unfold jM
 rw [beq_false_of_ne hz]; rfl
theorem rI {k:Int}:g9 C (.lst ds) (.int k)=hV ds k:=rfl
theorem yJ {k:Int} {j:Nat} (h:C[j]?=some (.list ds)):g9 C (.loc j) (.int k)=hV ds k:=by
 show (C[j]?).bind (yI k)=_; rw [h]; rfl
theorem m6 {call:Nat->List D->List (Nm × D)->ah->ak D} {b:Bn} (hz:fuel≠0):jM P ⟨call,fuel⟩ b args st=wh P ⟨call,fuel⟩ b args st:=fx hz
section
variable {c:St->D->Prop} {cc:St->ak D} {eU:St->ak Fl}
theorem sL:whileLoop cc f eU (n+1) st=(match cc st with
  |.ok d aa=>match bH aa.C d with
   |some true=>match f aa with
    |.ok .next ae=>whileLoop cc f eU n ae
    |.ok .cont ae=>whileLoop cc f eU n ae
    |.ok .brk ae=>.ok .next ae
    |o=>o
   |some false=>eU aa
   |none=>.fail
  |.exc x aa=>.exc x aa
  |.fail=>.fail):=rfl
theorem sJ (h1:cc st=.ok d aa) (h2:bH aa.C d=some true) (h3:f aa=.ok .next ae):whileLoop cc f eU (n+1) st=whileLoop cc f eU n ae:=by
 rw [sL,h1]; dsimp only; rw [h2]; dsimp only; rw [h3]
theorem Hy {r:D} (h1:cc st=.ok d aa) (h2:bH aa.C d=some true) (h3:f aa=.ok (.ret r) ae):whileLoop cc f eU (n+1) st=.ok (.ret r) ae:=by
 rw [sL,h1]; dsimp only; rw [h2]; dsimp only; rw [h3]
theorem Wm {x:X} (h1:cc st=.ok d aa) (h2:bH aa.C d=some true) (h3:f aa=.exc x ae):whileLoop cc f eU (n+1) st=.exc x ae:=by
 rw [sL,h1]; dsimp only; rw [h2]; dsimp only; rw [h3]
theorem Aj (h1:cc st=.ok d aa) (h2:bH aa.C d=some false):whileLoop cc f eU (n+1) st=eU aa:=by
 rw [sL,h1]; dsimp only; rw [h2]
end
end
variable {src:D} {p:Nat}
section
variable {r:List Fn} {a sk:D} {xs ys:List Int}
noncomputable def j7 (ys:List Int):List Int->Nat->Option (Int × List Int × Nat)
 |[],_=>none
 |z::zs,p=>if ys.contains z then j7 ys zs (p+1) else some (z,zs,p+1)
noncomputable def MF (C:ah) (sk src:D) (p:Nat):ah:=C++[.slots 3 [some (.loc (C.length+1)),some (.bm .bk sk)],.bq src p]
theorem sU:(MF C sk src p)[C.length]?=some (.slots 3 [some (.loc (C.length+1)),some (.bm .bk sk)]):=by unfold MF; simp
theorem HR:(MF C sk src p)[C.length+1]?=some (.bq src p):=by unfold MF; simp
theorem AH {G7:D} {p':Nat}:(MF C sk src p).set (C.length+1) (.bq G7 p')=MF C sk G7 p':=by
 unfold MF; simp [set_append]
theorem Lo (hs:a9 C sk=some (ys.map .int)):ft (PP r) C sk .bk=some (.bm .bk sk):=by
 induction sk using D.casesOn<;>first|exact aq hs|rfl|skip
 show (C[_]?).bind _=_
 rw [vY hs]; rfl
theorem Iw:ft (PP r) (MF C sk src p) (.loc C.length) .it=some (.loc (C.length+1)):=by
 show ((MF C sk src p)[C.length]?).bind _=_; rw [sU]; rfl
theorem Iv:ft (PP r) (MF C sk src p) (.loc C.length) .func=some (.bm .bk sk):=by
 show ((MF C sk src p)[C.length]?).bind _=_; rw [sU]; rfl
theorem FL (hf:fuel≠0) (ha:bW C a=some (xs.map .int)) {x2:Option D} (gU:cl.fuel=fuel) :
  ev (PP r) cl (.call (.cst (.bn .next)) (.cons (.attr (.var 0) .it) .nil) .nil) ⟨[some (.loc C.length),some (.bm .bk sk),x2],MF C sk a p⟩ =
   (match xs[p]? with
    |some x=>.ok (.int x) ⟨[some (.loc C.length),some (.bm .bk sk),x2],MF C sk a (p+1)⟩
    |none=>.exc .stop ⟨[some (.loc C.length),some (.bm .bk sk),x2],MF C sk .none 0⟩):=by
 have hit:ev (PP r) cl (.attr (.var 0) .it) ⟨[some (.loc C.length),some (.bm .bk sk),x2],MF C sk a p⟩=.ok (.loc (C.length+1)) ⟨[some (.loc C.length),some (.bm .bk sk),x2],MF C sk a p⟩:=
  cH (aw (d:=.loc C.length) rfl) Iw
 rw [jQ (g:=.bn .next) rfl (b9 hit)]
 refine (fx (by rw [gU]; exact hf)).trans ?_
 show fF (MF C sk a p) _ (C.length+1)=_
 unfold fF
 rw [HR]
 dsimp only
 rw [show bW (MF C sk a p) a=some (xs.map .int) from A0 ha]
 dsimp only
 rw [getElem?_map]
 induction xs[p]? with
 |none=>dsimp only [Option.map]; rw [AH]
 |some x=>dsimp only [Option.map]; rw [AH]
theorem FK (hf:fuel≠0) (ha:bW C a=some (xs.map .int)) (hs:a9 C sk=some (ys.map .int)) {cl:Calls} (gU:cl.fuel=fuel) :
  ∀ (zs:List Int) (p k:Nat) (x2:Option D),xs.drop p=zs->zs.length<k->
  ∃ qd,whileLoop (λaa=>ev (PP r) cl (.cst (.bool true)) aa) (λaa=>ax (PP r) cl nh aa) (λaa=>ax (PP r) cl .nil aa) k ⟨[some (.loc C.length),some (.bm .bk sk),x2],MF C sk a p⟩ =
   (match j7 ys zs p with
    |some (x,_,q)=>.ok (.ret (.int x)) ⟨[some (.loc C.length),some (.bm .bk sk),qd],MF C sk a q⟩
    |none=>.exc .stop ⟨[some (.loc C.length),some (.bm .bk sk),qd],MF C sk .none 0⟩)
 |[],p,0,_,_,hk=>by simp at hk
 |[],p,k+1,x2,hz,hk=>by
  refine ⟨x2,?_⟩
  have hn:xs[p]?=none:=by
   rw [List.drop_eq_nil_iff] at hz
   exact getElem?_eq_none hz
  have ht:=FL (r:=r) (sk:=sk) hf ha (x2:=x2) (p:=p) gU
  rw [hn] at ht
  have e1:ax (PP r) cl nh ⟨[some (.loc C.length),some (.bm .bk sk),x2],MF C sk a p⟩=.exc .stop ⟨[some (.loc C.length),some (.bm .bk sk),x2],MF C sk .none 0⟩:=by
   unfold nh
   refine qH ?_
   show ((ev (PP r) cl _ _).bind λx aa=>gk _ x aa).bind _=_
   rw [ht]; rfl
  exact Wm (d:=.bool true) rfl rfl e1
 |z::zs,p,0,_,_,hk=>by simp at hk
 |z::zs,p,k+1,x2,hz,hk=>by
  have hx:xs[p]?=some z:=by
   have:=congrArg (·[0]?) hz
   simpa using this
  have hd:xs.drop (p+1)=zs:=by
   have:=congrArg (List.drop 1) hz
   simpa [add_comm] using this
  have ht:=FL (r:=r) (sk:=sk) hf ha (x2:=x2) (p:=p) gU
  rw [hx] at ht
  have e1:ax (PP r) cl nh ⟨[some (.loc C.length),some (.bm .bk sk),x2],MF C sk a p⟩ =
    (if ys.contains z then .ok .next ⟨[some (.loc C.length),some (.bm .bk sk),some (.int z)],MF C sk a (p+1)⟩ else .ok (.ret (.int z)) ⟨[some (.loc C.length),some (.bm .bk sk),some (.int z)],MF C sk a (p+1)⟩):=by
   unfold nh
   rw [bB (bU ht (by simp))]
   have c1 : ∀ (C':ah),ev (PP r) cl (.or (.cmp .is (.var 1) (.cst .none)) (.cmp .is (.var 1) (.cst (.bn .bool)))) ⟨[some (.loc C.length),some (.bm .bk sk),some (.int z)],C'⟩=.ok (.bool false) ⟨[some (.loc C.length),some (.bm .bk sk),some (.int z)],C'⟩:=λC'=>by
    rw [xf (b7 (aw (d:=.bm .bk sk) rfl) rfl (z:=false) rfl) rfl]
    exact b7 (aw (d:=.bm .bk sk) rfl) rfl rfl
   show ax (PP r) cl _ ⟨[some (.loc C.length),some (.bm .bk sk),some (.int z)],MF C sk a (p+1)⟩=_
   have c2:ev (PP r) cl (.call (.var 1) (.cons (.var 2) .nil) .nil) ⟨[some (.loc C.length),some (.bm .bk sk),some (.int z)],MF C sk a (p+1)⟩=.ok (.bool (ys.contains z)) ⟨[some (.loc C.length),some (.bm .bk sk),some (.int z)],MF C sk a (p+1)⟩:=by
    rw [jQ (aw (d:=.bm .bk sk) rfl) (b9 (aw (d:=.int z) rfl))]
    show aL ((a9 (MF C sk a (p+1)) sk).bind (iR (.int z))) _=_
    rw [show a9 (MF C sk a (p+1)) sk=some (ys.map .int) from Ip hs]
    show aL (iR (.int z) (ys.map .int)) _=_
    rw [E5]; rfl
   induction hb:ys.contains z with
   |true=>
    rw [hb] at c2
    have:ex (PP r) cl (.ifs (.or (.cmp .is (.var 1) (.cst .none)) (.cmp .is (.var 1) (.cst (.bn .bool)))) (.cons (.ifs (.not (.var 2)) (.cons (.ret (.var 2)) .nil) .nil) .nil) (.cons (.ifs (.not (.call (.var 1) (.cons (.var 2) .nil) .nil)) (.cons (.ret (.var 2)) .nil) .nil) .nil)) ⟨[some (.loc C.length),some (.bm .bk sk),some (.int z)],MF C sk a (p+1)⟩=.ok .next ⟨[some (.loc C.length),some (.bm .bk sk),some (.int z)],MF C sk a (p+1)⟩:=by
     rw [l0 (c1 _) rfl,bB (aa:=⟨[some (.loc C.length),some (.bm .bk sk),some (.int z)],MF C sk a (p+1)⟩) (by rw [l0 (qD c2 (b:=true) rfl) rfl]; rfl)]
     rfl
    rw [bB this]; rfl
   |false=>
    rw [hb] at c2
    refine jR ?_
    rw [l0 (c1 _) rfl]
    refine jR ?_
    rw [tJ (qD c2 (b:=false) rfl) rfl]
    exact jR (tK (aw rfl))
  induction hb:ys.contains z with
  |false=>
   refine ⟨some (.int z),?_⟩
   rw [j7,hb]
   exact Hy (d:=.bool true) rfl rfl (by rw [e1,hb]; rfl)
  |true=>
   obtain ⟨qd,ih⟩:=FK hf ha hs gU zs (p+1) k (some (.int z)) hd (by simp at hk; omega)
   refine ⟨qd,?_⟩
   rw [j7,hb]
   exact (sJ (d:=.bool true) rfl rfl (by rw [e1,hb]; rfl)).trans ih
theorem RK : ∀ (zs:List Int) (p:Nat),(match j7 ys zs p with
  |some (x,oJ,q)=>zs.filter (λx=>!ys.contains x)=x::oJ.filter (λx=>!ys.contains x)/\oJ.length<zs.length/\∀ xs:List Int,xs.drop p=zs->xs.drop q=oJ
  |none=>zs.filter (λx=>!ys.contains x)=[]):=λzs=>by
 induction zs with
 |nil=>
  intro p
  exact rfl
 |cons z zs ih=>
  intro p
  rw [j7]
  induction hb:ys.contains z with
  |false=>
   rw [if_neg (by decide)]
   refine ⟨by rw [filter_cons,hb]; rfl,by simp,λxs hx=>?_⟩
   have:=congrArg (List.drop 1) hx
   simpa [add_comm] using this
  |true=>
   rw [if_pos rfl]
   have ih:=ih (p+1)
   have hf:(z::zs).filter (λx=>!ys.contains x)=zs.filter (λx=>!ys.contains x):=by rw [filter_cons,hb]; rfl
   rw [hf]
   induction h:j7 ys zs (p+1) with
   |none=>rw [h] at ih; exact ih
   |some t=>
    obtain ⟨x,oJ,q⟩:=t
    rw [h] at ih
    refine ⟨ih.1,lt_succ_of_lt ih.2.1,λxs hx=>ih.2.2 xs ?_⟩
    have:=congrArg (List.drop 1) hx
    simpa [add_comm] using this
theorem Rq (hf:fuel≠0) (ha:bW C a=some (xs.map .int)) (hs:a9 C sk=some (ys.map .int)) {zs:List Int} (hz:xs.drop p=zs) (hk:zs.length<fuel) :
  ∃ m',aE (PP r) fuel (n+1) 6 [.loc C.length] [] (MF C sk a p)=(match j7 ys zs p with
    |some (x,_,q)=>.ok (.int x) ⟨m',MF C sk a q⟩
    |none=>.exc .stop ⟨m',MF C sk .none 0⟩):=by
 obtain ⟨qd,h⟩:=FK (r:=r) (cl:=⟨aE (PP r) fuel n,fuel⟩) hf ha hs rfl zs p fuel none hz hk
 refine ⟨[some (.loc C.length),some (.bm .bk sk),qd],?_⟩
 show dq (ax (PP r) ⟨aE (PP r) fuel n,fuel⟩ wR ⟨[some (.loc C.length),none,none],MF C sk a p⟩)=_
 unfold wR
 have e0:ev (PP r) ⟨aE (PP r) fuel n,fuel⟩ (.attr (.var 0) .func) ⟨[some (.loc C.length),none,none],MF C sk a p⟩=.ok (.bm .bk sk) ⟨[some (.loc C.length),none,none],MF C sk a p⟩:=cH (aw (d:=.loc C.length) rfl) Iv
 rw [bB (bU e0 (by simp))]
 show dq (ax (PP r) ⟨aE (PP r) fuel n,fuel⟩ wQ ⟨[some (.loc C.length),some (.bm .bk sk),none],MF C sk a p⟩)=_
 unfold wQ B7
 have e:ex (PP r) ⟨aE (PP r) fuel n,fuel⟩ (.lG (.cst (.bool true)) nh .nil) ⟨[some (.loc C.length),some (.bm .bk sk),none],MF C sk a p⟩=_:=h
 induction hn:j7 ys zs p with
 |none=>
  rw [hn] at e
  rw [qH e]; rfl
 |some t=>
  obtain ⟨x,oJ,q⟩:=t
  rw [hn] at e
  rw [jR e]; rfl
theorem LL (hf:fuel≠0) (ha:bW C a=some (xs.map .int)) (hs:a9 C sk=some (ys.map .int)) :
  ∀ (k:Nat) (zs:List Int) (p:Nat) (acc:List D),xs.drop p=zs->zs.length<k->zs.length<fuel->acc.length+zs.length<=aH->
  ∃ m',ja ⟨aE (PP r) fuel (n+1),fuel⟩ 3 6 C.length k (MF C sk a p) acc=.ok (.lst (acc++(zs.filter (λx=>!ys.contains x)).map .int)) ⟨m',MF C sk .none 0⟩:=λk=>by
 induction k with
 |zero=>
  intro _ _ _ _ hk _ _
  exact absurd hk (not_lt_zero _)
 |succ k ih=>
  intro zs p acc hz hk gU hl
  obtain ⟨m1,h1⟩:=Rq (r:=r) (n:=n) hf ha hs hz gU
  have hm:=RK (ys:=ys) zs p
  rw [ja,sU]
  dsimp only
  rw [if_pos (show ((3:Nat)==3)=true from rfl)]
  rw [h1]
  induction hn:j7 ys zs p with
  |none=>
   rw [hn] at hm
   refine ⟨m1,?_⟩
   dsimp only at hm ⊢
   rw [hm]; simp
  |some t=>
   obtain ⟨x,oJ,q⟩:=t
   rw [hn] at hm
   dsimp only at hm ⊢
   obtain ⟨e1,e2,e3⟩:=hm
   obtain ⟨m2,ih⟩:=ih oJ q (acc++[.int x]) (e3 xs hz) (am e2 (mt hk)) (ii e2 gU) (by rw [length_append]; exact an (by rw [add_assoc,add_comm [D.int x].length]; exact add_le_add_left e2 _) hl)
   refine ⟨m2,?_⟩
   rw [if_pos (lt_of_lt_of_le (Nat.lt_add_of_pos_right (lt_of_le_of_lt (zero_le _) e2)) hl),ih,e1]
   simp
theorem B9:(PP r).dw 3=some {init:=4,meths:=[(.init,4),(.i8,5),(.bX,6)],slots:=some [.it,.func]}:=rfl
theorem Kd {call:Nat->List D->List (Nm × D)->ah->ak D}:m7 (PP r) ⟨call,fuel⟩ (.cls 3) args [] ⟨m,C⟩=nX (.loc C.length) m (call 4 (.loc C.length::args) [] (C++[.slots 3 [none,none]])):=by
 show oY (PP r) ⟨call,fuel⟩ 3 args ⟨m,C⟩=_
 unfold oY
 rw [B9]; rfl
theorem DA (hf:fuel≠0) (ha:bW C a=some (xs.map .int)) (hs:a9 C sk=some (ys.map .int)) (hx:xs.length<fuel) (nT:xs.length<=aH) :
  ∃ m',aE (PP r) fuel (n+2) 7 [a,sk] [] C=.ok (.lst ((xs.filter (λx=>!ys.contains x)).map .int)) ⟨m',MF C sk .none 0⟩:=by
 obtain ⟨m2,hd⟩:=LL (r:=r) (n:=n) hf ha hs fuel xs 0 [] (by simp) hx hx (by simpa using nT)
 refine ⟨[some a,some sk],?_⟩
 show dq (ax (PP r) ⟨aE (PP r) fuel (n+1),fuel⟩ wN ⟨[some a,some sk],C⟩)=_
 unfold wN
 have hN:(C++[Ch.slots 3 [none,none]])[C.length]?=some (.slots 3 [none,none]):=by simp
 have Ox:aE (PP r) fuel (n+1) 4 [.loc C.length,.bm .bk sk,a] [] (C++[.slots 3 [none,none]])=.ok .none ⟨[some (.loc C.length),some (.bm .bk sk),some a],MF C sk a 0⟩:=by
  show dq (ax (PP r) ⟨aE (PP r) fuel n,fuel⟩ wO ⟨[some (.loc C.length),some (.bm .bk sk),some a],C++[.slots 3 [none,none]]⟩)=_
  unfold wO
  have e1:ev (PP r) ⟨aE (PP r) fuel n,fuel⟩ (.call (.cst (.bn .iter)) (.cons (.var 2) .nil) .nil) ⟨[some (.loc C.length),some (.bm .bk sk),some a],C++[.slots 3 [none,none]]⟩ =
    .ok (.loc (C.length+1)) ⟨[some (.loc C.length),some (.bm .bk sk),some a],C++[.slots 3 [none,none],.bq a 0]⟩:=by
   rw [jQ (g:=.bn .iter) rfl (b9 (aw (d:=a) rfl))]
   refine (m6 hf).trans ?_
   show aL (bW (C++[Ch.slots 3 [none,none]]) a) _=_
   rw [A0 ha]
   show ak.ok _ _=_
   simp
  rw [bB (kE e1 (aw (d:=.loc C.length) rfl) (C':=C++[.slots 3 [some (.loc (C.length+1)),none],.bq a 0]) (by
   show ((C++[Ch.slots 3 [none,none],.bq a 0])[C.length]?).bind _=_
   rw [show (C++[Ch.slots 3 [none,none],.bq a 0])[C.length]?=some (.slots 3 [none,none]) by simp]
   show some _=some _
   simp [set_append]
   done))]
  unfold B4
  rw [bB (kE (aw (d:=.bm .bk sk) rfl) (aw (d:=.loc C.length) rfl) (C':=MF C sk a 0) (by
   show ((C++[Ch.slots 3 [some (.loc (C.length+1)),none],.bq a 0])[C.length]?).bind _=_
   rw [show (C++[Ch.slots 3 [some (.loc (C.length+1)),none],.bq a 0])[C.length]?=some (.slots 3 [some (.loc (C.length+1)),none]) by simp]
   show some _=some _
   unfold MF
   simp [set_append]
   rfl))]
  rfl
 have N3:ev (PP r) ⟨aE (PP r) fuel (n+1),fuel⟩ (.call (.cst (.cls 3)) (.cons (.attr (.var 1) .bk) (.cons (.var 0) .nil)) .nil) ⟨[some a,some sk],C⟩=.ok (.loc C.length) ⟨[some a,some sk],MF C sk a 0⟩:=by
  rw [jQ (g:=.cls 3) rfl (lZ (cH (aw (d:=sk) rfl) (Lo hs)) (aw (d:=a) rfl))]
  rw [Kd,Ox]; rfl
 have OA:aE (PP r) fuel (n+1) 5 [.loc C.length] [] (MF C sk a 0)=.ok (.loc C.length) ⟨[some (.loc C.length)],MF C sk a 0⟩:=rfl
 have OL:ev (PP r) ⟨aE (PP r) fuel (n+1),fuel⟩ (.call (.cst (.bn .list)) (.cons (.call (.cst (.cls 3)) (.cons (.attr (.var 1) .bk) (.cons (.var 0) .nil)) .nil) .nil) .nil) ⟨[some a,some sk],C⟩ =
   .ok (.lst ((xs.filter (λx=>!ys.contains x)).map .int)) ⟨[some a,some sk],MF C sk .none 0⟩:=by
  rw [jQ (g:=.bn .list) rfl (b9 N3)]
  refine (m6 hf).trans ?_
  show aL ((MF C sk a 0)[C.length]?) _=_
  rw [sU]
  dsimp only [aL,Bj]
  unfold th
  rw [B9]
  dsimp only
  rw [show List.lookup Nm.i8 [(Nm.init,4),(.i8,5),(.bX,6)]=some 5 from rfl,show List.lookup Nm.bX [(Nm.init,4),(.i8,5),(.bX,6)]=some 6 from rfl]
  dsimp only [aL]
  rw [OA]
  dsimp only
  rw [decide_eq_true rfl]
  dsimp only [bJ]
  rw [hd,List.nil_append]
 rw [jR (tK OL)]
 rfl
end
end Mine.Lake
end
section
open PySem PyProof.Rows
namespace Mine.Lake
noncomputable def bg (k:Nat):Int:=((iD[k]?).getD 0).toNat
variable {C:ah}
theorem E0 {b:List UInt8} {k:Int}:g9 C (.bytes b) (.int k)=pF b k:=rfl
variable {k:Nat}
theorem E3 (h:k<64):g9 C (.bytes iD) (.int k)=some (.int (bg k)):=by
 rw [E0]
 unfold pF
 rw [if_pos ⟨natCast_nonneg k,Int.lt_trans (ofNat_lt.mpr h) (by decide)⟩]
 have hl:k<iD.length:=h
 rw [toNat_natCast]
 unfold bg
 rw [getElem?_eq_getElem hl]; rfl
theorem R5 (a b:Nat) (h:b<256):Builtin.bitOr ((a:Int)*2 ^ 8) (b:Int)=((a*256+b:Nat):Int):=by
 have e:((a:Int)*2 ^ 8)=((a*256:Nat):Int):=by rw [Int.natCast_mul]; rfl
 rw [bitOr_and,e,bitAnd_pp (natCast_nonneg _) (natCast_nonneg _),toNat_natCast,toNat_natCast]
 have:(a*256) &&& b=0:=by
  have h2:a*256=2 ^ 8*a:=mul_comm a 256
  have h1:=Nat.two_pow_add_eq_or_of_lt (i:=8) (b:=b) h a
  apply Nat.eq_of_testBit_eq
  intro j
  rw [testBit_and,h2,Nat.testBit_two_pow_mul,Nat.zero_testBit]
  by_cases hj:j<8
  ·have : ¬ (8<=j):=Nat.not_le.mpr hj
   simp [this]
  ·have:b.testBit j=false:=Nat.testBit_lt_two_pow (am h (Nat.pow_le_pow_right (n:=2) (by decide) (not_lt.mp hj)))
   simp [this]
 rw [this]; exact Int.sub_zero _
variable {a p q:Nat}
theorem zR {y N:Nat} (hp:0<p) (hd:64 ∣ N):(a*(q*p)+y) % (p*N) / p % 64=(a*q+y / p) % 64:=by
 rw [Nat.mod_mul_right_div_self,Nat.mod_mod_of_dvd _ hd,<-mul_assoc,add_comm,add_mul_div_right _ _ hp,add_comm]
theorem xa {y N:Nat} (hd:p ∣ N):(a*(q*p)+y) % N % p=y % p:=by
 rw [Nat.mod_mod_of_dvd _ hd,<-mul_assoc,mul_add_mod']
theorem lo {v:Nat} (h:v<p):(a*p+v) % (p*q)=a % q*p+v:=by
 rw [Nat.mod_mul,mul_add_mod',mod_eq_of_lt h,add_comm (a*p) v,add_mul_div_right _ _ (lt_of_le_of_lt (zero_le _) h),Nat.div_eq_of_lt h,zero_add,add_comm,mul_comm]
theorem FD (a y:Nat):(a*256+y) % 65536 % 16=y % 16:=xa (p:=16) (q:=16) (N:=65536) ⟨4096,rfl⟩
theorem zf (a y:Nat):(a*256+y) % 65536 % 4=y % 4:=xa (p:=4) (q:=64) (N:=65536) ⟨16384,rfl⟩
variable {x:Nat}
theorem k0 (h:x<256):(a*256+x) % 65536 / 2 ^ 2 % 64=x / 4:=(zR (p:=4) (q:=64) (N:=16384) (by decide) ⟨256,rfl⟩).trans ((mul_add_mod' a 64 (x / 4)).trans (mod_eq_of_lt (div_lt_of_lt_mul h)))
theorem k1 (h:x<256):(a*256+x) % 65536 / 2 ^ 4 % 64=a % 4*16+x / 16:=(zR (p:=16) (q:=16) (N:=4096) (by decide) ⟨64,rfl⟩).trans (lo (p:=16) (q:=4) (div_lt_of_lt_mul h))
theorem k2 (h:x<256):(a*256+x) % 65536 / 2 ^ 6 % 64=a % 16*4+x / 64:=(zR (p:=64) (q:=4) (N:=1024) (by decide) ⟨16,rfl⟩).trans (lo (p:=4) (q:=16) (div_lt_of_lt_mul h))
theorem k3:(a*256+x) % 65536 / 2 ^ 0 % 64=x % 64:=(congrArg (· % 64) (div_one _)).trans (xa (p:=64) (q:=4) (N:=65536) ⟨1024,rfl⟩)
theorem uU (a:Nat):a % 65536<65536:=mod_lt _ (by decide)
variable {os l:List D} {n:Nat}
theorem zB {b:Nat} (h:os.length+b<=aH) (hb:l.length+n<b):(os++l).length+n<aH:=by
 rw [length_append,add_assoc]; exact am (add_lt_add_left hb _) h
theorem SP (h:os.length+2*(n+3)<=aH) (hl:l.length=4):(os++l).length+2*n<=aH:=by
 rw [length_append,hl,add_assoc,add_comm 4]; exact an (add_le_add_left (by rw [Nat.mul_add]; exact add_le_add_left (by decide) _) _) h
theorem zA {b:Nat} (h:a+(b+1)<=aH):a<aH:=am (Nat.lt_add_of_pos_right (succ_pos _)) h
variable {r:List Fn} {cl:Calls} {x0 x1 x2 x6:Option D} {lc s:Nat} {i6:List UInt8}
noncomputable def MB (x0 x1 x2:Option D) (N:Nat) (lb lc:Int) (x6:Option D):List (Option D):=[x0,x1,x2,some (.loc N),some (.int lb),some (.int lc),x6]
theorem put {lb:Int} (h1:lb=((s+6:Nat):Int)) (h2:s<=1000) (hk:lc / 2 ^ s % 64=k) (hl:os.length<aH) :
  ax (PP r) cl tq ⟨MB x0 x1 x2 C.length lb lc x6,C++[.list os]⟩=.ok .next ⟨MB x0 x1 x2 C.length (lb - 6) lc x6,C++[.list (os++[.int (bg k)])]⟩:=by
 have e1:ev (PP r) cl (.idx (.cst (.bytes iD)) (.bin .and (.bin .shr (.var 5) (.bin .sub (.var 4) (.cst (.int 6)))) (.cst (.int 63)))) ⟨MB x0 x1 x2 C.length lb lc x6,C++[.list os]⟩=.ok (.int (bg k)) ⟨MB x0 x1 x2 C.length lb lc x6,C++[.list os]⟩:=by
  refine dW (x:=.bytes iD) (y:=.int k) rfl (cg (x:=.int ((lc / 2 ^ s:Nat):Int)) (y:=.int 63) (cg (x:=.int lc) (y:=.int s) (aw rfl) (cg (x:=.int lb) (y:=.int 6) (aw rfl) rfl ?_) ?_) rfl ?_) ?_
  ·show some (D.int (lb - 6))=_
   rw [h1]; exact congrArg (λz=>some (D.int z)) (Int.add_sub_cancel (s:Int) 6)
  ·show (hW .shr _ _).map _=_
   unfold hW
   dsimp only
   rw [if_pos (by simp; exact ofNat_le.mpr h2)]
   show some (D.int _)=_
   congr 2
   have hp:(0:Int)<=2 ^ s:=Int.pow_nonneg (show (0:Int)<=2 by decide)
   rw [toNat_natCast,Int.fdiv_eq_ediv_of_nonneg _ hp]
   simp
  ·show some (D.int (Builtin.bitAnd _ 63))=_
   rw [bitAnd_m6]
   rw [<-hk]; rfl
  ·exact E3 (hk ▸ mod_lt _ (by decide))
 unfold tq
 rw [bB (tH (i:=C.length) rfl (ds:=os) (by simp) e1 (nv:=os) (by simp) hl)]
 rw [bB (bU (d:=.int (lb - 6)) (cg (x:=.int lb) (y:=.int 6) (aw rfl) rfl rfl) (by simp [MB]))]
 show ak.ok Fl.next ⟨_,List.set (C++[Ch.list os]) C.length (Ch.list (os++[.int (bg k)]))⟩=_
 simp [set_append]
 rfl
noncomputable def vw (r:List Fn) (cl:Calls):Nat->St->ak Fl:=whileLoop (λaa=>ev (PP r) cl (.cmp .ge (.var 4) (.cst (.int 6))) aa) (λaa=>ax (PP r) cl tq aa) (λaa=>ax (PP r) cl .nil aa)
theorem tL {P:aX} {s:S} {st:St}:ax P cl (.cons s .nil) st=ex P cl s st:=by
 show (match ex P cl s st with|.ok .next aa=>ax P cl .nil aa|o=>o)=_
 induction ex P cl s st with
 |ok f aa=>induction f<;>rfl
 |exc x aa=>rfl
 |fail=>rfl
theorem vx {lb iS:Int} (h1:lb=((s+6:Nat):Int)) (h3:lb - 6=iS) (h2:s<=1000) (hk:lc / 2 ^ s % 64=k) (hl:os.length<aH) :
  vw r cl (n+1) ⟨MB x0 x1 x2 C.length lb lc x6,C++[.list os]⟩=vw r cl n ⟨MB x0 x1 x2 C.length iS lc x6,C++[.list (os++[.int (bg k)])]⟩:=by
 have e:ev (PP r) cl (.cmp .ge (.var 4) (.cst (.int 6))) ⟨MB x0 x1 x2 C.length lb lc x6,C++[.list os]⟩=.ok (.bool true) ⟨MB x0 x1 x2 C.length lb lc x6,C++[.list os]⟩:=
  b7 (x:=.int lb) (y:=.int 6) (aw rfl) rfl (by show some (decide _)=_; rw [h1]; exact congrArg some (decide_eq_true (Int.le_add_of_nonneg_left (natCast_nonneg s):(6:Int)<=(s:Int)+6)))
 exact sJ e rfl (by rw [put h1 h2 hk hl,h3])
theorem Ak {lb:Int} (h:lb<6):vw r cl (n+1) ⟨MB x0 x1 x2 C.length lb lc x6,C++[.list os]⟩=.ok .next ⟨MB x0 x1 x2 C.length lb lc x6,C++[.list os]⟩:=by
 have e:ev (PP r) cl (.cmp .ge (.var 4) (.cst (.int 6))) ⟨MB x0 x1 x2 C.length lb lc x6,C++[.list os]⟩=.ok (.bool false) ⟨MB x0 x1 x2 C.length lb lc x6,C++[.list os]⟩:=
  b7 (x:=.int lb) (y:=.int 6) (aw rfl) rfl (by show some (decide _)=_; exact congrArg some (decide_eq_false (not_le.mpr h)))
 exact Aj e rfl
theorem wk {lb iS:Int} (gV:lc<65536) (hx:x<256) (h3:lb+8=iS) :
  ax (PP r) cl kB ⟨MB x0 x1 x2 C.length lb lc (some (.int x)),C++[.list os]⟩=vw r cl cl.fuel ⟨MB x0 x1 x2 C.length iS ((lc*256+x) % 65536:Nat) (some (.int x)),C++[.list os]⟩:=by
 unfold kB
 have e:ev (PP r) cl (.bin .and (.bin .or (.bin .shl (.var 5) (.cst (.int 8))) (.var 6)) (.cst (.int 65535))) ⟨MB x0 x1 x2 C.length lb lc (some (.int x)),C++[.list os]⟩ =
   .ok (.int ((lc*256+x) % 65536:Nat)) ⟨MB x0 x1 x2 C.length lb lc (some (.int x)),C++[.list os]⟩:=by
  refine cg (x:=.int ((lc*256+x:Nat):Int)) (y:=.int 65535) (cg (x:=.int ((lc:Int)*2 ^ 8)) (y:=.int x) (cg (x:=.int lc) (y:=.int 8) (aw rfl) rfl ?_) (aw rfl) ?_) rfl ?_
  ·show (hW .shl _ _).map _=_
   unfold hW
   dsimp only
   rw [if_pos (by simp [small]; exact lt_trans gV (by decide))]
   rfl
  ·show some (D.int (Builtin.bitOr _ _))=_
   rw [R5 _ _ hx]
  ·show some (D.int (Builtin.bitAnd _ 65535))=_
   rw [bitAnd_m16]; congr 2
 rw [bB (bU e (by simp [MB])),bB (bU (d:=.int (lb+8)) (cg (x:=.int lb) (y:=.int 8) (aw rfl) rfl rfl) (by simp [MB])),tL,h3]
 rfl
theorem wj (gV:lc<65536) (hx:x<256) (hf:cl.fuel=n+3) (hl:os.length<aH) :
  ax (PP r) cl kB ⟨MB x0 x1 x2 C.length 0 lc (some (.int x)),C++[.list os]⟩=.ok .next ⟨MB x0 x1 x2 C.length 2 ((lc*256+x) % 65536:Nat) (some (.int x)),C++[.list (os++[.int (bg (x / 4))])]⟩:=by
 rw [wk (iS:=8) gV hx rfl,hf,vx (lb:=8) (s:=2) (iS:=2) (k:=x / 4) rfl rfl (by decide) (k0 hx) hl,Ak (by decide)]
theorem Bw (gV:lc<65536) (hx:x<256) (hf:cl.fuel=n+3) (hl:os.length<aH) :
  ax (PP r) cl kB ⟨MB x0 x1 x2 C.length 2 lc (some (.int x)),C++[.list os]⟩=.ok .next ⟨MB x0 x1 x2 C.length 4 ((lc*256+x) % 65536:Nat) (some (.int x)),C++[.list (os++[.int (bg (lc % 4*16+x / 16))])]⟩:=by
 rw [wk (iS:=10) gV hx rfl,hf,vx (lb:=10) (s:=4) (iS:=4) (k:=lc % 4*16+x / 16) rfl rfl (by decide) (k1 hx) hl,Ak (by decide)]
theorem Jb (gV:lc<65536) (hx:x<256) (hf:cl.fuel=n+3) (hl:os.length+1<aH) :
  ax (PP r) cl kB ⟨MB x0 x1 x2 C.length 4 lc (some (.int x)),C++[.list os]⟩=.ok .next ⟨MB x0 x1 x2 C.length 0 ((lc*256+x) % 65536:Nat) (some (.int x)),C++[.list (os++[.int (bg (lc % 16*4+x / 64)),.int (bg (x % 64))])]⟩:=by
 rw [wk (iS:=12) gV hx rfl,hf,vx (lb:=12) (s:=6) (iS:=6) (k:=lc % 16*4+x / 64) rfl rfl (by decide) (k2 hx) (lt_of_succ_lt hl),vx (lb:=6) (s:=0) (iS:=0) (k:=x % 64) rfl rfl (by decide) k3 (by rw [length_append]; exact hl),Ak (by decide),append_assoc]
 rfl
noncomputable def gG:List Nat->List Nat
 |x::y::z::r=>x / 4::(x % 4*16+y / 16)::(y % 16*4+z / 64)::z % 64::gG r
 |[x,y]=>[x / 4,x % 4*16+y / 16]
 |[x]=>[x / 4]
 |[]=>[]
noncomputable def ig:List Nat->Nat
 |_::_::_::r=>ig r
 |[_,y]=>y % 16*4
 |[x]=>x % 4*16
 |[]=>0
noncomputable def rO (r:List Fn) (cl:Calls) (bs:List UInt8):List D->St->ak Fl:=forLoop (λC C'=>br C C' (.bytes bs)) (.one 6) (λae=>ax (PP r) cl kB ae)
theorem pQ {d:D} {ds:List D} {lb lc:Int} {ae:St} (h:ax (PP r) cl kB ⟨MB x0 x1 x2 C.length lb lc (some d),C++[.list os]⟩=.ok .next ae) :
  rO r cl i6 (d::ds) ⟨MB x0 x1 x2 C.length lb lc x6,C++[.list os]⟩=rO r cl i6 ds ae:=by
 show (match ax (PP r) cl kB ⟨MB x0 x1 x2 C.length lb lc (some d),C++[.list os]⟩ with|.ok .next aa=>_|.ok .cont aa=>_|.ok .brk aa=>_|o=>_)=_
 rw [h]
 rfl
inductive AG (r:List Fn) (cl:Calls) (i6:List UInt8) (C:ah) (x0 x1 x2 x6:Option D) (bs:List Nat) (lc:Nat) (os:List D):Prop
 |mk (dJ:Nat) (eO:Option D) (h1:rO r cl i6 (bs.map λb:Nat=>D.int (b:Int)) ⟨MB x0 x1 x2 C.length 0 lc x6,C++[.list os]⟩ =
   .ok .next ⟨MB x0 x1 x2 C.length (2*(bs.length % 3):Nat) dJ eO,C++[.list (os++(gG bs).map λk=>D.int (bg k))]⟩)
   (h2:bs.length % 3=1->dJ % 4*16=ig bs) (h3:bs.length % 3=2->dJ % 16*4=ig bs):AG r cl i6 C x0 x1 x2 x6 bs lc os
theorem u3 {m:List (Option D)} {l':List D} (h:l=l'):(ak.ok Fl.next (⟨m,C++[.list l]⟩:St))=.ok .next ⟨m,C++[.list l']⟩:=by rw [h]
theorem Bb (n:Nat) (h:k<6):k<2*(n+3):=am h (mul_le_mul_left 2 (le_add_left 3 n))
theorem Fo (n:Nat):(n+3) % 3=n % 3:=Nat.add_mod_right n 3
theorem Fv {n:Nat} (hf:cl.fuel=n+3) {i6:List UInt8} : ∀ (bs:List Nat) (lc:Nat) (os:List D) (x6:Option D),(∀ b∈bs,b<256)->lc<65536->os.length+2*bs.length<=aH->AG r cl i6 C x0 x1 x2 x6 bs lc os
 |[],lc,os,x6,_,_,_=>⟨lc,x6,u3 (append_nil os).symm,λh=>absurd h (by decide : ¬ ((0:Nat) % 3=1)),λh=>absurd h (by decide : ¬ ((0:Nat) % 3=2))⟩
 |[x],lc,os,x6,hb,gV,hl=>⟨(lc*256+x) % 65536,some (.int x),pQ (ds:=[]) (wj gV (hb x (.head _)) hf (zA hl)),λu'=>congrArg (· * 16) (zf lc x),λh=>absurd h (by decide : ¬ ((1:Nat) % 3=2))⟩
 |[x,y],lc,os,x6,hb,gV,hl=>⟨(((lc*256+x) % 65536)*256+y) % 65536,some (.int y),
   (pQ (wj gV (hb x (.head _)) hf (zA hl))).trans ((pQ (ds:=[]) (Bw (uU _) (hb y (.tail _ (.head _))) hf (zB (l:=[_]) (n:=0) hl (by decide:1<4)))).trans (u3 (by rw [zf,append_assoc]; rfl))),
   λh=>absurd h (by decide : ¬ ((2:Nat) % 3=1)),λu'=>congrArg (· * 4) (FD _ y)⟩
 |x::y::z::bs,lc,os,x6,hb,gV,hl=>by
  obtain ⟨dJ,eO,h1,h2,h3⟩:=Fv hf (i6:=i6) bs (((((lc*256+x) % 65536)*256+y) % 65536*256+z) % 65536) (os++[.int (bg (x / 4)),.int (bg (x % 4*16+y / 16)),.int (bg (y % 16*4+z / 64)),.int (bg (z % 64))])
   (some (.int z)) (λb h=>hb b (.tail _ (.tail _ (.tail _ h)))) (uU _) (SP hl rfl)
  have e3:(x::y::z::bs).length % 3=bs.length % 3:=Fo _
  refine ⟨dJ,eO,(pQ (wj gV (hb x (.head _)) hf (zA hl))).trans ((pQ (Bw (uU _) (hb y (.tail _ (.head _))) hf (zB (l:=[_]) (n:=0) hl (Bb _ (by decide:1<6))))).trans
   ((pQ (Jb (uU _) (hb z (.tail _ (.tail _ (.head _)))) hf ?_)).trans ((congrArg (λl=>rO r cl i6 _ ⟨MB x0 x1 x2 C.length 0 _ _,C++[.list l]⟩) ?_).trans (h1.trans ?_)))),λe=>h2 (e3 ▸ e),λe=>h3 (e3 ▸ e)⟩
  ·rw [append_assoc]; exact zB hl (Bb _ (by decide:3<6))
  ·rw [zf,FD,append_assoc,append_assoc]; rfl
  ·rw [e3,append_assoc]; rfl
noncomputable def bY (bs:List Nat):List Int:=(gG bs).map bg++(match bs.length % 3 with
 |1=>[bg (ig bs),61,61]
 |2=>[bg (ig bs),61]
 |_=>[])
theorem zO:0<=bg k/\bg k<256:=by
 unfold bg
 have:=UInt8.toNat_lt ((iD[k]?).getD 0)
 exact ⟨natCast_nonneg _,ofNat_lt.mpr this⟩
theorem tj : ∀ {xs:List Int},(∀ x∈xs,0<=x/\x<256)->∃ tb,gP xs=some tb/\tb.map (λc=>(c.toNat:Int))=xs
 |[],_=>⟨[],rfl,rfl⟩
 |x::xs,h=>by
  obtain ⟨tb,h1,h2⟩:=tj (xs:=xs) λy hy=>h y (.tail _ hy)
  have hx:=h x (.head _)
  obtain ⟨n,rfl⟩:=Int.eq_ofNat_of_zero_le hx.1
  refine ⟨n.toUInt8::tb,by rw [gP,if_pos hx,h1]; rfl,?_⟩
  rw [map_cons,h2]
  exact congrArg (λk:Nat=>(k:Int)::xs) (mod_eq_of_lt (ofNat_lt.mp hx.2))
theorem CU {bs:List Nat} : ∀ x∈bY bs,0<=x/\x<256:=by
 intro x hx
 unfold bY at hx
 rw [mem_append] at hx
 rcases hx with hx|hx
 ·obtain ⟨k,_,rfl⟩:=mem_map.mp hx; exact zO
 ·split at hx
  ·simp at hx; rcases hx with rfl|rfl
   ·exact zO
   ·decide
  ·simp at hx; rcases hx with rfl|rfl
   ·exact zO
   ·decide
  ·cases hx
theorem zQ : ∀ bs:List Nat,(gG bs).length<=2*bs.length
 |[]=>by simp [gG]
 |[x]=>by simp [gG]
 |[x,y]=>by simp [gG]
 |x::y::z::r=>by show (gG r).length+1+1+1+1<=2*(r.length+1+1+1); exact an (add_le_add_right (zQ r) 4) (an (add_le_add_left (by decide:4<=2*3) (2*r.length)) (le_of_eq (Nat.mul_add 2 r.length 3).symm))
section
variable {lb:Int}
theorem qG {e:E} {d:D} (he:ev (PP r) cl e ⟨MB x0 x1 x2 C.length lb lc x6,C++[.list os]⟩=.ok d ⟨MB x0 x1 x2 C.length lb lc x6,C++[.list os]⟩) (hl:os.length<aH) :
  ex (PP r) cl (.expr (.bo (.var 3) .append (.cons e .nil))) ⟨MB x0 x1 x2 C.length lb lc x6,C++[.list os]⟩=.ok .next ⟨MB x0 x1 x2 C.length lb lc x6,C++[.list (os++[d])]⟩:=by
 rw [tH (i:=C.length) rfl (ds:=os) (by simp) he (nv:=os) (by simp) hl]
 simp [set_append]
theorem C9 {a:Int} {t:Nat} (ha:Builtin.bitAnd lc a=((lc % t:Nat):Int)) (hs:s<=10) (ht:lc % t*2 ^ s<64) {b:Int} (hb:b=(s:Nat)) :
  ev (PP r) cl (.idx (.cst (.bytes iD)) (.bin .shl (.bin .and (.var 5) (.cst (.int a))) (.cst (.int b)))) ⟨MB x0 x1 x2 C.length lb lc x6,C++[.list os]⟩ =
   .ok (.int (bg (lc % t*2 ^ s))) ⟨MB x0 x1 x2 C.length lb lc x6,C++[.list os]⟩:=by
 refine dW (x:=.bytes iD) (y:=.int ((lc % t*2 ^ s:Nat):Int)) rfl (cg (x:=.int ((lc % t:Nat):Int)) (y:=.int b) (cg (x:=.int lc) (y:=.int a) (aw rfl) rfl ?_) rfl ?_) (E3 ht)
 ·show some (D.int (Builtin.bitAnd _ _))=_
  rw [ha]
 ·show (hW .shl _ _).map _=_
  unfold hW
  dsimp only
  have hp:0<2 ^ s:=pow_pos (by decide)
  have hm:lc % t<=lc % t*2 ^ s:=Nat.le_mul_of_pos_right _ hp
  rw [if_pos (by
   rw [hb]
   have h1:small ((lc % t:Nat):Int)=true:=by
    unfold small
    rw [decide_eq_true_eq,natAbs_natCast]
    exact lt_of_le_of_lt hm (lt_trans ht (by decide))
   rw [h1]; simp; exact ofNat_le.mpr (le_trans hs (by decide)))]
  show some (D.int _)=_
  rw [hb,toNat_natCast]
  simp
theorem V3 (bs:List Nat):(match bs.length % 3 with
 |1=>[bg (ig bs),61,61]
 |2=>[bg (ig bs),61]
 |_=>[]).length<=8:=by
 split
 ·exact jp 3 5
 ·exact jp 2 6
 ·exact zero_le _
theorem VY (gU:cl.fuel≠0) {bs:List Nat} {ob:List UInt8} (ho:gP (bY bs)=some ob) (h1:bs.length % 3=1->lc % 4*16=ig bs) (h2:bs.length % 3=2->lc % 16*4=ig bs) (hl:2*bs.length+8<=aH) :
  ∃ m',ax (PP r) cl wH ⟨MB x0 (some (.bool false)) x2 C.length (2*(bs.length % 3):Nat) lc x6,C++[.list ((gG bs).map λk=>D.int (bg k))]⟩=.ok (.ret (.bytes ob)) ⟨m',C++[.list ((bY bs).map .int)]⟩:=by
 have kY : ∀ {n},n<8->((gG bs).map λk=>D.int (bg k)).length+n<aH:=λh=>by
  rw [length_map]
  exact am (Nat.add_lt_add_of_le_of_lt (zQ bs) h) hl
 have hlen:(bY bs).length<=aH:=by
  unfold bY
  rw [length_append,length_map]
  exact an (add_le_add (zQ bs) (V3 bs)) hl
 have fin : ∀ (lb:Int),ax (PP r) cl wG ⟨MB x0 (some (.bool false)) x2 C.length lb lc x6,C++[.list ((bY bs).map .int)]⟩=.ok (.ret (.bytes ob)) ⟨MB x0 (some (.bool false)) x2 C.length lb lc x6,C++[.list ((bY bs).map .int)]⟩:=λlb=>by
  unfold wG
  rw [bB (aa:=⟨MB x0 (some (.bool false)) x2 C.length lb lc x6,C++[.list ((bY bs).map .int)]⟩) (by rw [l0 (x:=.bool false) (aw rfl) rfl]; rfl)]
  unfold BR
  refine jR (tK ?_)
  rw [jQ (g:=.bn .bytes) rfl (b9 (aw (d:=.loc C.length) rfl))]
  refine (fx gU).trans ?_
  show aL ((jZ (C++[Ch.list ((bY bs).map .int)]) (.loc C.length)).bind gP) _=_
  have:jZ (C++[Ch.list ((bY bs).map .int)]) (.loc C.length)=some (bY bs):=by
   unfold jZ
   rw [show a9 (C++[Ch.list ((bY bs).map .int)]) (.loc C.length)=some ((bY bs).map .int) from mX List.getElem?_concat_length]
   exact pJ _
  rw [this]
  show aL (gP (bY bs)) _=_
  rw [ho]
  have OX:ob.length=(bY bs).length:=by
   obtain ⟨Xg,e1,e2⟩:=tj (CU (bs:=bs))
   rw [ho] at e1; obtain rfl:=ad e1
   rw [<-e2,length_map]
  show bJ (decide (ob.length<=aH)) _=_
  rw [decide_eq_true (OX ▸ hlen)]; rfl
 unfold wH
 have h3:bs.length % 3<3:=mod_lt _ (by decide)
 have kK : ∀ (lb:Int) (C':ah) (k:Int),ev (PP r) cl (.cmp .eq (.var 4) (.cst (.int k))) ⟨MB x0 (some (.bool false)) x2 C.length lb lc x6,C'⟩=.ok (.bool (lb==k)) ⟨MB x0 (some (.bool false)) x2 C.length lb lc x6,C'⟩:=λlb C' k=>
  b7 (x:=.int lb) (y:=.int k) (aw rfl) rfl rfl
 match hq:bs.length % 3,h3 with
 |0,_=>
  refine ⟨MB x0 (some (.bool false)) x2 C.length 0 lc x6,?_⟩
  have he:(gG bs).map (λk=>D.int (bg k))=(bY bs).map .int:=by unfold bY; rw [hq]; simp
  rw [he]
  rw [bB (aa:=⟨MB x0 (some (.bool false)) x2 C.length 0 lc x6,C++[.list ((bY bs).map .int)]⟩) (by
   rw [l0 (kK _ _ _) rfl,tL,l0 (kK _ _ _) rfl]; rfl)]
  exact fin 0
 |1,_=>
  refine ⟨MB x0 (some (.bool false)) x2 C.length 2 lc x6,?_⟩
  have e1:lc % 4*2 ^ 4=ig bs:=h1 hq
  have rg:=λos=>C9 (r:=r) (cl:=cl) (C:=C) (os:=os) (x0:=x0) (x1:=some (.bool false)) (x2:=x2) (x6:=x6) (lb:=2) (lc:=lc) (a:=3) (s:=4) (t:=4) (b:=4) (by rw [bitAnd_m2]; rfl) (by decide) (Nat.mul_lt_mul_of_pos_right (mod_lt _ (by decide)) (by decide:0<16)) rfl
  rw [e1] at rg
  have he:(gG bs).map (λk=>D.int (bg k))++[.int (bg (ig bs))]++[.int 61]++[.int 61]=(bY bs).map .int:=by unfold bY; rw [hq]; simp
  rw [bB (aa:=⟨MB x0 (some (.bool false)) x2 C.length 2 lc x6,C++[.list ((bY bs).map .int)]⟩) (by
   rw [tJ (kK _ _ _) rfl]
   show ax (PP r) cl _ ⟨MB x0 (some (.bool false)) x2 C.length 2 lc x6,_⟩=_
   exact (bB (qG (rg _) (kY (n:=0) (by decide)))).trans ((bB (qG (d:=.int 61) rfl (by rw [length_append]; exact kY (n:=1) (by decide)))).trans ((bB (qG (d:=.int 61) rfl (by rw [length_append,length_append]; exact kY (n:=2) (by decide)))).trans (u3 he))))]
  exact fin 2
 |2,_=>
  refine ⟨MB x0 (some (.bool false)) x2 C.length 4 lc x6,?_⟩
  have e1:lc % 16*2 ^ 2=ig bs:=h2 hq
  have rg:=λos=>C9 (r:=r) (cl:=cl) (C:=C) (os:=os) (x0:=x0) (x1:=some (.bool false)) (x2:=x2) (x6:=x6) (lb:=4) (lc:=lc) (a:=15) (s:=2) (t:=16) (b:=2) (by rw [bitAnd_m4]; rfl) (by decide) (Nat.mul_lt_mul_of_pos_right (mod_lt _ (by decide)) (by decide:0<4)) rfl
  rw [e1] at rg
  have he:(gG bs).map (λk=>D.int (bg k))++[.int (bg (ig bs))]++[.int 61]=(bY bs).map .int:=by unfold bY; rw [hq]; simp
  rw [bB (aa:=⟨MB x0 (some (.bool false)) x2 C.length 4 lc x6,C++[.list ((bY bs).map .int)]⟩) (by
   rw [l0 (kK _ _ _) rfl,tL,tJ (kK _ _ _) rfl]
   show ax (PP r) cl _ ⟨MB x0 (some (.bool false)) x2 C.length 4 lc x6,_⟩=_
   exact (bB (qG (rg _) (kY (n:=0) (by decide)))).trans ((bB (qG (d:=.int 61) rfl (by rw [length_append]; exact kY (n:=1) (by decide)))).trans (u3 he)))]
  exact fin 4
end
section
variable {fuel:Nat}
theorem IA {tb:List UInt8} (hf:3<=fuel) (hl:2*tb.length+8<=aH) :
  ∃ ob m' g,ob.map (λc:UInt8=>(c.toNat:Int))=bY (tb.map (·.toNat))/\aE (PP r) fuel (n+3) 3 [.bytes tb] [] C=.ok (.bytes ob) ⟨m',C++[g]⟩:=by
 refine cps λQQ kQ=>?_
 obtain ⟨bs,t7⟩ : ∃ bs,bs=tb.map (λc:UInt8=>c.toNat):=⟨_,rfl⟩
 have hb : ∀ b∈bs,b<256:=λb h=>by
  rw [t7] at h; obtain ⟨c,_,rfl⟩:=mem_map.mp h; exact UInt8.toNat_lt c
 have hlen:bs.length=tb.length:=by rw [t7]; simp
 obtain ⟨ob,fC,OV⟩:=tj (CU (bs:=bs))
 obtain ⟨k,hk⟩ : ∃ k,fuel=k+3:=⟨fuel - 3,(Nat.sub_add_cancel hf).symm⟩
 obtain ⟨dJ,eO,ON,Ph,Pj⟩:=Fv (r:=r) (C:=C) (cl:=⟨aE (PP r) fuel (n+1),fuel⟩) (x0:=some (.bytes tb)) (x1:=some (.bool false)) (x2:=some (.bytes tb)) (n:=k) hk (i6:=tb) bs 0 [] none hb (by decide) (by rw [hlen]; exact an (an (le_of_eq (zero_add _)) (jp _ 8)) hl)
 have hz:(fuel==0)=false:=by rw [hk]; rfl
 have N1:aE (PP r) fuel (n+1) 0 [.bytes tb] [] C=.ok (.bytes tb) ⟨[some (.bytes tb),some (.bn .bytes)],C⟩:=by
  rw [hk]; rfl
 have Pn:aE (PP r) fuel (n+1) 1 [.bool false] [] C=.ok (.bool false) ⟨[some (.bool false),some (.bn .bool)],C⟩:=by
  rw [hk]; rfl
 have main : ∃ m',aE (PP r) fuel (n+2) 2 [.bytes tb] [(.newline,.bool false)] C=.ok (.bytes ob) ⟨m',C++[.list ((bY bs).map .int)]⟩:=by
  show ∃ m',dq (ax (PP r) ⟨aE (PP r) fuel (n+1),fuel⟩ wD ⟨[some (.bytes tb),some (.bool false),none,none,none,none,none],C⟩)=_
  unfold wD
  obtain ⟨m9,Pk⟩:=VY (r:=r) (C:=C) (cl:=⟨aE (PP r) fuel (n+1),fuel⟩) (x0:=some (.bytes tb)) (x2:=some (.bytes tb)) (x6:=eO) (lc:=dJ) (by show fuel≠0; rw [hk]; exact succ_ne_zero _) fC Ph Pj (by rw [hlen]; exact hl)
  refine ⟨m9,?_⟩
  have e2:ev (PP r) ⟨aE (PP r) fuel (n+1),fuel⟩ (.call (.cst (.fn 0)) (.cons (.var 0) .nil) .nil) ⟨[some (.bytes tb),some (.bool false),none,none,none,none,none],C⟩=.ok (.bytes tb) ⟨[some (.bytes tb),some (.bool false),none,none,none,none,none],C⟩:=by
   rw [jQ (g:=.fn 0) rfl (b9 (aw (d:=.bytes tb) rfl))]
   show bR _ (aE (PP r) fuel (n+1) 0 [.bytes tb] [] C)=_
   rw [N1]; rfl
  rw [bB (bU e2 (by simp))]
  show dq (ax (PP r) _ wC ⟨[some (.bytes tb),some (.bool false),some (.bytes tb),none,none,none,none],C⟩)=_
  unfold wC
  have e1:ev (PP r) ⟨aE (PP r) fuel (n+1),fuel⟩ (.call (.cst (.fn 1)) (.cons (.var 1) .nil) .nil) ⟨[some (.bytes tb),some (.bool false),some (.bytes tb),none,none,none,none],C⟩=.ok (.bool false) ⟨[some (.bytes tb),some (.bool false),some (.bytes tb),none,none,none,none],C⟩:=by
   rw [jQ (g:=.fn 1) rfl (b9 (aw (d:=.bool false) rfl))]
   show bR _ (aE (PP r) fuel (n+1) 1 [.bool false] [] C)=_
   rw [Pn]; rfl
  rw [bB (bU e1 (by simp))]
  show dq (ax (PP r) _ wJ ⟨[some (.bytes tb),some (.bool false),some (.bytes tb),none,none,none,none],C⟩)=_
  have e3:ax (PP r) ⟨aE (PP r) fuel (n+1),fuel⟩ wJ ⟨[some (.bytes tb),some (.bool false),some (.bytes tb),none,none,none,none],C⟩ =
    ax (PP r) ⟨aE (PP r) fuel (n+1),fuel⟩ wI ⟨MB (some (.bytes tb)) (some (.bool false)) (some (.bytes tb)) C.length 0 (0:Nat) none,C++[.list []]⟩:=rfl
  rw [e3]
  unfold wI
  have e4:ex (PP r) ⟨aE (PP r) fuel (n+1),fuel⟩ wF ⟨MB (some (.bytes tb)) (some (.bool false)) (some (.bytes tb)) C.length 0 (0:Nat) none,C++[.list []]⟩ =
    .ok .next ⟨MB (some (.bytes tb)) (some (.bool false)) (some (.bytes tb)) C.length (2*(bs.length % 3):Nat) dJ eO,C++[.list ((gG bs).map λk=>D.int (bg k))]⟩:=by
   unfold wF
   show (if (fuel==0)=true then _ else _)=_
   rw [hz,if_neg Bool.false_ne_true,aw (d:=.bytes tb) rfl]
   show rO r ⟨aE (PP r) fuel (n+1),fuel⟩ tb (tb.map λc=>D.int (c.toNat:Int)) _=_
   have:(tb.map λc:UInt8=>D.int (c.toNat:Int))=bs.map λb:Nat=>D.int (b:Int):=by rw [t7,map_map]; rfl
   rw [this,ON]
   simp
  rw [bB e4,Pk]
  rfl
 obtain ⟨m',hm⟩:=main
 refine kQ ⟨ob,[some (.bytes tb),some .none,some (.bytes ob)],.list ((bY bs).map .int),by rw [OV,t7],?_⟩
 show dq (ax (PP r) ⟨aE (PP r) fuel (n+2),fuel⟩ wK ⟨[some (.bytes tb),some .none,none],C⟩)=_
 unfold wK
 have e5:ev (PP r) ⟨aE (PP r) fuel (n+2),fuel⟩ (.call (.cst (.fn 2)) (.cons (.var 0) .nil) (.cons .newline (.cst (.bool false)) .nil)) ⟨[some (.bytes tb),some .none,none],C⟩=.ok (.bytes ob) ⟨[some (.bytes tb),some .none,none],C++[.list ((bY bs).map .int)]⟩:=by
  show bR _ (aE (PP r) fuel (n+2) 2 [.bytes tb] [(.newline,.bool false)] C)=_
  rw [hm]; rfl
 rw [bB (bU e5 (by simp))]
 rfl
end
end Mine.Lake
end
section
open PySem
namespace Mine.Lake
noncomputable def Ch.kd:Ch->Nat
 |.list _=>0
 |.dict .. => 1
 |.cL _=>2
 |.set _=>3
 |.slots .. => 4
 |.bq .. => 5
variable {C R C0:ah} {i j:Nat}
section
variable {c x y:Ch}
theorem gO (h:C[i]?=some c) (ne:i≠j):(C.set j x)[i]?=some c:=by rw [List.getElem?_set_ne (Ne.symm ne)]; exact h
theorem Qb (h:C[i]?=some c) (hj:C[j]?=some y) (hk:(c.kd==y.kd)=false):i≠j:=λe=>by
 subst e; rw [h] at hj; obtain rfl:=ad hj; rw [beq_self_eq_true] at hk; exact fJ hk
theorem fq (h:C[i]?=some c) (hj:C[j]?=some y) (hk:(c.kd==y.kd)=false):(C.set j x)[i]?=some c:=gO h (Qb h hj hk)
theorem ku (hj:C[j]?=some y):(C.set j x)[j]?=some x:=by
 obtain ⟨h,_⟩:=be hj
 exact List.getElem?_set_self h
theorem d8:(C++x::R)[C.length]?=some x:=by rw [getElem?_append_right (le_refl _),sub_self]; rfl
theorem oQ:(C++x::y::R)[C.length+1]?=some y:=by rw [getElem?_append_right (le_add_right _ _),add_sub_cancel_left]; rfl
theorem pY:(C++x::R).set C.length y=C++y::R:=by rw [set_append_right _ _ (le_refl _),sub_self]; rfl
theorem GX:(C++c::x::R).set (C.length+1) y=C++c::y::R:=by rw [set_append_right _ _ (le_add_right _ _),add_sub_cancel_left]; rfl
theorem su (hp:C0 <+: C) (hl:C0.length<=j):C0 <+: C.set j x:=by
 obtain ⟨R,rfl⟩:=hp
 rw [set_append_right _ _ hl]; exact prefix_append _ _
theorem Ib {E:ah} (hp:C0 <+: C):C0 <+: C++E:=hp.trans (prefix_append _ _)
end
noncomputable def fK {α:Type} (f:Int->α) (k:Int) (v:α):Int->α:=λx=>if x=k then v else f x
variable {α:Type} {k:Int}
theorem il {f:Int->α} {v:α}:fK f k v k=v:=if_pos rfl
theorem fi {f:Int->α} {x:Int} {v:α} (h:x≠k):fK f k v x=f x:=if_neg h
noncomputable def SA (d:Nat) (rd:D) (p f:Int):Ch:=.cL [(.cO,.loc d),(.cf,rd),(.d4,.int p),(.eM,.int f)]
noncomputable def NI (k v:Int) (i:Nat):Ch:=.slots 0 [some (.int k),some (.int v),some (.loc i)]
structure a6 (C0 C:ah) (rd:D) (p f:Int) (ks:List Int) (lc:Int->Nat) (np:Int->Int) (sc:Int->List Int):Prop where
 pre:C0 <+: C
 top:C[C0.length]?=some (SA (C0.length+1) rd p f)
 dict:C[C0.length+1]?=some (.dict true (ks.map λk=>(k,.loc (lc k))))
 lo : ∀ k∈ks,C0.length<lc k
 info : ∀ k∈ks,C[lc k]?=some (NI k (np k) (lc k+1))
 succ : ∀ k∈ks,C[lc k+1]?=some (.list ((sc k).map .int))
 nd:ks.Nodup
 out : ∀ k,k ∉ ks->np k=0/\sc k=[]
variable {rd:D} {p f v:Int} {ks l:List Int} {lc g:Int->Nat} {np:Int->Int} {sc:Int->List Int}
theorem HT {k' v':Int} {i':Nat} (h:NI k v i=NI k' v' i'):k=k':=by unfold NI at h; injection h with _ h; injection h with h _; injection h with h; injection h
theorem a6.inj (S:a6 C0 C rd p f ks lc np sc) {k':Int} (h:k∈ks) (h':k'∈ks) (e:lc k=lc k'):k=k':=by
 have a:=S.info k h
 rw [e,S.info k' h'] at a
 exact (HT (ad a)).symm
theorem a6.app (S:a6 C0 C rd p f ks lc np sc) (E:ah):a6 C0 (C++E) rd p f ks lc np sc:=
 ⟨Ib S.pre,eR S.top,eR S.dict,S.lo,λk h=>eR (S.info k h),λk h=>eR (S.succ k h),S.nd,S.out⟩
theorem a6.setTop (S:a6 C0 C rd p f ks lc np sc) {zy:D} {p' f':Int}:a6 C0 (C.set C0.length (SA (C0.length+1) zy p' f')) zy p' f' ks lc np sc:=
 ⟨su S.pre (le_refl _),ku S.top,fq S.dict S.top rfl,S.lo,λk h=>fq (S.info k h) S.top rfl,λk h=>fq (S.succ k h) S.top rfl,S.nd,S.out⟩
theorem a6.setInfo (S:a6 C0 C rd p f ks lc np sc) (hk:k∈ks):a6 C0 (C.set (lc k) (NI k v (lc k+1))) rd p f ks lc (fK np k v) sc:=by
 have hi:=S.info k hk
 refine ⟨su S.pre (ln (S.lo k hk)),fq S.top hi rfl,fq S.dict hi rfl,S.lo,λk' h=>?_,λk' h=>fq (S.succ k' h) hi rfl,S.nd,λk' h=>⟨?_,(S.out k' h).2⟩⟩
 ·by_cases e:k'=k
  ·subst e; rw [il]; exact ku hi
  ·rw [fi e]; exact gO (S.info k' h) λz=>e (S.inj h hk z)
 ·rw [fi λe:k'=k=>h (e ▸ hk)]; exact (S.out k' h).1
theorem a6.Uj (S:a6 C0 C rd p f ks lc np sc) (hk:k∈ks):a6 C0 (C.set (lc k+1) (.list (l.map .int))) rd p f ks lc np (fK sc k l):=by
 have hi:=S.succ k hk
 refine ⟨su S.pre (Nat.le_succ_of_le (ln (S.lo k hk))),fq S.top hi rfl,fq S.dict hi rfl,S.lo,λk' h=>fq (S.info k' h) hi rfl,λk' h=>?_,S.nd,λk' h=>⟨(S.out k' h).1,?_⟩⟩
 ·by_cases e:k'=k
  ·subst e; rw [il]; exact ku hi
  ·rw [fi e]; exact gO (S.succ k' h) λz=>e (S.inj h hk (kt z))
 ·rw [fi λe:k'=k=>h (e ▸ hk)]; exact (S.out k' h).2
theorem a6.Ui (S:a6 C0 C rd p f ks lc np sc) {x:Ch} (h0:C0.length<=j) (h1 : ∀ c,C[j]?=some c->c.kd≠1/\c.kd≠2/\c.kd≠4) (h2 : ∀ k∈ks,lc k+1≠j):a6 C0 (C.set j x) rd p f ks lc np sc:=by
 have ne : ∀ {i c},C[i]?=some c->(c.kd=1\/c.kd=2\/c.kd=4)->i≠j:=λh hk e=>by
  subst e
  obtain ⟨a,b,d⟩:=h1 _ h
  rcases hk with z|z|z
  ·exact a z
  ·exact b z
  ·exact d z
 exact ⟨su S.pre h0,gO S.top (ne S.top (.inr (.inl rfl))),gO S.dict (ne S.dict (.inl rfl)),S.lo,λk h=>gO (S.info k h) (ne (S.info k h) (.inr (.inr rfl))),λk h=>gO (S.succ k h) (h2 k h),S.nd,S.out⟩
theorem y8 {g:Int->α}:k∈l->(l.map λk=>(k,g k)).lookup k=some (g k):=by
 induction l with
 |nil=>intro h; exact absurd h not_mem_nil
 |cons a r ih=>
  intro h
  rw [map_cons,lookup_cons]
  by_cases e:k=a
  ·subst e; rw [beq_self_eq_true]
  ·rw [beq_false_of_ne e]; exact ih ((bi h).resolve_left e)
theorem QE {g:Int->α} : ∀ {l:List Int} {k:Int},k ∉ l->(l.map λk=>(k,g k)).lookup k=none:=λ{l}=>by
 induction l with
 |nil=>
  intro _ _
  exact rfl
 |cons a r ih=>
  intro k h
  rw [map_cons,lookup_cons,beq_false_of_ne λe:k=a=>h (e ▸ .head _)]
  exact ih λz=>h (.tail _ z)
theorem Sp {g:Int->α} {v:α} : ∀ {l:List Int} {k:Int},k ∉ l->putL k v (l.map λk=>(k,g k))=(l.map λk=>(k,g k))++[(k,v)]:=λ{l}=>by
 induction l with
 |nil=>
  intro _ _
  exact rfl
 |cons a r ih=>
  intro k h
  rw [map_cons,putL,if_neg (by rw [beq_false_of_ne λe:a=k=>h (e ▸ .head _)]; exact Bool.false_ne_true),ih λz=>h (.tail _ z)]; rfl
noncomputable def eL (ks:List Int) (k:Int):List Int:=if k∈ks then ks else ks++[k]
theorem QS {v:Nat} (h:k ∉ l):(l.map λx=>(x,D.loc (fK g k v x)))=l.map λx=>(x,D.loc (g x)):=
 map_congr_left λx hx=>by rw [fi λe:x=k=>h (e ▸ hx)]
theorem a6.new (S:a6 C0 C rd p f ks lc np sc) (hk:k ∉ ks):a6 C0 ((C++[NI k 0 (C.length+1),.list []]).set (C0.length+1) (.dict true ((ks.map λk=>(k,D.loc (lc k)))++[(k,.loc C.length)]))) rd p f (ks++[k]) (fK lc k C.length) np sc:=by
 have S':=S.app [NI k 0 (C.length+1),.list []]
 have hd:=S'.dict
 have aZ:=(be S.top).1
 have e : ∀ k',k'∈ks++[k]->k'≠k->k'∈ks:=λk' h z=>(mem_append.mp h).resolve_right λy=>z (ca y)
 refine ⟨su S'.pre (le_succ _),fq S'.top hd rfl,?_,λk' h=>?_,λk' h=>?_,λk' h=>?_,?_,λk' h=>S.out k' λz=>h (mem_append_left _ z)⟩
 ·rw [ku hd,map_append,QS hk,List.map_singleton,il]
 ·by_cases z:k'=k
  ·subst z; rw [il]; exact aZ
  ·rw [fi z]; exact S.lo k' (e k' h z)
 ·by_cases z:k'=k
  ·subst z; rw [il,(S.out _ hk).1]; exact fq d8 hd rfl
  ·rw [fi z]; exact fq (S'.info k' (e k' h z)) hd rfl
 ·by_cases z:k'=k
  ·subst z; rw [il,(S.out _ hk).2]; exact fq oQ hd rfl
  ·rw [fi z]; exact fq (S'.succ k' (e k' h z)) hd rfl
 ·rw [nodup_append]
  exact ⟨S.nd,nodup_cons.mpr ⟨not_mem_nil,nodup_nil⟩,λa ha b hb z=>hk (by rw [<-mem_singleton.mp hb,<-z]; exact ha)⟩
theorem zT {k:Nat} (hk:k<1000):(k:Int)<2 ^ 62:=Int.lt_trans (ofNat_lt.mpr hk) (by decide)
variable {n:Nat}
theorem Br {k d0:Nat} (hk:k<1000):bound (.int (k:Int)) d0 n=some (min k n):=by
 unfold bound
 dsimp only
 rw [if_pos ⟨natCast_nonneg _,zT hk⟩,toNat_natCast]
theorem Bs {d0:Nat}:bound .none d0 n=some d0:=rfl
variable {ds:List D}
theorem GZ {a:D} {lo hi:D} {l h:Nat} (ha:a9 C a=some ds) (hb : ∀ b,a≠.bytes b) (h1:bound lo 0 ds.length=some l) (h2:bound hi ds.length ds.length=some h):p6 C a lo hi=some (.lst (gQ ds l h)):=by
 have e:p6 C a lo hi=vj C a lo hi:=by induction a using D.casesOn<;>first|rfl|exact absurd rfl (hb _)
 rw [e,vj,ha]
 show ((bound lo 0 ds.length).bind λl=>(bound hi ds.length ds.length).map λh=>D.lst (gQ ds l h))=_
 rw [h1,h2]; rfl
variable {d:D}
theorem uy {k:Nat} (hk:k<1000) (h:ds[k]?=some d):hV ds (k:Int)=some d:=by
 unfold hV
 rw [if_pos (natCast_nonneg k),if_pos (zT hk),toNat_natCast,h]
variable {a:Nat}
theorem lb {b:Nat} (h:ble (a+1) b=true):a<b:=le_of_ble_eq_true h
variable {P:aX} {cl:Calls} {t:T} {it:E} {y:D} {st aa:St}
theorem jc {a:Ss} {items:List D} (hf:cl.fuel≠0) (hit:ev P cl it st=.ok y aa) (hi:bV aa.C y=some items) :
  ex P cl (.fA t it a) st=forLoop (λC C'=>br C C' y) t (λae=>ax P cl a ae) items aa:=by
 show (if (cl.fuel==0)=true then _ else _)=_
 rw [if_neg (by rw [beq_false_of_ne hf]; exact Bool.false_ne_true),hit]
 show (match bV aa.C y with|some items=>_|none=>_)=_
 rw [hi]
variable {m:List (Option D)} {ae:St}
theorem xe {elt:E} {ifs:Es} {g:Gs} {items:List D} (hf:cl.fuel≠0) (hit:ev P cl it ⟨m,C⟩=.ok y ⟨m,C⟩) (hi:bV C y=some items)
  (hl:eh t (cw (λae=>c9 P cl ifs ae) (λacc ae=>fU P cl (λaK=>ev P cl elt aK) g acc ae)) (λC C'=>br C C' y) items [] ⟨m,C⟩=.ok (.lst ds) ae) :
  ev P cl (.comp elt (.cons t it ifs g)) ⟨m,C⟩=.ok (.lst ds) ⟨m,ae.C⟩:=by
 show (if (cl.fuel==0)=true then _ else _)=_
 rw [if_neg (by rw [beq_false_of_ne hf]; exact Bool.false_ne_true),hit]
 show (match bV C y with|some items=>_|none=>_)=_
 rw [hi]
 dsimp only
 rw [hl]
variable {x z:D} {aK:St}
theorem Dh {a lo hi:E} (ha:ev P cl a st=.ok x aa) (hl:ev P cl lo aa=.ok y ae) (hh:ev P cl hi ae=.ok z aK) (h:p6 aK.C x y z=some d):ev P cl (.slice a lo hi) st=.ok d aK:=by
 exact (aT ha).trans ((aT hl).trans ((aT hh).trans (oj h)))
theorem Jd (hz:cl.fuel≠0) {a:D} {is:List Int} {tb:List UInt8} (ha:a9 st.C a=some ds) (hi:eA ds=some is) (hb:gP is=some tb) (hl:tb.length<=aH):jM P cl .bytes [a] st=.ok (.bytes tb) st:=by
 refine (fx hz).trans ?_
 show aL ((jZ st.C a).bind gP) _=_
 rw [show jZ st.C a=some is from (congrArg (·.bind eA) ha).trans hi]
 show aL (gP is) _=_
 rw [hb]
 show bJ (decide _) _=_
 rw [decide_eq_true hl]; rfl
variable {b:Bool} {e o:E} {s:S} {es:Es} {C':ah}
theorem Dj (h:ev P cl e st=.ok x ⟨m,C⟩) (hn:n<m.length):ev P cl (.lF n e) st=.ok x ⟨m.set n (some x),C⟩:=by
 refine (aT h).trans ?_; exact if_pos hn
theorem a8 {r:Ss} {o:ak Fl} (h:ex P cl s st=.ok .next aa) (k:ax P cl r aa=o):ax P cl (.cons s r) st=o:=(bB h).trans k
theorem ct {o:ak Fl} (h:ex P cl s st=o):ax P cl (.cons s .nil) st=o:=tL.trans h
theorem kg {r:Ss} (h:ev P cl e st=.ok d aa):ax P cl (.cons (.ret e) r) st=.ok (.ret d) aa:=jR (tK h)
theorem kc {s:Ss} (h:ax P cl s st=.ok (.ret d) aa):dq (ax P cl s st)=.ok d aa:=by rw [h]; rfl
theorem u7 {s:Ss} (h:ax P cl s st=.ok .next aa):dq (ax P cl s st)=.ok .none aa:=by rw [h]; rfl
theorem Sa {s:Ss} {x:X} (h:ax P cl s st=.exc x aa):dq (ax P cl s st)=.exc x aa:=by rw [h]; rfl
theorem mq {c:E} {a b:Ss} {o:ak Fl} (h:ev P cl c st=.ok x aa) (ht:bH aa.C x=some true) (k:ax P cl a aa=o):ex P cl (.ifs c a b) st=o:=(tJ h ht).trans k
theorem dZ {c:E} {a b:Ss} {o:ak Fl} (h:ev P cl c st=.ok x aa) (ht:bH aa.C x=some false) (k:ax P cl b aa=o):ex P cl (.ifs c a b) st=o:=(l0 h ht).trans k
theorem dT {f:E} {g:D} {o:ak D} (hf:ev P cl f st=.ok g aa) (hs:bM P cl es aa=.ok (.lst ds) ae) (k:m7 P cl g ds [] ae=o):ev P cl (.call f es .nil) st=o:=(jQ hf hs).trans k
theorem gE {n:Nm} {mk:MK} {q:ak D} (ho:ev P cl o st=.ok x aa) (hm:dK P aa.C x n=some mk) (hs:bM P cl es aa=.ok (.lst ds) ae) (k:pS cl mk x ds ae=q):ev P cl (.bo o n es) st=q:=(qC ho hm hs).trans k
theorem tD (ho:ev P cl o st=.ok (.loc i) st) (he:ev P cl e st=.ok d st) (h:st.C[i]?=some (.list ds)) (hl:ds.length<aH):ev P cl (.bo o .append (.cons e .nil)) st=.ok .none ⟨st.m,st.C.set i (.list (ds++[d]))⟩:=by
 refine gE ho (mk:=.mw) (show (st.C[i]?).bind (lp .append)=_ by rw [h]; rfl) (b9 he) ?_
 show aL (e9 st.C i) _=_
 rw [show e9 st.C i=some ds by unfold e9; rw [h]]
 show bJ (decide (ds.length<aH)) _=_
 rw [decide_eq_true hl]; rfl
theorem C8 {es:List (Int × D)} (ho:ev P cl o st=.ok (.loc i) st) (he:ev P cl e st=.ok (.int k) st) (h:st.C[i]?=some (.dict b es)):ev P cl (.bo o .get (.cons e .nil)) st=.ok ((es.lookup k).getD .none) st:=by
 refine (qC ho (mk:=.nr) (show (st.C[i]?).bind (lp .get)=_ by rw [h]; rfl) (b9 he)).trans ?_
 show aL (dictAt st.C i) _=_
 rw [show dictAt st.C i=some es by unfold dictAt; rw [h]]; rfl
theorem lW {f:E} {k:Nat} (hf:ev P cl f st=.ok (.fn k) st) (hs:bM P cl es st=.ok (.lst ds) ⟨m,C⟩) (h:cl.call k ds [] C=.ok d aa):ev P cl (.call f es .nil) st=.ok d ⟨m,aa.C⟩:=by
 rw [jQ hf hs]
 show bR m (cl.call k ds [] C)=_
 rw [h]; rfl
theorem nB {n:Nm} {k f:Nat} (ho:ev P cl o st=.ok x st) (hm:dK P st.C x n=some (.own k f)) (hs:bM P cl es st=.ok (.lst ds) ⟨m,C⟩) (h:cl.call f (x::ds) [] C=.ok d aa):ev P cl (.bo o n es) st=.ok d ⟨m,aa.C⟩:=by
 rw [qC ho hm hs]
 show bR m (cl.call f (x::ds) [] C)=_
 rw [h]; rfl
theorem Mo {n:Nm} {k f:Nat} {z:X} (ho:ev P cl o st=.ok x st) (hm:dK P st.C x n=some (.own k f)) (hs:bM P cl es st=.ok (.lst ds) ⟨m,C⟩) (h:cl.call f (x::ds) [] C=.exc z aa):ev P cl (.bo o n es) st=.exc z ⟨m,aa.C⟩:=by
 rw [qC ho hm hs]
 show bR m (cl.call f (x::ds) [] C)=_
 rw [h]; rfl
theorem Dc {n:Nm} {k f:Nat} {ys:List D} (ho:ev P cl o st=.ok x st) (hm:dK P st.C x n=some (.own k f)) (hs:bM P cl es st=.ok (.lst ds) aa) (he:ev P cl e aa=.ok y ⟨m,C⟩) (hy:bW C y=some ys) (h:cl.call f (x::(ds++ys)) [] C=.ok d ae):ev P cl (.gE o n es e) st=.ok d ⟨m,ae.C⟩:=by
 refine (aT ho).trans ?_
 rw [hm]
 refine (aT (a:=.lst (ds++ys)) (aa:=⟨m,C⟩) ((aT hs).trans ((aT he).trans ?_))).trans ?_
 ·show (match bW C y with|some ys=>(ak.ok (D.lst (ds++ys)) ⟨m,C⟩:ak D)|none=>.fail)=_
  rw [hy]
 ·show bR m (cl.call f (x::(ds++ys)) [] C)=_
  rw [h]; rfl
theorem Mu {i:E} (he:ev P cl e st=.ok x aa) (ho:ev P cl o aa=.ok y ae) (hi:ev P cl i ae=.ok z aK) (hs:ki y z x aK.C=some C') (hn:n<aK.m.length):ex P cl (.qp o i n e) st=.ok .next ⟨aK.m.set n (some x),C'⟩:=
 (aT he).trans ((aT (a:=()) (aa:=⟨aK.m,C'⟩) ((aT ho).trans ((aT hi).trans (by rw [hs]; rfl)))).trans (aT (oD hn)))
theorem qF {a:Nm} {op:Op} {old:D} (ho:ev P cl o st=.ok y aa) (hold:ft P aa.C y a=some old) (he:ev P cl e aa=.ok x ae) (hd:lQ op old x=some d) (hs:fG P y a d ae.C=some C'):ex P cl (.lP o a op e) st=.ok .next ⟨ae.m,C'⟩:=by
 refine (aT ho).trans ((aT (oj hold)).trans ((aT he).trans ?_))
 rw [hd]
 exact aT (a:=()) (by rw [hs]; rfl)
theorem xk {i:E} (he:ev P cl e st=.ok x aa) (ho:ev P cl o aa=.ok y ae) (hi:ev P cl i ae=.ok z aK) (hs:ki y z x aK.C=some C'):ex P cl (.kr o i e) st=.ok .next ⟨aK.m,C'⟩:=
 (aT he).trans ((aT ho).trans ((aT hi).trans (aT (a:=()) (by rw [hs]; rfl))))
theorem qE (h:ev P cl e st=.ok (.lst ds) ⟨m,C⟩) (hn:n<m.length) (hf:cN e=true):ex P cl (.aR n true e) st=.ok .next ⟨m.set n (some (.loc C.length)),C++[.list ds]⟩:=
 (aT (a:=.loc C.length) (aa:=⟨m,C++[.list ds]⟩) ((aT h).trans (by rw [hf]; rfl))).trans (aT (oD hn))
theorem Dm {a:Nm} (he:ev P cl e st=.ok (.lst ds) ⟨m,C⟩) (hf:cN e=true) (ho:ev P cl o ⟨m,C++[.list ds]⟩=.ok y ae) (hs:fG P y a (.loc C.length) ae.C=some C'):ex P cl (.cW o a true e) st=.ok .next ⟨ae.m,C'⟩:=
 (aT (a:=.loc C.length) (aa:=⟨m,C++[.list ds]⟩) ((aT he).trans (by rw [hf]; rfl))).trans ((aT ho).trans (aT (a:=()) (by rw [hs]; rfl)))
variable {r:List Fn} {fuel:Nat}
theorem eG {d:Nat} (h:C[a]?=some (SA d rd p f)) :
  ft (PP r) C (.inst 2 a) .cO=some (.loc d)/\ft (PP r) C (.inst 2 a) .cf=some rd/\ft (PP r) C (.inst 2 a) .d4=some (.int p)/\ft (PP r) C (.inst 2 a) .eM=some (.int f):=by
 have h:eQ C a=some [(.cO,.loc d),(.cf,rd),(.d4,.int p),(.eM,.int f)]:=by unfold eQ; rw [h]; rfl
 refine ⟨?_,?_,?_,?_⟩<;>(show (eQ C a).bind _=_; rw [h]; rfl)
theorem zF {d:Nat} (h:C[a]?=some (SA d rd p f)) {q:Int} :
  fG (PP r) (.inst 2 a) .cf x C=some (C.set a (SA d x p f))/\fG (PP r) (.inst 2 a) .d4 (.int q) C=some (C.set a (SA d rd q f))/\fG (PP r) (.inst 2 a) .eM (.int q) C=some (C.set a (SA d rd p q)):=by
 have h:eQ C a=some [(.cO,.loc d),(.cf,rd),(.d4,.int p),(.eM,.int f)]:=by unfold eQ; rw [h]; rfl
 refine ⟨?_,?_,?_⟩<;>(show (eQ C a).bind _=_; rw [h]; rfl)
theorem kh {d:Nat} (h:C[a]?=some (SA d rd p f)):dK (PP r) C (.inst 2 a) .nD=some (.own 2 10)/\dK (PP r) C (.inst 2 a) .add=some (.own 2 11)/\dK (PP r) C (.inst 2 a) .prepare=some (.own 2 12)/\
  dK (PP r) C (.inst 2 a) .jT=some (.own 2 13)/\dK (PP r) C (.inst 2 a) .nY=some (.own 2 14)/\dK (PP r) C (.inst 2 a) .done=some (.own 2 15)/\dK (PP r) C (.inst 2 a) .pa=some (.own 2 16):=by
 have h:eQ C a=some [(.cO,.loc d),(.cf,rd),(.d4,.int p),(.eM,.int f)]:=by unfold eQ; rw [h]; rfl
 refine ⟨?_,?_,?_,?_,?_,?_,?_⟩<;>(show (eQ C a).bind _=_; rw [h]; rfl)
theorem j6 (h:C[i]?=some (NI k v j)):ft (PP r) C (.loc i) .node=some (.int k)/\ft (PP r) C (.loc i) .eN=some (.int v)/\ft (PP r) C (.loc i) .succ=some (.loc j):=by
 refine ⟨?_,?_,?_⟩<;>(show (C[i]?).bind _=_; rw [h]; rfl)
theorem rU {w:Int} (h:C[i]?=some (NI k v j)):fG (PP r) (.loc i) .eN (.int w) C=some (C.set i (NI k w j)):=by
 show (C[i]?).bind _=_; rw [h]; rfl
theorem Ru:m7 (PP r) ⟨aE (PP r) fuel (n+1),fuel⟩ (.cls 0) [.int k] [] ⟨m,C⟩=.ok (.loc C.length) ⟨m,C++[NI k 0 (C.length+1),.list []]⟩:=by
 show nX (.loc C.length) m (dq (ax (PP r) ⟨aE (PP r) fuel n,fuel⟩ wY ⟨[some (.loc C.length),some (.int k)],C++[.slots 0 [none,none,none]]⟩))=_
 have e1:ex (PP r) ⟨aE (PP r) fuel n,fuel⟩ (.cW (.var 0) .node false (.var 1)) ⟨[some (.loc C.length),some (.int k)],C++[.slots 0 [none,none,none]]⟩=.ok .next ⟨[some (.loc C.length),some (.int k)],C++[.slots 0 [some (.int k),none,none]]⟩:=
  kE (aw (d:=.int k) rfl) (aw (d:=.loc C.length) rfl) (by show ((C++[Ch.slots 0 [none,none,none]])[C.length]?).bind _=_; rw [d8]; show some (List.set _ _ _)=_; rw [pY]; rfl)
 have e2:ex (PP r) ⟨aE (PP r) fuel n,fuel⟩ (.cW (.var 0) .eN false (.cst (.int 0))) ⟨[some (.loc C.length),some (.int k)],C++[.slots 0 [some (.int k),none,none]]⟩=.ok .next ⟨[some (.loc C.length),some (.int k)],C++[.slots 0 [some (.int k),some (.int 0),none]]⟩:=
  kE rfl (aw (d:=.loc C.length) rfl) (by show ((C++[Ch.slots 0 [some (.int k),none,none]])[C.length]?).bind _=_; rw [d8]; show some (List.set _ _ _)=_; rw [pY]; rfl)
 have e3:ex (PP r) ⟨aE (PP r) fuel n,fuel⟩ (.cW (.var 0) .succ true (.list .nil)) ⟨[some (.loc C.length),some (.int k)],C++[.slots 0 [some (.int k),some (.int 0),none]]⟩=.ok .next ⟨[some (.loc C.length),some (.int k)],C++[NI k 0 (C.length+1),.list []]⟩:=
  Dm (ds:=[]) rfl rfl (aw (d:=.loc C.length) rfl) (by
   rw [append_assoc]; show ((C++[Ch.slots 0 [some (.int k),some (.int 0),none],.list []])[C.length]?).bind _=_; rw [d8]; show some (List.set (C++Ch.slots 0 [some (.int k),some (.int 0),none]::[.list []]) C.length (Ch.slots 0 [some (.int k),some (.int 0),some (.loc (C++[Ch.slots 0 [some (.int k),some (.int 0),none]]).length)]))=_; rw [pY,length_append]; rfl)
 unfold wY Ce Cd
 rw [bB e1,bB e2,bB e3]; rfl
variable {node:Int}
theorem GU {es:List (Int × D)} (h:C[j]?=some (.dict b es)) (hl:es.length<64) (hk:small k=true):ki (.loc j) (.int k) d C=some (C.set j (.dict b (putL k d es))):=by
 show (C[j]?).bind _=_
 rw [h]; exact if_pos ⟨hl,hk⟩
inductive Az (r:List Fn) (fuel n:Nat) (C0 C:ah) (rd:D) (p f:Int) (ks:List Int) (np:Int->Int) (sc:Int->List Int) (k:Int):Prop
 |mk (m':List (Option D)) (C':ah) (dJ:Int->Nat) (e:aE (PP r) fuel (n+2) 10 [.inst 2 C0.length,.int k] [] C=.ok (.loc (dJ k)) ⟨m',C'⟩) (S:a6 C0 C' rd p f (eL ks k) dJ np sc):Az r fuel n C0 C rd p f ks np sc k
theorem DX (S:a6 C0 C rd p f ks lc np sc) (hl:ks.length<64) (hk:small k=true):Az r fuel n C0 C rd p f ks np sc k:=by
 have e1:ev (PP r) ⟨aE (PP r) fuel (n+1),fuel⟩ (.lF 2 (.bo (.attr (.var 0) .cO) .get (.cons (.var 1) .nil))) ⟨[some (.inst 2 C0.length),some (.int k),none],C⟩ =
   .ok (((ks.map λk=>(k,D.loc (lc k))).lookup k).getD .none) ⟨[some (.inst 2 C0.length),some (.int k),some (((ks.map λk=>(k,D.loc (lc k))).lookup k).getD .none)],C⟩:=
  Dj (C8 (cH (aw (d:=.inst 2 C0.length) rfl) (eG S.top).1) (aw (d:=.int k) rfl) S.dict) (lb rfl)
 by_cases hm:k∈ks
 ·rw [y8 hm] at e1
  exact ⟨_,C,lc,kc (a8 (dZ (b7 e1 rfl (z:=false) rfl) rfl rfl) (kg (aw rfl))),by unfold eL; rw [if_pos hm]; exact S⟩
 ·rw [QE hm] at e1
  have e2:=GU (d:=.loc C.length) (S.app [NI k 0 (C.length+1),.list []]).dict (by rw [length_map]; exact hl) hk
  rw [Sp hm] at e2
  have e3:aE (PP r) fuel (n+2) 10 [.inst 2 C0.length,.int k] [] C=.ok (.loc C.length) ⟨[some (.inst 2 C0.length),some (.int k),some (.loc C.length)],_⟩:=kc (a8 (mq (b7 e1 rfl (z:=true) rfl) rfl (ct (Mu (dT (g:=.cls 0) rfl (b9 (aw (d:=.int k) rfl)) Ru) (cH (aw (d:=.inst 2 C0.length) rfl) (eG (S.app _).top).1) (aw (d:=.int k) rfl) e2 (lb rfl)))) (kg (aw rfl)))
  exact ⟨_,_,fK lc k C.length,by rw [il]; exact e3,by unfold eL; rw [if_neg hm]; exact S.new hm⟩
theorem uX {x:Int}:x∈eL ks k↔x∈ks\/x=k:=by
 unfold eL
 split
 ·exact ⟨.inl,λh=>h.elim id λe=>e ▸ ‹_›⟩
 ·rw [mem_append,mem_singleton]
theorem E7:(eL ks k).length<=ks.length+1:=by
 unfold eL
 split
 ·exact le_succ _
 ·rw [length_append]; exact le_refl _
noncomputable def qk (sc:Int->List Int) (node:Int) (b8:List Int):Int->List Int:=b8.foldl (λsc q=>fK sc q (sc q++[node])) sc
theorem HZ (hk:small node=true) (hf:fuel≠0) {all:D} (nG : ∀ A B,br A B all=true) {x3:Option D} : ∀ (b8:List Int) {C:ah} {ks:List Int} {lc:Int->Nat} {sc:Int->List Int} {x4 x5:Option D},a6 C0 C .none p f ks lc np sc->ks.length+b8.length<64->(∀ q∈b8,small q=true)->(∀ k∈ks,(sc k).length+b8.length<1000)->
  ∃ m' C' dJ,forLoop (λA B=>br A B all) (.one 4) (λae=>ax (PP r) ⟨aE (PP r) fuel (n+2),fuel⟩ Cq ae) (b8.map .int) ⟨[some (.inst 2 C0.length),some (.int node),some all,x3,x4,x5],C⟩=.ok .next ⟨m',C'⟩/\a6 C0 C' .none p f (b8.foldl eL ks) dJ np (qk sc node b8):=λb8=>by
 induction b8 with
 |nil=>
  intro C ks lc sc x4 x5 S _ _ _
  exact ⟨_,C,lc,rfl,S⟩
 |cons q b8 ih=>
  intro C ks lc sc x4 x5 S hl hs hn
  obtain ⟨m1,C1,lg,e1,S1⟩:=DX (r:=r) (fuel:=fuel) (n:=n) S (k:=q) (al (jp _ _) hl) (hs q (.head _))
  have hq:q∈eL ks q:=uX.mpr (.inr rfl)
  have hlen : ∀ k∈eL ks q,(sc k).length+(b8.length+1)<1000:=λk h=>(Classical.em (k∈ks)).elim (λh'=>hn k h') λh'=>by
   rw [(S.out k h').2]; exact al (add_le_add_right (zero_le ks.length) _) (ii hl (by decide))
  have S2:=S1.Uj (l:=sc q++[node]) hq
  obtain ⟨m',C',dJ,e3,S3⟩:=ih (x4:=some (.int q)) (x5:=some (.loc (lg q))) S2 (al (by rw [length_cons,add_comm b8.length 1,<-add_assoc]; exact add_le_add_right E7 _) hl) (λq' h=>hs q' (.tail _ h)) (λk h=>by
   by_cases e:k=q
   ·subst e; rw [il,length_append,add_assoc,add_comm [node].length]; exact hlen _ h
   ·rw [fi e]; exact al (add_le_add_left (le_succ _) _) (hlen k h))
  rw [map_append] at e3
  refine ⟨m',C',dJ,(jd (aa:=⟨[some (.inst 2 C0.length),some (.int node),some all,x3,some (.int q),some (.loc (lg q))],_⟩) rfl ?_ (nG _ _)).trans e3,S3⟩
  exact a8 (bU (nB (aw (d:=.inst 2 C0.length) rfl) (kh S.top).1 (b9 (aw (d:=.int q) rfl)) e1) (lb rfl)) (ct (jb (tD (cH (aw (d:=.loc (lg q)) rfl) (j6 (S1.info q hq)).2.2) (aw (d:=.int node) rfl) (S1.succ q hq) (by rw [length_map]; exact ii (al (jp _ _) (hlen q hq)) (by decide)))))
theorem HX (hf:fuel≠0) (S:a6 C0 C .none p f ks lc np sc) {b8:List Int} (hk:small node=true) (hl:ks.length+1+b8.length<64) (hs : ∀ q∈b8,small q=true) (hn : ∀ k∈ks,(sc k).length<900) :
  ∃ m' C' dJ,aE (PP r) fuel (n+3) 11 (.inst 2 C0.length::.int node::b8.map .int) [] C=.ok .none ⟨m',C'⟩/\a6 C0 C' .none p f (b8.foldl eL (eL ks node)) dJ (fK np node (np node+b8.length)) (qk sc node b8):=by
 have hb:gh qv (.inst 2 C0.length::.int node::b8.map .int) []=some [some (.inst 2 C0.length),some (.int node),some (.tup (b8.map .int)),none,none,none]:=by
  unfold gh qv
  simp [sub_eq_zero_of_le]
  exact ⟨an (add_le_add_right (ln (al (le_add_left _ _) hl)) 2) (by decide),rfl⟩
 refine cps λQQ kQ=>?_
 obtain ⟨m1,C1,lg,e1,S1⟩:=DX (r:=r) (fuel:=fuel) (n:=n) S (k:=node) (al (an (le_succ _) (jp _ _)) hl) hk
 have hq:node∈eL ks node:=uX.mpr (.inr rfl)
 have S2:=S1.setInfo (v:=np node+b8.length) hq
 obtain ⟨m2,C2,Qq,e2,S3⟩:=HZ (r:=r) (fuel:=fuel) (n:=n) (all:=.tup (b8.map .int)) (x3:=some (.loc (lg node))) (x4:=none) (x5:=none) hk hf (λ_ _=>rfl) b8 S2 (al (add_le_add_right E7 _) hl) hs (λk h=>by
  by_cases h':k∈ks
  ·exact Nat.add_lt_add (hn k h') (ii (al (le_add_left _ _) hl) (by decide:64<100))
  ·rw [(S.out k h').2]; exact ii (al (add_le_add_right (zero_le _) _) hl) (by decide))
 refine kQ ⟨m2,C2,Qq,?_,S3⟩
 show (match gh qv (.inst 2 C0.length::.int node::b8.map .int) [] with|some m=>dq (ax (PP r) ⟨aE (PP r) fuel (n+2),fuel⟩ Cr ⟨m,C⟩)|none=>.fail)=_
 rw [hb]
 have e3:ev (PP r) ⟨aE (PP r) fuel (n+2),fuel⟩ (.call (.cst (.bn .len)) (.cons (.var 2) .nil) .nil) ⟨[some (.inst 2 C0.length),some (.int node),some (.tup (b8.map .int)),some (.loc (lg node)),none,none],C1⟩=.ok (.int (b8.length:Nat)) ⟨[some (.inst 2 C0.length),some (.int node),some (.tup (b8.map .int)),some (.loc (lg node)),none,none],C1⟩:=
  dT (g:=.bn .len) rfl (b9 (aw (d:=.tup (b8.map .int)) rfl)) ((m6 hf).trans (by show ak.ok (D.int ((b8.map D.int).length:Nat)) _=_; rw [length_map]))
 exact u7 (a8 (dZ (b7 (cH (aw (d:=.inst 2 C0.length) rfl) (eG S.top).2.1) rfl (z:=false) rfl) rfl rfl)
  (a8 (bU (nB (aw (d:=.inst 2 C0.length) rfl) (kh S.top).1 (b9 (aw (d:=.int node) rfl)) e1) (lb rfl))
  (a8 (qF (aw (d:=.loc (lg node)) rfl) (j6 (S1.info node hq)).2.1 e3 rfl (rU (S1.info node hq)))
  (ct ((jc (items:=b8.map .int) hf (aw (d:=.tup (b8.map .int)) rfl) rfl).trans e2)))))
structure cK (C0 C:ah) (ks:List Int) (lc:Int->Nat) (i:Nat) (rs:List Int):Prop where
 cell:C[i]?=some (.list (rs.map .int))
 lo:C0.length<i
 ne : ∀ k∈ks,lc k+1≠i
variable {rs:List Int}
theorem a6.GW (S:a6 C0 C rd p f ks lc np sc) (R:cK C0 C ks lc i rs) (l:List Int):a6 C0 (C.set i (.list (l.map .int))) rd p f ks lc np sc/\cK C0 (C.set i (.list (l.map .int))) ks lc i l:=
 ⟨S.Ui (ln R.lo) (λc h=>by rw [R.cell] at h; obtain rfl:=ad h; exact ⟨Nat.zero_ne_one,Nat.zero_ne_one∘λh=>(nomatch h),λh=>(nomatch h)⟩) R.ne,ku R.cell,R.lo,R.ne⟩
theorem cK.kd {x y:Ch} (R:cK C0 C ks lc i rs) (h:C[j]?=some y) (hk:(Ch.kd (.list [])==y.kd)=false):cK C0 (C.set j x) ks lc i rs:=⟨fq R.cell h hk,R.lo,R.ne⟩
noncomputable def r3 (np:Int->Int) (rs:List Int):Int->Int:=rs.foldl (λnp k=>fK np k (-1)) np
theorem F8 : ∀ {rs:List Int} {np:Int->Int} {x:Int},r3 np rs x=if x∈rs then -1 else np x:=λ{rs}=>by
 induction rs with
 |nil=>
  intro np x
  exact (if_neg not_mem_nil).symm
 |cons k rs ih=>
  intro np x
  show r3 (fK np k (-1)) rs x=_
  rw [ih]
  by_cases h:x∈rs
  ·rw [if_pos h,if_pos (.tail _ h)]
  ·rw [if_neg h]
   by_cases e:x=k
   ·subst e; rw [il,if_pos (.head _)]
   ·rw [fi e,if_neg λz=>(mem_cons.mp z).elim e h]
theorem uz (S:a6 C0 C rd p f ks lc np sc) (hk:k∈ks):g9 C (.loc (C0.length+1)) (.int k)=some (.loc (lc k)):=by
 show (C[C0.length+1]?).bind (yI k)=_
 rw [S.dict]; exact y8 hk
theorem Nt {all:D} (nG : ∀ A B,br A B all=true) : ∀ (xs:List Int) {C:ah} {np:Int->Int} {x3:Option D},a6 C0 C rd p f ks lc np sc->cK C0 C ks lc i rs->(∀ k∈xs,k∈ks)->
  ∃ m' C',forLoop (λA B=>br A B all) (.one 3) (λae=>ax (PP r) ⟨aE (PP r) fuel n,fuel⟩ Cz ae) (xs.map .int) ⟨[some (.inst 2 C0.length),some all,some (.loc (C0.length+1)),x3],C⟩=.ok .next ⟨[some (.inst 2 C0.length),some all,some (.loc (C0.length+1)),m'],C'⟩/\a6 C0 C' rd p f ks lc (r3 np xs) sc/\cK C0 C' ks lc i rs:=λxs=>by
 induction xs with
 |nil=>
  intro C np x3 S R _
  exact ⟨_,C,rfl,S,R⟩
 |cons k xs ih=>
  intro C np x3 S R h
  have hk:=h k (.head _)
  obtain ⟨m',C',e,S',R'⟩:=ih (x3:=some (.int k)) (S.setInfo (v := -1) hk) (R.kd (S.info k hk) rfl) λq hq=>h q (.tail _ hq)
  exact ⟨m',C',(jd (m1:=[some (.inst 2 C0.length),some all,some (.loc (C0.length+1)),some (.int k)]) (aa:=⟨[some (.inst 2 C0.length),some all,some (.loc (C0.length+1)),some (.int k)],_⟩) rfl (ct (kE (d:=.int (-1)) rfl (dW (aw (d:=.loc (C0.length+1)) rfl) (aw (d:=.int k) rfl) (uz S hk)) (rU (S.info k hk)))) (nG _ _)).trans e,S',R'⟩
theorem Np (hf:fuel≠0) (S:a6 C0 C (.loc i) p f ks lc np sc) (R:cK C0 C ks lc i rs) (h : ∀ k∈rs,k∈ks) :
  ∃ m' C',aE (PP r) fuel (n+1) 13 [.inst 2 C0.length] [] C=.ok (.tup (rs.map .int)) ⟨m',C'⟩/\a6 C0 C' (.loc i) (p+rs.length) f ks lc (r3 np rs) sc/\cK C0 C' ks lc i []:=by
 refine cps λQQ kQ=>?_
 obtain ⟨x',C1,e,S1,R1⟩:=Nt (r:=r) (fuel:=fuel) (n:=n) (all:=.tup (rs.map .int)) (x3:=none) (λ_ _=>rfl) rs S R h
 obtain ⟨S2,R2⟩:=S1.GW R1 []
 have e1:ev (PP r) ⟨aE (PP r) fuel n,fuel⟩ (.call (.cst (.bn .tuple)) (.cons (.attr (.var 0) .cf) .nil) .nil) ⟨[some (.inst 2 C0.length),none,none,none],C⟩=.ok (.tup (rs.map .int)) ⟨[some (.inst 2 C0.length),none,none,none],C⟩:=
  dT (g:=.bn .tuple) rfl (b9 (cH (aw (d:=.inst 2 C0.length) rfl) (eG S.top).2.1)) ((m6 hf).trans (by show aL (a9 C (.loc i)) _=_; rw [show a9 C (.loc i)=some (rs.map .int) by unfold a9; dsimp only; rw [R.cell]]; rfl))
 have e2 : ∀ C',ev (PP r) ⟨aE (PP r) fuel n,fuel⟩ (.call (.cst (.bn .len)) (.cons (.var 1) .nil) .nil) ⟨[some (.inst 2 C0.length),some (.tup (rs.map .int)),some (.loc (C0.length+1)),x'],C'⟩=.ok (.int (rs.length:Nat)) ⟨[some (.inst 2 C0.length),some (.tup (rs.map .int)),some (.loc (C0.length+1)),x'],C'⟩:=λC'=>
  dT (g:=.bn .len) rfl (b9 (aw (d:=.tup (rs.map .int)) rfl)) ((m6 hf).trans (by show ak.ok (D.int ((rs.map D.int).length:Nat)) _=_; rw [length_map]))
 have e3:ev (PP r) ⟨aE (PP r) fuel n,fuel⟩ (.bo (.attr (.var 0) .cf) .clear .nil) ⟨[some (.inst 2 C0.length),some (.tup (rs.map .int)),some (.loc (C0.length+1)),x'],C1⟩=.ok .none ⟨[some (.inst 2 C0.length),some (.tup (rs.map .int)),some (.loc (C0.length+1)),x'],C1.set i (.list [])⟩:=
  gE (cH (aw (d:=.inst 2 C0.length) rfl) (eG S1.top).2.1) (mk:=.pM) (show (C1[i]?).bind (lp .clear)=_ by rw [R1.cell]; rfl) (ds:=[]) rfl (by
   show aL (e9 C1 i) _=_
   rw [show e9 C1 i=some (rs.map .int) by unfold e9; rw [R1.cell]]; rfl)
 refine kQ ⟨_,_,kc (a8 (dZ (b7 (cH (aw (d:=.inst 2 C0.length) rfl) (eG S.top).2.1) rfl (z:=false) rfl) rfl rfl)
  (a8 (bU e1 (lb rfl)) (a8 (bU (cH (aw (d:=.inst 2 C0.length) rfl) (eG S.top).1) (lb rfl))
  (a8 ((jc (items:=rs.map .int) hf (aw (d:=.tup (rs.map .int)) rfl) rfl).trans e) (a8 (jb e3)
  (a8 (qF (aw (d:=.inst 2 C0.length) rfl) (eG S2.top).2.2.1 (e2 _) rfl (zF S2.top (x:=.none)).2.1) (kg (aw rfl)))))))),S2.setTop,R2.kd S2.top rfl⟩
theorem HW (hf:fuel≠0) (S:a6 C0 C (.loc i) p f ks lc np sc) (R:cK C0 C ks lc i rs) : ∃ m',aE (PP r) fuel (n+1) 14 [.inst 2 C0.length] [] C=.ok (.bool (decide (f<p)||!rs.isEmpty)) ⟨m',C⟩:=by
 have e1:ev (PP r) ⟨aE (PP r) fuel n,fuel⟩ (.cmp .lt (.attr (.var 0) .eM) (.attr (.var 0) .d4)) ⟨[some (.inst 2 C0.length)],C⟩=.ok (.bool (decide (f<p))) ⟨[some (.inst 2 C0.length)],C⟩:=
  b7 (cH (aw (d:=.inst 2 C0.length) rfl) (eG S.top).2.2.2) (cH (aw (d:=.inst 2 C0.length) rfl) (eG S.top).2.2.1) rfl
 have e2:ev (PP r) ⟨aE (PP r) fuel n,fuel⟩ (.call (.cst (.bn .bool)) (.cons (.attr (.var 0) .cf) .nil) .nil) ⟨[some (.inst 2 C0.length)],C⟩=.ok (.bool (!(rs.map D.int).isEmpty)) ⟨[some (.inst 2 C0.length)],C⟩:=
  dT (g:=.bn .bool) rfl (b9 (cH (aw (d:=.inst 2 C0.length) rfl) (eG S.top).2.1)) ((m6 hf).trans (by show aL (a9 C (.loc i)) _=_; rw [show a9 C (.loc i)=some (rs.map .int) by unfold a9; dsimp only; rw [R.cell]]; rfl))
 have e3:ev (PP r) ⟨aE (PP r) fuel n,fuel⟩ (.or (.cmp .lt (.attr (.var 0) .eM) (.attr (.var 0) .d4)) (.call (.cst (.bn .bool)) (.cons (.attr (.var 0) .cf) .nil) .nil)) ⟨[some (.inst 2 C0.length)],C⟩=.ok (.bool (decide (f<p)||!rs.isEmpty)) ⟨[some (.inst 2 C0.length)],C⟩:=by
  by_cases h:f<p
  ·rw [decide_eq_true h] at e1 ⊢; exact Mp e1 rfl
  ·rw [decide_eq_false h] at e1 ⊢
   rw [xf e1 rfl,e2,List.isEmpty_map]; rfl
 exact ⟨_,kc (a8 (dZ (b7 (cH (aw (d:=.inst 2 C0.length) rfl) (eG S.top).2.1) rfl (z:=false) rfl) rfl rfl) (kg e3))⟩
noncomputable def i7 (s:(Int->Int) × List Int) (x:Int):(Int->Int) × List Int:=(fK s.1 x (s.1 x - 1),if s.1 x - 1==0 then s.2++[x] else s.2)
noncomputable def qy (sc:Int->List Int) (s:(Int->Int) × List Int) (k:Int):(Int->Int) × List Int:=(sc k).foldl i7 (fK s.1 k (-2),s.2)
theorem wa : ∀ l:List Int,D.mY (l.map .int) (l.map .int)=true
 |[]=>rfl
 |x::l=>by
  show (((some x:Option Int)==some x)&&D.mY (l.map .int) (l.map .int))=true
  rw [wa l,beq_self_eq_true]; rfl
theorem VM {A B:ah} (h:A[j]?=some (.list (l.map .int))) (h':B[j]?=some (.list (l.map .int))):br A B (.loc j)=true:=by
 show kj A B j=true
 unfold kj
 rw [h,h']; exact wa l
variable {a1 a3 a4 a5 x7 x6:Option D}
theorem Ls (S:a6 C0 C (.loc i) p f ks lc np sc) (R:cK C0 C ks lc i rs) {x:Int} (hx:x∈ks) (hl:rs.length<1000) :
  ∃ C',ax (PP r) cl w0 ⟨[some (.inst 2 C0.length),a1,some (.loc (C0.length+1)),a3,a4,a5,some (.int x),x7],C⟩=.ok .next ⟨[some (.inst 2 C0.length),a1,some (.loc (C0.length+1)),a3,a4,a5,some (.int x),some (.loc (lc x))],C'⟩/\
   a6 C0 C' (.loc i) p f ks lc (i7 (np,rs) x).1 sc/\cK C0 C' ks lc i (i7 (np,rs) x).2:=by
 have S1:=S.setInfo (v:=np x - 1) hx
 have R1:=R.kd (x:=NI x (np x - 1) (lc x+1)) (S.info x hx) rfl
 have hi:=S1.info x hx
 rw [il] at hi
 have e1:ev (PP r) cl (.cmp .eq (.attr (.var 7) .eN) (.cst (.int 0))) ⟨[some (.inst 2 C0.length),a1,some (.loc (C0.length+1)),a3,a4,a5,some (.int x),some (.loc (lc x))],C.set (lc x) (NI x (np x - 1) (lc x+1))⟩=.ok (.bool (np x - 1==0)) _:=
  b7 (cH (aw (d:=.loc (lc x)) rfl) (j6 hi).2.1) rfl rfl
 by_cases h:(np x - 1==0)=true
 ·obtain ⟨S2,R2⟩:=S1.GW R1 (rs++[x])
  rw [map_append] at S2 R2
  rw [h] at e1
  exact ⟨_,a8 (bU (dW (aw (d:=.loc (C0.length+1)) rfl) (aw (d:=.int x) rfl) (uz S hx)) (lb rfl)) (a8 (qF (aw (d:=.loc (lc x)) rfl) (j6 (S.info x hx)).2.1 rfl rfl (rU (S.info x hx)))
   (ct (mq e1 rfl (ct (jb (tD (cH (aw (d:=.inst 2 C0.length) rfl) (eG S1.top).2.1) (aw (d:=.int x) rfl) R1.cell (by rw [length_map]; exact ii hl (by decide)))))))),S2,by unfold i7; rw [if_pos h]; exact R2⟩
 ·rw [eq_false_of_ne_true h] at e1
  exact ⟨_,a8 (bU (dW (aw (d:=.loc (C0.length+1)) rfl) (aw (d:=.int x) rfl) (uz S hx)) (lb rfl)) (a8 (qF (aw (d:=.loc (lc x)) rfl) (j6 (S.info x hx)).2.1 rfl rfl (rU (S.info x hx)))
   (ct (dZ e1 rfl rfl))),S1,by unfold i7; rw [if_neg h]; exact R1⟩
theorem Lr (hk:k∈ks) : ∀ (xs:List Int) {C:ah} {np:Int->Int} {rs:List Int} {x6 x7:Option D},a6 C0 C (.loc i) p f ks lc np sc->cK C0 C ks lc i rs->(∀ x∈xs,x∈ks)->rs.length+xs.length<1000->
  ∃ y6 y7 C',forLoop (λA B=>br A B (.loc (lc k+1))) (.one 6) (λae=>ax (PP r) cl w0 ae) (xs.map .int) ⟨[some (.inst 2 C0.length),a1,some (.loc (C0.length+1)),a3,a4,a5,x6,x7],C⟩ =
   .ok .next ⟨[some (.inst 2 C0.length),a1,some (.loc (C0.length+1)),a3,a4,a5,y6,y7],C'⟩/\a6 C0 C' (.loc i) p f ks lc (xs.foldl i7 (np,rs)).1 sc/\cK C0 C' ks lc i (xs.foldl i7 (np,rs)).2:=λxs=>by
 induction xs with
 |nil=>
  intro C np rs x6 x7 S R _ _
  exact ⟨_,_,C,rfl,S,R⟩
 |cons x xs ih=>
  intro C np rs x6 x7 S R h hl
  obtain ⟨C1,e1,S1,R1⟩:=Ls (r:=r) (cl:=cl) (a1:=a1) (a3:=a3) (a4:=a4) (a5:=a5) (x7:=x7) S R (h x (.head _)) (al (jp _ _) hl)
  have hlen:(i7 (np,rs) x).2.length<=rs.length+1:=by
   unfold i7
   split
   ·rw [length_append]; exact le_refl _
   ·exact le_succ _
  obtain ⟨y6,y7,C',e,S',R'⟩:=ih (x6:=some (.int x)) (x7:=some (.loc (lc x))) S1 R1 (λq hq=>h q (.tail _ hq)) (al (by rw [length_cons,add_comm xs.length,<-add_assoc]; exact add_le_add_right hlen _) hl)
  exact ⟨y6,y7,C',(jd rfl e1 (VM (S.succ k hk) (S1.succ k hk))).trans e,S',R'⟩
theorem LK (hf:cl.fuel≠0) (S:a6 C0 C (.loc i) p f ks lc np sc) (R:cK C0 C ks lc i rs) (hk:k∈ks) (hn:np k = -1) (hs : ∀ x∈sc k,x∈ks) (hl:rs.length+(sc k).length<1000) {x4 x5:Option D} :
  ∃ y4 y5 y6 y7 C',ax (PP r) cl w2 ⟨[some (.inst 2 C0.length),a1,some (.loc (C0.length+1)),some (.int k),x4,x5,x6,x7],C⟩=.ok .next ⟨[some (.inst 2 C0.length),a1,some (.loc (C0.length+1)),some (.int k),y4,y5,y6,y7],C'⟩/\
   a6 C0 C' (.loc i) p (f+1) ks lc (qy sc (np,rs) k).1 sc/\cK C0 C' ks lc i (qy sc (np,rs) k).2:=by
 have e0:ev (PP r) cl (.lF 4 (.bo (.var 2) .get (.cons (.var 3) .nil))) ⟨[some (.inst 2 C0.length),a1,some (.loc (C0.length+1)),some (.int k),x4,x5,x6,x7],C⟩ =
   .ok (((ks.map λk=>(k,D.loc (lc k))).lookup k).getD .none) _:=
  Dj (C8 (aw (d:=.loc (C0.length+1)) rfl) (aw (d:=.int k) rfl) S.dict) (lb rfl)
 rw [y8 hk] at e0
 have S1:=S.setInfo (v := -2) hk
 obtain ⟨y6,y7,C2,e2,S2,R2⟩:=Lr (r:=r) (cl:=cl) (a1:=a1) (a3:=some (.int k)) (a4:=some (.loc (lc k))) (a5:=some (.int (-1))) (x6:=x6) (x7:=x7) hk (sc k) S1 (R.kd (S.info k hk) rfl) hs hl
 have hi:=S.info k hk
 rw [hn] at hi
 exact ⟨some (.loc (lc k)),some (.int (-1)),y6,y7,_,a8 (dZ (b7 e0 rfl (z:=false) rfl) rfl rfl) (a8 (bU (cH (aw (d:=.loc (lc k)) rfl) (j6 hi).2.1) (lb rfl))
  (a8 (dZ (b7 (x:=.int (-1)) (y:=.int (-1)) (aw rfl) rfl (z:=false) rfl) rfl rfl)
  (a8 (kE (d:=.int (-2)) rfl (aw (d:=.loc (lc k)) rfl) (rU hi))
  (a8 ((jc (items:=(sc k).map .int) hf (cH (aw (d:=.loc (lc k)) rfl) (j6 (S1.info k hk)).2.2) (by show (_:Option Ch).bind pL=_; rw [S1.succ k hk]; rfl)).trans e2)
  (ct (qF (ae:=⟨_,_⟩) (aw (d:=.inst 2 C0.length) rfl) (eG S2.top).2.2.2 rfl rfl (zF S2.top (x:=.none)).2.2)))))),S2.setTop,R2.kd S2.top rfl⟩
noncomputable def fQ (nd:Int->List Int):List Int->Prop
 |[]=>True
 |k::l=>(∀ q∈nd k,q∈l)/\k ∉ l/\fQ nd l
variable {nd:Int->List Int}
theorem fQ.closed : ∀ {l:List Int},fQ nd l->∀ {k q:Int},k∈l->q∈nd k->q∈l
 |a::l,h,k,q,hk,hq=>by
  rcases bi hk with rfl|hk
  ·exact .tail _ (h.1 q hq)
  ·exact .tail _ (h.2.2.closed hk hq)
noncomputable def fT (dn l:List Int):Nat:=(l.filter λq=>!dn.contains q).length
variable {dn:List Int}
theorem Cj:fT dn l=0 ↔ ∀ q∈l,q∈dn:=by
 unfold fT
 rw [List.length_eq_zero_iff,List.filter_eq_nil_iff]
 refine forall_congr' λq=>forall_congr' λ_=>?_
 rw [not_eq_true',Bool.not_eq_false,contains_iff_mem]
theorem Ci (h:k ∉ l):fT (k::dn) l=fT dn l:=by
 unfold fT
 refine congrArg List.length (filter_congr λq hq=>?_)
 rw [List.contains_cons,beq_false_of_ne λe:q=k=>h (e ▸ hq)]; rfl
theorem Cf {a:Int}:fT dn (a::l)=if a∈dn then fT dn l else fT dn l+1:=by
 unfold fT
 rw [filter_cons]
 by_cases h:a∈dn
 ·rw [if_pos h,if_neg (by rw [contains_iff_mem.mpr h]; exact Bool.false_ne_true)]
 ·rw [if_neg h,if_pos (by rw [not_eq_true',<-not_eq_true,contains_iff_mem]; exact h)]; rfl
theorem Cg {dn:List Int} {k:Int} (hd:k ∉ dn) : ∀ {l:List Int},l.Nodup->k∈l->fT dn l=fT (k::dn) l+1
 |a::l,hn,hk=>by
  obtain ⟨h1,h2⟩:=nodup_cons.mp hn
  rw [Cf,Cf]
  by_cases e:a=k
  ·subst e
   rw [if_neg hd,if_pos (.head _),Ci h1]
  ·have ih:=Cg hd h2 ((bi hk).resolve_left (Ne.symm e))
   have hm:a∈k::dn↔a∈dn:=⟨λz=>(bi z).resolve_left e,.tail _⟩
   by_cases h:a∈dn
   ·rw [if_pos h,if_pos (hm.mpr h),ih]
   ·rw [if_neg h,if_neg λz=>h (hm.mp z),ih]
structure Gr (nd:Int->List Int) (ks:List Int) (sc:Int->List Int):Prop where
 nodup : ∀ k∈ks,(nd k).Nodup
 k6 : ∀ k∈ks,∀ q∈nd k,q∈ks
 snd : ∀ k∈ks,(sc k).Nodup
 p9 : ∀ k∈ks,∀ j,j∈sc k↔j∈ks/\k∈nd j
structure fP (nd:Int->List Int) (ks dn ou rs:List Int) (np:Int->Int):Prop where
 jG:fQ nd dn
 o5 : ∀ k∈dn,k∈ks
 j9 : ∀ k∈ou,k∈ks/\k ∉ dn/\np k = -1/\∀ q∈nd k,q∈dn
 num : ∀ k∈ks,k ∉ dn->k ∉ ou->np k=(fT dn (nd k):Nat)
 jD : ∀ k,k∈rs↔k∈ks/\k ∉ dn/\k ∉ ou/\∀ q∈nd k,q∈dn
 sh:rs.Nodup
theorem Lq : ∀ {l:List Int} {np:Int->Int} {rs:List Int},l.Nodup->l.foldl i7 (np,rs)=(λx=>if x∈l then np x - 1 else np x,rs++l.filter λx=>np x - 1==0):=λ{l}=>by
 induction l with
 |nil=>
  intro np rs _
  rw [List.foldl_nil,List.filter_nil,append_nil]; refine congrArg (·,rs) (funext λx=>(if_neg not_mem_nil).symm)
 |cons a l ih=>
  intro np rs hn
  obtain ⟨h1,h2⟩:=nodup_cons.mp hn
  rw [foldl_cons,i7,ih h2]
  refine Prod.ext (funext λx=>?_) ?_
  ·dsimp only
   by_cases e:x=a
   ·subst e; rw [if_neg h1,if_pos (.head _),il]
   ·rw [fi e]
    by_cases h:x∈l
    ·rw [if_pos h,if_pos (.tail _ h)]
    ·rw [if_neg h,if_neg λz=>(mem_cons.mp z).elim e h]
  ·dsimp only
   rw [filter_cons,filter_congr (q:=λx=>np x - 1==0) λx hx=>by rw [fi λe:x=a=>h1 (e ▸ hx)]]
   split
   ·rw [append_assoc]; rfl
   ·rfl
variable {ou:List Int}
theorem JU {b:Nat} (h:a=b+1):((a:Nat):Int) - 1=(b:Nat):=by rw [h]; exact Int.add_sub_cancel (b:Int) 1
theorem fP.done (G:Gr nd ks sc) (R:fP nd ks dn (k::ou) rs np) (ho:k ∉ ou):fP nd ks (k::dn) ou (qy sc (np,rs) k).2 (qy sc (np,rs) k).1:=by
 obtain ⟨hk,qX,pA,dF⟩:=R.j9 k (.head _)
 unfold qy
 rw [Lq (G.snd k hk)]
 dsimp only
 have hs : ∀ x,x∈sc k->x∈ks/\k∈nd x/\x ∉ dn/\x ∉ k::ou:=λx hx=>by
  obtain ⟨h1,h2⟩:=(G.p9 k hk x).mp hx
  exact ⟨h1,h2,λz=>qX (R.jG.closed z h2),λz=>qX ((R.j9 x z).2.2.2 k h2)⟩
 have EM : ∀ x,x∈sc k->x≠k:=λx hx e=>(hs x hx).2.2.2 (e ▸ .head _)
 have yA : ∀ x,x∈sc k->fK np k (-2) x - 1=(fT (k::dn) (nd x):Nat):=λx hx=>by
  obtain ⟨h1,h2,h3,h4⟩:=hs x hx
  rw [fi (EM x hx),R.num x h1 h3 h4]
  exact JU (Cg qX (G.nodup x h1) h2)
 have uj : ∀ x∈ks,x ∉ sc k->k ∉ nd x:=λx hx h z=>h ((G.p9 k hk x).mpr ⟨hx,z⟩)
 refine ⟨⟨dF,qX,R.jG⟩,λx hx=>(bi hx).elim (λe=>e ▸ hk) (R.o5 x),λx hx=>?_,λx h1 h2 h3=>?_,λx=>?_,?_⟩
 ·obtain ⟨h1,h2,h3,h4⟩:=R.j9 x (.tail _ hx)
  have iQ:x≠k:=λe=>ho (e ▸ hx)
  refine ⟨h1,λz=>(bi z).elim iQ h2,?_,λq hq=>.tail _ (h4 q hq)⟩
  rw [if_neg λz=>(hs x z).2.2.2 (.tail _ hx),fi iQ]; exact h3
 ·by_cases h:x∈sc k
  ·rw [if_pos h]; exact yA x h
  ·rw [if_neg h,fi λe:x=k=>h2 (e ▸ .head _),Ci (uj x h1 h)]
   exact R.num x h1 (λz=>h2 (.tail _ z)) λz=>(bi z).elim (λe=>h2 (e ▸ .head _)) h3
 ·rw [mem_append,mem_filter,R.jD]
  constructor
  ·rintro (⟨h1,h2,h3,h4⟩|⟨h1,h2⟩)
   ·exact ⟨h1,λz=>(bi z).elim (λe=>h3 (e ▸ .head _)) h2,λz=>h3 (.tail _ z),λq hq=>.tail _ (h4 q hq)⟩
   ·obtain ⟨h3,h4,h5,h6⟩:=hs x h1
    rw [yA x h1] at h2
    exact ⟨h3,λz=>(bi z).elim (EM x h1) h5,λz=>h6 (.tail _ z),Cj.mp (ofNat.inj (im h2))⟩
  ·rintro ⟨h1,h2,h3,h4⟩
   by_cases h:x∈sc k
   ·exact .inr ⟨h,by rw [yA x h,Cj.mpr h4]; rfl⟩
   ·exact .inl ⟨h1,λz=>h2 (.tail _ z),λz=>(bi z).elim (λe=>h2 (e ▸ .head _)) h3,λq hq=>(bi (h4 q hq)).resolve_left λe=>uj x h1 h (e ▸ hq)⟩
 ·rw [nodup_append]
  exact ⟨R.sh,(G.snd k hk).filter _,λa ha b hb e=>qX (((R.jD a).mp ha).2.2.2 k (e ▸ (hs b (mem_filter.mp hb).1).2.1))⟩
theorem fP.out (R:fP nd ks dn ou rs np) {F5:List Int} (h : ∀ k,k∈F5↔k∈ou\/k∈rs):fP nd ks dn F5 [] (r3 np rs):=by
 refine ⟨R.jG,R.o5,λk hk=>?_,λk h1 h2 h3=>?_,λk=>⟨λz=>(nomatch z),λ⟨h1,h2,h3,h4⟩=>absurd ((h k).mpr ?_) h3⟩,nodup_nil⟩
 ·rw [F8]
  by_cases e:k∈rs
  ·obtain ⟨h1,h2,h3,h4⟩:=(R.jD k).mp e
   exact ⟨h1,h2,if_pos e,h4⟩
  ·rw [if_neg e]; exact R.j9 k (((h k).mp hk).resolve_right e)
 ·rw [F8,if_neg λz=>h3 ((h k).mpr (.inr z))]
  exact R.num k h1 h2 λz=>h3 ((h k).mpr (.inl z))
 ·by_cases z:k∈ou
  ·exact .inl z
  ·exact .inr ((R.jD k).mpr ⟨h1,h2,z,h4⟩)
theorem dg [DecidableEq α] : ∀ {l ks:List α},l.Nodup->(∀ x∈l,x∈ks)->l.length<=ks.length:=λ{l}=>by
 induction l with
 |nil=>
  intro _ _ _
  exact zero_le _
 |cons a l ih=>
  intro ks hn h
  obtain ⟨h1,h2⟩:=nodup_cons.mp hn
  have ha:=h a (.head _)
  have ih:=ih (ks:=ks.erase a) h2 λx hx=>(List.mem_erase_of_ne λe:x=a=>h1 (e ▸ hx)).mpr (h x (.tail _ hx))
  rw [List.length_erase_of_mem ha] at ih
  exact an (succ_le_succ ih) (le_of_eq (Nat.succ_pred_eq_of_pos (length_pos_of_mem ha)))
variable {xs:List Int}
theorem Qs {b:Nat} (h1:a<=n) (h2:b<=n) (hn:n<64):a+b<1000:=al (add_le_add h1 h2) (ii (Nat.add_lt_add hn hn) (by decide))
inductive Aw (r:List Fn) (cl:Calls) (C0:ah) (p:Int) (ks:List Int) (lc:Int->Nat) (sc nd:Int->List Int) (i:Nat) (m0:List (Option D)) (dn ou:List Int) (f:Int) (o:ak Fl):Prop
 |mk (y3 y4 y5 y6 y7:Option D) (C':ah) (fX:Int->Int) (ly:List Int) (e:o=.ok .next ⟨m0++[y3,y4,y5,y6,y7],C'⟩) (S:a6 C0 C' (.loc i) p f ks lc fX sc) (R:cK C0 C' ks lc i ly) (W:fP nd ks dn ou ly fX):Aw r cl C0 p ks lc sc nd i m0 dn ou f o
theorem LJ (hf:cl.fuel≠0) (G:Gr nd ks sc) (bO:ks.length<64) {all:D} (nG : ∀ A B,br A B all=true) : ∀ (xs:List Int) {C:ah} {np:Int->Int} {dn rs:List Int} {f:Int} {x3 x4 x5 x6 x7:Option D},a6 C0 C (.loc i) p f ks lc np sc->cK C0 C ks lc i rs->fP nd ks dn (xs++ou) rs np->(xs++ou).Nodup->
  Aw r cl C0 p ks lc sc nd i [some (.inst 2 C0.length),some all,some (.loc (C0.length+1))] (xs.reverse++dn) ou (f+xs.length)
   (forLoop (λA B=>br A B all) (.one 3) (λae=>ax (PP r) cl w2 ae) (xs.map .int) ⟨[some (.inst 2 C0.length),some all,some (.loc (C0.length+1)),x3,x4,x5,x6,x7],C⟩):=λxs=>by
 induction xs with
 |nil=>
  intro C np dn rs f x3 x4 x5 x6 x7 S R W _
  exact ⟨_,_,_,_,_,C,np,rs,rfl,(add_zero f).symm ▸ S,R,W⟩
 |cons k xs ih=>
  intro C np dn rs f x3 x4 x5 x6 x7 S R W hn
  obtain ⟨hk,_,pA,_⟩:=W.j9 k (.head _)
  obtain ⟨h1,h2⟩:=nodup_cons.mp hn
  have iM : ∀ x∈sc k,x∈ks:=λx hx=>((G.p9 k hk x).mp hx).1
  obtain ⟨y4,y5,y6,y7,C1,e1,S1,R1⟩:=LK (r:=r) (cl:=cl) (a1:=some all) (x4:=x4) (x5:=x5) (x6:=x6) (x7:=x7) hf S R hk pA iM (Qs (dg W.sh λx hx=>((W.jD x).mp hx).1) (dg (G.snd k hk) iM) bO)
  obtain ⟨z3,z4,z5,z6,z7,C',fX,ly,e,S',R',W'⟩:=ih (x3:=some (.int k)) (x4:=y4) (x5:=y5) (x6:=y6) (x7:=y7) S1 R1 (W.done G h1) h2
  refine ⟨z3,z4,z5,z6,z7,C',fX,ly,(jd rfl e1 (nG _ _)).trans e,?_,R',by rw [reverse_cons,append_assoc]; exact W'⟩
  rw [length_cons,show f+((xs.length+1:Nat):Int)=f+1+xs.length by rw [natCast_add,Int.add_assoc,Int.add_comm 1]; rfl]
  exact S'
theorem LI (hf:fuel≠0) (G:Gr nd ks sc) (bO:ks.length<64) (S:a6 C0 C (.loc i) p f ks lc np sc) (R:cK C0 C ks lc i rs) (W:fP nd ks dn (xs++ou) rs np) (hn:(xs++ou).Nodup) :
  ∃ m' C' fX ly,aE (PP r) fuel (n+1) 15 (.inst 2 C0.length::xs.map .int) [] C=.ok .none ⟨m',C'⟩/\a6 C0 C' (.loc i) p (f+xs.length) ks lc fX sc/\cK C0 C' ks lc i ly/\fP nd ks (xs.reverse++dn) ou ly fX:=by
 obtain ⟨z3,z4,z5,z6,z7,C',fX,ly,e,S',R',W'⟩:=LJ (r:=r) (cl:=⟨aE (PP r) fuel n,fuel⟩) hf G bO (all:=.tup (xs.map .int)) (λ_ _=>rfl) xs (x3:=none) (x4:=none) (x5:=none) (x6:=none) (x7:=none) S R W hn
 have hl:xs.length<=ks.length:=dg (hn.sublist (List.sublist_append_left _ _)) λx hx=>(W.j9 x (mem_append_left _ hx)).1
 have hb:gh qw (.inst 2 C0.length::xs.map .int) []=some [some (.inst 2 C0.length),some (.tup (xs.map .int)),none,none,none,none,none,none]:=by
  unfold gh qw
  simp [sub_eq_zero_of_le]
  exact ⟨an (succ_le_succ hl) (an bO (by decide)),rfl⟩
 refine ⟨[some (.inst 2 C0.length),some (.tup (xs.map .int)),some (.loc (C0.length+1))]++[z3,z4,z5,z6,z7],C',fX,ly,?_,S',R',W'⟩
 show (match gh qw (.inst 2 C0.length::xs.map .int) [] with|some m=>dq (ax (PP r) ⟨aE (PP r) fuel n,fuel⟩ Cs ⟨m,C⟩)|none=>.fail)=_
 rw [hb]
 exact u7 (a8 (dZ (b7 (cH (aw (d:=.inst 2 C0.length) rfl) (eG S.top).2.1) rfl (z:=false) rfl) rfl rfl) (a8 (bU (cH (aw (d:=.inst 2 C0.length) rfl) (eG S.top).1) (lb rfl))
  (ct ((jc (items:=xs.map .int) hf (aw (d:=.tup (xs.map .int)) rfl) rfl).trans e))))
theorem v7 {k:Nat} (h:k≠0) {a b:α}:(if (k==0)=true then a else b)=b:=by rw [beq_false_of_ne h]; rfl
theorem Dr {b h:Ss} {x:Nat} {v:Option Nat} {o:Fl} (hf:cl.fuel≠0) (hb:ax P cl b st=.ok o aa):ex P cl (.oI b x v h) st=.ok o aa:=by
 refine (v7 hf).trans ?_; rw [hb]
theorem Dq {b h:Ss} {x:Nat} {z:X} {o:Fl} (hf:cl.fuel≠0) (hb:ax P cl b st=.exc z aa) (hc:qs x z=true) (hh:ax P jA h aa=.ok o ae):ex P cl (.oI b x none h) st=.ok o ae:=by
 refine (v7 hf).trans ?_; rw [hb]; dsimp only; rw [if_pos hc,hh]
theorem xm {r:Ss} (h:ex P cl s st=.ok .brk aa):ax P cl (.cons s r) st=.ok .brk aa:=by
 show (match ex P cl s st with|.ok .next aa=>ax P cl r aa|o=>o)=_; rw [h]
theorem Dt {r:Ss} (h:ex P cl s st=.ok .cont aa):ax P cl (.cons s r) st=.ok .cont aa:=by
 show (match ex P cl s st with|.ok .next aa=>ax P cl r aa|o=>o)=_; rw [h]
theorem Hw {cc:St->ak D} {f eU:St->ak Fl} (h1:cc st=.ok d aa) (h2:bH aa.C d=some true) (h3:f aa=.ok .brk ae):whileLoop cc f eU (n+1) st=.ok .next ae:=by
 rw [sL,h1]; dsimp only; rw [h2]; dsimp only; rw [h3]
theorem lN {L:ah}:(C++L)[C.length+i]?=L[i]?:=by rw [getElem?_append_right (le_add_right _ _),add_sub_cancel_left]
theorem sr {L:ah} {x:Ch}:(C++L).set (C.length+i) x=C++L.set i x:=by rw [set_append_right _ _ (le_add_right _ _),add_sub_cancel_left]
theorem Dg (ho:ev P cl o st=.ok (.loc i) st) (h:st.C[i]?=some (.list (ds++[d]))):ev P cl (.bo o .pop .nil) st=.ok d ⟨st.m,st.C.set i (.list ds)⟩:=by
 refine gE ho (mk:=.pR) (show (st.C[i]?).bind (lp .pop)=_ by rw [h]; rfl) (ds:=[]) rfl ?_
 show aL (e9 st.C i) _=_
 rw [show e9 st.C i=some (ds++[d]) by unfold e9; rw [h]]
 show aL (ds++[d]).getLast? _=_
 rw [List.getLast?_concat]
 show ak.ok d ⟨st.m,st.C.set i (.list (ds++[d]).dropLast)⟩=_
 rw [List.dropLast_concat]
theorem Mv {i:E} (ho:ev P cl o st=.ok y aa) (hi:ev P cl i aa=.ok z ⟨m,C⟩) (hs:o4 y z C=some C'):ex P cl (.qx o i) st=.ok .next ⟨m,C'⟩:=
 (aT ho).trans ((aT hi).trans (aT (a:=()) (by show hZ (o4 y z C) m=_; rw [hs]; rfl)))
theorem PM (h:C[i]?=some (.list (ds++[d]))):g9 C (.loc i) (.int (-1))=some d:=by
 rw [yJ h]
 have e:(-1:Int)+((ds++[d]).length:Nat)=ds.length:=by rw [length_append,natCast_add,Int.add_comm]; exact Int.add_sub_cancel (ds.length:Int) 1
 unfold hV
 rw [if_neg (by decide),e,if_pos (natCast_nonneg _)]
 show (ds++[d])[ds.length]?=_
 rw [getElem?_append_right (le_refl _),sub_self]; rfl
abbrev Fr:=Int × Nat × Nat
noncomputable def fst (l:List Fr):List D:=(l.map λt=>D.int t.1).reverse
noncomputable def eJ (s:Nat) (l:List Fr):List D:=(l.map λt=>D.bm .bX (.loc (s+(t.2.1+4)))).reverse
noncomputable def n2:List Fr->List (Int × D)
 |[]=>[]
 |t::l=>n2 l++[(t.1,.int (l.length:Nat))]
variable {u:Int}
theorem Lw : ∀ {l:List (Int × D)},u ∉ l.map (·.1)->fy u (l++[(u,d)])=l:=λ{l}=>by
 induction l with
 |nil=>
  intro _
  exact if_pos (beq_self_eq_true u)
 |cons e l ih=>
  intro h
  show (if (e.1==u)=true then _ else e::fy u (l++[(u,d)]))=_
  rw [if_neg (by rw [beq_false_of_ne λz:e.1=u=>h (z ▸ .head _)]; exact Bool.false_ne_true),ih λz=>h (.tail _ z)]
theorem Rg : ∀ {l:List Fr},(n2 l).map (·.1)=(l.map (·.1)).reverse:=λ{l}=>by
 induction l with
 |nil=>
  exact rfl
 |cons t l ih=>
  show (n2 l++[(t.1,D.int (l.length:Nat))]).map (·.1)=(t.1::l.map (·.1)).reverse
  rw [map_append,ih,reverse_cons]; rfl
theorem rS {l:List Fr}:u∈(n2 l).map (·.1)↔u∈l.map (·.1):=by rw [Rg,mem_reverse]
theorem Ft : ∀ {l:List (Int × D)},u ∉ l.map (·.1)->(l++[(u,d)]).lookup u=some d:=λ{l}=>by
 induction l with
 |nil=>
  intro _
  show (match u==u with|true=>some d|false=>none)=_; rw [beq_self_eq_true]
 |cons e l ih=>
  intro h
  rw [cons_append,lookup_cons,beq_false_of_ne λz:u=e.1=>h (z ▸ .head _)]
  exact ih λz=>h (.tail _ z)
structure FM (C C':ah) (ks:List Int) (lc:Int->Nat) (rf:List Fr) (seen:List Int) (b:Bool) (J:ah):Prop where
 mem:C'=C++(.list (fst rf)::.list (eJ C.length rf)::.set seen::.dict b (n2 rf)::J)
 mv : ∀ t∈rf,t.1∈ks/\J[t.2.1]?=some (.bq (.loc (lc t.1+1)) t.2.2)
 yX:(rf.map (·.2.1)).Nodup
 mL:(rf.map (·.1)).Nodup
noncomputable def bK (a s:Nat) (x6:Option D):List (Option D):=[some (.inst 2 a),some (.loc (a+1)),some (.loc s),some (.loc (s+1)),some (.loc (s+2)),some (.loc (s+3)),x6]
noncomputable def fY (sc:Int->List Int):List Fr->Option (Int × List Fr)
 |[]=>none
 |t::l=>match (sc t.1)[t.2.2]? with
  |some v=>some (v,(t.1,t.2.1,t.2.2+1)::l)
  |none=>fY sc l
variable {seen:List Int}
inductive vN (C:ah) (a:Nat) (ks:List Int) (lc:Int->Nat) (seen:List Int) (x6:Option D) (o:ak Fl):Option (Int × List Fr)->Prop
 |some (v:Int) (rf:List Fr) (C':ah) (b:Bool) (J:ah) (e:o=.ok .next ⟨bK a C.length (some (.int v)),C'⟩) (M:FM C C' ks lc rf seen b J):vN C a ks lc seen x6 o (some (v,rf))
 |none (C':ah) (b:Bool) (J:ah) (e:o=.ok .brk ⟨bK a C.length x6,C'⟩) (M:FM C C' ks lc [] seen b J):vN C a ks lc seen x6 o none
noncomputable def Al (r:List Fn) (cl:Calls):Nat->St->ak Fl:=whileLoop (λaa=>ev (PP r) cl (.var 2) aa) (λaa=>ax (PP r) cl Cu aa) (λaa=>ax (PP r) cl (.cons .brk .nil) aa)
theorem Gf (S:a6 C0 C rd p f ks lc np sc) {cl:Calls} (hf:cl.fuel≠0) {seen:List Int} {a:Nat} {x6:Option D} : ∀ (rf:List Fr) {C':ah} {b:Bool} {J:ah} {k:Nat},FM C C' ks lc rf seen b J->rf.length<k->
  vN C a ks lc seen x6 (Al r cl k ⟨bK a C.length x6,C'⟩) (fY sc rf)
 |[],C',b,J,0,M,hk=>absurd hk (not_lt_zero _)
 |[],C',b,J,k+1,M,hk=>.none C' b J (by
   have h0:C'[C.length]?=some (.list (fst [])):=by rw [M.mem]; exact d8
   refine (Aj (d:=.loc C.length) (aw rfl) (show (C'[C.length]?).bind vr=some false by rw [h0]; rfl)).trans rfl) M
 |t::l,C',b,J,0,M,hk=>absurd hk (not_lt_zero _)
 |(u,j,q)::l,C',b,J,k+1,M,hk=>by
  obtain ⟨hu,hJ⟩:=M.mv _ (.head _)
  obtain ⟨Ex,OC⟩:=nodup_cons.mp M.yX
  obtain ⟨uv,uw⟩:=nodup_cons.mp M.mL
  have h0:C'[C.length]?=some (.list (fst l++[.int u])):=by rw [M.mem]; refine d8.trans ?_; unfold fst; rw [map_cons,reverse_cons]
  have h1:C'[C.length+1]?=some (.list (eJ C.length l++[.bm .bX (.loc (C.length+(j+4)))])):=by rw [M.mem]; refine oQ.trans ?_; unfold eJ; rw [map_cons,reverse_cons]
  have h4:C'[C.length+(j+4)]?=some (.bq (.loc (lc u+1)) q):=by rw [M.mem]; exact lN.trans hJ
  have h5:C'[lc u+1]?=some (.list ((sc u).map .int)):=by rw [M.mem]; exact eR (S.succ u hu)
  have EN:bW C' (.loc (lc u+1))=some ((sc u).map .int):=by unfold bW; dsimp only; rw [h5]
  have ht:bH C' (.loc C.length)=some true:=by show (C'[C.length]?).bind vr=some true; rw [h0]; induction fst l using List.casesOn<;>rfl
  have EC : ∀ {x6:Option D},ev (PP r) cl (.call (.idx (.var 3) (.cst (.int (-1)))) .nil .nil) ⟨bK a C.length x6,C'⟩=fF C' (bK a C.length x6) (C.length+(j+4)):=λ{x6}=>
   dT (g:=.bm .bX (.loc (C.length+(j+4)))) (ds:=[]) (dW (aw (d:=.loc (C.length+1)) rfl) rfl (PM h1)) rfl (by
    show bJ ([].isEmpty&&(oO C' (C.length+(j+4))).isSome) (jM (PP r) cl .next [.loc (C.length+(j+4))] _)=_
    rw [show oO C' (C.length+(j+4))=some ((sc u).map .int) by unfold oO; rw [h4]; dsimp only; unfold a9; dsimp only; rw [h5]]
    exact fx hf)
  induction hv:(sc u)[q]? with
  |some v=>
   have hp:fY sc ((u,j,q)::l)=some (v,(u,j,q+1)::l):=by unfold fY; dsimp only; rw [hv]
   rw [hp]
   have hn:fF C' (bK a C.length x6) (C.length+(j+4))=.ok (.int v) ⟨bK a C.length x6,C'.set (C.length+(j+4)) (.bq (.loc (lc u+1)) (q+1))⟩:=by
    unfold fF; rw [h4]; dsimp only; rw [EN]; dsimp only; rw [getElem?_map,hv]; rfl
   refine .some v _ _ b (J.set j (.bq (.loc (lc u+1)) (q+1))) (Hw (d:=.loc C.length) (aw rfl) ht (xm (Dr hf (a8 (bU (EC.trans hn) (lb rfl)) (xm rfl))))) ⟨?_,λt h=>?_,M.yX,M.mL⟩
   ·rw [M.mem]; exact sr
   ·rcases bi h with rfl|h
    ·exact ⟨hu,ku hJ⟩
    ·exact ⟨(M.mv t (.tail _ h)).1,gO (M.mv t (.tail _ h)).2 λe=>Ex (mem_map.mpr ⟨t,h,e⟩)⟩
  |none=>
   have hp:fY sc ((u,j,q)::l)=fY sc l:=by rw [fY]; dsimp only; rw [hv]
   rw [hp]
   have hn:fF C' (bK a C.length x6) (C.length+(j+4))=.exc .stop ⟨bK a C.length x6,C'.set (C.length+(j+4)) (.bq .none 0)⟩:=by
    unfold fF; rw [h4]; dsimp only; rw [EN]; dsimp only; rw [getElem?_map,hv]; rfl
   have e1:C'.set (C.length+(j+4)) (.bq .none 0)=C++(.list (fst l++[.int u])::.list (eJ C.length l++[.bm .bX (.loc (C.length+(j+4)))])::.set seen::.dict b (n2 ((u,j,q)::l))::J.set j (.bq .none 0)):=by
    rw [M.mem]; refine sr.trans ?_; unfold fst eJ; rw [map_cons,map_cons,reverse_cons,reverse_cons]; rfl
   rw [e1] at hn
   have e2:o4 (.loc (C.length+3)) (.int u) (C++(.list (fst l)::.list (eJ C.length l++[.bm .bX (.loc (C.length+(j+4)))])::.set seen::.dict b (n2 ((u,j,q)::l))::J.set j (.bq .none 0))) =
     some (C++(.list (fst l)::.list (eJ C.length l++[.bm .bX (.loc (C.length+(j+4)))])::.set seen::.dict false (n2 l)::J.set j (.bq .none 0))):=by
    show (_:Option Ch).bind (CO _ u _)=_
    rw [lN]
    show (if ((n2 ((u,j,q)::l)).lookup u).isSome=true then some (List.set _ (C.length+3) (Ch.dict false (fy u (n2 ((u,j,q)::l))))) else none)=_
    rw [show n2 ((u,j,q)::l)=n2 l++[(u,.int (l.length:Nat))] from rfl,Ft (λz=>uv (rS.mp z)),if_pos isSome_some,Lw (λz=>uv (rS.mp z)),sr]; rfl
   have ih:=Gf S hf (x6:=x6) (a:=a) l (C':=C++(.list (fst l)::.list (eJ C.length l)::.set seen::.dict false (n2 l)::J.set j (.bq .none 0))) (k:=k) ⟨rfl,λt h=>⟨(M.mv t (.tail _ h)).1,gO (M.mv t (.tail _ h)).2 λe=>Ex (mem_map.mpr ⟨t,h,e⟩)⟩,OC,uw⟩ (Nat.lt_of_succ_lt_succ hk)
   have step:Al r cl (k+1) ⟨bK a C.length x6,C'⟩=Al r cl k ⟨bK a C.length x6,_⟩:=
    sJ (d:=.loc C.length) (aw rfl) ht (ct (Dq hf (qH (by show ((ev (PP r) cl _ _).bind λx aa=>gk _ x aa).bind _=_; rw [EC,hn]; rfl)) rfl
     (a8 (Mv (aw (d:=.loc (C.length+3)) rfl) (Dg (aw (d:=.loc C.length) rfl) d8) (by rw [pY]; exact e2))
     (ct (jb (Dg (aw (d:=.loc (C.length+1)) rfl) oQ))))))
   rw [GX] at step
   rw [step]; exact ih
inductive i5 (sc:Int->List Int) (u:Int):Int->Prop
 |one {v:Int} (h:v∈sc u):i5 sc u v
 |more {w v:Int} (h:i5 sc u w) (h2:v∈sc w):i5 sc u v
section
variable {fin iI:List Int} {x:Int}
noncomputable def AJ (sc:Int->List Int) (fin:List Int) (u:Int) (q:Nat):Prop := ∀ i v,i<q->(sc u)[i]?=some v->v∈fin
noncomputable def iw (sc:Int->List Int) (fin:List Int):Int->List Fr->Prop
 |_,[]=>True
 |x,t::l=>(∃ q,t.2.2=q+1/\(sc t.1)[q]?=some x/\AJ sc fin t.1 q)/\iw sc fin t.1 l
noncomputable def vO (sc:Int->List Int) (fin:List Int):List Fr->Prop
 |[]=>True
 |t::l=>AJ sc fin t.1 t.2.2/\iw sc fin t.1 l
theorem iw.path : ∀ {l:List Fr} {x:Int},iw sc fin x l->∀ t∈l,i5 sc t.1 x
 |t::l,x,h,u,hu=>by
  obtain ⟨⟨q,h1,h2,h3⟩,h4⟩:=h
  have hx:=mem_of_getElem? h2
  rcases bi hu with rfl|hu
  ·exact .one hx
  ·exact .more (h4.path u hu) hx
theorem iw.mono (m : ∀ y∈fin,y∈iI) : ∀ {l:List Fr} {x:Int},iw sc fin x l->iw sc iI x l
 |[],_,_=>trivial
 |t::l,x,⟨⟨q,h1,h2,h3⟩,h4⟩=>⟨⟨q,h1,h2,λi v a b=>m v (h3 i v a b)⟩,h4.mono m⟩
theorem iw.Gw (hx:x∈fin) : ∀ {l:List Fr},iw sc fin x l->vO sc fin l:=λ{l}=>by
 induction l with
 |nil=>
  intro _
  exact trivial
 |cons t l ih=>
  rintro ⟨⟨q,h1,h2,h3⟩,h4⟩
  exact ⟨λi v a b=>by
   rw [h1] at a
   rcases lt_or_eq_of_le (mt a) with c|c
   ·exact h3 i v c b
   ·subst c; rw [h2] at b; exact ad b ▸ hx,h4⟩
structure DI (sc:Int->List Int) (ks:List Int) (rf:List Fr) (seen fin:List Int):Prop where
 jG:fQ sc fin
 sn : ∀ y,y∈seen↔y∈fin\/y∈rf.map (·.1)
 tC : ∀ y∈rf.map (·.1),y ∉ fin
 k6 : ∀ y∈seen,y∈ks
 snd:seen.Nodup
noncomputable def lu (sc:Int->List Int):List Fr->Nat
 |[]=>0
 |t::l=>((sc t.1).length - t.2.2)+lu sc l
noncomputable def gc (sc:Int->List Int) (seen:List Int):List Int->Nat
 |[]=>0
 |k::l=>(if k∈seen then 0 else (sc k).length+1)+gc sc seen l
theorem WG : ∀ {l:List Int},x ∉ l->gc sc (seen++[x]) l=gc sc seen l:=λ{l}=>by
 induction l with
 |nil=>
  intro _
  exact rfl
 |cons k l ih=>
  intro h
  have e:k∈seen++[x]↔k∈seen:=⟨λz=>(mem_append.mp z).resolve_right λy=>h (ca y ▸ .head _),mem_append_left _⟩
  rw [gc,gc,ih λz=>h (.tail _ z)]
  by_cases hs:k∈seen
  ·rw [if_pos hs,if_pos (e.mpr hs)]
  ·rw [if_neg hs,if_neg λz=>hs (e.mp z)]
theorem HK (hx:x ∉ seen) : ∀ {l:List Int},l.Nodup->x∈l->gc sc seen l=gc sc (seen++[x]) l+((sc x).length+1)
 |k::l,hn,hm=>by
  obtain ⟨h1,h2⟩:=nodup_cons.mp hn
  rw [gc,gc]
  by_cases e:k=x
  ·subst e
   rw [if_neg hx,if_pos (mem_append_right _ (.head _)),WG h1,zero_add,add_comm]
  ·rw [HK hx h2 ((mem_cons.mp hm).resolve_left (Ne.symm e)),<-add_assoc]
   have e':k∈seen++[x]↔k∈seen:=⟨λz=>(mem_append.mp z).resolve_right λy=>e (ca y),mem_append_left _⟩
   by_cases hs:k∈seen
   ·rw [if_pos hs,if_pos (e'.mpr hs)]
   ·rw [if_neg hs,if_neg λz=>hs (e'.mp z)]
inductive vM (sc:Int->List Int) (ks:List Int) (seen fin:List Int) (rf:List Fr):Option (Int × List Fr)->Prop
 |some (v:Int) (mF:List Fr) (iI:List Int) (D:DI sc ks mF seen iI) (c:iw sc iI v mF) (u:Int) (hu:u∈ks) (hv:v∈sc u) (le:lu sc mF<lu sc rf):vM sc ks seen fin rf (some (v,mF))
 |none (iI:List Int) (D:DI sc ks [] seen iI):vM sc ks seen fin rf none
theorem Sh : ∀ {rf:List Fr} {fin:List Int},DI sc ks rf seen fin->vO sc fin rf->(rf.map (·.1)).Nodup->vM sc ks seen fin rf (fY sc rf):=λ{rf}=>by
 induction rf with
 |nil=>
  intro fin D _ _
  exact .none fin D
 |cons p0 l ih=>
  obtain ⟨u,j,q⟩:=p0
  intro fin D h hn
  obtain ⟨h1,h2⟩:=h
  obtain ⟨n1,n2⟩:=nodup_cons.mp hn
  have hu:u∈ks:=D.k6 u ((D.sn u).mpr (.inr (.head _)))
  induction hv:(sc u)[q]? with
  |some v=>
   have hp:fY sc ((u,j,q)::l)=some (v,(u,j,q+1)::l):=by unfold fY; dsimp only; rw [hv]
   rw [hp]
   refine .some v _ fin ⟨D.jG,D.sn,D.tC,D.k6,D.snd⟩ ⟨⟨q,rfl,hv,h1⟩,h2⟩ u hu (mem_of_getElem? hv) ?_
   have:=(be hv).1
   exact Nat.add_lt_add_right (Nat.sub_lt_sub_left this (lt_succ_self q)) _
  |none=>
   have hp:fY sc ((u,j,q)::l)=fY sc l:=by rw [fY]; dsimp only; rw [hv]
   rw [hp]
   have hlen:=List.getElem?_eq_none_iff.mp hv
   have jU : ∀ v∈sc u,v∈fin:=λv hm=>by
    obtain ⟨i,hi⟩:=mem_iff_getElem?.mp hm
    exact h1 i v (am (be hi).1 hlen) hi
   have D':DI sc ks l seen (u::fin):=⟨⟨jU,D.tC u (.head _),D.jG⟩,λy=>by
     rw [D.sn y,map_cons,mem_cons,mem_cons]
     exact ⟨λz=>z.elim (λa=>.inl (.inr a)) λa=>a.elim (λb=>.inl (.inl b)) .inr,λz=>z.elim (λa=>a.elim (λb=>.inr (.inl b)) .inl) λa=>.inr (.inr a)⟩,
    λy hy z=>(bi z).elim (λe=>n1 (e ▸ hy)) (D.tC y (.tail _ hy)),D.k6,D.snd⟩
   have ih:=ih D' ((h2.mono λy hy=>.tail _ hy).Gw (.head _)) n2
   induction hq:fY sc l with
   |none=>rw [hq] at ih; cases ih with|none f d=>exact .none f d
   |some w=>
    rw [hq] at ih
    cases ih with
    |some v mF f d c u' Pp Pr le=>exact .some v mF f d c u' Pp Pr (am le (le_add_left _ _))
end
theorem So {v:D} : ∀ {l:List (Int × D)} {k:Int},k ∉ l.map (·.1)->putL k v l=l++[(k,v)]:=λ{l}=>by
 induction l with
 |nil=>
  intro _ _
  exact rfl
 |cons e l ih=>
  intro k h
  show (if (e.1==k)=true then _ else e::putL k v l)=_
  rw [if_neg (by rw [beq_false_of_ne λz:e.1=k=>h (z ▸ .head _)]; exact Bool.false_ne_true),ih λz=>h (.tail _ z)]; rfl
theorem FE : ∀ l:List Fr,(n2 l).length=l.length
 |[]=>rfl
 |t::l=>by rw [n2,length_append,FE l]; rfl
variable {rf:List Fr}
section
variable {J:ah}
theorem FM.len (M:FM C C' ks lc rf seen b J):C'.length=C.length+(J.length+4):=by rw [M.mem,length_append]; rfl
noncomputable def Gj:Ss:=(.cons (.expr (.bo (.var 4) .add (.cons (.var 6) .nil))) (.cons (.expr (.bo (.var 3) .append (.cons (.attr (.call (.cst (.bn .iter)) (.cons (.attr (.idx (.var 1) (.var 6)) .succ) .nil) .nil) .bX) .nil))) (.cons (.kr (.var 5) (.var 6) (.call (.cst (.bn .len)) (.cons (.var 2) .nil) .nil)) (.cons (.expr (.bo (.var 2) .append (.cons (.var 6) .nil))) .nil))))
theorem Sl (hf:cl.fuel≠0) (S:a6 C0 C rd p f ks lc np sc) (M:FM C C' ks lc rf seen b J) {x:Int} (hx:x∈ks) (hs:x ∉ seen) (hr:x ∉ rf.map (·.1)) (hl:seen.length<64) (q0:rf.length<64) (gw:small x=true) (hj : ∀ t∈rf,t.2.1<J.length) :
  ∃ C2,ax (PP r) cl Gj ⟨bK C0.length C.length (some (.int x)),C'⟩=.ok .next ⟨bK C0.length C.length (some (.int x)),C2⟩/\FM C C2 ks lc ((x,J.length,0)::rf) (seen++[x]) b (J++[.bq (.loc (lc x+1)) 0]):=by
 have hd : ∀ {X:ah},g9 (C++X) (.loc (C0.length+1)) (.int x)=some (.loc (lc x)):=λ{X}=>uz (S.app X) hx
 have hlen:=M.len
 have eX:=M.mem
 have e1:ev (PP r) cl (.bo (.var 4) .add (.cons (.var 6) .nil)) ⟨bK C0.length C.length (some (.int x)),C'⟩=.ok .none ⟨bK C0.length C.length (some (.int x)),C++(.list (fst rf)::.list (eJ C.length rf)::.set (seen++[x])::.dict b (n2 rf)::J)⟩:=by
  have h2:C'[C.length+2]?=some (.set seen):=by rw [eX]; exact lN
  refine gE (aw (d:=.loc (C.length+2)) rfl) (mk:=.oz) (show (C'[C.length+2]?).bind (lp .add)=_ by rw [h2]; rfl) (b9 (aw (d:=.int x) rfl)) ?_
  show aL (pX C' (C.length+2)) (λes=>bJ (decide (es.length<64)) (.ok .none ⟨bK C0.length C.length (some (.int x)),C'.set (C.length+2) (.set (if es.contains x then es else es++[x]))⟩))=_
  rw [show pX C' (C.length+2)=some seen by unfold pX; rw [h2]]
  show bJ (decide (seen.length<64)) _=_
  rw [decide_eq_true hl,if_neg (λz=>hs (contains_iff_mem.mp z)),eX]
  show ak.ok _ ⟨_,_⟩=_
  rw [sr]; rfl
 have e2:ev (PP r) cl (.attr (.call (.cst (.bn .iter)) (.cons (.attr (.idx (.var 1) (.var 6)) .succ) .nil) .nil) .bX) ⟨bK C0.length C.length (some (.int x)),C++(.list (fst rf)::.list (eJ C.length rf)::.set (seen++[x])::.dict b (n2 rf)::J)⟩ =
   .ok (.bm .bX (.loc (C.length+(J.length+4)))) ⟨bK C0.length C.length (some (.int x)),C++(.list (fst rf)::.list (eJ C.length rf)::.set (seen++[x])::.dict b (n2 rf)::(J++[.bq (.loc (lc x+1)) 0]))⟩:=by
  have ha : ∀ {X:ah},bW (C++X) (.loc (lc x+1))=some ((sc x).map .int):=λ{X}=>by unfold bW; dsimp only; rw [(S.app X).succ x hx]
  refine cH (x:=.loc (C.length+(J.length+4))) (dT (g:=.bn .iter) rfl (b9 (cH (dW (aw (d:=.loc (C0.length+1)) rfl) (aw (d:=.int x) rfl) hd) (j6 ((S.app _).info x hx)).2.2)) ((fx hf).trans ?_)) ?_
  ·show aL (bW (C++_) (.loc (lc x+1))) _=_
   rw [ha]
   show ak.ok (D.loc (C++_).length) ⟨_,(C++_)++[_]⟩=_
   rw [length_append,append_assoc]; rfl
  ·show (_:Option Ch).bind _=_
   rw [lN]
   show ((J++[Ch.bq (.loc (lc x+1)) 0])[J.length]?).bind _=_
   rw [d8]
   show (if (a9 (C++_) (.loc (lc x+1))).isSome then _ else _)=_
   rw [show a9 (C++(.list (fst rf)::.list (eJ C.length rf)::.set (seen++[x])::.dict b (n2 rf)::(J++[.bq (.loc (lc x+1)) 0]))) (.loc (lc x+1))=some ((sc x).map .int) by unfold a9; dsimp only; rw [(S.app _).succ x hx]]; rfl
 have e3:ki (.loc (C.length+3)) (.int x) (.int (rf.length:Nat)) (C++(.list (fst rf)::.list (eJ C.length rf++[.bm .bX (.loc (C.length+(J.length+4)))])::.set (seen++[x])::.dict b (n2 rf)::(J++[.bq (.loc (lc x+1)) 0]))) =
   some (C++(.list (fst rf)::.list (eJ C.length rf++[.bm .bX (.loc (C.length+(J.length+4)))])::.set (seen++[x])::.dict b (n2 rf++[(x,.int (rf.length:Nat))])::(J++[.bq (.loc (lc x+1)) 0]))):=by
  rw [GU (lN (i:=3)) (by rw [FE]; exact q0) gw,So λz=>hr (rS.mp z),sr]; rfl
 have e4 : ∀ {X:ah},ev (PP r) cl (.call (.cst (.bn .len)) (.cons (.var 2) .nil) .nil) ⟨bK C0.length C.length (some (.int x)),C++(.list (fst rf)::X)⟩=.ok (.int (rf.length:Nat)) ⟨bK C0.length C.length (some (.int x)),C++(.list (fst rf)::X)⟩:=λ{X}=>
  dT (g:=.bn .len) rfl (b9 (aw (d:=.loc C.length) rfl)) ((fx hf).trans (by
   show aL ((_:Option Ch).bind Fp) _=_
   rw [d8]
   show ak.ok (D.int ((fst rf).length:Nat)) _=_
   unfold fst; rw [length_reverse,length_map]))
 have lf:(fst rf).length=rf.length:=by unfold fst; rw [length_reverse,length_map]
 have lt:(eJ C.length rf).length=rf.length:=by unfold eJ; rw [length_reverse,length_map]
 have nM:rf.length<aH:=ii q0 (by decide)
 have a1:=tH (P:=PP r) (cl:=cl) (v:=3) (i:=C.length+1) (m:=bK C0.length C.length (some (.int x))) rfl oQ e2 oQ (by rw [lt]; exact nM)
 rw [GX] at a1
 have a2:=tH (P:=PP r) (cl:=cl) (v:=2) (i:=C.length) (e:=.var 6) (d:=.int x) (m:=bK C0.length C.length (some (.int x))) (C:=C++(.list (fst rf)::.list (eJ C.length rf++[.bm .bX (.loc (C.length+(J.length+4)))])::.set (seen++[x])::.dict b (n2 rf++[(x,.int (rf.length:Nat))])::(J++[.bq (.loc (lc x+1)) 0]))) rfl d8 (aw rfl) d8 (by rw [lf]; exact nM)
 rw [pY] at a2
 refine ⟨_,a8 (jb e1) (a8 a1 (a8 (xk e4 (aw (d:=.loc (C.length+3)) rfl) (aw (d:=.int x) rfl) e3) (ct a2))),?_,λt h=>?_,?_,?_⟩
 ·unfold fst eJ; rw [map_cons,map_cons,reverse_cons,reverse_cons]; rfl
 ·rcases bi h with rfl|h
  ·exact ⟨hx,d8⟩
  ·exact ⟨(M.mv t h).1,eR (M.mv t h).2⟩
 ·rw [map_cons,nodup_cons]
  exact ⟨λz=>by obtain ⟨t,ht,e⟩:=mem_map.mp z; exact ne_of_lt (hj t ht) e,M.yX⟩
 ·rw [map_cons,nodup_cons]; exact ⟨hr,M.mL⟩
theorem FM.lt (M:FM C C' ks lc rf seen b J) : ∀ t∈rf,t.2.1<J.length:=λt h=>(be (M.mv t h).2).1
end
variable {a7:ah->ah->Bool}
section
variable {f:St->ak Fl} {m1:List (Option D)}
theorem MU (h1:iE t d m=some m1) (h2:f ⟨m1,C⟩=.ok .cont aa) (h3:a7 C aa.C=true):forLoop a7 t f (d::ds) ⟨m,C⟩=forLoop a7 t f ds aa:=by
 rw [xA,h1]; dsimp only; rw [h2]; dsimp only; rw [if_pos h3]
theorem MV {v:D} (h1:iE t d m=some m1) (h2:f ⟨m1,C⟩=.ok (.ret v) aa):forLoop a7 t f (d::ds) ⟨m,C⟩=.ok (.ret v) aa:=by
 rw [xA,h1]; dsimp only; rw [h2]
theorem A7 {g:Int->Nat} : ∀ l:List Int,oS (l.map λk=>(k,D.loc (g k))) (l.map λk=>(k,D.loc (g k)))=true
 |[]=>rfl
 |x::l=>by
  show (x==x&&((some (g x):Option Nat)==some (g x))&&oS (l.map λk=>(k,D.loc (g k))) (l.map λk=>(k,D.loc (g k))))=true
  rw [A7 l,beq_self_eq_true,beq_self_eq_true]; rfl
theorem Aa {A B:ah} (h:A[j]?=some (.dict true (l.map λk=>(k,.loc (g k))))) (h':B[j]?=some (.dict true (l.map λk=>(k,.loc (g k))))):br A B (.loc j)=true:=by
 show kj A B j=true
 unfold kj
 rw [h,h']; exact A7 l
end
section
variable {fin:List Int} {J:ah} {x:Int}
theorem Rf:(n2 rf).any (λe=>e.1==x)=decide (x∈rf.map (·.1)):=by
 rw [Bool.eq_iff_iff,any_eq_true,decide_eq_true_eq,<-rS,mem_map]
 exact ⟨λ⟨e,h1,h2⟩=>⟨e,h1,im h2⟩,λ⟨e,h1,h2⟩=>⟨e,h1,beq_iff_eq.mpr h2⟩⟩
theorem FF : ∀ {l:List Fr},x∈l.map (·.1)->(l.map (·.1)).Nodup->∃ q:Nat,q<l.length/\(n2 l).lookup x=some (.int q)
 |t::l,h,hn=>by
  obtain ⟨n1,Rd⟩:=nodup_cons.mp hn
  by_cases e:x=t.1
  ·exact ⟨l.length,lt_succ_self _,by rw [n2,<-e]; exact Ft λz=>n1 (by rw [e] at z; exact rS.mp z)⟩
  ·obtain ⟨q,h1,h2⟩:=FF ((bi h).resolve_left e) Rd
   exact ⟨q,lt_succ_of_lt h1,by rw [n2,List.lookup_append,h2]; rfl⟩
theorem xh (M:FM C C' ks lc rf seen b J):ev (PP r) cl (.cmp .ez (.var 6) (.var 4)) ⟨bK C0.length C.length (some (.int x)),C'⟩=.ok (.bool (seen.contains x)) ⟨bK C0.length C.length (some (.int x)),C'⟩:=
 b7 (x:=.int x) (y:=.loc (C.length+2)) (aw rfl) (aw rfl) (by show (C'[C.length+2]?).bind _=_; rw [M.mem,lN]; rfl)
theorem De (M:FM C C' ks lc rf seen b J):ev (PP r) cl (.cmp .ez (.var 6) (.var 5)) ⟨bK C0.length C.length (some (.int x)),C'⟩=.ok (.bool (decide (x∈rf.map (·.1)))) ⟨bK C0.length C.length (some (.int x)),C'⟩:=
 b7 (x:=.int x) (y:=.loc (C.length+3)) (aw rfl) (aw rfl) (by
  show (C'[C.length+3]?).bind _=_
  rw [M.mem,lN]
  show some ((n2 rf).any λe=>e.1==x)=_
  rw [Rf])
theorem SK (M:FM C C' ks lc rf seen b J) (hx:x∈rf.map (·.1)) (hl:rf.length<64) : ∃ l,l≠[]/\ev (PP r) cl (.bin .add (.slice (.var 2) (.idx (.var 5) (.var 6)) (.cst .none)) (.list (.cons (.var 6) .nil))) ⟨bK C0.length C.length (some (.int x)),C'⟩=.ok (.lst l) ⟨bK C0.length C.length (some (.int x)),C'⟩:=by
 obtain ⟨q,h1,h2⟩:=FF hx M.mL
 have lf:(fst rf).length=rf.length:=by unfold fst; rw [length_reverse,length_map]
 have e1:p6 C' (.loc C.length) (.int q) .none=some (.lst (gQ (fst rf) (min q (fst rf).length) (fst rf).length)):=by
  exact GZ (by unfold a9; dsimp only; rw [M.mem,d8]) (λb z=>(nomatch z)) (Br (ii (ii h1 hl) (by decide))) Bs
 refine ⟨gQ (fst rf) (min q (fst rf).length) (fst rf).length++[.int x],List.append_ne_nil_of_right_ne_nil _ (List.cons_ne_nil _ _),cg (Dh (aw (d:=.loc C.length) rfl) (dW (aw (d:=.loc (C.length+3)) rfl) (aw (d:=.int x) rfl) (z:=.int q) ?_) rfl e1) (y:=.lst [.int x]) rfl ?_⟩
 ·show (C'[C.length+3]?).bind _=_
  rw [M.mem,lN]; exact h2
 ·show (if (gQ (fst rf) (min q (fst rf).length) (fst rf).length).length+[D.int x].length<=aH then some (D.lst (gQ (fst rf) (min q (fst rf).length) (fst rf).length++[.int x])) else none)=_
  refine if_pos (an (add_le_add_right (an (List.length_take_le _ _) (an (sub_le _ _) (le_of_eq lf))) 1) (an hl (by decide)))
inductive AP (r:List Fn) (cl:Calls) (C0 C:ah) (ks:List Int) (lc:Int->Nat) (sc:Int->List Int) (x:Int) (seen fin:List Int) (M:Nat) (st:St):Prop
 |mk (mG:List Fr) (oC:List Int) (C1:ah) (b:Bool) (J1:ah)
   (e:ex (PP r) cl (.ifs (.cmp .ez (.var 6) (.var 4)) (.cons (.ifs (.cmp .ez (.var 6) (.var 5)) (.cons (.ret (.bin .add (.slice (.var 2) (.idx (.var 5) (.var 6)) (.cst .none)) (.list (.cons (.var 6) .nil)))) .nil) .nil) .nil) Gj) st=.ok .next ⟨bK C0.length C.length (some (.int x)),C1⟩)
   (F:FM C C1 ks lc mG oC b J1) (D:DI sc ks mG oC fin) (R:vO sc fin mG) (le:lu sc mG+gc sc oC ks<=M) (sub : ∀ y∈seen,y∈oC) (hx:x∈oC):AP r cl C0 C ks lc sc x seen fin M st
theorem Wk (hf:cl.fuel≠0) (S:a6 C0 C rd p f ks lc np sc) (bO:ks.length<64) (gw : ∀ k∈ks,small k=true) (M:FM C C' ks lc rf seen b J) (D:DI sc ks rf seen fin) (h:iw sc fin x rf) (hx:x∈ks) (hr : ¬ (x∈seen/\x∈rf.map (·.1))) :
  AP r cl C0 C ks lc sc x seen fin (lu sc rf+gc sc seen ks) ⟨bK C0.length C.length (some (.int x)),C'⟩:=by
 have hi:=xh (r:=r) (cl:=cl) (C0:=C0) (x:=x) M
 by_cases hs:x∈seen
 ·have hr:x ∉ rf.map (·.1):=λz=>hr ⟨hs,z⟩
  rw [contains_iff_mem.mpr hs] at hi
  have ho:=De (r:=r) (cl:=cl) (C0:=C0) (x:=x) M
  rw [decide_eq_false hr] at ho
  exact ⟨rf,seen,C',b,J,mq hi rfl (ct (dZ ho rfl rfl)),M,D,h.Gw (((D.sn x).mp hs).resolve_right hr),le_refl _,λ_ z=>z,hs⟩
 ·rw [eq_false_of_ne_true λz=>hs (contains_iff_mem.mp z)] at hi
  have hr:x ∉ rf.map (·.1):=λz=>hs ((D.sn x).mpr (.inr z))
  have rr:rf.length<=ks.length:=by rw [<-length_map (f:=λt:Fr=>t.1)]; exact dg M.mL λy hy=>D.k6 y ((D.sn y).mpr (.inr hy))
  obtain ⟨C2,e,M'⟩:=Sl (r:=r) hf S M hx hs hr (al (dg D.snd D.k6) bO) (al rr bO) (gw x hx) M.lt
  refine ⟨_,_,C2,b,_,dZ hi rfl e,M',⟨D.jG,λy=>?_,λy hy=>?_,λy hy=>?_,?_⟩,⟨λi v z=>absurd z (not_lt_zero _),h⟩,?_,λy=>mem_append_left _,mem_append_right _ (.head _)⟩
  ·rw [mem_append,D.sn y,mem_singleton,map_cons,mem_cons,or_assoc]
   exact or_congr_right or_comm
  ·rw [map_cons,mem_cons] at hy
   rcases hy with rfl|hy
   ·exact λz=>hs ((D.sn _).mpr (.inl z))
   ·exact D.tC y hy
  ·exact (mem_append.mp hy).elim (D.k6 y) λz=>ca z ▸ hx
  ·rw [nodup_append]
   exact ⟨D.snd,nodup_cons.mpr ⟨not_mem_nil,nodup_nil⟩,λa ha c hc z=>hs (by rw [<-mem_singleton.mp hc,<-z]; exact ha)⟩
  ·rw [HK (sc:=sc) hs S.nd hx,lu,sub_zero,add_comm (sc x).length,add_assoc,add_comm (sc x).length]
   exact add_le_add_left (add_le_add_left (le_succ _) _) _
inductive fM (C0 C:ah) (ks:List Int) (lc:Int->Nat) (sc:Int->List Int) (xs seen:List Int) (o:ak Fl):Prop
 |ret (l:List D) (m':List (Option D)) (E:ah) (e:o=.ok (.ret (.lst l)) ⟨m',C++E⟩) (hl:l≠[]) (d9 : ∃ u,i5 sc u u):fM C0 C ks lc sc xs seen o
 |next (x6:Option D) (oB iI:List Int) (C2:ah) (b:Bool) (J:ah) (e:o=.ok .next ⟨bK C0.length C.length x6,C2⟩) (M:FM C C2 ks lc [] oB b J) (D:DI sc ks [] oB iI) (sub : ∀ y∈seen,y∈oB) (hx : ∀ x∈xs,x∈oB):fM C0 C ks lc sc xs seen o
theorem fM.from {HM oB:List Int} {o:ak Fl} (h:fM C0 C ks lc sc xs seen o) (hs : ∀ y∈oB,y∈seen) (hx : ∀ x∈HM,x∈xs\/x∈seen):fM C0 C ks lc sc HM oB o:=by
 induction h using fM.casesOn with
 |ret l m' E e hl d9=>exact .ret l m' E e hl d9
 |next x6 s1 f1 C2 b J e M D sub h=>exact .next x6 s1 f1 C2 b J e M D (λy z=>sub y (hs y z)) λx z=>(hx x z).elim (h x) (sub x)
theorem LD (hf:64<cl.fuel) (S:a6 C0 C rd p f ks lc np sc) (bO:ks.length<64) (gw : ∀ k∈ks,small k=true) (dY : ∀ k∈ks,∀ v∈sc k,v∈ks) : ∀ (k:Nat) {x:Int} {rf:List Fr} {seen fin:List Int} {C':ah} {b:Bool} {J:ah},FM C C' ks lc rf seen b J->DI sc ks rf seen fin->iw sc fin x rf->x∈ks->lu sc rf+gc sc seen ks<k->
  fM C0 C ks lc sc [x] seen (whileLoop (λaa=>ev (PP r) cl (.cst (.bool true)) aa) (λaa=>ax (PP r) cl w3 aa) (λaa=>ax (PP r) cl .nil aa) k ⟨bK C0.length C.length (some (.int x)),C'⟩):=λk=>by
 induction k with
 |zero=>
  intro x rf seen fin C' b J M D h hx hk
  exact absurd hk (not_lt_zero _)
 |succ k ih=>
  intro x rf seen fin C' b J M D h hx hk
  have dj:cl.fuel≠0:=λz=>by rw [z] at hf; exact not_lt_zero _ hf
  by_cases hr:x∈seen/\x∈rf.map (·.1)
  ·have rr:rf.length<=ks.length:=by rw [<-length_map (f:=λt:Fr=>t.1)]; exact dg M.mL λy hy=>D.k6 y ((D.sn y).mpr (.inr hy))
   obtain ⟨l,hl,e⟩:=SK (r:=r) (cl:=cl) (C0:=C0) M hr.2 (al rr bO)
   have hi:=xh (r:=r) (cl:=cl) (C0:=C0) (x:=x) M
   rw [contains_iff_mem.mpr hr.1] at hi
   have ho:=De (r:=r) (cl:=cl) (C0:=C0) (x:=x) M
   rw [decide_eq_true hr.2] at ho
   obtain ⟨t,ht,e1⟩:=mem_map.mp hr.2
   refine .ret l (bK C0.length C.length (some (.int x))) _ (Hy (d:=.bool true) rfl rfl (jR (mq hi rfl (ct (mq ho rfl (by rw [<-M.mem]; exact kg e)))))) hl ⟨x,?_⟩
   have:=h.path t ht
   rw [e1] at this; exact this
  ·obtain ⟨mG,oC,C1,b1,J1,e,F,D1,R,le,sub,ET⟩:=Wk (r:=r) dj S bO gw M D h hx hr
   have rr:mG.length<=ks.length:=by rw [<-length_map (f:=λt:Fr=>t.1)]; exact dg F.mL λy hy=>D1.k6 y ((D1.sn y).mpr (.inr hy))
   have hp:=Gf (r:=r) S (a:=C0.length) (x6:=some (.int x)) dj mG F (k:=cl.fuel) (al rr (ii bO hf))
   have hi:=Sh D1 R F.mL
   induction hq:fY sc mG with
   |none=>
    rw [hq] at hp hi
    cases hi with
    |none iI D2=>
    cases hp with
    |none C2 b2 J2 e2 M2=>
    exact .next (some (.int x)) oC iI C2 b2 J2 (Hw (d:=.bool true) rfl rfl (a8 e (xm e2))) M2 D2 sub λy hy=>ca hy ▸ ET
   |some w=>
    rw [hq] at hp hi
    cases hi with
    |some v mF iI D2 c u hu hv lt=>
    cases hp with
    |some v mF C2 b2 J2 e2 M2=>
    have ih:=ih M2 D2 c (dY u hu v hv) (am (Nat.add_lt_add_right lt _) (an le (mt hk)))
    have step:=sJ (cc:=λaa=>ev (PP r) cl (.cst (.bool true)) aa) (f:=λaa=>ax (PP r) cl w3 aa) (eU:=λaa=>ax (PP r) cl .nil aa) (n:=k) (d:=.bool true) (st:=⟨bK C0.length C.length (some (.int x)),C'⟩) rfl rfl (a8 e (ct e2))
    rw [step]
    exact ih.from sub λy hy=>.inr (ca hy ▸ ET)
end
variable {tests:St->ak D} {inner:List D->St->ak D}
theorem Nk {g f:α->D} {p:α->Bool} (hc:a7 C C=true) :
  ∀ {xs:List α} {acc:List D},(∀ x∈xs,tests ⟨m++[some (g x)],C⟩=.ok (.bool (p x)) ⟨m++[some (g x)],C⟩)->
  (∀ x∈xs,p x=true->∀ bu,bu.length<acc.length+xs.length->inner bu ⟨m++[some (g x)],C⟩=.ok (.lst (bu++[f x])) ⟨m++[some (g x)],C⟩)->
  eh (.one m.length) (cw tests inner) a7 (xs.map g) acc ⟨m,C⟩=.ok (.lst (acc++(xs.filter p).map f)) ⟨m,C⟩:=λ{xs}=>by
 induction xs with
 |nil=>
  intro acc _ _
  show ak.ok (D.lst acc) _=.ok (.lst (acc++[])) _
  rw [append_nil]
 |cons x xs ih=>
  intro acc h1 h2
  have e1:jL (.one m.length) (g x) ⟨m++replicate (T.one m.length).width none,C⟩=.ok () ⟨m++[some (g x)],C⟩:=by
   refine (oD (show m.length<(m++[none]).length by rw [length_append]; exact lt_succ_self _)).trans ?_
   show ak.ok () ⟨(m++[none]).set m.length _,C⟩=_
   rw [set_append_right _ _ (le_refl _),sub_self]; rfl
  have step : ∀ bu,cw tests inner acc ⟨m++[some (g x)],C⟩=.ok (.lst bu) ⟨m++[some (g x)],C⟩->eh (.one m.length) (cw tests inner) a7 ((x::xs).map g) acc ⟨m,C⟩=eh (.one m.length) (cw tests inner) a7 (xs.map g) bu ⟨m,C⟩:=λbu h=>by
   show (match jL (.one m.length) (g x) ⟨m++replicate (T.one m.length).width none,C⟩ with
    |.ok _ aa=>match cw tests inner acc aa with
     |.ok (.lst bu) ae=>if a7 C ae.C then eh (.one m.length) (cw tests inner) a7 (xs.map g) bu ⟨ae.m.take m.length,ae.C⟩ else .fail
     |_=>.fail
    |_=>.fail)=_
   rw [e1]; dsimp only; rw [h]; dsimp only; rw [if_pos hc,take_left' rfl]
  induction hp:p x with
  |true=>
   rw [step (acc++[f x]) (by unfold cw; rw [h1 x (.head _),hp]; exact h2 x (.head _) hp acc (Nat.lt_add_of_pos_right (succ_pos _))),
    ih (λy hy=>h1 y (.tail _ hy)) (λy hy hq bu hl=>h2 y (.tail _ hy) hq bu (by rw [length_append,add_assoc,add_comm [f x].length] at hl; exact hl)),
    filter_cons,hp,if_pos rfl,map_cons,append_assoc]; rfl
  |false=>
   rw [step acc (by unfold cw; rw [h1 x (.head _),hp]),ih (λy hy=>h1 y (.tail _ hy)) (λy hy hq bu hl=>h2 y (.tail _ hy) hq bu (lt_succ_of_lt hl)),filter_cons,hp,if_neg Bool.false_ne_true]
theorem fM.eq {o o':ak Fl} (e:o=o') (h:fM C0 C ks lc sc xs seen o'):fM C0 C ks lc sc xs seen o:=e ▸ h
theorem WE : ∀ {l:List Int},(∀ k∈l,(sc k).length<64)->gc sc seen l<=l.length*64:=λ{l}=>by
 induction l with
 |nil=>
  intro _
  exact zero_le _
 |cons k l ih=>
  intro h
  rw [gc,length_cons,succ_mul,add_comm]
  refine add_le_add (ih λy hy=>h y (.tail _ hy)) ?_
  split
  ·exact zero_le _
  ·exact h k (.head _)
theorem MH (hf:5000<cl.fuel) (S:a6 C0 C rd p f ks lc np sc) (bO:ks.length<64) (gw : ∀ k∈ks,small k=true) (dY : ∀ k∈ks,∀ v∈sc k,v∈ks) (rC : ∀ k∈ks,(sc k).Nodup) : ∀ (xs:List Int) {seen fin:List Int} {C':ah} {b:Bool} {J:ah} {x6:Option D},(∀ x∈xs,x∈ks)->FM C C' ks lc [] seen b J->DI sc ks [] seen fin->
  fM C0 C ks lc sc xs seen (forLoop (λA B=>br A B (.loc (C0.length+1))) (.one 6) (λae=>ax (PP r) cl w4 ae) (xs.map .int) ⟨bK C0.length C.length x6,C'⟩):=λxs=>by
 induction xs with
 |nil=>
  intro seen fin C' b J x6 _ M D
  exact .next x6 seen fin C' b J rfl M D (λ_ z=>z) λx z=>(nomatch z)
 |cons x xs ih=>
  intro seen fin C' b J x6 h M D
  have hi:=xh (r:=r) (cl:=cl) (C0:=C0) (x:=x) M
  have hd : ∀ {X:ah},(C++X)[C0.length+1]?=some (.dict true (ks.map λk=>(k,.loc (lc k)))):=λ{X}=>(S.app X).dict
  by_cases hs:x∈seen
  ·rw [contains_iff_mem.mpr hs] at hi
   have ih:=ih (x6:=some (.int x)) (λy hy=>h y (.tail _ hy)) M D
   refine fM.eq (MU (m1:=bK C0.length C.length (some (.int x))) (aa:=⟨bK C0.length C.length (some (.int x)),C'⟩) rfl (Dt (mq hi rfl (Dt rfl))) (by rw [M.mem]; exact Aa hd hd)) ?_
   exact ih.from (λ_ z=>z) λy hy=>(bi hy).elim (λe=>.inr (e ▸ hs)) .inl
  ·rw [eq_false_of_ne_true λz=>hs (contains_iff_mem.mp z)] at hi
   have hw:lu sc []+gc sc seen ks<cl.fuel:=by
    refine al ?_ hf
    rw [lu,zero_add]
    exact an (WE λk hk=>al (dg (rC k hk) (dY k hk)) bO) (an (Nat.mul_le_mul_right _ (ln bO)) (by decide))
   have N5:=LD (r:=r) (cl:=cl) (ii (by decide) hf) S bO gw dY cl.fuel M D (x:=x) trivial (h x (.head _)) hw
   induction N5 using fM.casesOn with
   |ret l m' E e hl d9=>exact .ret l m' E (MV (m1:=bK C0.length C.length (some (.int x))) rfl (a8 (dZ hi rfl rfl) (jR e))) hl d9
   |next eO s1 f1 C2 b2 J2 e M2 D2 sub hx=>
    have ih:=ih (x6:=eO) (λy hy=>h y (.tail _ hy)) M2 D2
    refine fM.eq (jd (m1:=bK C0.length C.length (some (.int x))) rfl (a8 (dZ hi rfl rfl) (ct e)) (by rw [M.mem,M2.mem]; exact Aa hd hd)) ?_
    exact ih.from sub λy hy=>(bi hy).elim (λe=>.inr (e ▸ hx x (.head _))) .inl
inductive sR (C:ah) (ks:List Int) (sc:Int->List Int) (o:ak D):Prop
 |ok (m':List (Option D)) (E:ah) (e:o=.ok .none ⟨m',C++E⟩) (fin:List Int) (T:fQ sc fin) (all : ∀ k∈ks,k∈fin):sR C ks sc o
 |d9 (l:List D) (m':List (Option D)) (E:ah) (e:o=.ok (.lst l) ⟨m',C++E⟩) (hl:l≠[]) (h : ∃ u,i5 sc u u):sR C ks sc o
theorem ME (hf:5000<fuel) (S:a6 C0 C rd p f ks lc np sc) (bO:ks.length<64) (gw : ∀ k∈ks,small k=true) (dY : ∀ k∈ks,∀ v∈sc k,v∈ks) (rC : ∀ k∈ks,(sc k).Nodup):sR C ks sc (aE (PP r) fuel (n+1) 16 [.inst 2 C0.length] [] C):=by
 have dj:fuel≠0:=λz=>by rw [z] at hf; exact not_lt_zero _ hf
 have hl:=MH (r:=r) (cl:=⟨aE (PP r) fuel n,fuel⟩) hf S bO gw dY rC ks (x6:=none) (λ_ h=>h) (seen:=[]) (fin:=[]) (b:=true) (J:=[]) ⟨rfl,λt h=>(nomatch h),nodup_nil,nodup_nil⟩ ⟨trivial,λy=>⟨λh=>(nomatch h),λh=>h.elim (λh=>(nomatch h)) λh=>(nomatch h)⟩,λy h=>(nomatch h),λy h=>(nomatch h),nodup_nil⟩
 have Gi : ∀ {o:ak Fl},ax (PP r) ⟨aE (PP r) fuel n,fuel⟩ Cw ⟨bK C0.length C.length none,C++[.list [],.list [],.set [],.dict true []]⟩=o->ax (PP r) ⟨aE (PP r) fuel n,fuel⟩ Cv ⟨[some (.inst 2 C0.length),none,none,none,none,none,none],C⟩=o:=λ{o} h=>by
  refine a8 (bU (cH (aw (d:=.inst 2 C0.length) rfl) (eG S.top).1) (lb rfl)) (a8 (qE (ds:=[]) rfl (lb rfl) rfl) (a8 (qE (ds:=[]) rfl (lb rfl) rfl) ?_))
  rw [append_assoc]
  refine a8 (bU (m:=[some (.inst 2 C0.length),some (.loc (C0.length+1)),some (.loc C.length),some (.loc (C++[Ch.list []]).length),none,none,none]) (d:=.loc (C++[Ch.list [],.list []]).length) (C:=C++[.list [],.list [],.set []]) (dT (g:=.bn .set) (ds:=[]) rfl rfl ((m6 dj).trans ?_)) (lb rfl)) ?_
  ·show ak.ok _ ⟨_,(C++[Ch.list [],.list []])++[.set []]⟩=_
   rw [append_assoc]; rfl
  refine a8 (bU (m:=[some (.inst 2 C0.length),some (.loc (C0.length+1)),some (.loc C.length),some (.loc (C++[Ch.list []]).length),some (.loc (C++[Ch.list [],.list []]).length),none,none]) (d:=.loc (C++[Ch.list [],.list [],.set []]).length) (C:=C++[.list [],.list [],.set [],.dict true []]) ?_ (lb rfl)) ?_
  ·show ak.ok _ ⟨_,(C++[Ch.list [],.list [],.set []])++[.dict true []]⟩=_
   rw [append_assoc]; rfl
  rw [length_append,length_append,length_append]
  exact h
 have hit : ∀ {x6:Option D} {X:ah},bV (C++X) (.loc (C0.length+1))=some (ks.map .int):=λ{x6 X}=>by
  show (_:Option Ch).bind pL=_
  rw [(S.app X).dict]
  show some ((ks.map λk=>(k,D.loc (lc k))).map λe=>D.int e.1)=_
  rw [map_map]; rfl
 have CS:=jc (P:=PP r) (cl:=⟨aE (PP r) fuel n,fuel⟩) (t:=.one 6) (it:=.var 1) (a:=w4) (st:=⟨bK C0.length C.length none,C++[.list [],.list [],.set [],.dict true []]⟩) dj (aw (d:=.loc (C0.length+1)) rfl) (hit (x6:=none))
 induction hl using fM.casesOn with
 |ret l m' E e hl d9=>exact .d9 l m' E (kc (Gi (jR (CS.trans e)))) hl d9
 |next x6 s1 f1 C2 b J e M D sub hx=>
  refine .ok (bK C0.length C.length x6) _ (kc (Gi (a8 (CS.trans e) (kg (d:=.none) (by rw [M.mem]; rfl))))) f1 D.jG λk hk=>((D.sn k).mp (hx k hk)).resolve_right λz=>(nomatch z)
variable {acc:List D}
theorem Mz {a b:E} (hf:cl.fuel≠0) (h1:ev P cl a st=.ok x aa) (h2:ev P cl b aa=.ok y ae):ex P cl (.sd a b) st=.exc .iG ae:=
 (v7 hf).trans ((aT h1).trans (aT h2))
theorem Mt {a:Nm} (he:ev P cl e st=.ok d aa) (hf:cN e=false) (ho:ev P cl o aa=.ok y ae) (hs:fG P y a d ae.C=some C'):ex P cl (.cW o a true e) st=.ok .next ⟨ae.m,C'⟩:=
 (aT (a:=d) (aa:=aa) ((aT he).trans (by rw [hf]; rfl))).trans ((aT ho).trans (aT (a:=()) (by rw [hs]; rfl)))
theorem o8 (h:ev P cl e st=.ok (.bool b) st):c9 P cl (.cons e .nil) st=.ok (.bool b) st:=by
 refine (aT h).trans ?_
 induction b<;>rfl
theorem tE {elt:St->ak D} (h:elt st=.ok x aa) (hl:acc.length<aH):fU P cl elt .nil acc st=.ok (.lst (acc++[x])) aa:=
 (aT h).trans (if_pos hl)
inductive sX (C0:ah) (p f:Int) (ks:List Int) (lc:Int->Nat) (np:Int->Int) (sc:Int->List Int) (o:ak D):Prop
 |ok (m':List (Option D)) (C':ah) (i:Nat) (e:o=.ok .none ⟨m',C'⟩) (S:a6 C0 C' (.loc i) p f ks lc np sc) (R:cK C0 C' ks lc i (ks.filter λk=>np k==0)) (fin:List Int) (T:fQ sc fin) (all : ∀ k∈ks,k∈fin):sX C0 p f ks lc np sc o
 |d9 (m':List (Option D)) (C':ah) (i:Nat) (e:o=.exc .iG ⟨m',C'⟩) (S:a6 C0 C' (.loc i) p f ks lc np sc) (R:cK C0 C' ks lc i (ks.filter λk=>np k==0)) (h : ∃ u,i5 sc u u):sX C0 p f ks lc np sc o
theorem Sk (hf:5000<fuel) (S:a6 C0 C .none p f ks lc np sc) (bO:ks.length<64) (gw : ∀ k∈ks,small k=true) (dY : ∀ k∈ks,∀ v∈sc k,v∈ks) (rC : ∀ k∈ks,(sc k).Nodup):sX C0 p f ks lc np sc (aE (PP r) fuel (n+2) 12 [.inst 2 C0.length] [] C):=by
 have dj:fuel≠0:=λz=>by rw [z] at hf; exact not_lt_zero _ hf
 have aZ:C0.length<C.length:=(be S.top).1
 have hv:ev (PP r) ⟨aE (PP r) fuel (n+1),fuel⟩ (.bo (.attr (.var 0) .cO) .values .nil) ⟨[some (.inst 2 C0.length),none],C⟩=.ok (.di (C0.length+1)) ⟨[some (.inst 2 C0.length),none],C⟩:=
  gE (cH (aw (d:=.inst 2 C0.length) rfl) (eG S.top).1) (mk:=.o6) (show (C[C0.length+1]?).bind (lp .values)=_ by rw [S.dict]; rfl) (ds:=[]) rfl (by
   show aL (dictAt C (C0.length+1)) _=_
   rw [show dictAt C (C0.length+1)=some (ks.map λk=>(k,.loc (lc k))) by unfold dictAt; rw [S.dict]]; rfl)
 have hit:bV C (.di (C0.length+1))=some (ks.map λk=>.loc (lc k)):=by
  show (C[C0.length+1]?).bind Ai=_
  rw [S.dict]
  show some ((ks.map λk=>(k,D.loc (lc k))).map λe=>e.2)=_
  rw [map_map]; rfl
 have hc:br C C (.di (C0.length+1))=true:=Aa S.dict S.dict
 have hg:=Nk (m:=[some (.inst 2 C0.length),none]) (C:=C) (g:=λk=>.loc (lc k)) (f:=D.int) (p:=λk=>np k==0) (tests:=λae=>c9 (PP r) ⟨aE (PP r) fuel (n+1),fuel⟩ (.cons (.cmp .eq (.attr (.var 2) .eN) (.cst (.int 0))) .nil) ae)
  (inner:=λacc ae=>fU (PP r) ⟨aE (PP r) fuel (n+1),fuel⟩ (λaK=>ev (PP r) ⟨aE (PP r) fuel (n+1),fuel⟩ (.attr (.var 2) .node) aK) .nil acc ae) (a7:=λA B=>br A B (.di (C0.length+1))) hc (xs:=ks) (acc:=[])
  (λk hk=>o8 (b7 (cH (aw (d:=.loc (lc k)) rfl) (j6 (S.info k hk)).2.1) rfl rfl))
  (λk hk _ bu hl=>tE (cH (aw (d:=.loc (lc k)) rfl) (j6 (S.info k hk)).1) (ii hl (ii (by rw [length_nil,zero_add]; exact bO) (by decide))))
 have t8:=xe (P:=PP r) (cl:=⟨aE (PP r) fuel (n+1),fuel⟩) (elt:=.attr (.var 2) .node) (ifs:=.cons (.cmp .eq (.attr (.var 2) .eN) (.cst (.int 0))) .nil) (g:=.nil) dj hv hit hg
 have S0:=S.app [Ch.list ((ks.filter λk=>np k==0).map .int)]
 have yz:=(zF (r:=r) (q:=0) (x:=.loc C.length) S0.top).1
 have S1:=S0.setTop (zy:=.loc C.length) (p':=p) (f':=f)
 have R1:cK C0 ((C++[Ch.list ((ks.filter λk=>np k==0).map .int)]).set C0.length (SA (C0.length+1) (.loc C.length) p f)) ks lc C.length (ks.filter λk=>np k==0):=
  ⟨fq d8 S0.top rfl,aZ,λk hk=>ne_of_lt (be (S.succ k hk)).1⟩
 have Og:=ME (r:=r) (n:=n) hf S1 bO gw dY rC
 have pre : ∀ {o:ak Fl},ax (PP r) ⟨aE (PP r) fuel (n+1),fuel⟩ CD ⟨[some (.inst 2 C0.length),none],(C++[Ch.list ((ks.filter λk=>np k==0).map .int)]).set C0.length (SA (C0.length+1) (.loc C.length) p f)⟩=o->ax (PP r) ⟨aE (PP r) fuel (n+1),fuel⟩ CE ⟨[some (.inst 2 C0.length),none],C⟩=o:=λh=>
  a8 (dZ (b7 (cH (aw (d:=.inst 2 C0.length) rfl) (eG S.top).2.1) rfl (z:=false) rfl) rfl rfl) (a8 (Dm t8 rfl (aw (d:=.inst 2 C0.length) rfl) yz) h)
 induction Og using sR.casesOn with
 |ok m' E e fin T all=>
  exact .ok [some (.inst 2 C0.length),some .none] _ C.length (u7 (pre (a8 (bU (nB (aw (d:=.inst 2 C0.length) rfl) (kh S1.top).2.2.2.2.2.2 (ds:=[]) rfl e) (lb rfl)) (ct (dZ (aw (d:=.none) rfl) rfl rfl))))) (S1.app E) ⟨eR R1.cell,R1.lo,R1.ne⟩ fin T all
 |d9 l m' E e hl h=>
  have ht:bH (((C++[Ch.list ((ks.filter λk=>np k==0).map .int)]).set C0.length (SA (C0.length+1) (.loc C.length) p f))++E) (.lst l)=some true:=by induction l using List.casesOn with|nil=>exact absurd rfl hl|cons a l=>rfl
  exact .d9 [some (.inst 2 C0.length),some (.lst l)] _ C.length (Sa (pre (a8 (bU (nB (aw (d:=.inst 2 C0.length) rfl) (kh S1.top).2.2.2.2.2.2 (ds:=[]) rfl e) (lb rfl)) (ct (mq (aw (d:=.lst l) rfl) ht (qH (Mz dj rfl (aw (d:=.lst l) rfl))))))))
   (S1.app E) ⟨eR R1.cell,R1.lo,R1.ne⟩ h
theorem Ro:m7 (PP r) ⟨aE (PP r) fuel (n+1),fuel⟩ (.cls 2) [] [] ⟨m,C⟩=.ok (.inst 2 C.length) ⟨m,C++[SA (C.length+1) .none 0 0,.dict true []]⟩:=by
 have hb : ∀ {x:D} {C':ah},aE (PP r) fuel (n+1) 9 [x] [] C'=dq (ax (PP r) ⟨aE (PP r) fuel n,fuel⟩ w5 ⟨[some x,some .none,none,none],C'⟩):=by intro x C'; kernel_rfl
 show nX (.inst 2 C.length) m (aE (PP r) fuel (n+1) 9 [.inst 2 C.length] [] (C++[.cL []]))=_
 rw [hb]
 have set : ∀ {es:List (Nm × D)} {E:ah} {a:Nm} {d:D},a.nZ=true->es.length<64->fG (PP r) (.inst 2 C.length) a d (C++.cL es::E)=some (C++.cL (putL a d es)::E):=λ{es E a d} ha hl=>by
  show (eQ (C++.cL es::E) C.length).bind _=_
  rw [show eQ (C++.cL es::E) C.length=some es by unfold eQ; rw [d8]]
  show (if (true&&a.nZ&&decide (es.length<64))=true then some ((C++.cL es::E).set C.length (.cL (putL a d es))) else none)=_
  rw [ha,decide_eq_true hl,pY]; rfl
 have e1:ev (PP r) ⟨aE (PP r) fuel n,fuel⟩ .nu ⟨[some (.inst 2 C.length),some .none,none,none],C++[.cL []]⟩=.ok (.loc (C.length+1)) ⟨[some (.inst 2 C.length),some .none,none,none],C++[.cL [],.dict true []]⟩:=by
  show ak.ok (D.loc (C++[Ch.cL []]).length) ⟨_,(C++[Ch.cL []])++[.dict true []]⟩=_
  rw [length_append,append_assoc]; rfl
 let M:List (Option D):=[some (.inst 2 C.length),some .none,none,none]
 let A:List (Nm × D)->ah:=λes=>C++.cL es::[.dict true []]
 have s1:ex (PP r) ⟨aE (PP r) fuel n,fuel⟩ (.cW (.var 0) .cO false .nu) ⟨M,C++[.cL []]⟩=.ok .next ⟨M,A [(.cO,.loc (C.length+1))]⟩:=kE (ae:=⟨M,_⟩) e1 (aw (d:=.inst 2 C.length) rfl) (set rfl (lb rfl))
 have s2:ex (PP r) ⟨aE (PP r) fuel n,fuel⟩ (.cW (.var 0) .cf true (.cst .none)) ⟨M,A [(.cO,.loc (C.length+1))]⟩=.ok .next ⟨M,A [(.cO,.loc (C.length+1)),(.cf,.none)]⟩:=
  Mt (ae:=⟨M,_⟩) (d:=.none) rfl rfl (aw (d:=.inst 2 C.length) rfl) (set rfl (lb rfl))
 have s3:ex (PP r) ⟨aE (PP r) fuel n,fuel⟩ (.cW (.var 0) .d4 false (.cst (.int 0))) ⟨M,A [(.cO,.loc (C.length+1)),(.cf,.none)]⟩=.ok .next ⟨M,A [(.cO,.loc (C.length+1)),(.cf,.none),(.d4,.int 0)]⟩:=
  kE (ae:=⟨M,_⟩) (d:=.int 0) rfl (aw (d:=.inst 2 C.length) rfl) (set rfl (lb rfl))
 have s4:ex (PP r) ⟨aE (PP r) fuel n,fuel⟩ (.cW (.var 0) .eM false (.cst (.int 0))) ⟨M,A [(.cO,.loc (C.length+1)),(.cf,.none),(.d4,.int 0)]⟩=.ok .next ⟨M,A [(.cO,.loc (C.length+1)),(.cf,.none),(.d4,.int 0),(.eM,.int 0)]⟩:=
  kE (ae:=⟨M,_⟩) (d:=.int 0) rfl (aw (d:=.inst 2 C.length) rfl) (set rfl (lb rfl))
 have h9:ax (PP r) ⟨aE (PP r) fuel n,fuel⟩ w5 ⟨M,C++[.cL []]⟩=.ok .next ⟨M,A [(.cO,.loc (C.length+1)),(.cf,.none),(.d4,.int 0),(.eM,.int 0)]⟩:=
  a8 s1 (a8 s2 (a8 s3 (a8 s4 (ct (dZ (b7 (aw (d:=.none) rfl) rfl (z:=false) rfl) rfl rfl)))))
 exact congrArg (nX (.inst 2 C.length) m) (u7 h9)
theorem Rp:a6 C (C++[SA (C.length+1) .none 0 0,.dict true []]) .none 0 0 [] (λ_=>0) (λ_=>0) (λ_=>[]):=
 ⟨prefix_append _ _,d8,oQ,λ_ h=>(nomatch h),λ_ h=>(nomatch h),λ_ h=>(nomatch h),nodup_nil,λ_ _=>⟨rfl,rfl⟩⟩
theorem Mn (h:ev P cl e st=.ok d aa):ev P cl (.list (.cons e .nil)) st=.ok (.lst [d]) aa:=by
 show (match bM P cl (.cons e .nil) st with
  |.ok (.lst ds) aa=>if ds.length<=aH then (ak.ok (D.lst ds) aa:ak D) else .fail
  |.exc x aa=>.exc x aa
  |_=>.fail)=_
 rw [b9 h]; exact if_pos (le_of_ble_eq_true rfl)
structure ir (nd:Int->List Int) (pre ks:List Int) (np:Int->Int) (sc:Int->List Int):Prop where
 kk : ∀ x,x∈ks↔x∈pre\/∃ j∈pre,x∈nd j
 nn : ∀ x,np x=if x∈pre then ((nd x).length:Int) else 0
 ss : ∀ x j,j∈sc x↔j∈pre/\x∈nd j
 gF : ∀ x,(sc x).Nodup
theorem QW {x:Int} : ∀ {l ks:List Int},x∈l.foldl eL ks↔x∈ks\/x∈l:=λ{l}=>by
 induction l with
 |nil=>
  intro ks
  exact ⟨.inl,λh=>h.resolve_right λz=>(nomatch z)⟩
 |cons q l ih=>
  intro ks
  rw [foldl_cons,ih,uX,mem_cons,or_assoc]
theorem AR {x:Int} : ∀ {l:List Int} {sc:Int->List Int},l.Nodup->qk sc node l x=if x∈l then sc x++[node] else sc x:=λ{l}=>by
 induction l with
 |nil=>
  intro sc _
  exact (if_neg not_mem_nil).symm
 |cons q l ih=>
  intro sc h
  obtain ⟨h1,h2⟩:=nodup_cons.mp h
  show qk (fK sc q (sc q++[node])) node l x=_
  rw [ih h2]
  by_cases e:x=q
  ·subst e; rw [if_neg h1,if_pos (.head _),il]
  ·rw [fi e]
   by_cases z:x∈l
   ·rw [if_pos z,if_pos (.tail _ z)]
   ·rw [if_neg z,if_neg λy=>(mem_cons.mp y).elim e z]
section
variable {pre:List Int}
theorem ir.add (B:ir nd pre ks np sc) {j:Int} (hj:j ∉ pre) (hn:(nd j).Nodup):ir nd (j::pre) ((nd j).foldl eL (eL ks j)) (fK np j (np j+(nd j).length)) (qk sc j (nd j)):=by
 refine ⟨λx=>?_,λx=>?_,λx k=>?_,λx=>?_⟩
 ·rw [QW,uX,B.kk]
  constructor
  ·rintro (((h|⟨k,h1,h2⟩)|h)|h)
   ·exact .inl (.tail _ h)
   ·exact .inr ⟨k,.tail _ h1,h2⟩
   ·exact .inl (h ▸ .head _)
   ·exact .inr ⟨j,.head _,h⟩
  ·rintro (h|⟨k,h1,h2⟩)
   ·exact (bi h).elim (λe=>.inl (.inr e)) λh=>.inl (.inl (.inl h))
   ·exact (bi h1).elim (λe=>.inr (e ▸ h2)) λh=>.inl (.inl (.inr ⟨k,h,h2⟩))
 ·by_cases e:x=j
  ·subst e; rw [il,B.nn,if_neg hj,if_pos (.head _),Int.zero_add]
  ·rw [fi e,B.nn]
   by_cases h:x∈pre
   ·rw [if_pos h,if_pos (.tail _ h)]
   ·rw [if_neg h,if_neg λz=>(mem_cons.mp z).elim e h]
 ·rw [AR hn]
  by_cases h:x∈nd j
  ·rw [if_pos h,mem_append,B.ss,mem_singleton,mem_cons]
   exact ⟨λz=>z.elim (λ⟨a,b⟩=>⟨.inr a,b⟩) λe=>⟨.inl e,e ▸ h⟩,λ⟨a,b⟩=>a.elim .inr λa=>.inl ⟨a,b⟩⟩
  ·rw [if_neg h,B.ss,mem_cons]
   exact ⟨λ⟨a,b⟩=>⟨.inr a,b⟩,λ⟨a,b⟩=>⟨a.resolve_left λe=>h (e ▸ b),b⟩⟩
 ·rw [AR hn]
  split
  ·rw [nodup_append]
   exact ⟨B.gF x,nodup_cons.mpr ⟨not_mem_nil,nodup_nil⟩,λa ha b hb z=>hj (by rw [<-mem_singleton.mp hb,<-z]; exact ((B.ss x a).mp ha).1)⟩
  ·exact B.gF x
theorem ir.nil:ir nd [] [] (λ_=>0) (λ_=>[]):=
 ⟨λx=>⟨λh=>(nomatch h),λh=>h.elim (λh=>(nomatch h)) λ⟨_,h,_⟩=>(nomatch h)⟩,λx=>(if_neg not_mem_nil).symm,λx j=>⟨λh=>(nomatch h),λh=>(nomatch h.1)⟩,λ_=>nodup_nil⟩
theorem ir.gr (B:ir nd pre ks np sc) (hn : ∀ j∈pre,(nd j).Nodup) (hi : ∀ j∈pre,∀ q∈nd j,q∈pre):(∀ x,x∈ks↔x∈pre)/\Gr nd ks sc:=by
 have hk : ∀ x,x∈ks↔x∈pre:=λx=>(B.kk x).trans ⟨λh=>h.elim id λ⟨j,a,b⟩=>hi j a x b,.inl⟩
 exact ⟨hk,λk h=>hn k ((hk k).mp h),λk h q hq=>(hk q).mpr (hi k ((hk k).mp h) q hq),λk _=>B.gF k,λk _ j=>by rw [B.ss,hk]⟩
theorem ir.run (B:ir nd pre ks np sc) (hk : ∀ x,x∈ks↔x∈pre) (gv:ks.Nodup):fP nd ks [] [] (ks.filter λk=>np k==0) np:=by
 have hv : ∀ k∈ks,np k=((nd k).length:Int):=λk h=>by rw [B.nn,if_pos ((hk k).mp h)]
 refine ⟨trivial,λ_ h=>(nomatch h),λ_ h=>(nomatch h),λk h _ _=>?_,λk=>?_,gv.filter _⟩
 ·rw [hv k h]; exact congrArg (λl:List Int=>((l.length:Nat):Int)) (filter_eq_self.mpr λ_ _=>rfl).symm
 ·rw [mem_filter]
  constructor
  ·rintro ⟨h,e⟩
   refine ⟨h,not_mem_nil,not_mem_nil,λq hq=>?_⟩
   rw [hv k h,beq_iff_eq] at e
   rw [List.eq_nil_of_length_eq_zero (ofNat.inj e)] at hq
   exact hq
  ·rintro ⟨h,_,_,e⟩
   refine ⟨h,?_⟩
   rw [hv k h,List.eq_nil_iff_forall_not_mem.mpr λq hq=>(nomatch e q hq)]; rfl
end
variable {hs:List Int}
section
variable {held:Int}
structure mT (C0 C:ah) (ks:List Int) (lc:Int->Nat) (sc nd:Int->List Int) (i:Nat) (held:Int) (dn bt hs:List Int):Prop where
 ex : ∃ p f np,a6 C0 C (.loc i) p f ks lc np sc/\fP nd ks dn (bt++hs) [] np/\p=f+(bt++hs).length
 jD:cK C0 C ks lc i []
 gF:(bt++hs).Nodup
 hs : ∀ h∈hs,h=held
 bt:held ∉ bt
 dh:held ∉ dn
theorem A4 (aC:cl=⟨aE (PP r) fuel (n+2),fuel⟩) (hf:fuel≠0) (dE:64<fuel) (bO:ks.length<64) (S:a6 C0 C (.loc i) p f ks lc np sc) (R:cK C0 C ks lc i rs) (W:fP nd ks dn hs rs np) (hh : ∀ h∈hs,h=held) (N8:held ∉ dn) (hn:hs.Nodup) (hp:p=f+hs.length)
   {sv hv:Nat} (h1:m[sv]?=some (some (.inst 2 C0.length))) (h2:m[hv]?=some (some (.int held))) :
  ∃ bt dm C',ev (PP r) cl (.call (.cst (.fn 7)) (.cons (.bo (.var sv) .jT .nil) (.cons (.list (.cons (.var hv) .nil)) .nil)) .nil) ⟨m,C⟩=.ok (.lst (bt.map .int)) ⟨m,C'⟩/\mT C0 C' ks lc sc nd i held dn bt dm:=by
 have EK : ∀ k∈rs,k∈ks:=λk h=>((W.jD k).mp h).1
 refine cps λQQ kQ=>?_
 obtain ⟨m1,C1,e1,S1,R1⟩:=Np (r:=r) (n:=n+1) hf S R EK
 have hl:=dg W.sh EK
 have hb:=al hl bO
 obtain ⟨m2,e2⟩:=DA (r:=r) (fuel:=fuel) (n:=n) (C:=C1) (a:=.tup (rs.map .int)) (sk:=.lst [.int held]) (xs:=rs) (ys:=[held]) hf rfl rfl (ii hb dE) (ln (ii hb (by decide)))
 have Oh:(rs.filter λx=>![held].contains x)=rs.filter λx=>!(x==held):=filter_congr λx _=>by
  rw [Bool.eq_iff_iff,not_eq_true',not_eq_true',<-not_eq_true,<-not_eq_true,contains_iff_mem,mem_singleton,beq_iff_eq]
 rw [Oh] at e2
 have eX : ∀ x,x∈(rs.filter λx=>!(x==held))↔x∈rs/\x≠held:=λx=>by
  rw [mem_filter,not_eq_true',<-not_eq_true,beq_iff_eq]
 have nQ : ∀ x,x∈(rs.filter λx=>x==held)↔x∈rs/\x=held:=λx=>by rw [mem_filter,beq_iff_eq]
 refine kQ ⟨rs.filter λx=>!(x==held),hs++rs.filter λx=>x==held,MF C1 (.lst [.int held]) .none 0,?_,⟨_,_,_,S1.app _,W.out λk=>?_,?_⟩,⟨eR R1.cell,R1.lo,R1.ne⟩,?_,λh hm=>?_,λh=>((eX _).mp h).2 rfl,N8⟩
 ·subst aC
  have a1:ev (PP r) ⟨aE (PP r) fuel (n+2),fuel⟩ (.bo (.var sv) .jT .nil) ⟨m,C⟩=.ok (.tup (rs.map .int)) ⟨m,C1⟩:=nB (aa:=⟨m1,C1⟩) (aw h1) (kh S.top).2.2.2.1 (ds:=[]) rfl e1
  exact lW (f:=.cst (.fn 7)) (st:=⟨m,C⟩) (aa:=⟨m2,MF C1 (.lst [.int held]) .none 0⟩) rfl (lZ a1 (Mn (aw h2))) e2
 ·rw [mem_append,mem_append,eX,nQ]
  constructor
  ·rintro (⟨a,_⟩|a|⟨a,_⟩)
   ·exact .inr a
   ·exact .inl a
   ·exact .inr a
  ·rintro (a|a)
   ·exact .inr (.inl a)
   ·by_cases e:k=held
    ·exact .inr (.inr ⟨a,e⟩)
    ·exact .inl ⟨a,e⟩
 ·have hc : ∀ l:List Int,(l.filter λx=>!(x==held)).length+(l.filter λx=>x==held).length=l.length:=λl=>by
   induction l with
   |nil=>rfl
   |cons a l ih=>
    rw [filter_cons,filter_cons]
    induction a==held with
    |true=>exact congrArg Nat.succ ih
    |false=>exact (Nat.succ_add _ _).trans (congrArg Nat.succ ih)
  rw [length_append,length_append,hp,<-hc rs,Nat.add_left_comm]
  simp only [natCast_add]
  rw [Int.add_assoc]
 ·rw [nodup_append]
  refine ⟨W.sh.filter _,?_,λa ha b hb e=>?_⟩
  ·rw [nodup_append]
   exact ⟨hn,W.sh.filter _,λa ha b hb e=>((W.jD a).mp (e ▸ ((nQ b).mp hb).1)).2.2.1 ha⟩
  ·subst e
   obtain ⟨h3,h4⟩:=(eX a).mp ha
   exact (mem_append.mp hb).elim (λz=>h4 (hh a z)) λz=>h4 ((nQ a).mp z).2
 ·exact (mem_append.mp hm).elim (hh h) λz=>((nQ h).mp z).2
end
theorem toPys_ints : ∀ (n:Nat) (xs:List Int),toPys n (xs.map .int)=some (xs.map .int)
 |_,[]=>rfl
 |n,x::xs=>by
  show (toPy n (.int x)).bind _=_
  rw [show toPy n (.int x)=some (.int x) by induction n using Nat.casesOn<;>rfl]
  show (toPys n (xs.map .int)).map _=_
  rw [toPys_ints n xs]; rfl
theorem CY : ∀ (xs ys:List Int),PyData.eqvAll (xs.map .int) (ys.map .int)=decide (xs=ys)
 |[],[]=>rfl
 |[],y::ys=>rfl
 |x::xs,[]=>rfl
 |x::xs,y::ys=>by
  show (PyData.eqv (.int x) (.int y)&&PyData.eqvAll (xs.map .int) (ys.map .int))=_
  rw [CY xs ys]
  show (x==y&&_)=_
  rw [Bool.eq_iff_iff,and_eq_true,decide_eq_true_eq,decide_eq_true_eq,beq_iff_eq,List.cons.injEq]
variable {ys:List Int}
theorem CX:o7 (.lst (xs.map .int)) (.lst (ys.map .int))=some (decide (xs=ys)):=by
 show (((toPys 7 (xs.map .int)).map PyData.list).bind λx=>((toPys 7 (ys.map .int)).map PyData.list).map λy=>PyData.eqv x y)=_
 rw [toPys_ints,toPys_ints]
 show some (PyData.eqvAll (xs.map .int) (ys.map .int))=_
 rw [CY]
theorem wW:jN C .eq (.lst (xs.map .int)) (.lst (ys.map .int))=some (decide (xs=ys)):=CX
theorem wX:jN C .ne (.lst (xs.map .int)) (.lst (ys.map .int))=some (!decide (xs=ys)):=by
 show (o7 (.lst (xs.map .int)) (.lst (ys.map .int))).map _=_
 rw [CX]; rfl
theorem Bc (h:xs.length+ys.length<=aH):eH C .add (.lst (xs.map .int)) (.lst (ys.map .int))=some (.lst ((xs++ys).map .int)):=by
 show (if (xs.map D.int).length+(ys.map D.int).length<=aH then some (D.lst (xs.map .int++ys.map .int)) else none)=_
 rw [length_map,length_map,if_pos h,map_append]
theorem fQ.nodup : ∀ {l:List Int},fQ nd l->l.Nodup
 |[],_=>nodup_nil
 |k::l,⟨_,h,t⟩=>nodup_cons.mpr ⟨h,t.nodup⟩
section
variable {held:Int} {sv hv cv bv:Nat} {mk:List Int->List Int->List (Option D)}
noncomputable def JS (sv hv cv bv:Nat):Ss:=(.cons (.expr (.gE (.var sv) .done .nil (.var bv))) (.cons (.aR cv false (.bin .add (.var cv) (.var bv))) (.cons (.aR bv false (.call (.cst (.fn 7)) (.cons (.bo (.var sv) .jT .nil) (.cons (.list (.cons (.var hv) .nil)) .nil)) .nil)) .nil)))
structure Ao (mk:List Int->List Int->List (Option D)) (a:Nat) (held:Int) (sv hv cv bv:Nat):Prop where
 s : ∀ c b,(mk c b)[sv]?=some (some (.inst 2 a))
 h : ∀ c b,(mk c b)[hv]?=some (some (.int held))
 c : ∀ c b,(mk c b)[cv]?=some (some (.lst (c.map .int)))
 b : ∀ c b,(mk c b)[bv]?=some (some (.lst (b.map .int)))
 sc : ∀ c b c',(mk c b).set cv (some (.lst (c'.map .int)))=mk c' b
 sb : ∀ c b b',(mk c b).set bv (some (.lst (b'.map .int)))=mk c b'
theorem n9 {l:List α} {a:α} (h:l[i]?=some a):i<l.length:=(be h).1
theorem BP (aC:cl=⟨aE (PP r) fuel (n+2),fuel⟩) (hf:64<fuel) (bO:ks.length<64) (G:Gr nd ks sc) (Q:Ao mk C0.length held sv hv cv bv) : ∀ (k:Nat) {C:ah} {dn bt hs:List Int},ks.length<k+dn.length->mT C0 C ks lc sc nd i held dn bt hs->
  ∃ C' CR dm,whileLoop (λaa=>ev (PP r) cl (.cmp .ne (.var bv) (.list .nil)) aa) (λaa=>ax (PP r) cl (JS sv hv cv bv) aa) (λaa=>ax (PP r) cl .nil aa) k ⟨mk dn.reverse bt,C⟩=.ok .next ⟨mk CR.reverse [],C'⟩/\mT C0 C' ks lc sc nd i held CR [] dm
 |0,C,dn,bt,hs,hk,H=>by
  obtain ⟨p,f,np,S,W,_⟩:=H.ex
  rw [zero_add] at hk
  exact absurd (dg W.jG.nodup W.o5) (Nat.not_le.mpr hk)
 |k+1,C,dn,[],hs,hk,H=>
  ⟨C,dn,hs,Aj (d:=.bool false) (b7 (aw (Q.b _ _)) (y:=.lst []) rfl (wX (xs:=[]) (ys:=[]))) rfl,H⟩
 |k+1,C,dn,x::bt,hs,hk,H=>by
  obtain ⟨p,f,np,S,W,hp⟩:=H.ex
  have dj:fuel≠0:=λz=>by rw [z] at hf; exact not_lt_zero _ hf
  obtain ⟨m1,C1,Xf,Xn,e1,S1,R1,W1⟩:=LI (r:=r) (n:=n+1) dj G bO S H.jD W H.gF
  have hn:=H.gF
  rw [nodup_append] at hn
  obtain ⟨Ja,dm,C2,e2,H2⟩:=A4 (r:=r) (cl:=cl) (n:=n) aC dj hf bO S1 R1 W1 H.hs (λz=>(mem_append.mp z).elim (λy=>H.bt (mem_reverse.mp y)) H.dh) hn.2.1 (by
   rw [hp,length_append,natCast_add,Int.add_assoc]) (m:=mk (dn.reverse++(x::bt)) (x::bt)) (sv:=sv) (hv:=hv) (Q.s _ _) (Q.h _ _)
  have hl:(dn.reverse++(x::bt)).length<=ks.length:=by
   have:=dg W1.jG.nodup W1.o5
   rw [length_append,length_reverse] at this ⊢
   rw [add_comm]; exact this
  obtain ⟨C3,LH,uu,e3,H3⟩:=BP aC hf bO G Q k (dn:=(x::bt).reverse++dn) (by
   rw [length_append,length_reverse,length_cons]
   exact am hk (by rw [add_assoc]; exact add_le_add_left (add_le_add_right (le_add_left 1 bt.length) _) k)) H2
  refine ⟨C3,LH,uu,?_,H3⟩
  rw [List.reverse_append,List.reverse_reverse] at e3
  subst aC
  refine (sJ (d:=.bool true) (ae:=⟨mk (dn.reverse++(x::bt)) Ja,C2⟩) (b7 (aw (Q.b _ _)) (y:=.lst []) rfl (wX (xs:=x::bt) (ys:=[]))) rfl ?_).trans e3
  refine a8 (jb (Dc (ae:=⟨m1,C1⟩) (aw (Q.s _ _)) (kh S.top).2.2.2.2.2.1 (ds:=[]) rfl (aw (Q.b _ _)) rfl e1)) (a8 (bU (cg (aw (Q.c _ _)) (aw (Q.b _ _)) (Bc (by rw [<-length_append]; exact an hl (ln (ii bO (by decide)))))) (n9 (Q.c _ _))) ?_)
  rw [Q.sc]
  refine ct ((bU e2 (n9 (Q.b _ _))).trans ?_)
  rw [Q.sb]
theorem mT.fin (H:mT C0 C ks lc sc nd i held dn [] hs):(∀ k∈dn,k∈ks/\k ∉ hs)/\(∀ k∈dn,∀ q∈nd k,q∈dn)/\(∀ k∈ks,k ∉ dn->k ∉ hs->∃ q∈nd k,q ∉ dn)/\(∀ h∈hs,h=held/\h∈ks/\h ∉ dn/\∀ q∈nd h,q∈dn):=by
 obtain ⟨p,f,np,S,W,hp⟩:=H.ex
 refine ⟨λk hk=>⟨W.o5 k hk,λz=>(W.j9 k z).2.1 hk⟩,λk hk q hq=>W.jG.closed hk hq,λk hk h1 h2=>Classical.byContradiction λz=>?_,λh hh=>⟨H.hs h hh,(W.j9 h hh).1,(W.j9 h hh).2.1,(W.j9 h hh).2.2.2⟩⟩
 exact (nomatch (W.jD k).mpr ⟨hk,h1,h2,λq hq=>Classical.byContradiction λy=>z ⟨q,hq,y⟩⟩)
end
section
variable {mk:Option D->List (Option D)} {U:List Int}
theorem Ur {b u:Nat} (h1:a<=u) (h2:b<=u) (h:u<20):a+1+b<64:=al (add_le_add (succ_le_succ h1) h2) (ii (Nat.add_lt_add (Nat.succ_lt_succ h) h) (by decide))
theorem HY (aC:cl=⟨aE (PP r) fuel (n+3),fuel⟩) (hf:fuel≠0) (h2 : ∀ x,(mk x)[2]?=some (some (.inst 2 C0.length))) (h3 : ∀ d,(mk (some d))[3]?=some (some d)) (hb : ∀ x d,iE (.one 3) d (mk x)=some (mk (some d)))
  (hU:U.length<20) (gw : ∀ x∈U,small x=true) (hn : ∀ j∈U,(nd j).Nodup) (hi : ∀ j∈U,∀ q∈nd j,q∈U) (nG : ∀ A B,a7 A B=true) : ∀ (js:List Int) {x:Option D} {C:ah} {pre ks:List Int} {lc:Int->Nat} {np:Int->Int} {sc:Int->List Int},
  (∀ j∈js,∀ C,ev (PP r) cl e ⟨mk (some (.int j)),C⟩=.ok (.lst ((nd j).map .int)) ⟨mk (some (.int j)),C⟩)->(js.reverse++pre).Nodup->(∀ j∈js,j∈U)->(∀ j∈pre,j∈U)->a6 C0 C .none 0 0 ks lc np sc->ir nd pre ks np sc->
  ∃ x' C' uM dJ fX vh,forLoop a7 (.one 3) (λst=>ax (PP r) cl (.cons (.expr (.gE (.var 2) .add (.cons (.var 3) .nil) e)) .nil) st) (js.map .int) ⟨mk x,C⟩=.ok .next ⟨mk x',C'⟩/\a6 C0 C' .none 0 0 uM dJ fX vh/\ir nd (js.reverse++pre) uM fX vh:=λjs=>by
 induction js with
 |nil=>
  intro x C pre ks lc np sc _ _ _ _ S B
  exact ⟨x,C,ks,lc,np,sc,rfl,S,B⟩
 |cons j js ih=>
  intro x C pre ks lc np sc he gv hj hp S B
  rw [reverse_cons,append_assoc] at gv
  have pv:=hj j (.head _)
  have bO : ∀ x∈ks,x∈U:=λx hx=>((B.kk x).mp hx).elim (hp x) λ⟨k,a,b⟩=>hi k (hp k a) x b
  have mf:=dg S.nd bO
  have OE:j ∉ pre:=(nodup_cons.mp ((nodup_append.mp gv).2.1:([j]++pre).Nodup)).1
  obtain ⟨m1,C1,lg,e1,S1⟩:=HX (r:=r) (n:=n) hf S (node:=j) (b8:=nd j) (gw j pv) (Ur mf (dg (hn j pv) (hi j pv)) hU) (λq hq=>gw q (hi j pv q hq)) (λk hk=>al (dg (B.gF k) λy hy=>hp y ((B.ss k y).mp hy).1) (ii hU (by decide)))
  obtain ⟨x',C',uM,dJ,fX,vh,e2,S2,B2⟩:=ih (x:=some (.int j)) (λk hk=>he k (.tail _ hk)) gv (λk hk=>hj k (.tail _ hk)) (pre:=j::pre) (λk hk=>(bi hk).elim (λe=>e ▸ pv) (hp k)) S1 (B.add OE (hn j pv))
  subst aC
  refine ⟨x',C',uM,dJ,fX,vh,(jd (hb _ _) (ct (jb (Dc (ae:=⟨m1,C1⟩) (aw (h2 _)) (kh S.top).2.1 (b9 (aw (h3 _))) (he j (.head _) C) rfl e1))) (nG _ _)).trans e2,S2,by rw [reverse_cons,append_assoc]; exact B2⟩
end
section
variable {G:ah->ah->Prop} {g:α->D} {bd:α->List (Option D)} {F:α->List D} {L:Nat}
noncomputable def s9 (G:ah->ah->Prop) (tests:St->ak D) (inner:List D->St->ak D) (m bd:List (Option D)) (C:ah) (acc:List D) (ds:List D):Prop := ∃ C',cw tests inner acc ⟨m++bd,C⟩=.ok (.lst (acc++ds)) ⟨m++bd,C'⟩/\G C C'
theorem xE (hr : ∀ A,G A A) (ES : ∀ A B C,G A B->G B C->G A C) (hc : ∀ A B,G C A->G A B->a7 A B=true) : ∀ {xs:List α} {acc:List D} {C1:ah},G C C1->
  (∀ x∈xs,∀ C2,jL t (g x) ⟨m++replicate t.width none,C2⟩=.ok () ⟨m++bd x,C2⟩)->(∀ x∈xs,(F x).length<=L)->
  (∀ x∈xs,∀ bu C2,G C C2->bu.length<=acc.length+xs.length*L->s9 G tests inner m (bd x) C2 bu (F x))->
  ∃ C',eh t (cw tests inner) a7 (xs.map g) acc ⟨m,C1⟩=.ok (.lst (acc++xs.flatMap F)) ⟨m,C'⟩/\G C1 C':=λ{xs}=>by
 induction xs with
 |nil=>
  intro acc C1 h1 _ _ _
  exact ⟨C1,by show ak.ok (D.lst acc) _=.ok (.lst (acc++[])) _; rw [append_nil],hr C1⟩
 |cons x xs ih=>
  intro acc C1 h1 hb hL h
  obtain ⟨C2,e1,g1⟩:=h x (.head _) acc C1 h1 (jp _ _)
  have hlen:(acc++F x).length+xs.length*L<=acc.length+(x::xs).length*L:=by
   rw [length_append,length_cons,succ_mul,add_comm (xs.length*L),<-add_assoc]
   exact add_le_add_right (add_le_add_left (hL x (.head _)) _) _
  obtain ⟨C3,e2,g2⟩:=ih (acc:=acc++F x) (ES _ _ _ h1 g1) (λy hy=>hb y (.tail _ hy)) (λy hy=>hL y (.tail _ hy)) λy hy bu C' hG hl=>h y (.tail _ hy) bu C' hG (an hl hlen)
  refine ⟨C3,?_,ES _ _ _ g1 g2⟩
  rw [flatMap_cons,<-append_assoc,<-e2]
  show (match jL t (g x) ⟨m++replicate t.width none,C1⟩ with
   |.ok _ aa=>match cw tests inner acc aa with
    |.ok (.lst bu) ae=>if a7 C1 ae.C then eh t (cw tests inner) a7 (xs.map g) bu ⟨ae.m.take m.length,ae.C⟩ else .fail
    |_=>.fail
   |_=>.fail)=_
  rw [hb x (.head _)]; dsimp only; rw [e1]; dsimp only; rw [if_pos (hc _ _ h1 g1),take_left' rfl]
theorem Ho {bd:List (Option D)} (h1:tests ⟨m++bd,C⟩=.ok (.bool b) ⟨m++bd,C⟩) (hr:G C C) (h2:b=true->∃ C',inner acc ⟨m++bd,C⟩=.ok (.lst (acc++ds)) ⟨m++bd,C'⟩/\G C C'):s9 G tests inner m bd C acc (if b then ds else []):=by
 unfold s9 cw
 rw [h1]
 induction b with
 |true=>exact h2 rfl
 |false=>exact ⟨C,by show ak.ok (D.lst acc) _=.ok (.lst (acc++[])) _; rw [append_nil],hr⟩
theorem It {m:List α} {d:α} {R:List α}:(m++d::R)[m.length]?=some d:=by rw [getElem?_append_right (le_refl _),sub_self]; rfl
theorem wg {C2:ah}:jL (.one m.length) d ⟨m++replicate (T.one m.length).width none,C2⟩=.ok () ⟨m++[some d],C2⟩:=by
 refine (oD (show m.length<(m++[none]).length by rw [length_append]; exact lt_succ_self _)).trans ?_
 show ak.ok () ⟨(m++[none]).set m.length _,C2⟩=_
 rw [set_append_right _ _ (le_refl _),sub_self]; rfl
end
theorem FX (b:Bool) {a:α}:(if b then [a] else []).length<=1:=by induction b<;>exact le_of_ble_eq_true rfl
theorem DF {α β:Type} {f:α->β} : ∀ xs:List α,(xs.flatMap λx=>[f x])=xs.map f
 |[]=>rfl
 |x::xs=>by rw [flatMap_cons,DF xs]; rfl
theorem xv {α β:Type} {p:α->Bool} {f:α->β} : ∀ xs:List α,(xs.flatMap λx=>if p x then [f x] else [])=(xs.filter p).map f
 |[]=>rfl
 |x::xs=>by
  rw [flatMap_cons,filter_cons,xv xs]
  induction p x<;>rfl
section
variable {elt:E} {ifs:Es} {g f:α->D} {p:α->Bool} {xs:List α}
theorem zg {b c:Nat} (h:a<=b+c*1) (h2:b+c<n):a<n:=al (by rw [Nat.mul_one] at h; exact h) h2
theorem qu {k:Nat} (hf:cl.fuel≠0) (hk:k=m.length) (hit:ev P cl it ⟨m,C⟩=.ok y ⟨m,C⟩) (hi:bV C y=some (xs.map g)) (hl:xs.length<aH) (hc:br C C y=true) (ht : ∀ x∈xs,c9 P cl ifs ⟨m++[some (g x)],C⟩=.ok (.bool (p x)) ⟨m++[some (g x)],C⟩)
  (he : ∀ x∈xs,p x=true->ev P cl elt ⟨m++[some (g x)],C⟩=.ok (f x) ⟨m++[some (g x)],C⟩):ev P cl (.comp elt (.cons (.one k) it ifs .nil)) ⟨m,C⟩=.ok (.lst ((xs.filter p).map f)) ⟨m,C⟩:=by
 subst hk
 obtain ⟨C',e,rfl⟩:=xE (G:=(· = ·)) (t:=.one m.length) (g:=g) (bd:=λx=>[some (g x)]) (F:=λx=>if p x then [f x] else []) (tests:=λae=>c9 P cl ifs ae) (inner:=λacc ae=>fU P cl (λaK=>ev P cl elt aK) .nil acc ae) (a7:=λA B=>br A B y) (m:=m) (C:=C) (L:=1) (xs:=xs) (acc:=[])
  (λ_=>rfl) (λ_ _ _=>Eq.trans) (λA B h1 h2=>by rw [<-h2,<-h1]; exact hc) rfl (λ_ _ _=>wg) (λx _=>FX (p x)) (λx hx bu C2 hG dG=>by
   subst hG
   exact Ho (ht x hx) rfl λhp=>⟨_,tE (he x hx hp) (zg dG (by rw [length_nil,zero_add]; exact hl)),rfl⟩)
 have:=xe hf hit hi e
 rw [this,xv]; rfl
theorem Kq {k:Nat} (hf:cl.fuel≠0) (hk:k=m.length) (hit:ev P cl it ⟨m,C⟩=.ok y ⟨m,C⟩) (hi:bV C y=some (xs.map g)) (hl:xs.length<aH) (hc : ∀ A B,C <+: A->A <+: B->br A B y=true)
  (he : ∀ x∈xs,∀ C2,C <+: C2->∃ C3,ev P cl elt ⟨m++[some (g x)],C2⟩=.ok (f x) ⟨m++[some (g x)],C3⟩/\C2 <+: C3) : ∃ C',ev P cl (.comp elt (.cons (.one k) it .nil .nil)) ⟨m,C⟩=.ok (.lst (xs.map f)) ⟨m,C'⟩/\C <+: C':=by
 subst hk
 obtain ⟨C',e,hp⟩:=xE (G:=(· <+: ·)) (t:=.one m.length) (g:=g) (bd:=λx=>[some (g x)]) (F:=λx=>[f x]) (tests:=λae=>c9 P cl .nil ae) (inner:=λacc ae=>fU P cl (λaK=>ev P cl elt aK) .nil acc ae) (a7:=λA B=>br A B y) (m:=m) (C:=C) (L:=1) (xs:=xs) (acc:=[])
  (λA=>prefix_refl A) (λ_ _ _=>IsPrefix.trans) hc (prefix_refl C) (λ_ _ _=>wg) (λx _=>le_refl 1) (λx hx bu C2 hG dG=>by
   obtain ⟨C3,e3,h3⟩:=he x hx C2 hG
   exact Ho (b:=true) rfl (prefix_refl C2) λ_=>⟨C3,tE e3 (zg dG (by rw [length_nil,zero_add]; exact hl)),h3⟩)
 refine ⟨C',?_,hp⟩
 have:=xe hf hit hi e
 rw [this,DF]; rfl
end
end Mine.Lake
end
section
open PySem PyProof.Rows
namespace Mine.Lake
noncomputable abbrev dN (n:Nat):D:=.int (n:Int)
noncomputable def nz (l:List Nat):List Int:=l.map λn:Nat=>(n:Int)
variable {C:ah} {a b k n:Nat} {l:List Nat}
theorem FZ:eH C .add (dN a) (dN b)=some (dN (a+b)):=rfl
theorem F1 (ha:a<2 ^ 64) (hb:b<2 ^ 64):eH C .mul (dN a) (dN b)=some (dN (a*b)):=by
 show ((if small (a:Int)&&small (b:Int) then some ((a:Int)*b) else none).map D.int)=_
 rw [if_pos (by unfold small; rw [natAbs_natCast,natAbs_natCast,decide_eq_true ha,decide_eq_true hb]; rfl)]; rfl
theorem R0 (h:b<=a):eH C .sub (dN a) (dN b)=some (dN (a - b)):=congrArg (λx=>some (D.int x)) (Int.ofNat_sub h).symm
theorem zq (hb:0<b):eH C .mod (dN a) (dN b)=some (dN (a % b)):=by
 show ((if ((b:Int) != 0)=true then some ((a:Int).fmod b) else none).map D.int)=_
 rw [if_pos (by rw [bne_iff_ne]; exact λe=>ne_of_gt hb (ofNat.inj e)),Int.fmod_eq_emod_of_nonneg _ (natCast_nonneg b)]; rfl
theorem F0 (hb:0<b) (hs:b<2 ^ 64):eH C .fdiv (dN a) (dN b)=some (dN (a / b)):=by
 show ((if (small (b:Int)&&((b:Int) != 0))=true then some ((a:Int).fdiv b) else none).map D.int)=_
 rw [if_pos (by rw [and_eq_true,bne_iff_ne]; exact ⟨by unfold small; rw [natAbs_natCast]; exact decide_eq_true hs,λe=>ne_of_gt hb (ofNat.inj e)⟩),Int.fdiv_eq_ediv_of_nonneg _ (natCast_nonneg b)]; rfl
theorem zr (ha:a<2 ^ 64) (hb:b<=1000):eH C .pow (dN a) (dN b)=some (dN (a ^ b)):=by
 show ((if (small (a:Int)&&decide (0<=(b:Int))&&decide ((b:Int)<=1000))=true then some ((a:Int) ^ (b:Int).toNat) else none).map D.int)=_
 rw [if_pos (by rw [decide_eq_true (natCast_nonneg b),decide_eq_true (show (b:Int)<=1000 from ofNat_le.mpr hb)]; unfold small; rw [natAbs_natCast,decide_eq_true ha]; rfl),toNat_natCast,<-Int.natCast_pow]; rfl
theorem RY:eH C .and (dN a) (dN b)=some (dN (a &&& b)):=congrArg (λx=>some (D.int x)) ((bitAnd_pp (natCast_nonneg a) (natCast_nonneg b)).trans (by rw [toNat_natCast,toNat_natCast]))
theorem R4 : ∀ a<64,∀ b<64,a+b - (a &&& b)=(a ||| b)/\(a &&& b)<=a:=by decide +kernel
theorem RZ (ha:a<64) (hb:b<64):eH C .or (dN a) (dN b)=some (dN (a ||| b)):=by
 obtain ⟨h1,h2⟩:=R4 a ha b hb
 refine congrArg (λx=>some (D.int x)) ((bitOr_and _ _).trans ?_)
 rw [bitAnd_pp (natCast_nonneg a) (natCast_nonneg b),toNat_natCast,toNat_natCast,<-h1,Int.ofNat_sub (le_trans h2 (le_add_right _ _))]; rfl
theorem wV:jN C .eq (dN a) (dN b)=some (decide (a=b)):=by
 show some ((a:Int)==(b:Int))=_
 refine congrArg some ?_
 rw [Bool.eq_iff_iff,beq_iff_eq,decide_eq_true_eq]; exact ⟨ofNat.inj,congrArg _⟩
theorem Kg:jN C .ne (dN a) (dN b)=some (!decide (a=b)):=by
 show (jN C .eq (dN a) (dN b)).map _=_
 rw [wV]; rfl
theorem Kf:jN C .lt (dN a) (dN b)=some (decide (a<b)):=congrArg some (decide_eq_decide.mpr ofNat_lt)
theorem RM:(nz l)[k]?=(l[k]?).map λn:Nat=>(n:Int):=getElem?_map
theorem uA (hk:k<1000) (h:l[k]?=some n):hV ((nz l).map .int) (k:Int)=some (dN n):=uy hk (by rw [getElem?_map,RM,h]; rfl)
theorem QZ:(nz l).contains (k:Int)=decide (k∈l):=by
 rw [Bool.eq_iff_iff,contains_iff_mem,decide_eq_true_eq]
 unfold nz
 rw [mem_map]
 exact ⟨λ⟨a,h,e⟩=>ofNat.inj e ▸ h,λh=>⟨k,h,rfl⟩⟩
theorem yR:iR (dN k) ((nz l).map .int)=some (decide (k∈l)):=by rw [E5,QZ]
theorem RN {k:List Nat} (h:nz l=nz k):l=k:=by
 induction l generalizing k with
 |nil=>induction k using List.casesOn with|nil=>rfl|cons a k=>exact (nomatch h)
 |cons a l ih=>
  induction k using List.casesOn with
  |nil=>exact (nomatch h)
  |cons b k=>
   obtain ⟨h1,h2⟩:=List.cons.inj h
   rw [ofNat.inj h1,ih h2]
theorem j8:(nz l).length=l.length:=length_map _
theorem FQ {k:List Nat}:nz (l++k)=nz l++nz k:=map_append
noncomputable def mP (x:D) (k:Nat) (x3 x4 x5:Option D) (R:List (Option D)):List (Option D):=some x::some (.loc 0)::some (dN k)::x3::x4::x5::R
variable {P:aX} {cl:Calls} {x4 x5 x3:Option D} {q:Nat} {d:D} {os:List Nat}
section
variable {x:D} {R:List (Option D)}
theorem rP:6<=(mP x k x3 x4 x5 R).length:=le_add_left 6 R.length
theorem IQ:iE (.one 3) d (mP x k x3 x4 x5 R)=some (mP x k (some d) x4 x5 R):=by
 show (if 3<(mP x k x3 x4 x5 R).length then some _ else none)=_
 exact if_pos (am (by decide:3<6) rP)
theorem IS:iE (.one 5) d (mP x k x3 x4 x5 R)=some (mP x k x3 x4 (some d) R):=by
 show (if 5<(mP x k x3 x4 x5 R).length then some _ else none)=_
 exact if_pos (am (by decide:5<6) rP)
noncomputable def FT (q:Nat):Ss:=(.cons (.kr (.var 1) (.bin .mod (.var 2) (.cst (dN q))) (.bin .mod (.bin .add (.idx (.var 1) (.bin .mod (.var 2) (.cst (dN q)))) (.var 3)) (.cst (.int 256)))) (.cons (.aR 2 false (.bin .add (.var 2) (.cst (.int 1)))) .nil))
theorem RT (hq:0<q) (rp:q<1000) (hl:os.length=q) (ho : ∀ o∈os,o<256) {n:Int} : ∃ om,ax P cl (FT q) ⟨mP x k (some (.int n)) x4 x5 R,[.list ((nz os).map .int)]⟩=.ok .next ⟨mP x (k+1) (some (.int n)) x4 x5 R,[.list ((nz om).map .int)]⟩/\om.length=q/\∀ o∈om,o<256:=by
 have hk:k % q<q:=mod_lt _ hq
 refine cps λQQ kQ=>?_
 obtain ⟨o,h1⟩ : ∃ o,os[k % q]?=some o:=⟨os[k % q]'(by rw [hl]; exact hk),getElem?_eq_getElem _⟩
 obtain ⟨o',e,h2⟩ : ∃ o':Nat,((o:Int)+n) % 256=(o':Int)/\o'<256:=⟨(((o:Int)+n) % 256).toNat,(Int.toNat_of_nonneg (Int.emod_nonneg _ (by decide))).symm,by
  have:=Int.emod_lt_of_pos ((o:Int)+n) (show (0:Int)<256 by decide)
  rw [<-Int.toNat_of_nonneg (Int.emod_nonneg ((o:Int)+n) (show (256:Int)≠0 by decide))] at this
  exact ofNat_lt.mp this⟩
 have em:ev P cl (.bin .mod (.var 2) (.cst (dN q))) ⟨mP x k (some (.int n)) x4 x5 R,[.list ((nz os).map .int)]⟩=.ok (dN (k % q)) ⟨mP x k (some (.int n)) x4 x5 R,[.list ((nz os).map .int)]⟩:=cg (x:=dN k) (y:=dN q) (aw rfl) rfl (zq hq)
 have Md:ev P cl (.bin .mod (.bin .add (.idx (.var 1) (.bin .mod (.var 2) (.cst (dN q)))) (.var 3)) (.cst (.int 256))) ⟨mP x k (some (.int n)) x4 x5 R,[.list ((nz os).map .int)]⟩=.ok (dN o') ⟨mP x k (some (.int n)) x4 x5 R,[.list ((nz os).map .int)]⟩:=by
  refine cg (x:=.int ((o:Int)+n)) (y:=.int 256) (cg (x:=dN o) (y:=.int n) (dW (x:=.loc 0) (y:=dN (k % q)) (aw rfl) em ((yJ rfl).trans (uA (ii hk rp) h1))) (aw rfl) rfl) rfl ?_
  show some (D.int (((o:Int)+n).fmod 256))=_
  rw [Int.fmod_eq_emod_of_nonneg _ (by decide),e]
 refine kQ ⟨os.set (k % q) o',a8 (xk Md (aw (d:=.loc 0) rfl) em (C':=[.list ((nz (os.set (k % q) o')).map .int)]) ?_) (ct (bU (m:=mP x k (some (.int n)) x4 x5 R) (cg (x:=dN k) (y:=dN 1) (aw rfl) rfl FZ) (am (by decide:_<6) rP))),by rw [length_set]; exact hl,λa ha=>?_⟩
 ·show (if 0<=((k % q:Nat):Int)/\((k % q:Nat):Int)<((nz os).map D.int).length then some ([Ch.list ((nz os).map .int)].set 0 (.list (((nz os).map D.int).set ((k % q:Nat):Int).toNat (dN o')))) else none)=_
  rw [if_pos ⟨natCast_nonneg _,by rw [length_map,j8,hl]; exact ofNat_lt.mpr hk⟩,toNat_natCast]
  unfold nz
  rw [map_set,map_set]; rfl
 ·rcases List.mem_or_eq_of_mem_set ha with h|h
  ·exact ho a h
  ·exact h ▸ h2
theorem RS (hq:0<q) (rp:q<1000) {y:D} (hy : ∀ A B,br A B y=true) : ∀ (ns:List Int) {os:List Nat} {k:Nat} {x3:Option D},os.length=q->(∀ o∈os,o<256)->∃ om k' lH,forLoop (λA B=>br A B y) (.one 3) (λst=>ax P cl (FT q) st) (ns.map .int) ⟨mP x k x3 x4 x5 R,[.list ((nz os).map .int)]⟩ =
  .ok .next ⟨mP x k' lH x4 x5 R,[.list ((nz om).map .int)]⟩/\om.length=q/\∀ o∈om,o<256:=λns=>by
 induction ns with
 |nil=>
  intro os k x3 hl ho
  exact ⟨os,k,x3,rfl,hl,ho⟩
 |cons n ns ih=>
  intro os k x3 hl ho
  obtain ⟨Xk,e1,h1,h2⟩:=RT (P:=P) (cl:=cl) (x:=x) (x4:=x4) (x5:=x5) (R:=R) hq rp hl ho (k:=k) (n:=n)
  obtain ⟨R7,k2,x2,e2,h3,h4⟩:=ih (k:=k+1) (x3:=some (.int n)) h1 h2
  exact ⟨R7,k2,x2,(jd (m1:=mP x k (some (.int n)) x4 x5 R) IQ e1 (hy _ _)).trans e2,h3,h4⟩
noncomputable def iY (os:List Nat) (w:Nat):Nat:=os.foldl (λw o=>w*256+o) w
theorem Wo {all:List D} (h0:all=all) : ∀ (os:List Nat) {w:Nat} {k:Nat} {x3 x5:Option D} {i:Nat} {C:ah},(∀ o∈os,o<256)->w<2 ^ (8*i)->i+os.length<=6->br C C (.loc 0)=true->∃ sN,forLoop (λA B=>br A B (.loc 0)) (.one 5) (λst=>ax P cl (.cons (.aR 4 false (.bin .add (.bin .mul (.var 4) (.cst (.int 256))) (.var 5))) .nil) st) ((nz os).map .int) ⟨mP x k x3 (some (dN w)) x5 R,C⟩ =
  .ok .next ⟨mP x k x3 (some (dN (iY os w))) sN R,C⟩:=λos=>by
 induction os with
 |nil=>
  intro w k x3 x5 i C _ _ _ _
  exact ⟨x5,rfl⟩
 |cons o os ih=>
  intro w k x3 x5 i C ho hw hi hC
  have fC:=ho o (.head _)
  have Ov:i+1+os.length<=6:=by rw [add_assoc,add_comm 1]; exact hi
  have Pw:w*256+o<2 ^ (8*(i+1)):=by
   show w*256+o<2 ^ (8*i+8)
   rw [Nat.pow_add]
   exact am (add_lt_add_left fC _) (an (le_of_eq (succ_mul w 256).symm) (Nat.mul_le_mul_right 256 hw))
  have Px:w<2 ^ 64:=am hw (Nat.pow_le_pow_right (by decide) (an (mul_le_mul_left 8 (an (jp _ _) hi)) (by decide)))
  obtain ⟨sN,e⟩:=ih (k:=k) (x3:=x3) (x5:=some (dN o)) (λa ha=>ho a (.tail _ ha)) Pw Ov hC
  exact ⟨sN,(jd (m1:=mP x k x3 (some (dN w)) (some (dN o)) R) IS (ct (bU (m:=mP x k x3 (some (dN w)) (some (dN o)) R) (cg (cg (x:=dN w) (y:=dN 256) (aw rfl) rfl (F1 Px (by decide))) (y:=dN o) (aw rfl) FZ) (am (by decide:_<6) rP))) hC).trans e⟩
end
theorem LU (h:b<n):(a*n+b) / n=a:=by
 rw [add_comm,add_mul_div_right _ _ (al (zero_le _) h),Nat.div_eq_of_lt h,zero_add]
theorem LY {c:Nat} {r:List Nat}:bY (a::b::c::r)=bg (a / 4)::bg (a % 4*16+b / 16)::bg (b % 16*4+c / 64)::bg (c % 64)::bY r:=by
 unfold bY
 rw [show (a::b::c::r).length % 3=r.length % 3 from Fo _]
 rfl
variable {y:Nat}
theorem nt {p:Nat} (hq:q<n):(p*n+q) / (n*y)=p / y:=by rw [<-Nat.div_div_eq_div_mul,LU hq]
theorem CQ {p z:Nat} (h:n=y*(64*z)) (hy:0<y):(p*n+q) / y % 64=q / y % 64:=by
 rw [h,Nat.mul_left_comm,mul_comm y,add_comm,mul_comm,Nat.add_mul_div_left _ _ hy,Nat.mul_left_comm,Nat.add_mul_mod_self_left]
section
variable {c:Nat} (ha:a<256) (hb:b<256) (hc:c<256)
include ha hb hc
theorem g1:((a*256+b)*256+c) / 262144 % 64=a / 4:=by
 rw [show 262144=256*(256*4) from rfl,nt hc,nt hb]; exact mod_eq_of_lt (div_lt_of_lt_mul ha)
theorem g2:((a*256+b)*256+c) / 4096 % 64=a % 4*16+b / 16:=by
 rw [show 4096=256*16 from rfl,nt hc,show a*256=(a*16)*16 from (mul_assoc a 16 16).symm,add_comm,add_mul_div_right _ _ (by decide),add_comm,show 64=16*4 from rfl]
 exact lo (div_lt_of_lt_mul hb)
theorem g3:((a*256+b)*256+c) / 64 % 64=b % 16*4+c / 64:=by
 rw [show (a*256+b)*256=((a*256+b)*4)*64 from (mul_assoc _ 4 64).symm,add_comm,add_mul_div_right _ _ (by decide),add_comm,show 64=4*16 from rfl,lo (div_lt_of_lt_mul (show c<(4*16)*4 from hc)),show a*256=(a*16)*16 from (mul_assoc a 16 16).symm,mul_add_mod']
theorem g4:((a*256+b)*256+c) / 1 % 64=c % 64:=by
 rw [div_one,show (a*256+b)*256=((a*256+b)*4)*64 from (mul_assoc _ 4 64).symm,mul_add_mod']
end
noncomputable def W3 (w:Nat):List Nat:=(List.range 8).map λk=>w / 64 ^ (7 - k) % 64
noncomputable def Fx {α β:Type} (g:α->β) (l:List α):List β:=l.foldr (λs acc=>g s::acc) []
variable {α:Type}
theorem Fy {α β:Type} (g:α->β) : ∀ l:List α,Fx g l=l.map g
 |[]=>rfl
 |a::l=>congrArg (g a :: ·) (Fy g l)
noncomputable def gC:Fn:={cb:=[0],bS:=[],ck:=[],cA:=none,size:=1,body:=(.cons (.ifs (.cmp .lt (.var 0) (.cst (.int 26))) (.cons (.ret (.bin .add (.cst (.int 65)) (.var 0))) .nil) .nil) (.cons (.ifs (.cmp .lt (.var 0) (.cst (.int 52))) (.cons (.ret (.bin .add (.cst (.int 71)) (.var 0))) .nil) .nil)
 (.cons (.ifs (.cmp .lt (.var 0) (.cst (.int 62))) (.cons (.ret (.bin .sub (.var 0) (.cst (.int 4)))) .nil) .nil) (.cons (.ifs (.cmp .eq (.var 0) (.cst (.int 62))) (.cons (.ret (.cst (.int 43))) .nil) .nil) (.cons (.ret (.cst (.int 47))) .nil)))))}
noncomputable def Xe:Fn:={cb:=[0],bS:=[],ck:=[],cA:=none,size:=1,body:=(.cons (.ret (.comp (.var 1) (.cons (.one 1) (.call (.cst (.bn .range)) (.cons (.cst (.int 6)) .nil) .nil) (.cons (.cmp .eq (.bin .mod (.bin .fdiv (.var 0) (.bin .pow (.cst (.int 2)) (.var 1))) (.cst (.int 2))) (.cst (.int 1))) .nil) .nil))) .nil)}
noncomputable def rX (k:Nat):List Nat:=(List.range 6).filter λq=>k.testBit q
noncomputable def Xj (k:Nat):List Nat:=(List.range 6).filter λq=>k / 2 ^ q % 2==1
theorem VX:((List.range 64).map λk=>λ(r:List Fn) (fuel n:Nat) (C:ah)=>aE (PP (gC::r)) fuel (n+1) 17 [dN k] [] C)=Fx (λk=>λ(r:List Fn) (fuel n:Nat) (C:ah)=>.ok (.int (bg k)) ⟨[some (dN k)],C⟩) (List.range 64):=by kernel_rfl
theorem Um (h:k<64) (r:List Fn) (fuel n:Nat) (C:ah):aE (PP (gC::r)) fuel (n+1) 17 [dN k] [] C=.ok (.int (bg k)) ⟨[some (dN k)],C⟩:=
 congrFun (congrFun (congrFun (congrFun (List.map_inj_left.mp (VX.trans (Fy _ _)) k (mem_range.mpr h)) r) fuel) n) C
theorem Un : ∀ a<64,∀ b<64,bg a=bg b->a=b:=by decide +kernel
variable {r:List Fn} {m:List (Option D)} {w:Nat} {fs:List Nat}
section
variable {fuel:Nat} {v:Nat}
theorem Uo (aC:cl=⟨aE (PP (gC::r)) fuel (n+1),fuel⟩) (hf:fuel≠0) (hv:v=m.length) (hw:m[w]?=some (some (.lst ((nz fs).map .int)))) (aU : ∀ f∈fs,f<64) (hl:fs.length<1000) :
  ev (PP (gC::r)) cl (.comp (.call (.cst (.fn 17)) (.cons (.var v) .nil) .nil) (.cons (.one v) (.var w) .nil .nil)) ⟨m,C⟩=.ok (.lst ((fs.map bg).map .int)) ⟨m,C⟩:=by
 subst aC hv
 have:=qu (P:=PP (gC::r)) (cl:=⟨aE (PP (gC::r)) fuel (n+1),fuel⟩) (elt:=.call (.cst (.fn 17)) (.cons (.var m.length) .nil) .nil) (ifs:=.nil) (it:=.var w) (k:=m.length) (m:=m) (C:=C) (xs:=fs) (g:=dN) (f:=λk=>.int (bg k)) (p:=λ_=>true) hf rfl (aw hw) (by show some ((nz fs).map D.int)=_; unfold nz; rw [map_map]; rfl) (ii hl (by decide)) rfl (λ_ _=>rfl)
  (λk hk _=>lW (k:=17) (aa:=⟨[some (dN k)],C⟩) rfl (b9 (aw It)) (Um (aU k hk) r fuel n C))
 rw [this,filter_eq_self.mpr (λ_ _=>rfl),map_map]; rfl
end
variable {st aa:St} {C':ah} {i:Nat} {e:E}
section
variable {ae:St}
theorem Mh {a b:E} {x:D} {o:ak D} (ha:ev P cl a st=.ok x aa) (h:bH aa.C x=some true) (k:ev P cl b aa=o):ev P cl (.and a b) st=o:=by
 refine (aT ha).trans ?_; rw [h]; exact k
theorem Mg {a b:E} {x:D} (ha:ev P cl a st=.ok x aa) (h:bH aa.C x=some false):ev P cl (.and a b) st=.ok x aa:=by
 refine (aT ha).trans ?_; rw [h]
theorem Si {c:Ch} (h:C <+: C') (hc:C[i]?=some c):C'[i]?=some c:=by obtain ⟨E,rfl⟩:=h; exact eR hc
theorem Mm (hf:cl.fuel≠0) (he:ev P cl e st=.ok d st) (hn:yZ st.C d=some (n:Int)):ev P cl (.call (.cst (.bn .len)) (.cons e .nil) .nil) st=.ok (dN n) st:=
 dT (g:=.bn .len) rfl (b9 he) ((fx hf).trans (by show aL (yZ st.C d) _=_; rw [hn]; rfl))
end
section
variable {C1:ah} {e1 e2:E} {xs ys:List Nat}
theorem HS {sk:D}:C <+: MF C sk .none 0:=prefix_append _ _
end
theorem QI : ∀ j<6,j=0\/j=1\/j=2\/j=3\/j=4\/j=5:=by decide
variable {p:Nat->Bool} {elt:E} {ifs:Es}
section
variable {v:Nat}
noncomputable abbrev dU (n:Int):E:=.call (.cst (.bn .range)) (.cons (.cst (.int n)) .nil) .nil
theorem xg (hf:cl.fuel≠0):ev P cl (dU 6) st=.ok (.cP 0 6) st:=dT (g:=.bn .range) (ds:=[.int 6]) rfl rfl ((fx hf).trans rfl)
theorem Kj {f:Nat->D} (hf:cl.fuel≠0) (hv:v=m.length) (ht : ∀ j,j<6->c9 P cl ifs ⟨m++[some (dN j)],C⟩=.ok (.bool (p j)) ⟨m++[some (dN j)],C⟩) (he : ∀ j,j<6->p j=true->ev P cl elt ⟨m++[some (dN j)],C⟩=.ok (f j) ⟨m++[some (dN j)],C⟩) :
  ev P cl (.comp elt (.cons (.one v) (dU 6) ifs .nil)) ⟨m,C⟩=.ok (.lst (((List.range 6).filter p).map f)) ⟨m,C⟩:=
 qu (xs:=List.range 6) (g:=dN) hf hv (xg hf) rfl (le_of_ble_eq_true rfl) rfl (λj h=>ht j (mem_range.mp h)) λj h=>he j (mem_range.mp h)
theorem Kk {f:Nat->D} (hf:cl.fuel≠0) (hv:v=m.length) (he : ∀ j,j<6->∀ C2,C <+: C2->∃ C3,ev P cl elt ⟨m++[some (dN j)],C2⟩=.ok (f j) ⟨m++[some (dN j)],C3⟩/\C2 <+: C3) :
  ∃ C',ev P cl (.comp elt (.cons (.one v) (dU 6) .nil .nil)) ⟨m,C⟩=.ok (.lst ((List.range 6).map f)) ⟨m,C'⟩/\C <+: C':=
 Kq (xs:=List.range 6) (g:=dN) hf hv (xg hf) rfl (le_of_ble_eq_true rfl) (λ_ _ _ _=>rfl) λj h=>he j (mem_range.mp h)
theorem Mi {p:E} (h1:ev P cl e ⟨m,C⟩=.ok (dN a) ⟨m,C⟩) (h2:ev P cl p ⟨m,C⟩=.ok (dN b) ⟨m,C⟩) (hb:b<60):ev P cl (.bin .mod (.bin .fdiv e (.bin .pow (.cst (.int 2)) p)) (.cst (.int 2))) ⟨m,C⟩=.ok (dN (a / 2 ^ b % 2)) ⟨m,C⟩:=
 cg (x:=dN (a / 2 ^ b)) (y:=dN 2) (cg (x:=dN a) (y:=dN (2 ^ b)) h1 (cg (x:=dN 2) (y:=dN b) rfl h2 (zr (by decide) (ln (ii hb (by decide))))) (F0 (pow_pos (by decide)) (Nat.pow_lt_pow_right (by decide) (ii hb (by decide))))) rfl (zq (by decide))
theorem IX:decide (a / 2 ^ b % 2=1)=a.testBit b:=by rw [Nat.testBit_eq_decide_div_mod_eq]
end
section
variable {r0:Fn}
theorem Q2:q∈rX k↔q<6/\k.testBit q=true:=by unfold rX; rw [mem_filter,mem_range]
end
theorem Mq {a:D} (aC:cl=⟨aE (PP r) 10000 (n+3),10000⟩) (he:ev (PP r) cl e ⟨m,C⟩=.ok a ⟨m,C⟩) (ha:a9 C a=some ((nz os).map .int)) (ho : ∀ o∈os,o<256) (hl:os.length<1000) :
  ∃ ob C',ev (PP r) cl (.call (.cst (.fn 3)) (.cons (.call (.cst (.bn .bytes)) (.cons e .nil) .nil) .nil) .nil) ⟨m,C⟩=.ok (.bytes ob) ⟨m,C'⟩/\ob.map (λc:UInt8=>(c.toNat:Int))=bY os/\C <+: C':=by
 refine cps λQQ kQ=>?_
 obtain ⟨tb,h1,h2⟩:=tj (xs:=nz os) λx hx=>by obtain ⟨o,h,rfl⟩:=mem_map.mp hx; exact ⟨natCast_nonneg _,ofNat_lt.mpr (ho o h)⟩
 have h3:tb.map (·.toNat)=os:=RN (by unfold nz; rw [map_map]; exact h2)
 have hf:cl.fuel≠0:=by rw [aC]; exact succ_ne_zero _
 have EP:tb.length=os.length:=by rw [<-h3,length_map]
 obtain ⟨ob,m',g,e1,e2⟩:=IA (r:=r) (fuel:=10000) (n:=n) (C:=C) (tb:=tb) (by decide) (by rw [EP]; exact an (add_le_add_right (mul_le_mul_left 2 (ln hl)) 8) (by decide))
 rw [h3] at e1
 have e3:ev (PP r) cl (.call (.cst (.bn .bytes)) (.cons e .nil) .nil) ⟨m,C⟩=.ok (.bytes tb) ⟨m,C⟩:=dT (g:=.bn .bytes) rfl (b9 he) (Jd hf ha (pJ _) h1 (by rw [EP]; exact ln (ii hl (by decide))))
 refine kQ ⟨ob,C++[g],?_,e1,prefix_append _ _⟩
 subst aC
 exact lW (k:=3) (aa:=⟨m',C++[g]⟩) rfl (b9 e3) e2
noncomputable def fr (n:Nat) (f:Nat->Option D):List (Option D):=(List.range n).map f
noncomputable def uf (f:Nat->Option D) (i:Nat) (d:D):Nat->Option D:=λj=>if j=i then some d else f j
variable {f:Nat->Option D}
section
theorem gR:n=(fr n f).length:=by unfold fr; rw [length_map,length_range]
theorem nC (hi:i<n):(fr n f)[i]?=some (f i):=by unfold fr; rw [getElem?_map,getElem?_range hi]; rfl
theorem xB (hi:n<=i):(fr n f)[i]?=none:=getElem?_eq_none (by rw [<-gR]; exact hi)
theorem qK (hi:i<n):(fr n f).set i (some d)=fr n (uf f i d):=ext_getElem? λj=>by
 by_cases e:j=i
 ·subst e; rw [List.getElem?_set_self (by rw [<-gR]; exact hi),nC hi]; exact congrArg some (if_pos rfl).symm
 ·rw [List.getElem?_set_ne (Ne.symm e)]
  by_cases h:j<n
  ·rw [nC h,nC h]; exact congrArg some (if_neg e).symm
  ·rw [xB (le_of_not_lt h),xB (le_of_not_lt h)]
theorem l3:fr n f++[some d]=fr (n+1) (uf f n d):=by
 unfold fr
 rw [List.range_succ,map_append]
 refine congr (congrArg _ (map_congr_left λx h=>(if_neg (ne_of_lt (mem_range.mp h))).symm)) ?_
 show [some d]=[uf f n d n]
 exact congrArg (· :: []) (if_pos rfl).symm
theorem MY (h:n=m.length):m=fr n λi=>(m[i]?).join:=ext_getElem? λj=>by
 by_cases e:j<n
 ·rw [nC e,getElem?_eq_getElem (by rw [<-h]; exact e)]; rfl
 ·rw [xB (le_of_not_lt e),getElem?_eq_none (by rw [<-h]; exact le_of_not_lt e)]
theorem IP (hi:i<n):iE (.one i) d (fr n f)=some (fr n (uf f i d)):=by
 rw [<-qK hi]; exact if_pos (by rw [<-gR]; exact hi)
variable {r:Ss} {o:ak Fl} {f':Nat->Option D} {ds:List D}
theorem bF (hi:ble (i+1) n=true) (h:f i=some d):ev P cl (.var i) ⟨fr n f,C⟩=.ok d ⟨fr n f,C⟩:=aw ((nC (lb hi)).trans (congrArg some h))
theorem Mx (h:ev P cl e ⟨fr n f,C⟩=.ok d ⟨fr n f,C'⟩) (hi:ble (i+1) n=true):ex P cl (.aR i false e) ⟨fr n f,C⟩=.ok .next ⟨fr n (uf f i d),C'⟩:=by
 rw [<-qK (lb hi)]; exact bU h (by rw [<-gR]; exact lb hi)
theorem lz (h:ev P cl e ⟨fr n f,C⟩=.ok d ⟨fr n f,C'⟩) (hi:ble (i+1) n=true) (k:ax P cl r ⟨fr n (uf f i d),C'⟩=o):ax P cl (.cons (.aR i false e) r) ⟨fr n f,C⟩=o:=a8 (Mx h hi) k
theorem My (h:ev P cl e ⟨fr n f,C⟩=.ok (.lst ds) ⟨fr n f,C'⟩) (hi:ble (i+1) n=true) (hf:cN e=true):ex P cl (.aR i true e) ⟨fr n f,C⟩=.ok .next ⟨fr n (uf f i (.loc C'.length)),C'++[.list ds]⟩:=by
 rw [<-qK (lb hi)]; exact qE h (by rw [<-gR]; exact lb hi) hf
theorem Ua (h:ev P cl e ⟨fr n f,C⟩=.ok (.lst ds) ⟨fr n f,C'⟩) (hi:ble (i+1) n=true) (hf:cN e=true) (k:ax P cl r ⟨fr n (uf f i (.loc C'.length)),C'++[.list ds]⟩=o):ax P cl (.cons (.aR i true e) r) ⟨fr n f,C⟩=o:=a8 (My h hi hf) k
theorem Dn {j:Nat} {d2:D} (hc:cl.fuel≠0) (h:ev P cl e ⟨fr n f,C⟩=.ok (.tup [d,d2]) ⟨fr n f,C'⟩) (hi:ble (i+1) n=true) (hj:ble (j+1) n=true):ex P cl (.oP [i,j] e) ⟨fr n f,C⟩=.ok .next ⟨fr n (uf (uf f i d) j d2),C'⟩:=by
 show (if (cl.fuel==0)=true then _ else _)=_
 rw [if_neg (by rw [beq_false_of_ne hc]; exact Bool.false_ne_true)]
 refine (aT h).trans ?_
 show ((fH i d ⟨fr n f,C'⟩).bind λ_ aa=>(fH j d2 aa).bind λ_ aa=>.ok () aa).bind (λ_ ae=>(.ok .next ae:ak Fl))=_
 rw [oD (by rw [<-gR]; exact lb hi),qK (lb hi)]
 show ((fH j d2 ⟨fr n (uf f i d),C'⟩).bind λ_ aa=>.ok () aa).bind _=_
 rw [oD (by rw [<-gR]; exact lb hj),qK (lb hj)]; rfl
theorem MX {g:α->D} {a7:ah->ah->Bool} {t:T} {body:St->ak Fl} {I:List α->St->Prop} (step : ∀ x xs m C,I (x::xs) ⟨m,C⟩->∃ m1 aa,iE t (g x) m=some m1/\body ⟨m1,C⟩=.ok .next aa/\a7 C aa.C=true/\I xs aa) (xs:List α) : ∀ st,I xs st->∃ ao,forLoop a7 t body (xs.map g) st=.ok .next ao/\I [] ao:=by
 induction xs with
 |nil=>exact λst h=>⟨st,rfl,h⟩
 |cons x xs ih=>
  intro st h
  obtain ⟨m1,aa,h1,h2,h3,h4⟩:=step x xs st.m st.C h
  obtain ⟨ao,e,h5⟩:=ih aa h4
  exact ⟨ao,(jd h1 h2 h3).trans e,h5⟩
end
variable {C0:ah}
theorem nj {g:Nat->D} (hf:cl.fuel≠0) (ht : ∀ j,j<6->c9 P cl ifs ⟨fr (n+1) (uf f n (dN j)),C⟩=.ok (.bool (p j)) ⟨fr (n+1) (uf f n (dN j)),C⟩) (he : ∀ j,j<6->p j=true->ev P cl elt ⟨fr (n+1) (uf f n (dN j)),C⟩=.ok (g j) ⟨fr (n+1) (uf f n (dN j)),C⟩) :
  ev P cl (.comp elt (.cons (.one n) (dU 6) ifs .nil)) ⟨fr n f,C⟩=.ok (.lst (((List.range 6).filter p).map g)) ⟨fr n f,C⟩:=
 Kj hf gR (λj hj=>by rw [l3]; exact ht j hj) λj hj hp=>by rw [l3]; exact he j hj hp
theorem Km {g:Nat->D} (hf:cl.fuel≠0) (he : ∀ j,j<6->∀ C2,C <+: C2->∃ C3,ev P cl elt ⟨fr (n+1) (uf f n (dN j)),C2⟩=.ok (g j) ⟨fr (n+1) (uf f n (dN j)),C3⟩/\C2 <+: C3) :
  ∃ C',ev P cl (.comp elt (.cons (.one n) (dU 6) .nil .nil)) ⟨fr n f,C⟩=.ok (.lst ((List.range 6).map g)) ⟨fr n f,C'⟩/\C <+: C':=
 Kk hf gR λj hj C2 hp=>by rw [l3]; exact he j hj C2 hp
theorem Kn {it:E} {y:D} {gx g:α->D} {p:α->Bool} {xs:List α} (hf:cl.fuel≠0) (hit:ev P cl it ⟨fr n f,C0⟩=.ok y ⟨fr n f,C⟩) (hi:bV C y=some (xs.map gx)) (hl:xs.length<aH) (hc : ∀ A B,C <+: A->A <+: B->br A B y=true)
  (ht : ∀ x∈xs,∀ C2,C <+: C2->∃ C3,c9 P cl ifs ⟨fr (n+1) (uf f n (gx x)),C2⟩=.ok (.bool (p x)) ⟨fr (n+1) (uf f n (gx x)),C3⟩/\C2 <+: C3/\(p x=true->ev P cl elt ⟨fr (n+1) (uf f n (gx x)),C3⟩=.ok (g x) ⟨fr (n+1) (uf f n (gx x)),C3⟩)) :
  ∃ C',ev P cl (.comp elt (.cons (.one n) it ifs .nil)) ⟨fr n f,C0⟩=.ok (.lst ((xs.filter p).map g)) ⟨fr n f,C'⟩/\C <+: C':=by
 obtain ⟨m,hm⟩ : ∃ m,m=fr n f:=⟨_,rfl⟩
 have hk:n=m.length:=by rw [hm]; exact gR
 have hx : ∀ x,m++[some (gx x)]=fr (n+1) (uf f n (gx x)):=λx=>by rw [hm]; exact l3
 rw [<-hm] at hit ⊢
 clear hm
 subst hk
 obtain ⟨C',e,hp⟩:=xE (G:=(· <+: ·)) (t:=.one m.length) (g:=gx) (bd:=λx=>[some (gx x)]) (F:=λx=>if p x then [g x] else []) (tests:=λae=>c9 P cl ifs ae) (inner:=λacc ae=>fU P cl (λaK=>ev P cl elt aK) .nil acc ae) (a7:=λA B=>br A B y) (m:=m) (C:=C) (L:=1) (xs:=xs) (acc:=[])
  (λA=>prefix_refl A) (λ_ _ _=>IsPrefix.trans) hc (prefix_refl C) (λ_ _ _=>wg) (λx _=>FX (p x)) (λx nU bu C2 hG dG=>by
   obtain ⟨C3,e3,h3,h4⟩:=ht x nU C2 hG
   unfold s9 cw
   rw [hx]
   dsimp only
   rw [e3]
   induction hp:p x with
   |false=>exact ⟨C3,by show ak.ok (D.lst bu) _=.ok (.lst (bu++[])) _; rw [append_nil],h3⟩
   |true=>exact ⟨C3,tE (h4 hp) (zg dG (by rw [length_nil,zero_add]; exact hl)),h3⟩)
 refine ⟨C',?_,hp⟩
 show (if (cl.fuel==0)=true then _ else _)=_
 rw [if_neg (by rw [beq_false_of_ne hf]; exact Bool.false_ne_true),hit]
 show (match bV C y with|some items=>_|none=>_)=_
 rw [hi]
 dsimp only
 rw [e,xv]; rfl
noncomputable abbrev dM (rows:List (List Nat)):List D:=rows.map λl=>.lst ((nz l).map .int)
variable {rows:List (List Nat)}
theorem E2 (h:rows[k]?=some l) (hk:k<1000):g9 C (.lst (dM rows)) (dN k)=some (.lst ((nz l).map .int)):=by
 rw [rI]
 exact uy hk (by rw [getElem?_map,h]; rfl)
theorem kH {f:Nat->α} (hk:k<6):((List.range 6).map f)[k]?=some (f k):=by rw [getElem?_map,getElem?_range hk]; rfl
theorem ff {x:Int}:x∈nz l ↔ ∃ k∈l,(k:Int)=x:=mem_map
theorem mB:(k:Int)∈nz l↔k∈l:=ff.trans ⟨λ⟨_,h,e⟩=>ofNat.inj e ▸ h,λh=>⟨k,h,rfl⟩⟩
theorem u2 (h:l.Nodup):(nz l).Nodup:=by
 induction l with
 |nil=>exact nodup_nil
 |cons a l ih=>
  obtain ⟨h1,h2⟩:=nodup_cons.mp h
  exact nodup_cons.mpr ⟨λz=>h1 (mB.mp z),ih h2⟩
theorem UA (h:k<6):small (k:Int)=true:=by
 unfold small
 rw [natAbs_natCast]; exact decide_eq_true (ii h (by decide))
theorem RO {l:List Int} {k:List Nat} (h : ∀ x∈l,x∈nz k) : ∃ l',l=nz l':=by
 induction l with
 |nil=>exact ⟨[],rfl⟩
 |cons a l ih=>
  obtain ⟨l',rfl⟩:=ih λx hx=>h x (.tail _ hx)
  obtain ⟨b,_,rfl⟩:=ff.mp (h a (.head _))
  exact ⟨b::l',rfl⟩
section
variable {ae:St} {a b:E} {x y:D}
theorem Mr (h1:ev P cl a st=.ok x aa) (h2:ev P cl b aa=.ok y ae):ev P cl (.tup (.cons a (.cons b .nil))) st=.ok (.tup [x,y]) ae:=by
 show (match bM P cl (.cons a (.cons b .nil)) st with
  |.ok (.lst ds) aa=>if ds.length<=aH then (ak.ok (D.tup ds) aa:ak D) else .fail
  |.exc x aa=>.exc x aa
  |_=>.fail)=_
 rw [lZ h1 h2]; exact if_pos (le_of_ble_eq_true rfl)
theorem Mw {z:X} (h:ev P cl a st=.exc z aa):ex P cl (.expr a) st=.exc z aa:=by
 show (ev P cl a st).bind _=_
 rw [h]; rfl
end
theorem VE {m':List (Option D)} (h:(⟨m,C⟩:Mine.Lake.St)=⟨m',C'⟩):m=m'/\C=C':=⟨congrArg Mine.Lake.St.m h,congrArg Mine.Lake.St.C h⟩
theorem Dk {b:Bool} (h:ev P cl e st=.ok (.bool b) aa):c9 P cl (.cons e .nil) st=.ok (.bool b) aa:=by
 refine (aT h).trans ?_
 induction b<;>rfl
variable {sc:Int->List Int}
theorem fQ.none {S:Int->Prop} (hS : ∀ k,S k->∃ q,S q/\k∈sc q) : ∀ l:List Int,fQ sc l->(∀ k,S k->k∈l)->∀ k,¬S k:=λl=>by
 induction l with
 |nil=>exact λ_ h k hk=>nomatch h k hk
 |cons a l ih=>
  intro T h
  have iM : ∀ q,S q->∀ k∈sc q,k∈l:=λq hq k hk=>(bi (h q hq)).elim (λe=>T.1 k (e ▸ hk)) λhl=>T.2.2.closed hl hk
  refine ih T.2.2 λk hk=>?_
  obtain ⟨q,hq,kP⟩:=hS k hk
  exact iM q hq k kP
noncomputable def gm (fs:List Nat) (j:Nat):Nat:=fs.getD j 0
theorem Dx (aU : ∀ f∈fs,f<64) {j:Nat}:gm fs j<64:=by
 unfold gm
 rw [getD_eq_getElem?_getD]
 induction h:fs[j]? with
 |none=>exact Nat.zero_lt_succ _
 |some a=>exact aU a (mem_of_getElem? h)
theorem tN (hl:fs.length=k) {j:Nat} (hj:j<k):fs[j]?=some (gm fs j):=by
 unfold gm
 rw [getD_eq_getElem?_getD,getElem?_eq_getElem (by rw [hl]; exact hj)]; rfl
noncomputable abbrev r1:List Fn:=[BD,BA,BI,wo]
noncomputable abbrev Q1:aX:=PP (gC::r1)
theorem lS (h:cl=⟨aE Q1 10000 n,10000⟩):cl.fuel≠0:=by rw [h]; exact succ_ne_zero _
noncomputable def eE (nd:Nat->List Nat) (j:Int):List Int:=nz (nd j.toNat)
variable {nd:Nat->List Nat}
theorem zb {p:Nat}:(q:Int)∈eE nd p↔q∈nd p:=by unfold eE; rw [mB,toNat_natCast]
inductive sZ (nd:Nat->List Nat) (U:List Nat) (C:ah) (o:ak D):Prop
 |mk (m':List (Option D)) (C':ah) (i:Nat) (ks:List Int) (lc:Int->Nat) (np:Int->Int) (sc:Int->List Int) (b:Bool) (e:o=.ok (.tup [.inst 2 C.length,.bool b]) ⟨m',C'⟩)
  (S:a6 C C' (.loc i) 0 0 ks lc np sc) (R:cK C C' ks lc i (ks.filter λk=>np k==0)) (hk : ∀ x,x∈ks↔x∈nz U) (G:Gr (eE nd) ks sc) (W:fP (eE nd) ks [] [] (ks.filter λk=>np k==0) np)
  (dY : ∀ x j,j∈sc x->x∈eE nd j/\j∈nz U) (hb:(b=true/\∃ u,i5 sc u u)\/(b=false/\∃ fin,fQ sc fin/\∀ k∈ks,k∈fin)):sZ nd U C o
section
variable {U:List Nat}
theorem G6 (hn:U.Nodup) (h6 : ∀ p∈U,p<6) (hr : ∀ p∈U,rows[p]?=some (nd p)) (gv : ∀ p∈U,(nd p).Nodup) (iM : ∀ p∈U,∀ q∈nd p,q∈U):sZ nd U C (aE Q1 10000 (n+4) 18 [.lst ((nz U).map .int),.lst (dM rows)] [] C):=by
 obtain ⟨cl,aC⟩ : ∃ cl:Calls,cl=⟨aE Q1 10000 (n+3),10000⟩:=⟨_,rfl⟩
 have hf:=lS aC
 have hlen:=dg hn λx h=>mem_range.mpr (h6 x h)
 obtain ⟨mk,fV⟩ : ∃ mk:Option D->List (Option D),mk=λx=>[some (.lst ((nz U).map .int)),some (.lst (dM rows)),some (.inst 2 C.length),x,none]:=⟨_,rfl⟩
 have he : ∀ j∈nz U,∀ C',ev Q1 cl (.idx (.var 1) (.var 3)) ⟨mk (some (.int j)),C'⟩=.ok (.lst ((eE nd j).map .int)) ⟨mk (some (.int j)),C'⟩:=λj hj C'=>by
  obtain ⟨p,hp,rfl⟩:=ff.mp hj
  subst fV
  unfold eE
  rw [toNat_natCast]
  exact dW (aw (d:=.lst (dM rows)) rfl) (aw (d:=dN p) rfl) (E2 (hr p hp) (ii (h6 p hp) (by decide)))
 have hU : ∀ x∈nz U,small x=true:=λx h=>by obtain ⟨p,hp,rfl⟩:=ff.mp h; exact UA (h6 p hp)
 have EB : ∀ j∈nz U,(eE nd j).Nodup:=λj hj=>by
  obtain ⟨p,hp,rfl⟩:=ff.mp hj
  unfold eE
  rw [toNat_natCast]; exact u2 (gv p hp)
 have Et : ∀ j∈nz U,∀ q∈eE nd j,q∈nz U:=λj hj q hq=>by
  obtain ⟨p,hp,rfl⟩:=ff.mp hj
  unfold eE at hq
  rw [toNat_natCast] at hq
  obtain ⟨k,hk,rfl⟩:=ff.mp hq
  exact mB.mpr (iM p hp k hk)
 refine cps λQ0 k0=>?_
 obtain ⟨x',C1,ks,lc,np,sc,e1,S1,B1⟩:=HY (r:=gC::r1) (fuel:=10000) (n:=n) (C0:=C) (nd:=eE nd) (cl:=cl) (mk:=mk) (U:=nz U) aC (by decide) (by subst fV; exact λ_=>rfl) (by subst fV; exact λ_=>rfl) (by subst fV; exact λ_ _=>rfl)
  (by rw [j8]; exact al hlen (by decide)) hU EB Et (a7:=λA B=>br A B (.lst ((nz U).map .int))) (λ_ _=>rfl) (nz U) (x:=none) he (pre:=[]) (by rw [append_nil]; exact (List.reverse_perm _).nodup_iff.mpr (u2 hn)) (λj hj=>hj) (λj hj=>(nomatch hj)) Rp ir.nil
 rw [append_nil] at B1
 obtain ⟨hk,G⟩:=B1.gr (λj h=>EB j (mem_reverse.mp h)) (λj h q hq=>mem_reverse.mpr (Et j (mem_reverse.mp h) q hq))
 have uh : ∀ x,x∈ks↔x∈nz U:=λx=>(hk x).trans mem_reverse
 have bO:ks.length<64:=al (dg S1.nd λx h=>(uh x).mp h) (by rw [j8]; exact al hlen (by decide))
 have fD:=B1.run hk S1.nd
 have dY : ∀ x j,j∈sc x->x∈eE nd j/\j∈nz U:=λx j h=>⟨((B1.ss x j).mp h).2,mem_reverse.mp ((B1.ss x j).mp h).1⟩
 have n1:ex Q1 cl (.aR 2 false (.call (.cst (.cls 2)) .nil .nil)) ⟨[some (.lst ((nz U).map .int)),some (.lst (dM rows)),none,none,none],C⟩=.ok .next ⟨mk none,C++[SA (C.length+1) .none 0 0,.dict true []]⟩:=by
  subst fV aC; exact bU (n:=2) (m:=[some (.lst ((nz U).map .int)),some (.lst (dM rows)),none,none,none]) (dT (g:=.cls 2) (ds:=[]) rfl rfl Ro) (lb rfl)
 have n2:ex Q1 cl BE ⟨mk none,C++[SA (C.length+1) .none 0 0,.dict true []]⟩=.ok .next ⟨mk x',C1⟩:=(jc (items:=(nz U).map .int) hf (by subst fV; exact aw (d:=.lst ((nz U).map .int)) rfl) rfl).trans e1
 have fin : ∀ {b:Bool} {C2:ah},ax Q1 cl BG ⟨mk x',C1⟩=ax Q1 cl BF ⟨[some (.lst ((nz U).map .int)),some (.lst (dM rows)),some (.inst 2 C.length),x',some (.bool b)],C2⟩->aE Q1 10000 (n+4) 18 [.lst ((nz U).map .int),.lst (dM rows)] [] C=.ok (.tup [.inst 2 C.length,.bool b]) ⟨[some (.lst ((nz U).map .int)),some (.lst (dM rows)),some (.inst 2 C.length),x',some (.bool b)],C2⟩:=λ{b C2} e=>by
  show dq (ax Q1 ⟨aE Q1 10000 (n+3),10000⟩ BH ⟨[some (.lst ((nz U).map .int)),some (.lst (dM rows)),none,none,none],C⟩)=_
  rw [<-aC]
  exact kc (a8 n1 (a8 n2 (e.trans (kg (Mr (x:=.inst 2 C.length) (y:=.bool b) (aw rfl) (aw rfl))))))
 have O7:=Sk (r:=gC::r1) (fuel:=10000) (n:=n+1) (by decide) S1 bO (λk h=>hU k ((uh k).mp h)) (λk h v hv=>((G.p9 k h v).mp hv).1) G.snd
 induction O7 using sX.casesOn with
 |ok m2 C2 i e2 S2 R2 fo T all=>
  refine k0 ⟨_,C2,i,ks,lc,np,sc,false,fin ?_,S2,R2,uh,G,fD,dY,.inr ⟨rfl,fo,T,all⟩⟩
  subst fV aC
  exact (bB (bU (d:=.bool false) rfl (lb rfl))).trans (bB (Dr (succ_ne_zero _) (ct (jb (nB (aa:=⟨m2,C2⟩) (aw (d:=.inst 2 C.length) rfl) (kh S1.top).2.2.1 (ds:=[]) rfl e2)))))
 |d9 m2 C2 i e2 S2 R2 h=>
  refine k0 ⟨_,C2,i,ks,lc,np,sc,true,fin ?_,S2,R2,uh,G,fD,dY,.inl ⟨rfl,h⟩⟩
  have hp:ax Q1 cl (.cons (.expr (.bo (.var 2) .prepare .nil)) .nil) ⟨(mk x').set 4 (some (.bool false)),C1⟩=.exc .iG ⟨(mk x').set 4 (some (.bool false)),C2⟩:=by
   subst fV aC
   exact qH (Mw (Mo (aa:=⟨_,_⟩) (aw (d:=.inst 2 C.length) rfl) (kh S1.top).2.2.1 (ds:=[]) rfl e2))
  subst fV
  exact (bB (bU (d:=.bool false) rfl (lb rfl))).trans (bB (Dq hf hp rfl (ct (bU (n:=4) (m:=[some (.lst ((nz U).map .int)),some (.lst (dM rows)),some (.inst 2 C.length),x',some (.bool false)]) (d:=.bool true) rfl (lb rfl)))))
end
variable {ks:List Int} {lc:Int->Nat}
section
variable {rs:List Int} {np:Int->Int} {nd:Int->List Int} {held:Int} {p:Int}
theorem JR (bO:ks.length<64) (G:Gr nd ks sc) (S:a6 C0 C (.loc i) p p ks lc np sc) (R:cK C0 C ks lc i rs) (W:fP nd ks [] [] rs np) : ∃ m' C' dn hs,aE Q1 10000 (n+4) 19 [.inst 2 C0.length,.int held] [] C=.ok (.lst (dn.reverse.map .int)) ⟨m',C'⟩/\mT C0 C' ks lc sc nd i held dn [] hs:=by
 refine cps λQ0 k0=>?_
 obtain ⟨cl,aC⟩ : ∃ cl:Calls,cl=⟨aE Q1 10000 (n+3),10000⟩:=⟨_,rfl⟩
 obtain ⟨oa,EA⟩ : ∃ oa:List Int->List Int->List (Option D),oa=λc b=>[some (.inst 2 C0.length),some (.int held),some (.lst (c.map .int)),some (.lst (b.map .int))]:=⟨_,rfl⟩
 have Q:Ao oa C0.length held 0 1 2 3:=by subst EA; exact ⟨λ_ _=>rfl,λ_ _=>rfl,λ_ _=>rfl,λ_ _=>rfl,λ_ _ _=>rfl,λ_ _ _=>rfl⟩
 obtain ⟨bt,hs,C3,e3,H3⟩:=A4 (r:=gC::r1) (fuel:=10000) (n:=n+1) (cl:=cl) aC (by decide) (by decide) bO S R W (hs:=[]) (held:=held) (λ_ h=>(nomatch h)) (λh=>(nomatch h)) nodup_nil (add_zero p).symm (m:=[some (.inst 2 C0.length),some (.int held),some (.lst []),none]) (sv:=0) (hv:=1) rfl rfl
 obtain ⟨C4,dn,dm,e4,H4⟩:=BP (r:=gC::r1) (fuel:=10000) (n:=n+1) (cl:=cl) aC (by decide) bO G Q 10000 (dn:=[]) (am bO (by decide)) H3
 refine k0 ⟨oa dn.reverse [],C4,dn,dm,?_,H4⟩
 show dq (ax Q1 ⟨aE Q1 10000 (n+3),10000⟩ wy ⟨[some (.inst 2 C0.length),some (.int held),none,none],C⟩)=_
 rw [<-aC]
 have e5:ax Q1 cl wy ⟨[some (.inst 2 C0.length),some (.int held),none,none],C⟩=ax Q1 cl BC ⟨oa [] bt,C3⟩:=by
  subst EA
  exact (bB (bU (d:=.lst []) rfl (lb rfl))).trans (bB (bU e3 (lb rfl)))
 have e6:ex Q1 cl BB ⟨oa [] bt,C3⟩=.ok .next ⟨oa dn.reverse [],C4⟩:=by
  subst aC; exact e4
 exact kc (e5.trans (a8 e6 (kg (aw (Q.c _ _)))))
end
noncomputable def si (l:List Nat):Nat:=(l.map λk=>2 ^ k).sum
noncomputable def tO (b0 b1 b2 b3 b4 b5:Bool):List Nat:=(List.range 6).filter λk=>[b0,b1,b2,b3,b4,b5].getD k false
theorem DJ : ∀ b0 b1 b2 b3 b4 b5:Bool,rX (si (tO b0 b1 b2 b3 b4 b5))=tO b0 b1 b2 b3 b4 b5/\si (tO b0 b1 b2 b3 b4 b5)<64:=by decide +kernel
theorem DH (p:Nat->Bool):(List.range 6).filter p=tO (p 0) (p 1) (p 2) (p 3) (p 4) (p 5):=filter_congr λk hk=>by
 rcases QI k (mem_range.mp hk) with rfl|rfl|rfl|rfl|rfl|rfl<;>rfl
noncomputable def bs (p:Nat->Bool):Nat:=si ((List.range 6).filter p)
theorem I9:rX (bs p)=(List.range 6).filter p:=by unfold bs; rw [DH]; exact (DJ _ _ _ _ _ _).1
theorem I8:bs p<64:=by unfold bs; rw [DH]; exact (DJ _ _ _ _ _ _).2
theorem I0 (h:q<6):(bs p).testBit q=p q:=by
 have:q∈rX (bs p)↔q∈(List.range 6).filter p:=by rw [I9]
 rw [Q2,mem_filter,mem_range] at this
 rw [Bool.eq_iff_iff]
 exact ⟨λz=>(this.mp ⟨h,z⟩).2,λz=>(this.mpr ⟨h,z⟩).2⟩
theorem Bf (ha:a<64) (h : ¬q<6):a.testBit q=false:=Nat.testBit_lt_two_pow (am ha (show 2 ^ 6<=2 ^ q from Nat.pow_le_pow_right (by decide) (le_of_not_lt h)))
theorem xo (ha:a<64) (hb:b<64) (h : ∀ q<6,a.testBit q=b.testBit q):a=b:=Nat.eq_of_testBit_eq λq=>by
 by_cases hq:q<6
 ·exact h q hq
 ·rw [Bf ha hq,Bf hb hq]
theorem vU (ha:a<64):a &&& b<64:=al Nat.and_le_left ha
theorem F4 (ha:a<64) (hb:b<64):a ||| b<64:=Nat.or_lt_two_pow (n:=6) ha hb
theorem H9 (ha:a<64):a &&& b=a ↔ ∀ q<6,a.testBit q=true->b.testBit q=true:=by
 constructor
 ·intro h q _ hq
  rw [<-h,testBit_and,and_eq_true] at hq; exact hq.2
 ·refine λh=>xo (vU ha) ha λq hq=>?_
  rw [testBit_and]
  induction z:a.testBit q with
  |true=>rw [h q hq z]; rfl
  |false=>rfl
theorem RQ : ∀ l:List Nat,(nz l).sum=(l.sum:Int):=λl=>by
 induction l with
 |nil=>rfl
 |cons a l ih=>
  show (a:Int)+(nz l).sum=((a+l.sum:Nat):Int)
  rw [ih]; rfl
theorem Mj (hf:cl.fuel≠0) (ht : ∀ j,j<6->c9 P cl ifs ⟨fr (n+1) (uf f n (dN j)),C⟩=.ok (.bool (p j)) ⟨fr (n+1) (uf f n (dN j)),C⟩) :
  ev P cl (.call (.cst (.bn .sum)) (.cons (.comp (.bin .pow (.cst (.int 2)) (.var n)) (.cons (.one n) (dU 6) ifs .nil)) .nil) .nil) ⟨fr n f,C⟩=.ok (dN (bs p)) ⟨fr n f,C⟩:=by
 have e:=nj (P:=P) (cl:=cl) (n:=n) (f:=f) (C:=C) (elt:=.bin .pow (.cst (.int 2)) (.var n)) (g:=λj=>dN (2 ^ j)) hf ht λj hj _=>cg (x:=dN 2) (y:=dN j) rfl (aw ((nC (lt_succ_self n)).trans (congrArg some (if_pos rfl)))) (zr (by decide) (ln (ii hj (by decide))))
 have e2:((List.range 6).filter p).map (λj=>dN (2 ^ j))=(nz (((List.range 6).filter p).map λk=>2 ^ k)).map .int:=by unfold nz; rw [map_map,map_map]; rfl
 rw [e2] at e
 refine dT (g:=.bn .sum) rfl (b9 e) ((fx hf).trans ?_)
 obtain ⟨l,hl⟩ : ∃ l,l=((List.range 6).filter p).map λk=>2 ^ k:=⟨_,rfl⟩
 have hs : ∀ x∈l,x<2 ^ 32:=λx hx=>by
  rw [hl] at hx
  obtain ⟨k,hk,rfl⟩:=mem_map.mp hx
  exact Nat.pow_lt_pow_right (by decide) (ii (mem_range.mp (mem_filter.mp hk).1) (by decide))
 have OM:l.length<=aH:=by rw [hl,length_map]; exact an (List.length_filter_le _ _) (le_of_ble_eq_true rfl)
 show aL (eA ((nz _).map .int)) (λxs=>bJ (xs.all (λx=>decide (x.natAbs<2 ^ 32))&&decide (xs.length<=aH)) (.ok (.int xs.sum) ⟨fr n f,C⟩))=_
 rw [pJ,<-hl]
 show bJ ((nz l).all (λx=>decide (x.natAbs<2 ^ 32))&&decide ((nz l).length<=aH)) (.ok (.int (nz l).sum) ⟨fr n f,C⟩)=_
 rw [j8,decide_eq_true OM,show (nz l).all (λx=>decide (x.natAbs<2 ^ 32))=true from all_eq_true.mpr λx hx=>by obtain ⟨k,hk,rfl⟩:=ff.mp hx; exact decide_eq_true (hs k hk),RQ,hl]; rfl
theorem RP (h:l.Pairwise (· < ·)):(nz l).Pairwise (·<=·):=by
 unfold nz
 rw [List.pairwise_map]
 exact h.imp λa=>ofNat_le.mpr (ln a)
theorem Vx {N:Nat} (hn:l.Nodup) (hl : ∀ x∈l,x<N):oE (nz l)=nz ((List.range N).filter λx=>decide (x∈l)):=by
 obtain ⟨p1,p2⟩:=zU (nz l)
 refine List.Perm.eq_of_pairwise (λa b _ _ h1 h2=>Int.le_antisymm h1 h2) p2 (RP (List.pairwise_lt_range.filter _)) (p1.trans ((List.perm_ext_iff_of_nodup (u2 hn) (u2 (nodup_range.filter _))).mpr λx=>?_))
 rw [ff,ff]
 refine exists_congr λk=>and_congr_left λ_=>?_
 rw [mem_filter,mem_range,decide_eq_true_eq]
 exact ⟨λh=>⟨hl k h,h⟩,λh=>h.2⟩
theorem Di {N:Nat} (hf:cl.fuel≠0) (he:ev P cl e ⟨m,C⟩=.ok d ⟨m,C'⟩) (hd:a9 C' d=some ((nz l).map .int)) (hn:l.Nodup) (hl : ∀ x∈l,x<N) (hk:jE (nz l)=true) :
  ev P cl (.call (.cst (.bn .sorted)) (.cons e .nil) .nil) ⟨m,C⟩=.ok (.lst ((nz ((List.range N).filter λx=>decide (x∈l))).map .int)) ⟨m,C'⟩:=by
 refine dT (g:=.bn .sorted) rfl (b9 he) ((fx hf).trans ?_)
 show aL ((a9 C' d).bind eA) _=_
 rw [hd]
 show aL (eA ((nz l).map .int)) _=_
 rw [pJ]
 show bJ (jE (nz l)) _=_
 rw [hk,Vx hn hl]; rfl
noncomputable def dz (j:Bool) (x g:Nat):Nat:=if j then x ||| g else x &&& g
noncomputable def fp (F:List Nat) (y:Nat):List Nat:=if y∈F then F else F++[y]
noncomputable def iU (j:Bool) (g:Nat) (F xs:List Nat):List Nat:=xs.foldl (λF x=>fp F (dz j x g)) F
noncomputable def bZ (j:Bool) (F gs:List Nat):List Nat:=gs.foldl (λF g=>iU j g F F) F
noncomputable def eB (F:List Nat):List D:=(List.range 64).map λx=>.bool (decide (x∈F))
structure dQ (F:List Nat):Prop where
 gF:F.Nodup
 lt : ∀ x∈F,x<64
variable {F:List Nat}
theorem dQ.len (h:dQ F):F.length<=64:=by
 have:=dg h.gF (ks:=List.range 64) λx hx=>mem_range.mpr (h.lt x hx)
 rw [length_range] at this; exact this
variable {x g:Nat} {j:Bool}
theorem zp (hx:x<64) (hg:g<64):dz j x g<64:=by
 unfold dz
 induction j with
 |true=>exact F4 hx hg
 |false=>exact vU hx
theorem dQ.add (h:dQ F) (hy:y<64):dQ (fp F y):=by
 unfold fp
 by_cases m:y∈F
 ·rw [if_pos m]; exact h
 ·rw [if_neg m]
  exact ⟨nodup_append.mpr ⟨h.gF,nodup_cons.mpr ⟨not_mem_nil,nodup_nil⟩,λa ha b hb e=>m (by rw [<-ca hb,<-e]; exact ha)⟩,λx hx=>(mem_append.mp hx).elim (h.lt x) λz=>ca z ▸ hy⟩
theorem y9 {z:Nat}:z∈fp F y↔z∈F\/z=y:=by
 unfold fp
 by_cases m:y∈F
 ·rw [if_pos m]; exact ⟨.inl,λh=>h.elim id λe=>e ▸ m⟩
 ·rw [if_neg m,mem_append,mem_singleton]
theorem dQ.iU (hg:g<64) (xs:List Nat) : ∀ {F:List Nat},dQ F->(∀ x∈xs,x<64)->dQ (iU j g F xs)/\∀ z,z∈Mine.Lake.iU j g F xs↔z∈F\/∃ x∈xs,z=dz j x g:=by
 induction xs with
 |nil=>exact λh _=>⟨h,λz=>⟨.inl,λh=>h.elim id λ⟨_,h,_⟩=>(nomatch h)⟩⟩
 |cons x xs ih=>
  intro F h hx
  obtain ⟨h1,h2⟩:=ih (h.add (zp (j:=j) (hx x (.head _)) hg)) λy hy=>hx y (.tail _ hy)
  refine ⟨h1,λz=>(h2 z).trans ?_⟩
  rw [y9,or_assoc]
  refine or_congr_right ⟨λh=>h.elim (λe=>⟨x,.head _,e⟩) λ⟨y,a,b⟩=>⟨y,.tail _ a,b⟩,λ⟨y,a,b⟩=>?_⟩
  exact (bi a).elim (λe=>.inl (e ▸ b)) λa=>.inr ⟨y,a,b⟩
theorem dQ.bZ (gs:List Nat) : ∀ {F:List Nat},dQ F->(∀ g∈gs,g<64)->dQ (bZ j F gs):=by
 induction gs with
 |nil=>exact λh _=>h
 |cons g gs ih=>exact λ{F} h hg=>ih (h.iU (hg g (.head _)) F h.lt).1 λy hy=>hg y (.tail _ hy)
noncomputable def sQ (a k:Nat) (C C':ah):Prop := ∀ i c,i≠a->i≠k->C[i]?=some c->C'[i]?=some c
variable {gs:List Nat}
section
variable {y:D} {x6:Option D}
noncomputable def mS (a:Nat) (y:D) (j:Bool) (x3:Option D) (k:Nat) (x5 x6:Option D):List (Option D):=[some (.loc a),some y,some (.bool j),x3,some (.loc k),x5,x6]
theorem uL (h:x<64):(eB F)[x]?=some (.bool (decide (x∈F))):=by unfold eB; rw [getElem?_map,getElem?_range h]; rfl
theorem Qh (h:x<64) (hx:x ∉ F):(eB F).set x (.bool true)=eB (fp F x):=ext_getElem? λi=>by
 by_cases e:i=x
 ·subst e
  rw [List.getElem?_set_self (by unfold eB; rw [length_map,length_range]; exact h),uL h,decide_eq_true (y9.mpr (.inr rfl))]
 ·rw [List.getElem?_set_ne (Ne.symm e)]
  by_cases hi:i<64
  ·rw [uL hi,uL hi]
   refine congrArg some (congrArg D.bool ?_)
   rw [Bool.eq_iff_iff,decide_eq_true_eq,decide_eq_true_eq,y9]
   exact ⟨.inl,λh=>h.resolve_right e⟩
  ·unfold eB
   rw [getElem?_eq_none (by rw [length_map,length_range]; exact le_of_not_lt hi),getElem?_eq_none (by rw [length_map,length_range]; exact le_of_not_lt hi)]
theorem VD (hF:dQ F) (hx:x<64) (hg:g<64) (pj:a≠k) (ha:C[a]?=some (.list ((nz F).map .int))) (hk:C[k]?=some (.list (eB F))) :
  ∃ eO C',ax Q1 cl tl ⟨mS a y j (some (dN x)) k (some (dN g)) x6,C⟩=.ok .next ⟨mS a y j (some (dN x)) k (some (dN g)) eO,C'⟩/\C'[a]?=some (.list ((nz (fp F (dz j x g))).map .int))/\C'[k]?=some (.list (eB (fp F (dz j x g))))/\sQ a k C C':=by
 have hz:=zp (j:=j) hx hg
 have e1:ev Q1 cl (.ite (.var 2) (.bin .or (.var 3) (.var 5)) (.bin .and (.var 3) (.var 5))) ⟨mS a y j (some (dN x)) k (some (dN g)) x6,C⟩=.ok (dN (dz j x g)) ⟨mS a y j (some (dN x)) k (some (dN g)) x6,C⟩:=by
  refine (aT (aw (d:=.bool j) rfl)).trans ?_
  induction j with
  |true=>exact cg (aw (d:=dN x) rfl) (aw (d:=dN g) rfl) (RZ hx hg)
  |false=>exact cg (aw (d:=dN x) rfl) (aw (d:=dN g) rfl) RY
 obtain ⟨z,PA⟩ : ∃ z,z=dz j x g:=⟨_,rfl⟩
 rw [<-PA] at e1 hz ⊢
 have e2:ex Q1 cl (.aR 6 false (.ite (.var 2) (.bin .or (.var 3) (.var 5)) (.bin .and (.var 3) (.var 5)))) ⟨mS a y j (some (dN x)) k (some (dN g)) x6,C⟩=.ok .next ⟨mS a y j (some (dN x)) k (some (dN g)) (some (dN z)),C⟩:=bU e1 (lb rfl)
 have v4 : ∀ {C:ah},ev Q1 cl (.var 4) ⟨mS a y j (some (dN x)) k (some (dN g)) (some (dN z)),C⟩=.ok (.loc k) ⟨mS a y j (some (dN x)) k (some (dN g)) (some (dN z)),C⟩:=aw rfl
 have v6 : ∀ {C:ah},ev Q1 cl (.var 6) ⟨mS a y j (some (dN x)) k (some (dN g)) (some (dN z)),C⟩=.ok (dN z) ⟨mS a y j (some (dN x)) k (some (dN g)) (some (dN z)),C⟩:=aw rfl
 have e3:=qD (P:=Q1) (cl:=cl) (dW v4 v6 ((yJ hk).trans (uy (ii hz (by decide)) (uL hz)))) (b:=decide (z∈F)) rfl
 refine ⟨some (dN z),?_⟩
 by_cases m:z∈F
 ·rw [decide_eq_true m] at e3
  have:fp F z=F:=by unfold fp; exact if_pos m
  rw [this]
  exact ⟨C,a8 e2 (ct (dZ e3 rfl rfl)),ha,hk,λ_ _ _ _ h=>h⟩
 ·rw [decide_eq_false m] at e3
  have mf:(eB F).length=64:=by unfold eB; rw [length_map,length_range]
  have yz:ki (.loc k) (dN z) (.bool true) C=some (C.set k (.list (eB (fp F z)))):=by
   show (C[k]?).bind _=_
   rw [hk]
   show (if 0<=(z:Int)/\(z:Int)<(eB F).length then some (C.set k (.list ((eB F).set (z:Int).toNat (.bool true)))) else none)=_
   rw [if_pos ⟨natCast_nonneg _,by rw [mf]; exact ofNat_lt.mpr hz⟩,toNat_natCast,Qh hz m]
  have t6:(C.set k (.list (eB (fp F z))))[a]?=some (.list ((nz F).map .int)):=gO ha pj
  have e4:=tD (P:=Q1) (cl:=cl) (o:=.var 0) (e:=.var 6) (st:=⟨mS a y j (some (dN x)) k (some (dN g)) (some (dN z)),C.set k (.list (eB (fp F z)))⟩) (aw rfl) v6 t6 (by rw [length_map,j8]; exact al hF.len (le_of_ble_eq_true rfl))
  refine ⟨_,a8 e2 (ct (mq e3 rfl (a8 (xk (x:=.bool true) rfl v4 v6 yz) (ct (jb e4))))),?_,gO (ku hk) (Ne.symm pj),λi c h1 h2 h=>gO (gO h h2) h1⟩
  rw [ku t6,show ((nz F).map D.int++[dN z])=(nz (F++[z])).map .int by rw [FQ,map_append]; rfl,show fp F z=F++[z] from if_neg m]
theorem VB (hg:g<64) (pj:a≠k) {ys:List D} (xs:List Nat) : ∀ {F:List Nat} {C:ah} {x3 x6:Option D},dQ F->(∀ x∈xs,x<64)->C[a]?=some (.list ((nz F).map .int))->C[k]?=some (.list (eB F))->
  ∃ lH eO C',forLoop (λA B=>br A B (.lst ys)) (.one 3) (λst=>ax Q1 cl tl st) (xs.map dN) ⟨mS a y j x3 k (some (dN g)) x6,C⟩=.ok .next ⟨mS a y j lH k (some (dN g)) eO,C'⟩/\C'[a]?=some (.list ((nz (iU j g F xs)).map .int))/\C'[k]?=some (.list (eB (iU j g F xs)))/\sQ a k C C':=by
 induction xs with
 |nil=>exact λ{F C x3 x6} _ _ ha hk=>⟨x3,x6,C,rfl,ha,hk,λ_ _ _ _ h=>h⟩
 |cons x xs ih=>
  intro F C x3 x6 hF hx ha hk
  obtain ⟨eO,C1,e1,a1,k1,b1⟩:=VD (cl:=cl) (y:=y) (j:=j) (x6:=x6) hF (hx x (.head _)) hg pj ha hk
  obtain ⟨lH,WH,C2,e2,a2,k2,b2⟩:=ih (x3:=some (dN x)) (x6:=eO) (hF.add (zp (j:=j) (hx x (.head _)) hg)) (λy hy=>hx y (.tail _ hy)) a1 k1
  exact ⟨lH,WH,C2,(jd (m1:=mS a y j (some (dN x)) k (some (dN g)) x6) rfl e1 rfl).trans e2,a2,k2,λi c h1 h2 h=>b2 i c h1 h2 (b1 i c h1 h2 h)⟩
noncomputable def kp (y:D) (gs:List Nat) (a k:Nat) (C:ah):Prop:=y=.lst ((nz gs).map .int)\/∃ c,y=.loc c/\c≠a/\c≠k/\C[c]?=some (.list ((nz gs).map .int))
theorem kp.IC (h:kp y gs a k C) (b:sQ a k C C'):kp y gs a k C':=h.imp id λ⟨c,h1,h2,h3,h4⟩=>⟨c,h1,h2,h3,b c _ h2 h3 h4⟩
theorem Hc (h:C[i]?=some (.list ((nz l).map .int))) (h':C'[i]?=some (.list ((nz l).map .int))):br C C' (.loc i)=true:=by
 show kj C C' i=true
 unfold kj
 rw [h,h']
 exact wa _
theorem kp.VL (h:kp y gs a k C) (h':kp y gs a k C'):br C C' y=true:=by
 rcases h with rfl|⟨c,rfl,_,_,h4⟩
 ·rfl
 ·rcases h' with z|⟨c',z,_,_,h5⟩
  ·exact (nomatch z)
  ·injection z with z
   subst z; exact Hc h4 h5
theorem VC (hf:cl.fuel≠0) (pj:a≠k) {all:List Nat} (gs:List Nat) : ∀ {F:List Nat} {C:ah} {x3 x5 x6:Option D},dQ F->(∀ x∈gs,x<64)->kp y all a k C->C[a]?=some (.list ((nz F).map .int))->C[k]?=some (.list (eB F))->
  ∃ lH sN eO C',forLoop (λA B=>br A B y) (.one 5) (λst=>ax Q1 cl BJ st) (gs.map dN) ⟨mS a y j x3 k x5 x6,C⟩=.ok .next ⟨mS a y j lH k sN eO,C'⟩/\C'[a]?=some (.list ((nz (bZ j F gs)).map .int))/\sQ a k C C':=by
 induction gs with
 |nil=>exact λ{F C x3 x5 x6} _ _ _ ha _=>⟨x3,x5,x6,C,rfl,ha,λ_ _ _ _ h=>h⟩
 |cons g gs ih=>
  intro F C x3 x5 x6 hF hx hy ha hk
  have hg:=hx g (.head _)
  obtain ⟨lH,eO,C1,e1,a1,k1,b1⟩:=VB (cl:=cl) (y:=y) (j:=j) hg pj (ys:=(nz F).map .int) F (x3:=x3) (x6:=x6) hF hF.lt ha hk
  have rH:=hy.IC b1
  obtain ⟨y3,y5,y6,C2,e2,a2,b2⟩:=ih (x3:=lH) (x5:=some (dN g)) (x6:=eO) (hF.iU (j:=j) hg F hF.lt).1 (λy hy=>hx y (.tail _ hy)) rH a1 k1
  have el:ev Q1 cl (.call (.cst (.bn .list)) (.cons (.var 0) .nil) .nil) ⟨mS a y j x3 k (some (dN g)) x6,C⟩=.ok (.lst ((nz F).map .int)) ⟨mS a y j x3 k (some (dN g)) x6,C⟩:=
   dT (g:=.bn .list) rfl (b9 (aw (d:=.loc a) rfl)) ((fx hf).trans (by show aL (C[a]?) _=_; rw [ha]; rfl))
  have e3:=(jc (P:=Q1) (cl:=cl) (t:=.one 3) (a:=tl) (items:=F.map dN) hf el (by show some ((nz F).map D.int)=_; unfold nz; rw [map_map]; rfl)).trans e1
  exact ⟨y3,y5,y6,C2,(jd (m1:=mS a y j x3 k (some (dN g)) x6) rfl (ct e3) (hy.VL rH)).trans e2,a2,λi c h1 h2 h=>b2 i c h1 h2 (b1 i c h1 h2 h)⟩
end
theorem VA {y:D} (hF:dQ F) (hg : ∀ x∈gs,x<64) (ha:C[a]?=some (.list ((nz F).map .int))) (hy : ∀ k,C.length<=k->kp y gs a k C) :
  ∃ m' C',aE Q1 10000 (n+1) 20 [.loc a,y,.bool j] [] C=.ok (.loc a) ⟨m',C'⟩/\C'[a]?=some (.list ((nz (bZ j F gs)).map .int))/\∀ i c,i≠a->C[i]?=some c->C'[i]?=some c:=by
 obtain ⟨cl,aC⟩ : ∃ cl:Calls,cl=⟨aE Q1 10000 n,10000⟩:=⟨_,rfl⟩
 have hf:=lS aC
 have hc:=qu (P:=Q1) (cl:=cl) (elt:=.cmp .ez (.var 7) (.var 0)) (ifs:=.nil) (it:=dU 64) (k:=7) (m:=[some (.loc a),some y,some (.bool j),none,none,none,none]) (C:=C) (xs:=List.range 64) (g:=dN) (f:=λx=>.bool (decide (x∈F))) (p:=λ_=>true) (y:=.cP 0 64) hf rfl
  (dT (g:=.bn .range) (ds:=[.int 64]) rfl rfl ((fx hf).trans rfl)) rfl (le_of_ble_eq_true rfl) rfl (λ_ _=>rfl) λx _ _=>b7 (aw (d:=dN x) rfl) (aw (d:=.loc a) rfl) (by show (C[a]?).bind _=_; rw [ha]; exact yR)
 rw [filter_eq_self.mpr (λ_ _=>rfl)] at hc
 obtain ⟨C1,l6⟩ : ∃ C1,C1=C++[Ch.list (eB F)]:=⟨_,rfl⟩
 have aZ:=n9 ha
 have rH:kp y gs a C.length C1:=(hy C.length (le_refl _)).imp id λ⟨c,h1,h2,h3,h4⟩=>⟨c,h1,h2,h3,by rw [l6]; exact eR h4⟩
 obtain ⟨x3,x5,x6,C2,e,a2,b2⟩:=VC (cl:=cl) (y:=y) (j:=j) (k:=C.length) hf (ne_of_lt aZ) gs (x3:=none) (x5:=none) (x6:=none) hF hg rH (by rw [l6]; exact eR ha) (by rw [l6]; exact d8)
 have hit:bV C1 y=some (gs.map dN):=by
  rcases rH with rfl|⟨c,rfl,_,_,h4⟩
  ·show some ((nz gs).map D.int)=_; unfold nz; rw [map_map]; rfl
  ·show (C1[c]?).bind pL=_
   rw [h4]
   show some ((nz gs).map D.int)=_; unfold nz; rw [map_map]; rfl
 have e1:ex Q1 cl (.aR 4 true (.comp (.cmp .ez (.var 7) (.var 0)) (.cons (.one 7) (dU 64) .nil .nil))) ⟨[some (.loc a),some y,some (.bool j),none,none,none,none],C⟩=.ok .next ⟨mS a y j none C.length none none,C1⟩:=by rw [l6]; exact qE hc (lb rfl) rfl
 refine ⟨mS a y j x3 C.length x5 x6,C2,?_,a2,λi c h1 h=>b2 i c h1 (ne_of_lt (n9 h)) (by rw [l6]; exact eR h)⟩
 show dq (ax Q1 ⟨aE Q1 10000 n,10000⟩ BK ⟨[some (.loc a),some y,some (.bool j),none,none,none,none],C⟩)=_
 rw [<-aC]
 exact kc (a8 e1 (a8 ((jc (items:=gs.map dN) hf (aw (d:=y) rfl) hit).trans e) (kg (aw rfl))))
variable {sel:Nat->Bool}
section
variable {Us:List Nat}
theorem zV {U:Nat->Prop} (gs:List Nat) : ∀ {F:List Nat},dQ F->(∀ g∈gs,g<64)->(∀ x∈F,U x)->(∀ g∈gs,∀ x<64,U x->U (dz j x g))->∀ x∈bZ j F gs,U x:=by
 induction gs with
 |nil=>exact λ_ _ h _=>h
 |cons g gs ih=>
  intro F hF hg h ho
  obtain ⟨h1,h2⟩:=hF.iU (j:=j) (hg g (.head _)) F hF.lt
  exact ih h1 (λy hy=>hg y (.tail _ hy)) (λx hx=>((h2 x).mp hx).elim (h x) λ⟨z,a,b⟩=>b ▸ ho g (.head _) z (hF.lt z a) (h z a)) λy hy=>ho y (.tail _ hy)
theorem zW (gs:List Nat) : ∀ {F:List Nat} {x:Nat},dQ F->(∀ g∈gs,g<64)->x∈F->gs.foldl (λx g=>if sel g then dz j x g else x) x∈bZ j F gs:=by
 induction gs with
 |nil=>exact λ_ _ h=>h
 |cons g gs ih=>
  intro F x hF hg h
  obtain ⟨h1,h2⟩:=hF.iU (j:=j) (hg g (.head _)) F hF.lt
  refine ih h1 (λy hy=>hg y (.tail _ hy)) ((h2 _).mpr ?_)
  dsimp only
  induction sel g with
  |true=>exact .inr ⟨x,h,rfl⟩
  |false=>exact .inl h
theorem AW (gs:List Nat) : ∀ {x:Nat},x<64->gs.foldl (λx g=>if sel g then dz false x g else x) x<64/\((gs.foldl (λx g=>if sel g then dz false x g else x) x).testBit q=true↔x.testBit q=true/\∀ g∈gs,sel g=true->g.testBit q=true):=by
 induction gs with
 |nil=>exact λh=>⟨h,λh=>⟨h,λ_ h=>(nomatch h)⟩,λh=>h.1⟩
 |cons g gs ih=>
  intro x hx
  rw [foldl_cons]
  have gy:(if sel g then dz false x g else x)<64:=by
   induction sel g with
   |true=>exact vU hx
   |false=>exact hx
  obtain ⟨h1,h2⟩:=ih gy
  refine ⟨h1,h2.trans ?_⟩
  have e:(if sel g then dz false x g else x).testBit q=true↔x.testBit q=true/\(sel g=true->g.testBit q=true):=by
   induction sel g with
   |true=>
    show (x &&& g).testBit q=true↔_
    rw [testBit_and,and_eq_true]
    exact and_congr_right λ_=>⟨λh _=>h,λh=>h rfl⟩
   |false=>exact ⟨λh=>⟨h,λh=>(nomatch h)⟩,λh=>h.1⟩
  rw [e,and_assoc]
  refine and_congr_right λ_=>⟨λh z hz=>?_,λh=>⟨h g (.head _),λz hz=>h z (.tail _ hz)⟩⟩
  exact (bi hz).elim (λe=>e ▸ h.1) (h.2 z)
theorem R6 (gs:List Nat) : ∀ {x:Nat},x<64->(∀ g∈gs,g<64)->gs.foldl (λx g=>if sel g then dz true x g else x) x<64/\((gs.foldl (λx g=>if sel g then dz true x g else x) x).testBit q=true↔x.testBit q=true\/∃ g∈gs,sel g=true/\g.testBit q=true):=by
 induction gs with
 |nil=>exact λh _=>⟨h,.inl,λh=>h.elim id λ⟨_,h,_⟩=>(nomatch h)⟩
 |cons g gs ih=>
  intro x hx hg
  rw [foldl_cons]
  have gy:(if sel g then dz true x g else x)<64:=by
   induction sel g with
   |true=>exact F4 hx (hg g (.head _))
   |false=>exact hx
  obtain ⟨h1,h2⟩:=ih gy λy hy=>hg y (.tail _ hy)
  refine ⟨h1,h2.trans ?_⟩
  have e:(if sel g then dz true x g else x).testBit q=true↔x.testBit q=true\/(sel g=true/\g.testBit q=true):=by
   induction sel g with
   |true=>
    show (x ||| g).testBit q=true↔_
    rw [Nat.testBit_or,or_eq_true]
    exact or_congr_right ⟨λh=>⟨rfl,h⟩,λh=>h.2⟩
   |false=>exact ⟨.inl,λh=>h.elim id λh=>(nomatch h.1)⟩
  rw [e,or_assoc]
  refine or_congr_right ⟨λh=>h.elim (λh=>⟨g,.head _,h⟩) λ⟨z,a,b⟩=>⟨z,.tail _ a,b⟩,λ⟨z,a,b⟩=>?_⟩
  exact (bi a).elim (λe=>.inl (e ▸ b)) λa=>.inr ⟨z,a,b⟩
noncomputable def cn (fs:List Nat) (i h:Nat):Prop := ∀ f∈fs,f.testBit i=true->f.testBit h=true
theorem cn.trans {c:Nat} (h1:cn fs a b) (h2:cn fs b c):cn fs a c:=λf hf h=>h2 f hf (h1 f hf h)
theorem cn.refl:cn fs a a:=λ_ _ h=>h
noncomputable def Up (fs:List Nat) (y:Nat):Prop := ∀ i<6,∀ h<6,y.testBit i=true->cn fs i h->y.testBit h=true
structure vQ (fs Us:List Nat):Prop where
 lt : ∀ u∈Us,u<64
 bit : ∀ u∈Us,∃ h<6,∀ i<6,(u.testBit i=true ↔ ¬cn fs i h)
 Ky : ∀ q<6,∃ u∈Us,∀ i<6,(u.testBit i=true ↔ ¬cn fs i q)
theorem iH:dQ [63]:=⟨nodup_cons.mpr ⟨not_mem_nil,nodup_nil⟩,λx h=>ca h ▸ by decide⟩
theorem o9:dQ [0]:=⟨nodup_cons.mpr ⟨not_mem_nil,nodup_nil⟩,λx h=>ca h ▸ by decide⟩
theorem tg : ∀ q<6,(63:Nat).testBit q=true:=by decide
theorem Up.and (h1:Up fs a) (h2:Up fs b):Up fs (a &&& b):=λi hi h hh hb l=>by
 rw [testBit_and,and_eq_true] at hb ⊢
 exact ⟨h1 i hi h hh hb.1 l,h2 i hi h hh hb.2 l⟩
theorem Up.or (h1:Up fs a) (h2:Up fs b):Up fs (a ||| b):=λi hi h hh hb l=>by
 rw [Nat.testBit_or,or_eq_true] at hb ⊢
 exact hb.imp (λz=>h1 i hi h hh z l) λz=>h2 i hi h hh z l
theorem vo (ha:a<64):decide (a &&& b=a)=true ↔ ∀ q<6,a.testBit q=true->b.testBit q=true:=by rw [decide_eq_true_eq,H9 ha]
theorem QV (aU : ∀ f∈fs,f<64) : ∀ m∈bZ false [63] fs,Up fs m:=
 zV (U:=Up fs) fs iH aU (λx hx=>ca hx ▸ λi _ h hh _ _=>tg h hh) λg hg x _ hx=>hx.and λi _ h _ hb l=>l g hg hb
theorem Fm (K:vQ fs Us):y∈bZ false [63] Us↔y<64/\Up fs y:=by
 constructor
 ·refine λhy=>⟨(iH.bZ Us K.lt).lt y hy,?_⟩
  refine zV (U:=Up fs) Us iH K.lt (λx hx=>ca hx ▸ λi _ h hh _ _=>tg h hh) (λu hu x _ hx=>hx.and λi hi h hh hb l=>?_) y hy
  obtain ⟨w,_,hw⟩:=K.bit u hu
  exact (hw h hh).mpr λz=>(hw i hi).mp hb (l.trans z)
 ·rintro ⟨hy,hu⟩
  have hm:=zW (j:=false) (sel:=λu=>decide (y &&& u=y)) Us iH K.lt (mem_singleton.mpr rfl)
  have hb:=λq=>AW (q:=q) (sel:=λu=>decide (y &&& u=y)) Us (x:=63) (by decide)
  rw [show y=Us.foldl (λx g=>if decide (y &&& g=y) then dz false x g else x) 63 from xo hy (hb 0).1 λq hq=>?_]
  ·exact hm
  ·rw [Bool.eq_iff_iff,(hb q).2]
   refine ⟨λh=>⟨tg q hq,λu _ hs=>(vo hy).mp hs q hq h⟩,λh=>Classical.byContradiction λz=>?_⟩
   obtain ⟨u,uv,uw⟩:=K.Ky q hq
   refine (uw q hq).mp (h.2 u uv ((vo hy).mpr λi hi hb=>(uw i hi).mpr λl=>z (hu i hi q hq hb l))) .refl
theorem SN (aU : ∀ f∈fs,f<64):y∈bZ true [0] (bZ false [63] fs)↔y<64/\Up fs y:=by
 have rj:=(iH.bZ (j:=false) fs aU).lt
 constructor
 ·refine λhy=>⟨(o9.bZ _ rj).lt y hy,?_⟩
  exact zV (j:=true) (U:=Up fs) _ o9 rj (λx hx=>ca hx ▸ λi _ h hh hb _=>(by rw [Nat.zero_testBit] at hb; exact (nomatch hb))) (λm hm x _ hx=>hx.or (QV aU m hm)) y hy
 ·rintro ⟨hy,hu⟩
  have hm:=zW (j:=true) (sel:=λm=>decide (m &&& y=m)) (bZ false [63] fs) o9 rj (mem_singleton.mpr rfl)
  have hb:=λq=>R6 (q:=q) (sel:=λm=>decide (m &&& y=m)) (bZ false [63] fs) (x:=0) (by decide) rj
  rw [show y=(bZ false [63] fs).foldl (λx g=>if decide (g &&& y=g) then dz true x g else x) 0 from xo hy (hb 0).1 λq hq=>?_]
  ·exact hm
  ·rw [Bool.eq_iff_iff,(hb q).2,Nat.zero_testBit]
   refine ⟨λh=>.inr ?_,λh=>h.elim (λz=>(nomatch z)) λ⟨m,a,b,c⟩=>(vo (rj m a)).mp b q hq c⟩
   have rp:=zW (j:=false) (sel:=λf=>f.testBit q) fs iH aU (mem_singleton.mpr rfl)
   have yx:=λi=>AW (q:=i) (sel:=λf=>f.testBit q) fs (x:=63) (by decide)
   refine ⟨_,rp,(vo (yx 0).1).mpr λi hi pk=>hu q hq i hi h ((yx i).2.mp pk).2,(yx q).2.mpr ⟨tg q hq,λ_ _ h=>h⟩⟩
theorem IW (aU : ∀ f∈fs,f<64) (K:vQ fs Us):((List.range 64).filter λx=>decide (x∈bZ false [63] Us))=(List.range 64).filter λx=>decide (x∈bZ true [0] (bZ false [63] fs)):=filter_congr λx _=>by
 rw [Bool.eq_iff_iff,decide_eq_true_eq,decide_eq_true_eq,Fm K,SN aU]
end
noncomputable def jS (w:Nat):List Nat:=(List.range 6).map λk=>w*16 / 64 ^ (5 - k) % 64
theorem Dy : ∀ f∈jS w,f<64:=λf h=>by obtain ⟨k,_,rfl⟩:=mem_map.mp h; exact mod_lt _ (by decide)
theorem xq:(jS w).length=6:=rfl
theorem LW {d:Nat}:bY [d]=[bg (d / 4),bg (d % 4*16),61,61]:=rfl
theorem LX (hl:os.length=4) (ho : ∀ o∈os,o<256):bY os=(jS (iY os 0)).map bg++[61,61]:=by
 obtain ⟨a,os,rfl⟩:=exists_cons_of_length_eq_add_one hl
 obtain ⟨b,os,rfl⟩:=exists_cons_of_length_eq_add_one (kt hl)
 obtain ⟨c,os,rfl⟩:=exists_cons_of_length_eq_add_one (kt (kt hl))
 obtain ⟨d,os,rfl⟩:=exists_cons_of_length_eq_add_one (kt (kt (kt hl)))
 obtain rfl:=List.eq_nil_of_length_eq_zero (kt (kt (kt (kt hl))))
 have ha:=ho a (.head _)
 have hb:=ho b (.tail _ (.head _))
 have hc:=ho c (.tail _ (.tail _ (.head _)))
 have hd:=ho d (.tail _ (.tail _ (.tail _ (.head _))))
 obtain ⟨p,hp⟩ : ∃ p,p=(a*256+b)*256+c:=⟨_,rfl⟩
 have hq:d*16<4096:=Nat.mul_lt_mul_of_pos_right hd (by decide)
 have hw:iY [a,b,c,d] 0*16=p*4096+d*16:=by
  show ((((0*256+a)*256+b)*256+c)*256+d)*16=_
  rw [Nat.zero_mul,zero_add,<-hp,Nat.add_mul,mul_assoc]
 have q1:d*16 / 64 % 64=d / 4:=by
  rw [show 64=4*16 from rfl,Nat.mul_div_mul_right _ _ (by decide)]
  exact mod_eq_of_lt (div_lt_of_lt_mul hd)
 have q2:d*16 / 1 % 64=d % 4*16:=by
  rw [div_one,show 64=4*16 from rfl,Nat.mul_mod_mul_right]
 rw [LY,LW]
 unfold jS
 rw [hw]
 show _=[bg ((p*4096+d*16) / (4096*262144) % 64),bg ((p*4096+d*16) / (4096*4096) % 64),bg ((p*4096+d*16) / (4096*64) % 64),bg ((p*4096+d*16) / (4096*1) % 64),bg ((p*4096+d*16) / 64 % 64),bg ((p*4096+d*16) / 1 % 64),61,61]
 rw [nt hq,nt hq,nt hq,nt hq,CQ (y:=64) (z:=1) rfl (by decide),CQ (y:=1) (z:=64) rfl (by decide),q1,q2,hp,g1 ha hb hc,g2 ha hb hc,g3 ha hb hc,g4 ha hb hc]
theorem MN (hf:cl.fuel≠0) (hw:w<2 ^ 32) (h4:f 4=some (dN w)) :
  ev Q1 cl (.comp (.bin .mod (.bin .fdiv (.bin .mul (.var 4) (.cst (.int 16))) (.bin .pow (.cst (.int 64)) (.bin .sub (.cst (.int 5)) (.var 19)))) (.cst (.int 64))) (.cons (.one 19) (dU 6) .nil .nil)) ⟨fr 19 f,C⟩=.ok (.lst ((nz (jS w)).map .int)) ⟨fr 19 f,C⟩:=by
 have:=nj (P:=Q1) (cl:=cl) (n:=19) (f:=f) (C:=C) (elt:=.bin .mod (.bin .fdiv (.bin .mul (.var 4) (.cst (.int 16))) (.bin .pow (.cst (.int 64)) (.bin .sub (.cst (.int 5)) (.var 19)))) (.cst (.int 64))) (ifs:=.nil) (g:=λk=>dN (w*16 / 64 ^ (5 - k) % 64)) (p:=λ_=>true) hf (λ_ _=>rfl) λk hk _=>by
  have hp:0<64 ^ (5 - k):=pow_pos (by decide)
  have O3:64 ^ (5 - k)<2 ^ 64:=al (Nat.pow_le_pow_right (by decide) (sub_le 5 k)) (by decide)
  exact cg (x:=dN (w*16 / 64 ^ (5 - k))) (y:=dN 64) (cg (x:=dN (w*16)) (y:=dN (64 ^ (5 - k))) (cg (x:=dN w) (y:=dN 16) (bF rfl h4) rfl (F1 (ii hw (by decide)) (by decide))) (cg (x:=dN 64) (y:=dN (5 - k)) rfl (cg (x:=dN 5) (y:=dN k) rfl (bF rfl rfl) (R0 (mt hk))) (zr (by decide) (an (sub_le 5 k) (by decide)))) (F0 hp O3)) rfl (zq (by decide))
 rw [this,filter_eq_self.mpr (λ_ _=>rfl)]
 unfold jS nz
 rw [map_map,map_map]; rfl
theorem Wq (ho : ∀ o∈os,o<256) : ∀ {w i:Nat},w<2 ^ (8*i)->iY os w<2 ^ (8*(i+os.length)):=by
 induction os with
 |nil=>exact λh=>h
 |cons o os ih=>
  intro w i h
  show iY os (w*256+o)<_
  have:=ih (λa ha=>ho a (.tail _ ha)) (w:=w*256+o) (i:=i+1) (by
   show _<2 ^ (8*i+8)
   rw [Nat.pow_add]
   exact am (add_lt_add_left (ho o (.head _)) _) (an (le_of_eq (succ_mul w 256).symm) (Nat.mul_le_mul_right 256 h)))
  rw [add_right_comm] at this; exact this
structure vI (f:Nat->Option D) (fs:List Nat) (ob:List UInt8):Prop where
 lt : ∀ x∈fs,x<64
 len:fs.length=6
 h6:f 6=some (.lst ((nz fs).map .int))
 h7:f 7=some (.bytes ob)
 ob:ob.map (λc:UInt8=>(c.toNat:Int))=fs.map bg++[61,61]
theorem Oa (aC:cl=⟨aE Q1 10000 (n+4),10000⟩) {ns:List Int} (hz:ns.length<=63) :
  ∃ f fs ob C,ax Q1 cl wt ⟨some (.lst (ns.map .int))::replicate 18 none,[]⟩=ax Q1 cl wq ⟨fr 19 f,C⟩/\vI f fs ob:=by
 have hf:=lS aC
 refine cps λQQ kQ=>?_
 obtain ⟨x,hx⟩ : ∃ x:D,x=.lst (ns.map .int):=⟨_,rfl⟩
 obtain ⟨os,k,x3,e1,lo,ho⟩:=RS (P:=Q1) (cl:=cl) (x:=x) (x4:=none) (x5:=none) (R:=replicate 13 none) (q:=4) (by decide) (by decide) (y:=.lst (ns.map .int)) (λ_ _=>rfl) ns (os:=[4,49,91,149]) (k:=0) (x3:=none) rfl (by decide)
 have kY:ev Q1 cl (.slice (.var 0) (.cst .none) (.cst (.int 63))) ⟨mP x 0 none none none (replicate 13 none),[.list ((nz [4,49,91,149]).map .int)]⟩=.ok (.lst (ns.map .int)) ⟨mP x 0 none none none (replicate 13 none),[.list ((nz [4,49,91,149]).map .int)]⟩:=by
  refine Dh (aw (d:=.lst (ns.map .int)) (by rw [hx]; rfl)) rfl rfl ?_
  refine (GZ (a:=.lst (ns.map .int)) (ds:=ns.map .int) rfl (λb z=>(nomatch z)) Bs (Br (k:=63) (by decide))).trans ?_
  unfold gQ
  rw [drop_zero,sub_zero,length_map,min_eq_right hz,take_of_length_le (by rw [length_map]; exact le_refl _)]
 obtain ⟨C1,l6⟩ : ∃ C1,C1=[Ch.list ((nz os).map .int)]:=⟨_,rfl⟩
 rw [<-l6] at e1
 have c0:C1[0]?=some (.list ((nz os).map .int)):=by rw [l6]; rfl
 obtain ⟨x5,e2⟩:=Wo (P:=Q1) (cl:=cl) (x:=x) (R:=replicate 13 none) (all:=[]) rfl os (w:=0) (k:=k) (x3:=x3) (x5:=none) (i:=0) (C:=C1) ho (by decide) (by rw [lo]; decide) (Hc c0 c0)
 obtain ⟨m,hm⟩ : ∃ m,m=mP x k x3 (some (dN (iY os 0))) x5 (replicate 13 none):=⟨_,rfl⟩
 rw [<-hm] at e2
 have lm:19=m.length:=by rw [hm]; rfl
 obtain ⟨f0,dj⟩ : ∃ f0:Nat->Option D,f0=λi=>(m[i]?).join:=⟨_,rfl⟩
 have h1:f0 1=some (.loc 0):=by rw [dj,hm]; rfl
 have h4:f0 4=some (dN (iY os 0)):=by rw [dj,hm]; rfl
 rw [MY lm,<-dj] at e2
 have hw:iY os 0<2 ^ 32:=by
  have:=Wq ho (w:=0) (i:=0) (by decide)
  rw [lo] at this; exact this
 have e3:=MN (cl:=cl) (f:=f0) (C:=C1) hf hw h4
 obtain ⟨f1,bC⟩ : ∃ f1,f1=uf f0 6 (.lst ((nz (jS (iY os 0))).map .int)):=⟨_,rfl⟩
 obtain ⟨ob,C2,e4,gX,p2⟩:=Mq (r:=gC::r1) (n:=n+1) (m:=fr 19 f1) (C:=C1) (cl:=cl) (e:=.var 1) (os:=os) aC (bF rfl (by rw [bC]; exact h1)) (by unfold a9; dsimp only; rw [c0]) ho (by rw [lo]; decide)
 rw [LX lo ho] at gX
 obtain ⟨f2,dE⟩ : ∃ f2,f2=uf f1 7 (.bytes ob):=⟨_,rfl⟩
 have g6:f2 6=some (.lst ((nz (jS (iY os 0))).map .int)):=by rw [dE,bC]; rfl
 have g7:f2 7=some (.bytes ob):=by rw [dE]; rfl
 have i1:ev Q1 cl (.call (.cst (.bn .isinstance)) (.cons (.var 7) (.cons (.cst (.bn .bytes)) .nil)) .nil) ⟨fr 19 f2,C2⟩=.ok (.bool true) ⟨fr 19 f2,C2⟩:=dT (g:=.bn .isinstance) rfl (lZ (bF rfl g7) (d2:=.bn .bytes) rfl) (fx hf)
 have i2:ev Q1 cl (.call (.cst (.bn .list)) (.cons (.var 7) .nil) .nil) ⟨fr 19 f2,C2⟩=.ok (.lst (((jS (iY os 0)).map bg++[61,61]).map .int)) ⟨fr 19 f2,C2⟩:=dT (g:=.bn .list) rfl (b9 (bF rfl g7)) ((fx hf).trans (by rw [<-gX,map_map]; rfl))
 have i3:=Uo (r:=r1) (m:=fr 19 f2) (C:=C2) (cl:=cl) (v:=19) (w:=6) (n:=n+3) aC (by decide) gR ((nC (by decide)).trans (congrArg some g6)) Dy (by rw [xq]; decide)
 have i4:=cg (op:=.add) (b:=.list (.cons (.cst (.int 61)) (.cons (.cst (.int 61)) .nil))) (y:=.lst (([61,61]:List Int).map .int)) i3 rfl (Bc (by rw [length_map,xq]; exact le_of_ble_eq_true rfl))
 refine kQ ⟨f2,jS (iY os 0),ob,C2,?_,Dy,xq,g6,g7,gX⟩
 rw [<-hx]
 refine (bB (qE (ds:=(nz [4,49,91,149]).map .int) rfl (lb rfl) rfl)).trans ((bB (bU (d:=.int 0) rfl (lb rfl))).trans ?_)
 show ax Q1 cl By ⟨mP x 0 none none none (replicate 13 none),[.list ((nz [4,49,91,149]).map .int)]⟩=_
 refine (bB ((jc (items:=ns.map .int) hf kY rfl).trans e1)).trans ((bB (bU (d:=.int 0) rfl (am (by decide:4<6) rP))).trans ?_)
 show ax Q1 cl Bx ⟨mP x k x3 (some (dN 0)) none (replicate 13 none),C1⟩=_
 refine (bB ((jc (items:=(nz os).map .int) hf (aw (d:=.loc 0) rfl) (by show (C1[0]?).bind pL=_; rw [c0]; rfl)).trans e2)).trans ?_
 refine lz e3 rfl ?_
 rw [<-bC]
 refine lz e4 rfl ?_
 rw [<-dE]
 exact bB (dZ ((xf (qD i1 rfl) rfl).trans (b7 i2 i4 (z:=false) (by rw [wX,decide_eq_true rfl]; rfl))) rfl rfl)
noncomputable abbrev zC (rows:List (List Int)):List D:=rows.map λl=>.lst (l.map .int)
noncomputable def cI (fs:List Nat) (j:Nat):List Int:=((List.range 6).filter λk=>(gm fs k).testBit j).map λk=>bg (gm fs k)
noncomputable abbrev nS (fs:List Nat):D:=.lst (zC ((List.range 6).map (cI fs)))
theorem uB {rows:List (List Int)} {l:List Int} (h:rows[k]?=some l) (hk:k<1000):g9 C (.lst (zC rows)) (dN k)=some (.lst (l.map .int)):=by
 rw [rI]
 exact uy hk (by rw [getElem?_map,h]; rfl)
section
variable {j o:Nat}
theorem uW {x:Int}:x∈cI fs j ↔ ∃ k<6,(gm fs k).testBit j=true/\bg (gm fs k)=x:=by
 unfold cI
 rw [mem_map]
 refine exists_congr λk=>?_
 rw [mem_filter,mem_range,and_assoc]
theorem za (hl:fs.length=6) {f:Nat}:f∈fs ↔ ∃ k<6,gm fs k=f:=by
 rw [mem_iff_getElem?]
 constructor
 ·rintro ⟨k,h⟩
  have hk:k<6:=by rw [<-hl]; exact n9 h
  rw [tN hl hk] at h
  exact ⟨k,hk,ad h⟩
 ·rintro ⟨k,hk,rfl⟩
  exact ⟨k,tN hl hk⟩
theorem yv (hl:fs.length=6) (aU : ∀ f∈fs,f<64):(∀ x∈cI fs j,x∈cI fs o)↔cn fs j o:=by
 constructor
 ·intro h f hf hb
  obtain ⟨k,hk,rfl⟩:=(za hl).mp hf
  obtain ⟨k',_,h2,h3⟩:=uW.mp (h _ (uW.mpr ⟨k,hk,hb,rfl⟩))
  rw [<-Un _ (Dx aU) _ (Dx aU) h3]; exact h2
 ·intro h x hx
  obtain ⟨k,hk,hb,e⟩:=uW.mp hx
  exact uW.mpr ⟨k,hk,h _ ((za hl).mpr ⟨k,hk,rfl⟩) hb,e⟩
theorem EH (hl:fs.length=6) (aU : ∀ f∈fs,f<64):cI fs o=cI fs j↔cn fs o j/\cn fs j o:=by
 constructor
 ·exact λe=>⟨(yv hl aU).mp λx hx=>e ▸ hx,(yv hl aU).mp λx hx=>e.symm ▸ hx⟩
 ·rintro ⟨h1,h2⟩
  unfold cI
  refine congrArg _ (filter_congr λk hk=>?_)
  have hm:=(za hl).mpr ⟨k,mem_range.mp hk,rfl⟩
  rw [Bool.eq_iff_iff]
  exact ⟨h1 _ hm,h2 _ hm⟩
noncomputable def same (fs:List Nat) (j:Nat):List Nat:=(List.range 6).filter λo=>decide (cI fs o=cI fs j)
noncomputable def cM (fs:List Nat) (j:Nat):Nat:=(same fs j).headD 0
theorem Rc (r:List Nat) : ∀ {x:Nat},(∀ y∈r,x<y)->(nz r).foldl (λa b=>if b<a then b else a) (x:Int)=x:=by
 induction r with
 |nil=>exact λ_=>rfl
 |cons y r ih=>
  intro x h
  show (nz r).foldl _ (if (y:Int)<x then (y:Int) else x)=_
  rw [if_neg λz=>absurd (ofNat_lt.mp z) (not_lt.mpr (ln (h y (.head _))))]
  exact ih λz hz=>h z (.tail _ hz)
theorem pb (hj:j<6):pT (nz (same fs j))=some (cM fs j:Int)/\cM fs j<6/\cI fs (cM fs j)=cI fs j/\∀ o<6,cI fs o=cI fs j->cM fs j<=o:=by
 have hm : ∀ o,o∈same fs j↔o<6/\cI fs o=cI fs j:=λo=>by unfold same; rw [mem_filter,mem_range,decide_eq_true_eq]
 have hp:(same fs j).Pairwise (· < ·):=List.pairwise_lt_range.filter _
 have pz:=(hm j).mpr ⟨hj,rfl⟩
 unfold cM
 generalize same fs j=l at hm hp pz
 induction l using List.casesOn with
 |nil=>exact (nomatch pz)
 |cons x r=>
  obtain ⟨p1,_⟩:=pairwise_cons.mp hp
  obtain ⟨h1,h2⟩:=(hm x).mp (.head _)
  refine ⟨congrArg some (Rc r p1),h1,h2,λo ho he=>?_⟩
  exact (bi ((hm o).mpr ⟨ho,he⟩)).elim (λe=>le_of_eq e.symm) λh=>ln (p1 o h)
noncomputable def fg (fs:List Nat) (j:Nat):List Nat:=(List.range 6).filter λo=>!decide (o=j)&&(cI fs j).all λx=>decide (x∈cI fs o)
theorem rR (hl:fs.length=6) (aU : ∀ f∈fs,f<64):o∈fg fs j↔o<6/\o≠j/\cn fs j o:=by
 unfold fg
 rw [mem_filter,mem_range,and_eq_true,not_eq_true',decide_eq_false_iff_not,all_eq_true,<-yv hl aU]
 refine and_congr_right λ_=>and_congr_right λ_=>forall_congr' λx=>forall_congr' λ_=>decide_eq_true_iff
noncomputable def D6:List Nat:=[5,4,3,2,1,0]
theorem fE:o∈D6↔o<6:=by
 unfold D6
 exact ⟨λh=>(by decide : ∀ x∈[5,4,3,2,1,0],x<6) o h,λh=>(by decide : ∀ x<6,x∈[5,4,3,2,1,0]) o h⟩
noncomputable def bp (fs:List Nat):List Nat:=D6.filter λj=>decide (cM fs j=j)
theorem j5:o∈bp fs↔o<6/\cM fs o=o:=by unfold bp; rw [mem_filter,fE,decide_eq_true_eq]
theorem uK:(bp fs).Nodup:=(show D6.Nodup by decide).filter _
noncomputable def d3 (fs:List Nat) (j:Nat):List Nat:=(fg fs j).filter λo=>decide (o∈bp fs)
end
variable {ob:List UInt8} {xs ys:List Int}
theorem PN (hl:fs.length=6) (gX:ob.map (λc:UInt8=>(c.toNat:Int))=fs.map bg++[61,61]) (hk:k<6):g9 C (.bytes ob) (dN k)=some (.int (bg (gm fs k))):=by
 rw [E0]
 unfold pF
 rw [if_pos ⟨natCast_nonneg _,zT (ii hk (by decide))⟩,toNat_natCast]
 have:(ob.map (λc:UInt8=>(c.toNat:Int)))[k]?=some (bg (gm fs k)):=by
  rw [gX,List.getElem?_append_left (by rw [length_map,hl]; exact hk),getElem?_map,tN hl hk]; rfl
 rw [getElem?_map] at this
 show (ob[k]?).map _=_
 rw [show (λc:UInt8=>D.int c.toNat)=D.int∘λc:UInt8=>(c.toNat:Int) from rfl,<-Option.map_map,this]; rfl
theorem OY (hf:cl.fuel≠0) (H:vI f fs ob) :
  ev Q1 cl (.comp (.comp (.idx (.var 7) (.var 20)) (.cons (.one 20) (dU 6) (.cons (.cmp .eq (.bin .mod (.bin .fdiv (.idx (.var 6) (.var 20)) (.bin .pow (.cst (.int 2)) (.var 19))) (.cst (.int 2))) (.cst (.int 1))) .nil) .nil)) (.cons (.one 19) (dU 6) .nil .nil)) ⟨fr 19 f,C⟩=.ok (nS fs) ⟨fr 19 f,C⟩:=by
 have:=nj (P:=Q1) (cl:=cl) (n:=19) (f:=f) (C:=C) (elt:=.comp (.idx (.var 7) (.var 20)) (.cons (.one 20) (dU 6) (.cons (.cmp .eq (.bin .mod (.bin .fdiv (.idx (.var 6) (.var 20)) (.bin .pow (.cst (.int 2)) (.var 19))) (.cst (.int 2))) (.cst (.int 1))) .nil) .nil)) (ifs:=.nil) (g:=λj=>.lst ((cI fs j).map .int)) (p:=λ_=>true) hf (λ_ _=>rfl) λj hj _=>by
  obtain ⟨f1,bC⟩ : ∃ f1,f1=uf f 19 (dN j):=⟨_,rfl⟩
  rw [<-bC]
  have:=nj (P:=Q1) (cl:=cl) (n:=20) (f:=f1) (C:=C) (elt:=.idx (.var 7) (.var 20)) (ifs:=.cons (.cmp .eq (.bin .mod (.bin .fdiv (.idx (.var 6) (.var 20)) (.bin .pow (.cst (.int 2)) (.var 19))) (.cst (.int 2))) (.cst (.int 1))) .nil) (g:=λk=>.int (bg (gm fs k))) (p:=λk=>(gm fs k).testBit j) hf
   (λk hk=>by
    have v20:ev Q1 cl (.var 20) ⟨fr 21 (uf f1 20 (dN k)),C⟩=.ok (dN k) ⟨fr 21 (uf f1 20 (dN k)),C⟩:=bF rfl rfl
    have v6:ev Q1 cl (.idx (.var 6) (.var 20)) ⟨fr 21 (uf f1 20 (dN k)),C⟩=.ok (dN (gm fs k)) ⟨fr 21 (uf f1 20 (dN k)),C⟩:=dW (bF rfl (by rw [bC]; exact H.h6)) v20 ((rI).trans (uA (ii hk (by decide)) (tN H.len hk)))
    exact o8 (b7 (b:=.cst (.int 1)) (y:=dN 1) (Mi v6 (bF rfl (by rw [bC]; rfl)) (ii hj (by decide))) rfl (wV.trans (congrArg some IX))))
   λk hk _=>dW (bF rfl (by rw [bC]; exact H.h7)) (bF (d:=dN k) rfl rfl) (PN H.len H.ob hk)
  rw [this]
  unfold cI
  rw [map_map]; rfl
 rw [this,filter_eq_self.mpr (λ_ _=>rfl)]
 unfold nS zC
 rw [map_map]; rfl
theorem MP (hf:cl.fuel≠0) (h8:f 8=some (nS fs)) :
  ev Q1 cl (.comp (.call (.cst (.bn .min)) (.cons (.comp (.var 20) (.cons (.one 20) (dU 6) (.cons (.cmp .eq (.idx (.var 8) (.var 20)) (.idx (.var 8) (.var 19))) .nil) .nil)) .nil) .nil) (.cons (.one 19) (dU 6) .nil .nil)) ⟨fr 19 f,C⟩=.ok (.lst ((nz ((List.range 6).map (cM fs))).map .int)) ⟨fr 19 f,C⟩:=by
 have:=nj (P:=Q1) (cl:=cl) (n:=19) (f:=f) (C:=C) (elt:=.call (.cst (.bn .min)) (.cons (.comp (.var 20) (.cons (.one 20) (dU 6) (.cons (.cmp .eq (.idx (.var 8) (.var 20)) (.idx (.var 8) (.var 19))) .nil) .nil)) .nil) .nil) (ifs:=.nil) (g:=λj=>dN (cM fs j)) (p:=λ_=>true) hf (λ_ _=>rfl) λj hj _=>by
  obtain ⟨f1,bC⟩ : ∃ f1,f1=uf f 19 (dN j):=⟨_,rfl⟩
  rw [<-bC]
  have:=nj (P:=Q1) (cl:=cl) (n:=20) (f:=f1) (C:=C) (elt:=.var 20) (ifs:=.cons (.cmp .eq (.idx (.var 8) (.var 20)) (.idx (.var 8) (.var 19))) .nil) (g:=dN) (p:=λo=>decide (cI fs o=cI fs j)) hf
   (λo ho=>by
    have v8:ev Q1 cl (.var 8) ⟨fr 21 (uf f1 20 (dN o)),C⟩=.ok (nS fs) ⟨fr 21 (uf f1 20 (dN o)),C⟩:=bF rfl (by rw [bC]; exact h8)
    exact o8 (b7 (dW v8 (bF rfl rfl) (uB (kH ho) (ii ho (by decide)))) (dW v8 (bF rfl (by rw [bC]; rfl)) (uB (kH hj) (ii hj (by decide)))) wW))
   λo ho _=>bF rfl rfl
  rw [show ((List.range 6).filter λo=>decide (cI fs o=cI fs j)).map dN=(nz (same fs j)).map .int by unfold same nz; rw [map_map]; rfl] at this
  refine dT (g:=.bn .min) rfl (b9 this) ((fx hf).trans ?_)
  show aL (eA ((nz (same fs j)).map .int)) _=_
  rw [pJ]
  show aL (pT (nz (same fs j))) _=_
  rw [(pb hj).1]; rfl
 rw [this,filter_eq_self.mpr (λ_ _=>rfl)]
 unfold nz
 rw [map_map,map_map]; rfl
theorem Mk {C1:ah} {e1 e2:E} (aC:cl=⟨aE Q1 10000 (n+2),10000⟩) (h1:ev Q1 cl e1 ⟨m,C⟩=.ok (.lst (xs.map .int)) ⟨m,C⟩) (h2:ev Q1 cl e2 ⟨m,C⟩=.ok (.lst (ys.map .int)) ⟨m,C1⟩) (hl:xs.length<1000) :
  ev Q1 cl (.call (.cst (.fn 7)) (.cons e1 (.cons e2 .nil)) .nil) ⟨m,C⟩=.ok (.lst ((xs.filter λx=>!ys.contains x).map .int)) ⟨m,MF C1 (.lst (ys.map .int)) .none 0⟩:=by
 subst aC
 obtain ⟨m',e⟩:=DA (r:=gC::r1) (fuel:=10000) (n:=n) (C:=C1) (a:=.lst (xs.map .int)) (sk:=.lst (ys.map .int)) (xs:=xs) (ys:=ys) (succ_ne_zero _) rfl rfl (ii hl (by decide)) (ln (ii hl (by decide)))
 exact lW (k:=7) (aa:=⟨m',MF C1 (.lst (ys.map .int)) .none 0⟩) rfl (lZ h1 h2) e
theorem OZ {j:Nat}:(cI fs j).length<1000:=by
 unfold cI
 rw [length_map]; exact al (List.length_filter_le _ _) (by decide)
theorem filter_nil:decide ((xs.filter λx=>!ys.contains x)=[])=xs.all λx=>decide (x∈ys):=by
 rw [Bool.eq_iff_iff,decide_eq_true_eq,List.filter_eq_nil_iff,all_eq_true]
 refine forall_congr' λx=>forall_congr' λ_=>?_
 rw [not_eq_true',Bool.not_eq_false,contains_iff_mem,decide_eq_true_eq]
theorem Rj (aC:cl=⟨aE Q1 10000 (n+4),10000⟩) (h8:f 8=some (nS fs)) :
  ∃ C',ev Q1 cl (.comp (.comp (.var 20) (.cons (.one 20) (dU 6) (.cons (.and (.cmp .ne (.var 20) (.var 19)) (.cmp .eq (.call (.cst (.fn 7)) (.cons (.idx (.var 8) (.var 19)) (.cons (.idx (.var 8) (.var 20)) .nil)) .nil) (.list .nil))) .nil) .nil)) (.cons (.one 19) (dU 6) .nil .nil)) ⟨fr 19 f,C⟩=.ok (.lst (dM ((List.range 6).map (fg fs)))) ⟨fr 19 f,C'⟩/\C <+: C':=by
 have hf:=lS aC
 have:=Km (P:=Q1) (cl:=cl) (n:=19) (f:=f) (C:=C) (elt:=.comp (.var 20) (.cons (.one 20) (dU 6) (.cons (.and (.cmp .ne (.var 20) (.var 19)) (.cmp .eq (.call (.cst (.fn 7)) (.cons (.idx (.var 8) (.var 19)) (.cons (.idx (.var 8) (.var 20)) .nil)) .nil) (.list .nil))) .nil) .nil)) (g:=λj=>.lst ((nz (fg fs j)).map .int)) hf λj hj C2 _=>by
  obtain ⟨f1,bC⟩ : ∃ f1,f1=uf f 19 (dN j):=⟨_,rfl⟩
  rw [<-bC]
  have:=Kn (P:=Q1) (cl:=cl) (n:=20) (f:=f1) (C0:=C2) (C:=C2) (elt:=.var 20) (it:=dU 6) (ifs:=.cons (.and (.cmp .ne (.var 20) (.var 19)) (.cmp .eq (.call (.cst (.fn 7)) (.cons (.idx (.var 8) (.var 19)) (.cons (.idx (.var 8) (.var 20)) .nil)) .nil) (.list .nil))) .nil) (gx:=dN) (g:=dN) (p:=λo=>!decide (o=j)&&(cI fs j).all λx=>decide (x∈cI fs o)) (xs:=List.range 6) (y:=.cP 0 6) hf (xg hf) rfl (le_of_ble_eq_true rfl) (λ_ _ _ _=>rfl) λo ho C3 _=>by
   have ho:=mem_range.mp ho
   have v20 : ∀ {C:ah},ev Q1 cl (.var 20) ⟨fr 21 (uf f1 20 (dN o)),C⟩=.ok (dN o) ⟨fr 21 (uf f1 20 (dN o)),C⟩:=bF rfl rfl
   have Hr : ∀ {C:ah},ev Q1 cl (.var 19) ⟨fr 21 (uf f1 20 (dN o)),C⟩=.ok (dN j) ⟨fr 21 (uf f1 20 (dN o)),C⟩:=bF rfl (by rw [bC]; rfl)
   have v8:ev Q1 cl (.var 8) ⟨fr 21 (uf f1 20 (dN o)),C3⟩=.ok (nS fs) ⟨fr 21 (uf f1 20 (dN o)),C3⟩:=bF rfl (by rw [bC]; exact h8)
   have c1:=b7 (op:=.ne) (P:=Q1) (cl:=cl) (v20 (C:=C3)) Hr Kg
   have c2:=b7 (op:=.eq) (b:=.list .nil) (y:=.lst []) (Mk (n:=n+2) aC (dW v8 Hr (uB (kH hj) (ii hj (by decide)))) (dW v8 v20 (uB (kH ho) (ii ho (by decide)))) OZ) rfl ((wW (ys:=[])).trans (congrArg some filter_nil))
   by_cases e:o=j
   ·rw [decide_eq_true e] at c1 ⊢
    exact ⟨C3,Dk (Mg c1 rfl),prefix_refl _,λh=>(nomatch h)⟩
   ·rw [decide_eq_false e] at c1 ⊢
    exact ⟨_,Dk (Mh c1 rfl c2),HS,λ_=>v20⟩
  obtain ⟨C',e,hp⟩:=this
  refine ⟨C',e.trans ?_,hp⟩
  unfold fg nz
  rw [map_map]; rfl
 obtain ⟨C',e,hp⟩:=this
 refine ⟨C',e.trans ?_,hp⟩
 unfold dM
 rw [map_map]; rfl
theorem Qe (hf:cl.fuel≠0) (h9:f 9=some (.lst ((nz ((List.range 6).map (cM fs))).map .int))) (he:ev Q1 cl e ⟨fr 19 f,C⟩=.ok (.lst ((nz D6).map .int)) ⟨fr 19 f,C⟩) :
  ev Q1 cl (.comp (.var 19) (.cons (.one 19) e (.cons (.cmp .eq (.idx (.var 9) (.var 19)) (.var 19)) .nil) .nil)) ⟨fr 19 f,C⟩=.ok (.lst ((nz (bp fs)).map .int)) ⟨fr 19 f,C⟩:=by
 have:=qu (P:=Q1) (cl:=cl) (elt:=.var 19) (ifs:=.cons (.cmp .eq (.idx (.var 9) (.var 19)) (.var 19)) .nil) (it:=e) (k:=19) (m:=fr 19 f) (C:=C) (xs:=D6) (g:=dN) (f:=dN) (p:=λj=>decide (cM fs j=j)) hf gR he rfl (le_of_ble_eq_true rfl) rfl
  (λj hj=>by
   have hj:=fE.mp hj
   rw [l3]
   exact o8 (b7 (dW (bF rfl h9) (bF (d:=dN j) rfl rfl) ((rI).trans (uA (ii hj (by decide)) (kH hj)))) (bF (d:=dN j) rfl rfl) wV))
  λj hj _=>by rw [l3]; exact bF rfl rfl
 rw [this]
 unfold bp nz
 rw [map_map]; rfl
theorem Qt (hf:cl.fuel≠0) (l5:f 10=some (.lst (dM ((List.range 6).map (fg fs))))) (jf:f 11=some (.lst ((nz (bp fs)).map .int))) :
  ev Q1 cl (.comp (.comp (.var 20) (.cons (.one 20) (.idx (.var 10) (.var 19)) (.cons (.cmp .ez (.var 20) (.var 11)) .nil) .nil)) (.cons (.one 19) (dU 6) .nil .nil)) ⟨fr 19 f,C⟩=.ok (.lst (dM ((List.range 6).map (d3 fs)))) ⟨fr 19 f,C⟩:=by
 have:=nj (P:=Q1) (cl:=cl) (n:=19) (f:=f) (C:=C) (elt:=.comp (.var 20) (.cons (.one 20) (.idx (.var 10) (.var 19)) (.cons (.cmp .ez (.var 20) (.var 11)) .nil) .nil)) (ifs:=.nil) (g:=λj=>.lst ((nz (d3 fs j)).map .int)) (p:=λ_=>true) hf (λ_ _=>rfl) λj hj _=>by
  obtain ⟨f1,bC⟩ : ∃ f1,f1=uf f 19 (dN j):=⟨_,rfl⟩
  rw [<-bC]
  have:=qu (P:=Q1) (cl:=cl) (elt:=.var 20) (ifs:=.cons (.cmp .ez (.var 20) (.var 11)) .nil) (it:=.idx (.var 10) (.var 19)) (k:=20) (m:=fr 20 f1) (C:=C) (xs:=fg fs j) (g:=dN) (f:=dN) (p:=λo=>decide (o∈bp fs)) (y:=.lst ((nz (fg fs j)).map .int)) hf gR
   (dW (bF rfl (by rw [bC]; exact l5)) (bF rfl (by rw [bC]; rfl)) (E2 (kH hj) (ii hj (by decide)))) (by show some ((nz (fg fs j)).map D.int)=_; unfold nz; rw [map_map]; rfl) (al (show (fg fs j).length<=6 from List.length_filter_le _ _) (by decide)) rfl
   (λo _=>by rw [l3]; exact o8 (b7 (bF (d:=dN o) rfl rfl) (bF (d:=.lst ((nz (bp fs)).map .int)) rfl (by rw [bC]; exact jf)) yR)) λo _ _=>by rw [l3]; exact bF rfl rfl
  rw [this]
  unfold d3 nz
  rw [map_map]; rfl
 rw [this,filter_eq_self.mpr (λ_ _=>rfl)]
 unfold dM
 rw [map_map]; rfl
theorem FP {rk:Int->Nat} (h : ∀ x j,j∈sc x->rk x<rk j) {u v:Int} (p:i5 sc u v):rk u<rk v:=by
 induction p with
 |one a=>exact h _ _ a
 |more _ a ih=>exact ii ih (h _ _ a)
section
variable (hl:fs.length=6) (aU : ∀ f∈fs,f<64)
include hl aU
theorem DB (ha:a<6) (hb:b<6) (h1:cn fs a b) (h2:cn fs b a):cM fs a=cM fs b:=by
 have e:=(EH hl aU).mpr ⟨h1,h2⟩
 obtain ⟨_,a1,a2,a3⟩:=pb (fs:=fs) ha
 obtain ⟨_,b1,b2,b3⟩:=pb (fs:=fs) hb
 exact le_antisymm (a3 _ b1 (b2.trans e.symm)) (b3 _ a1 (a2.trans e))
theorem qJ (ha:a<6):cn fs a (cM fs a)/\cn fs (cM fs a) a:=by
 obtain ⟨_,_,a2,_⟩:=pb (fs:=fs) ha
 exact ((EH hl aU).mp a2).symm
theorem xr (ha:a<6):cM fs a∈bp fs:=by
 obtain ⟨_,a1,_,_⟩:=pb (fs:=fs) ha
 obtain ⟨h1,h2⟩:=qJ hl aU ha
 exact j5.mpr ⟨a1,DB hl aU a1 ha h2 h1⟩
theorem Fg (ha:a∈bp fs) (hb:b∈bp fs) (h1:cn fs a b) (h2:cn fs b a):a=b:=by
 obtain ⟨a1,a2⟩:=j5.mp ha
 obtain ⟨b1,b2⟩:=j5.mp hb
 rw [<-a2,<-b2,DB hl aU a1 b1 h1 h2]
theorem ll {j o:Nat}:o∈d3 fs j↔o∈bp fs/\o≠j/\cn fs j o:=by
 unfold d3
 rw [mem_filter,rR hl aU,decide_eq_true_eq]
 exact ⟨λ⟨⟨_,b,c⟩,d⟩=>⟨d,b,c⟩,λ⟨d,b,c⟩=>⟨⟨(j5.mp d).1,b,c⟩,d⟩⟩
theorem y1 (ha:a∈bp fs) (hb:b∈d3 fs a):(d3 fs b).length<(d3 fs a).length:=by
 obtain ⟨h1,h2,h3⟩:=(ll hl aU).mp hb
 have nd : ∀ j,(d3 fs j).Nodup:=λj=>(nodup_range.filter _).filter _
 refine dg (l:=b::d3 fs b) (nodup_cons.mpr ⟨λz=>((ll hl aU).mp z).2.1 rfl,nd b⟩) λx hx=>?_
 rcases bi hx with rfl|hx
 ·exact hb
 ·obtain ⟨c1,c2,c3⟩:=(ll hl aU).mp hx
  refine (ll hl aU).mpr ⟨c1,λe=>?_,h3.trans c3⟩
  subst e
  exact h2 (Fg hl aU h1 ha c3 h3)
theorem Qd (h : ¬(bp fs).length<6) : ∀ o<6,o∈bp fs:=λo ho=>Classical.byContradiction λz=>by
 have:=dg (l:=o::bp fs) (ks:=D6) (nodup_cons.mpr ⟨z,uK⟩) λx hx=>(bi hx).elim (λe=>e ▸ fE.mpr ho) λh=>fE.mpr (j5.mp h).1
 exact h this
theorem Sz {b:Bool} (hk : ∀ x,x∈ks↔x∈nz D6) (G:Gr (eE (fg fs)) ks sc) (dY : ∀ x j,j∈sc x->x∈eE (fg fs) j/\j∈nz D6) (hb:(b=true/\∃ u,i5 sc u u)\/(b=false/\∃ fin,fQ sc fin/\∀ k∈ks,k∈fin)):b=decide ((bp fs).length<6):=by
 rcases hb with ⟨rfl,u,hu⟩|⟨rfl,fin,T,all⟩
 ·refine (decide_eq_true (Classical.byContradiction λz=>?_)).symm
  have ha:=Qd hl aU z
  refine lt_irrefl _ (FP (rk:=λj=>(d3 fs j.toNat).length) (λx j h=>?_) hu)
  obtain ⟨h1,h2⟩:=dY x j h
  obtain ⟨jn,hj,rfl⟩:=ff.mp h2
  unfold eE at h1
  rw [toNat_natCast] at h1
  obtain ⟨xn,hx,rfl⟩:=ff.mp h1
  obtain ⟨c1,c2,c3⟩:=(rR hl aU).mp hx
  rw [toNat_natCast,toNat_natCast]
  exact y1 hl aU (ha jn (fE.mp hj)) ((ll hl aU).mpr ⟨ha xn c1,c2,c3⟩)
 ·refine (decide_eq_false λz=>?_).symm
  obtain ⟨j,hj,hn⟩ : ∃ j<6,cM fs j≠j:=Classical.byContradiction λy=>by
   have:=dg (l:=D6) (ks:=bp fs) (by decide) λo ho=>j5.mpr ⟨fE.mp ho,Classical.byContradiction λw=>y ⟨o,fE.mp ho,w⟩⟩
   exact absurd z (not_lt.mpr this)
  obtain ⟨l1,l2⟩:=qJ hl aU hj
  obtain ⟨_,f1,_,_⟩:=pb (fs:=fs) hj
  have pI : ∀ {o:Nat},o<6->(o:Int)∈ks:=λh=>(hk _).mpr (mB.mpr (fE.mpr h))
  have s1:(j:Int)∈sc (cM fs j:Int):=(G.p9 _ (pI f1) _).mpr ⟨pI hj,zb.mpr ((rR hl aU).mpr ⟨f1,hn,l1⟩)⟩
  have s2:(cM fs j:Int)∈sc (j:Int):=(G.p9 _ (pI hj) _).mpr ⟨pI f1,zb.mpr ((rR hl aU).mpr ⟨hj,Ne.symm hn,l2⟩)⟩
  exact fQ.none (S:=λk=>k=(j:Int)\/k=(cM fs j:Int)) (λk hk=>hk.elim (λe=>⟨_,.inr rfl,e ▸ s1⟩) λe=>⟨_,.inl rfl,e ▸ s2⟩) fin T (λk hk=>hk.elim (λe=>e ▸ all _ (pI hj)) λe=>e ▸ all _ (pI f1)) _ (.inl rfl)
theorem HV {b:Bool} (dY : ∀ x j,j∈sc x->x∈eE (d3 fs) j/\j∈nz (bp fs)) (hb:(b=true/\∃ u,i5 sc u u)\/(b=false/\∃ fin,fQ sc fin/\∀ k∈ks,k∈fin)):b=false:=by
 rcases hb with ⟨_,u,hu⟩|⟨h,_⟩
 ·exfalso
  refine lt_irrefl _ (FP (rk:=λj=>(d3 fs j.toNat).length) (λx j h=>?_) hu)
  obtain ⟨h1,h2⟩:=dY x j h
  obtain ⟨jn,hj,rfl⟩:=ff.mp h2
  unfold eE at h1
  rw [toNat_natCast] at h1
  obtain ⟨xn,hx,rfl⟩:=ff.mp h1
  rw [toNat_natCast,toNat_natCast]
  exact y1 hl aU hj hx
 ·exact h
theorem JT {h:Nat} {dn hs:List Int} (hk : ∀ x,x∈ks↔x∈nz (bp fs)) (hh:h∈bp fs) (H:mT C0 C ks lc sc (eE (d3 fs)) i (h:Int) dn [] hs) :
  (∀ j∈bp fs,((j:Int)∈dn ↔ ¬cn fs j h))/\(h:Int)∈hs:=by
 obtain ⟨f1,f2,f3,f4⟩:=H.fin
 have ind : ∀ n,∀ j∈bp fs,(d3 fs j).length<=n->¬cn fs j h->(j:Int)∈dn:=λn=>by
  induction n with
  |zero=>
   refine λj hj hn hle=>Classical.byContradiction λz=>?_
   obtain ⟨q,a,b⟩:=f3 j ((hk _).mpr (mB.mpr hj)) z λy=>hle (by rw [ofNat.inj (f4 _ y).1]; exact .refl)
   obtain ⟨qn,hq,rfl⟩:=ff.mp a
   rw [toNat_natCast] at hq
   exact absurd (length_pos_of_mem hq) (not_lt.mpr hn)
  |succ n ih=>
   refine λj hj hn hle=>Classical.byContradiction λz=>?_
   obtain ⟨q,a,b⟩:=f3 j ((hk _).mpr (mB.mpr hj)) z λy=>hle (by rw [ofNat.inj (f4 _ y).1]; exact .refl)
   obtain ⟨qn,hq,rfl⟩:=ff.mp a
   rw [toNat_natCast] at hq
   obtain ⟨c1,c2,c3⟩:=(ll hl aU).mp hq
   exact b (ih qn c1 (mt (am (y1 hl aU hj hq) hn)) λl=>hle (c3.trans l))
 have main : ∀ j∈bp fs,((j:Int)∈dn ↔ ¬cn fs j h):=λj hj=>⟨λhd hle=>by
  by_cases e:h=j
  ·subst e; exact H.dh hd
  ·exact H.dh (f2 _ hd _ (zb.mpr ((ll hl aU).mpr ⟨hh,e,hle⟩))),ind _ j hj (le_refl _)⟩
 refine ⟨main,Classical.byContradiction λz=>?_⟩
 obtain ⟨q,a,b⟩:=f3 h ((hk _).mpr (mB.mpr hh)) H.dh z
 obtain ⟨qn,hq,rfl⟩:=ff.mp a
 rw [toNat_natCast] at hq
 obtain ⟨c1,c2,c3⟩:=(ll hl aU).mp hq
 exact b ((main qn c1).mpr λl=>c2 (Fg hl aU c1 hh l c3))
end
instance Xd {fs:List Nat} {i h:Nat}:Decidable (cn fs i h):=List.decidableBAll _ _
noncomputable def ik (fs:List Nat) (h:Nat):Nat:=bs λj=>decide (¬cn fs j h)
variable {s:Nat}
theorem Oc (aC:cl=⟨aE Q1 10000 (n+5),10000⟩) (hl:fs.length=6) (aU : ∀ f∈fs,f<64) {us:List Nat} {h:Nat} (h9:f 9=some (.lst ((nz ((List.range 6).map (cM fs))).map .int))) (jf:f 11=some (.lst ((nz (bp fs)).map .int))) (qL:f 14=some (.lst (dM ((List.range 6).map (d3 fs))))) (iJ:f 15=some (.loc s)) (Nx:f 16=some (dN h))
  (hh:h∈bp fs) (hs:C[s]?=some (.list ((nz us).map .int))) (Pq:us.length<100) :
  ∃ f' C',ax Q1 cl wu ⟨fr 19 f,C⟩=.ok .next ⟨fr 19 f',C'⟩/\(∀ i,i≠12->i≠13->i≠17->f' i=f i)/\C'[s]?=some (.list ((nz (us++[ik fs h])).map .int)):=by
 have hf:=lS aC
 have yl : ∀ p∈bp fs,p<6:=λp hp=>(j5.mp hp).1
 have hS:=G6 (nd:=d3 fs) (U:=bp fs) (rows:=(List.range 6).map (d3 fs)) (n:=n+1) (C:=C) uK yl (λp hp=>kH (yl p hp)) (λp _=>(nodup_range.filter _).filter _) λp _ q hq=>((ll hl aU).mp hq).1
 refine cps λQQ kQ=>?_
 induction hS using sZ.casesOn with
 |mk m1 C1 i ks lc np sc b e1 S R hk G W dY hb=>
 have NY:=HV hl aU dY hb
 subst NY
 have bO:ks.length<64:=al (dg S.nd λx h=>(hk x).mp h) (by rw [j8]; exact al (dg uK λx h=>mem_range.mpr (yl x h)) (by decide))
 have c1:ev Q1 cl (.call (.cst (.fn 18)) (.cons (.var 11) (.cons (.var 14) .nil)) .nil) ⟨fr 19 f,C⟩=.ok (.tup [.inst 2 C.length,.bool false]) ⟨fr 19 f,C1⟩:=by
  subst aC
  exact lW (k:=18) (aa:=⟨m1,C1⟩) rfl (lZ (bF rfl jf) (bF rfl qL)) e1
 obtain ⟨f1,bC⟩ : ∃ f1,f1=uf (uf f 12 (.inst 2 C.length)) 13 (.bool false):=⟨_,rfl⟩
 have g1 : ∀ i,i≠12->i≠13->f1 i=f i:=λi a b=>by rw [bC]; exact (if_neg b).trans (if_neg a)
 have DR:f1 12=some (.inst 2 C.length):=by rw [bC]; rfl
 obtain ⟨m2,C2,dn,dm,e2,H⟩:=JR (n:=n+1) (held:=(h:Int)) bO G S R W
 obtain ⟨hm,Ot⟩:=JT hl aU hk hh H
 obtain ⟨p,q,fX,S2,W2,O5⟩:=H.ex
 obtain ⟨cm,Ef⟩:=RO (l:=dn.reverse) (k:=bp fs) λx hx=>(hk x).mp (W2.o5 x (mem_reverse.mp hx))
 rw [Ef] at e2
 have c2:ev Q1 cl (.call (.cst (.fn 19)) (.cons (.var 12) (.cons (.var 16) .nil)) .nil) ⟨fr 19 f1,C1⟩=.ok (.lst ((nz cm).map .int)) ⟨fr 19 f1,C2⟩:=by
  subst aC
  exact lW (k:=19) (aa:=⟨m2,C2⟩) rfl (lZ (bF rfl DR) (bF rfl ((g1 16 (by decide) (by decide)).trans Nx))) e2
 obtain ⟨f2,dE⟩ : ∃ f2,f2=uf f1 17 (.lst ((nz cm).map .int)):=⟨_,rfl⟩
 have g2 : ∀ i,i≠12->i≠13->i≠17->f2 i=f i:=λi a b c=>by rw [dE]; exact (if_neg c).trans (g1 i a b)
 obtain ⟨m3,e3⟩:=HW (r:=gC::r1) (n:=n+4) (fuel:=10000) (by decide) S2 H.jD
 have NV:q<p:=by
  rw [O5]
  refine Int.lt_add_of_pos_right _ (ofNat_lt.mpr (length_pos_of_mem (a:=(h:Int)) ?_))
  exact mem_append_right _ Ot
 rw [decide_eq_true NV,Bool.true_or] at e3
 have c3:ev Q1 cl (.bo (.var 12) .nY .nil) ⟨fr 19 f2,C2⟩=.ok (.bool true) ⟨fr 19 f2,C2⟩:=by
  subst aC
  exact nB (aa:=⟨m3,C2⟩) (bF (i:=12) rfl (by rw [dE]; exact DR)) (kh S2.top).2.2.2.2.1 (ds:=[]) rfl e3
 have eX : ∀ j∈bp fs,(j∈cm ↔ ¬cn fs j h):=λj hj=>((mem_reverse.symm.trans (by rw [Ef,mB])).symm:j∈cm↔(j:Int)∈dn).trans (hm j hj)
 have hU : ∀ j,j<6->(cM fs j∈cm ↔ ¬cn fs j h):=λj hj=>by
  obtain ⟨l1,l2⟩:=qJ hl aU hj
  rw [eX _ (xr hl aU hj)]
  exact ⟨λz l=>z (l2.trans l),λz l=>z (l1.trans l)⟩
 have c4:=Mj (P:=Q1) (cl:=cl) (n:=19) (f:=f2) (C:=C2) (ifs:=.cons (.cmp .ez (.idx (.var 9) (.var 19)) (.var 17)) .nil) (p:=λj=>decide (cM fs j∈cm)) hf λj hj=>
  o8 (b7 (dW (bF rfl ((g2 9 (by decide) (by decide) (by decide)).trans h9)) (bF (d:=dN j) rfl rfl) ((rI).trans (uA (ii hj (by decide)) (kH hj)))) (bF (d:=.lst ((nz cm).map .int)) rfl (by rw [dE]; rfl)) yR)
 have er:C2[s]?=some (.list ((nz us).map .int)):=Si S2.pre hs
 have c5:=tD (P:=Q1) (cl:=cl) (o:=.var 15) (st:=⟨fr 19 f2,C2⟩) (bF rfl ((g2 15 (by decide) (by decide) (by decide)).trans iJ)) c4 er (by rw [length_map,j8]; exact ii Pq (le_of_ble_eq_true rfl))
 refine kQ ⟨f2,C2.set s (.list ((nz us).map .int++[dN (bs λj=>decide (cM fs j∈cm))])),?_,g2,?_⟩
 ·exact (bB (Dn hf c1 rfl rfl)).trans (by
   rw [<-bC]
   refine (bB (dZ (bF (i:=13) (d:=.bool false) rfl (by rw [bC]; rfl)) rfl rfl)).trans (lz c2 rfl ?_)
   rw [<-dE]
   exact (bB (dZ (qD c3 rfl) rfl rfl)).trans (ct (jb c5)))
 ·rw [ku er]
  refine congrArg some (congrArg Ch.list ?_)
  have eu:(bs λj=>decide (cM fs j∈cm))=ik fs h:=congrArg si (filter_congr λj hj=>by
   rw [Bool.eq_iff_iff,decide_eq_true_eq,decide_eq_true_eq]; exact hU j (mem_range.mp hj))
  rw [FQ,map_append,<-eu]; rfl
theorem Hq (hl:fs.length=6) (aU : ∀ f∈fs,f<64):vQ fs ((bp fs).map (ik fs)):=by
 have b : ∀ h i,i<6->((ik fs h).testBit i=true ↔ ¬cn fs i h):=λh i hi=>by unfold ik; rw [I0 hi,decide_eq_true_eq]
 refine ⟨λu hu=>?_,λu hu=>?_,λq hq=>?_⟩
 ·obtain ⟨h,_,rfl⟩:=mem_map.mp hu
  exact I8
 ·obtain ⟨h,a,rfl⟩:=mem_map.mp hu
  exact ⟨h,(j5.mp a).1,b h⟩
 ·obtain ⟨l1,l2⟩:=qJ hl aU hq
  exact ⟨_,mem_map_of_mem (xr hl aU hq),λi hi=>(b _ i hi).trans ⟨λz l=>z (l.trans l1),λz l=>z (l.trans l2)⟩⟩
theorem QH (aC:cl=⟨aE Q1 10000 (n+5),10000⟩) (hl:fs.length=6) (aU : ∀ f∈fs,f<64) (h9:f 9=some (.lst ((nz ((List.range 6).map (cM fs))).map .int))) (jf:f 11=some (.lst ((nz (bp fs)).map .int))) (qL:f 14=some (.lst (dM ((List.range 6).map (d3 fs))))) (iJ:f 15=some (.loc s)) (hs:C[s]?=some (.list [])) :
  ∃ f' C',ex Q1 cl Bz ⟨fr 19 f,C⟩=.ok .next ⟨fr 19 f',C'⟩/\(∀ i,i<12->f' i=f i)/\f' 15=some (.loc s)/\C'[s]?=some (.list ((nz ((bp fs).map (ik fs))).map .int)):=by
 have hf:=lS aC
 have mf:(bp fs).length<=6:=dg uK (ks:=D6) λx h=>fE.mpr (j5.mp h).1
 obtain ⟨ao,e1,f2,C2,pre,rfl,k1,ks,hk⟩:=MX (g:=dN) (a7:=λA B=>br A B (.lst ((nz (bp fs)).map .int))) (t:=.one 16) (body:=λst=>ax Q1 cl wu st)
  (I:=λ(rest:List Nat) st => ∃ f' C' pre,st=⟨fr 19 f',C'⟩/\(∀ i,i≠12->i≠13->i≠16->i≠17->f' i=f i)/\C'[s]?=some (.list ((nz (pre.map (ik fs))).map .int))/\bp fs=pre++rest)
  (λx xs m C0 h=>by
   obtain ⟨f2,C2,pre,e,k1,ks,hk⟩:=h
   obtain ⟨em,ec⟩:=VE e
   rw [em,ec]
   have kk : ∀ i,i≠12->i≠13->i≠16->i≠17->uf f2 16 (dN x) i=f i:=λi a b c d=>(if_neg c).trans (k1 i a b c d)
   have hx:x∈bp fs:=by rw [hk]; exact mem_append_right _ (.head _)
   obtain ⟨f3,C3,e3,g3,s3⟩:=Oc (n:=n) (f:=uf f2 16 (dN x)) (C:=C2) (us:=pre.map (ik fs)) aC hl aU ((kk 9 (by decide) (by decide) (by decide) (by decide)).trans h9) ((kk 11 (by decide) (by decide) (by decide) (by decide)).trans jf) ((kk 14 (by decide) (by decide) (by decide) (by decide)).trans qL) ((kk 15 (by decide) (by decide) (by decide) (by decide)).trans iJ) rfl hx ks
    (by rw [length_map]; exact al (an (by rw [hk,length_append]; exact jp _ _) mf) (by decide))
   refine ⟨_,_,IP (by decide),e3,rfl,f3,C3,pre++[x],rfl,λi a b c d=>(g3 i a b d).trans (kk i a b c d),?_,by rw [append_assoc]; exact hk⟩
   rw [map_append]; exact s3) (bp fs) ⟨fr 19 f,C⟩
  ⟨f,C,[],rfl,λ_ _ _ _ _=>rfl,by rw [hs]; rfl,rfl⟩
 rw [append_nil] at hk
 rw [<-hk] at ks
 refine ⟨f2,C2,(jc (items:=(bp fs).map dN) hf (bF (i:=11) rfl jf) (by show some ((nz _).map D.int)=_; unfold nz; rw [map_map]; rfl)).trans e1,λi hi=>?_,(k1 15 (by decide) (by decide) (by decide) (by decide)).trans iJ,ks⟩
 have o : ∀ k,12<=k->i≠k:=λk hk=>ne_of_lt (am hi hk)
 exact k1 i (o 12 (by decide)) (o 13 (by decide)) (o 16 (by decide)) (o 17 (by decide))
theorem Sj (xs:List Nat) : ∀ {F:List Nat},F <+: iU j g F xs:=by
 unfold iU
 induction xs with
 |nil=>exact prefix_refl _
 |cons x xs ih=>
  intro F
  refine IsPrefix.trans ?_ (ih (F:=fp F (dz j x g)))
  unfold fp
  by_cases h:dz j x g∈F
  ·rw [if_pos h]; exact prefix_refl _
  ·rw [if_neg h]; exact prefix_append _ _
theorem Gg (gs:List Nat) : ∀ {F:List Nat},F <+: bZ j F gs:=by
 unfold bZ
 induction gs with
 |nil=>exact prefix_refl _
 |cons g gs ih=>exact λ{F}=>(Sj F).trans ih
theorem RX (aU : ∀ f∈fs,f<64):jE (nz (bZ true [0] (bZ false [63] fs)))=true:=by
 have hF:=o9.bZ (j:=true) _ (iH.bZ (j:=false) fs aU).lt
 obtain ⟨r,hr⟩:=Gg (j:=false) fs (F:=[63])
 have e:bZ true [0] (bZ false [63] fs)=bZ true [0,63] r:=by rw [<-hr]; rfl
 rw [e] at hF ⊢
 obtain ⟨t,ht⟩:=Gg (j:=true) r (F:=[0,63])
 rw [<-ht] at hF ⊢
 unfold jE
 rw [or_eq_true,decide_eq_true_eq,and_eq_true,decide_eq_true_eq,j8]
 refine (lt_or_eq_of_le hF.len).imp id λh=>⟨h,?_⟩
 refine Bool.or_eq_true_iff.mpr (.inl (and_eq_true_iff.mpr ⟨rfl,all_eq_true.mpr λx hx=>decide_eq_true ?_⟩))
 obtain ⟨k,hk,rfl⟩:=mem_map.mp (show x∈nz t from hx)
 have Rh:63 ∉ t:=(nodup_cons.mp (nodup_cons.mp hF.gF).2).1
 exact ofNat_lt.mpr (lt_of_le_of_ne (mt (hF.lt k (.tail _ (.tail _ hk)))) λz=>Rh (z ▸ hk))
theorem RW (hl:fs.length=6) (aU : ∀ f∈fs,f<64):jE (nz (bZ false [63] ((bp fs).map (ik fs))))=true:=by
 have K:=Hq hl aU
 have hF:=iH.bZ (j:=false) _ K.lt
 rcases lt_or_eq_of_le hF.len with h|h
 ·unfold jE
  rw [j8,decide_eq_true h]; rfl
 have all : ∀ y,y<64->y∈bZ false [63] ((bp fs).map (ik fs)):=λy hy=>Classical.byContradiction λz=>by
  have:=dg (nodup_cons.mpr ⟨z,hF.gF⟩) (ks:=List.range 64) λx hx=>mem_range.mpr ((bi hx).elim (λe=>e ▸ hy) (hF.lt x))
  rw [length_cons,h,length_range] at this
  exact absurd this (by decide)
 have qm : ∀ i,i<6->∀ j,j<6->cn fs i j->i=j:=λi hi j hj l=>by
  have:=((Fm K).mp (all (2 ^ i) (Nat.pow_lt_pow_right (by decide) hi))).2 i hi j hj (by rw [Nat.testBit_two_pow,decide_eq_true rfl]) l
  rw [Nat.testBit_two_pow] at this
  exact io this
 have ek:bp fs=D6:=filter_eq_self.mpr λi hi=>decide_eq_true (qm _ (j5.mp (xr hl aU (fE.mp hi))).1 i (fE.mp hi) (qJ hl aU (fE.mp hi)).2)
 have eu:D6.map (ik fs)=D6.map λh=>bs λj=>!decide (j=h):=map_congr_left λh hh=>congrArg si (filter_congr λj hj=>by
  rw [Bool.eq_iff_iff,decide_eq_true_eq,not_eq_true',decide_eq_false_iff_not]
  exact not_congr ⟨qm j (mem_range.mp hj) h (fE.mp hh),λe=>e ▸ cn.refl⟩)
 rw [ek,eu]
 decide +kernel
theorem Ra (aC:cl=⟨aE Q1 10000 (n+5),10000⟩) (H:vI f fs ob) :
  ∃ f' C' s,ax Q1 cl wq ⟨fr 19 f,C⟩=ax Q1 cl wx ⟨fr 19 f',C'⟩/\f' 6=some (.lst ((nz fs).map .int))/\f' 15=some (.loc s)/\C'[s]?=some (.list ((nz ((bp fs).map (ik fs))).map .int)):=by
 have hf:=lS aC
 refine cps λQQ kQ=>?_
 obtain ⟨f1,bC⟩ : ∃ f1,f1=uf f 8 (nS fs):=⟨_,rfl⟩
 have e2:=MP (cl:=cl) (f:=f1) (C:=C) (fs:=fs) hf (by rw [bC]; rfl)
 obtain ⟨f2,dE⟩ : ∃ f2,f2=uf f1 9 (.lst ((nz ((List.range 6).map (cM fs))).map .int)):=⟨_,rfl⟩
 obtain ⟨C3,e3,p3⟩:=Rj (n:=n+1) (f:=f2) (C:=C) (fs:=fs) aC (by rw [dE,bC]; rfl)
 obtain ⟨f3,jr⟩ : ∃ f3,f3=uf f2 10 (.lst (dM ((List.range 6).map (fg fs)))):=⟨_,rfl⟩
 have eD : ∀ {f:Nat->Option D} {C:ah},ev Q1 cl (.list (.cons (.cst (.int 5)) (.cons (.cst (.int 4)) (.cons (.cst (.int 3)) (.cons (.cst (.int 2)) (.cons (.cst (.int 1)) (.cons (.cst (.int 0)) .nil))))))) ⟨fr 19 f,C⟩=.ok (.lst ((nz D6).map .int)) ⟨fr 19 f,C⟩:=rfl
 have e4:=Qe (cl:=cl) (f:=f3) (C:=C3) (fs:=fs) hf (by rw [jr,dE]; rfl) eD
 obtain ⟨f4,iL⟩ : ∃ f4,f4=uf f3 11 (.lst ((nz (bp fs)).map .int)):=⟨_,rfl⟩
 have hS:=G6 (nd:=fg fs) (U:=D6) (rows:=(List.range 6).map (fg fs)) (n:=n+1) (C:=C3) (by decide) (λp hp=>fE.mp hp) (λp hp=>kH (fE.mp hp)) (λp _=>nodup_range.filter _) λp _ q hq=>fE.mpr ((rR H.len H.lt).mp hq).1
 induction hS using sZ.casesOn with
 |mk m1 C5 i ks lc np sc b e5 S R hk G W dY hb=>
 have N0:=Sz H.len H.lt hk G dY hb
 have c5:ev Q1 cl (.call (.cst (.fn 18)) (.cons (.list (.cons (.cst (.int 5)) (.cons (.cst (.int 4)) (.cons (.cst (.int 3)) (.cons (.cst (.int 2)) (.cons (.cst (.int 1)) (.cons (.cst (.int 0)) .nil))))))) (.cons (.var 10) .nil)) .nil) ⟨fr 19 f4,C3⟩=.ok (.tup [.inst 2 C3.length,.bool b]) ⟨fr 19 f4,C5⟩:=by
  subst aC
  exact lW (k:=18) (aa:=⟨m1,C5⟩) rfl (lZ eD (bF (d:=.lst (dM ((List.range 6).map (fg fs)))) rfl (by rw [iL,jr]; rfl))) e5
 obtain ⟨f5,ye⟩ : ∃ f5,f5=uf (uf f4 12 (.inst 2 C3.length)) 13 (.bool b):=⟨_,rfl⟩
 have g5 : ∀ i,i<12->f5 i=f4 i:=λi h=>by rw [ye]; exact (if_neg (ne_of_lt (ii h (by decide)))).trans (if_neg (ne_of_lt h))
 have Ff:f5 11=some (.lst ((nz (bp fs)).map .int)):=(g5 11 (by decide)).trans (by rw [iL]; rfl)
 have c6:=b7 (op:=.ne) (P:=Q1) (cl:=cl) (bF (n:=19) (i:=13) (f:=f5) (C:=C5) (d:=.bool b) rfl (by rw [ye]; rfl)) (b7 (op:=.lt) (b:=.cst (.int 6)) (y:=dN 6) (Mm hf (bF (i:=11) rfl Ff) (n:=(bp fs).length) (by show some ((((nz (bp fs)).map D.int).length:Nat):Int)=_; rw [length_map,j8])) rfl Kf) (z:=b != decide ((bp fs).length<6)) (by induction b<;>induction decide ((bp fs).length<6)<;>rfl)
 rw [N0,bne_self_eq_false] at c6
 have e7:=Qt (cl:=cl) (f:=f5) (C:=C5) (fs:=fs) hf ((g5 10 (by decide)).trans (by rw [iL,jr]; rfl)) Ff
 obtain ⟨f6,t9⟩ : ∃ f6,f6=uf (uf f5 14 (.lst (dM ((List.range 6).map (d3 fs))))) 15 (.loc C5.length):=⟨_,rfl⟩
 have g6 : ∀ i,i<12->f6 i=f4 i:=λi h=>by rw [t9]; exact (if_neg (ne_of_lt (ii h (by decide)))).trans ((if_neg (ne_of_lt (ii h (by decide)))).trans (g5 i h))
 obtain ⟨f7,C7,e8,g7,iJ,hs⟩:=QH (n:=n) (f:=f6) (C:=C5++[Ch.list []]) (s:=C5.length) aC H.len H.lt ((g6 9 (by decide)).trans (by rw [iL,jr,dE]; rfl)) ((g6 11 (by decide)).trans (by rw [iL]; rfl)) (by rw [t9]; rfl) (by rw [t9]; rfl) d8
 refine kQ ⟨f7,C7,C5.length,?_,(g7 6 (by decide)).trans ((g6 6 (by decide)).trans (by rw [iL,jr,dE,bC]; exact H.h6)),iJ,hs⟩
 refine lz (OY hf H) rfl ?_
 rw [<-bC]
 refine lz e2 rfl ?_
 rw [<-dE]
 refine lz e3 rfl ?_
 rw [<-jr]
 refine lz e4 rfl ?_
 rw [<-iL]
 refine (bB (Dn hf c5 rfl rfl)).trans ?_
 rw [<-ye]
 refine (bB (dZ c6 rfl rfl)).trans (lz e7 rfl (Ua (ds:=[]) rfl rfl rfl ?_))
 rw [<-t9]
 exact bB e8
theorem xi (aC:cl=⟨aE Q1 10000 (n+1),10000⟩) {y:D} (hx:dQ [x]) (hg : ∀ g∈gs,g<64) (he : ∀ C,ev Q1 cl e ⟨fr 19 f,C⟩=.ok y ⟨fr 19 f,C⟩) (hy:y=.lst ((nz gs).map .int)\/∃ c,y=.loc c/\C[c]?=some (.list ((nz gs).map .int))) :
  ∃ C',ev Q1 cl (.call (.cst (.fn 20)) (.cons (.nc (.list (.cons (.cst (dN x)) .nil))) (.cons e (.cons (.cst (.bool j)) .nil))) .nil) ⟨fr 19 f,C⟩=.ok (.loc C.length) ⟨fr 19 f,C'⟩/\C'[C.length]?=some (.list ((nz (bZ j [x] gs)).map .int))/\∀ (i:Nat) (c:Ch),C[i]?=some c->C'[i]?=some c:=by
 obtain ⟨m',C',e1,h1,h2⟩:=VA (n:=n) (a:=C.length) (y:=y) (j:=j) (F:=[x]) (gs:=gs) (C:=C++[Ch.list [dN x]]) hx hg d8 λk hk=>hy.imp id λ⟨c,h1,h2⟩=>by
  have:=n9 h2
  refine ⟨c,h1,ne_of_lt this,ne_of_lt (am (am this ?_) hk),eR h2⟩
  rw [length_append]; exact jp _ _
 refine ⟨C',?_,h1,λi c h=>h2 i c (ne_of_lt (n9 h)) (eR h)⟩
 have e0:ev Q1 cl (.nc (.list (.cons (.cst (dN x)) .nil))) ⟨fr 19 f,C⟩=.ok (.loc C.length) ⟨fr 19 f,C++[Ch.list [dN x]]⟩:=rfl
 subst aC
 exact lW (k:=20) (aa:=⟨m',C'⟩) rfl (tG e0 (tG (he _) (b9 rfl))) e1
theorem LZ (aC:cl=⟨aE Q1 10000 (n+1),10000⟩) (hl:fs.length=6) (aU : ∀ f∈fs,f<64) (h6:f 6=some (.lst ((nz fs).map .int))) (iJ:f 15=some (.loc s)) (hs:C[s]?=some (.list ((nz ((bp fs).map (ik fs))).map .int))) : ∃ st,ax Q1 cl wx ⟨fr 19 f,C⟩=.ok (.ret (.bool true)) st:=by
 have hf:=lS aC
 have hU:=Hq hl aU
 obtain ⟨C1,e1,a1,b1⟩:=xi (n:=n) (f:=f) (C:=C) (e:=.var 6) (j:=false) aC iH aU (λC=>bF rfl h6) (.inl rfl)
 obtain ⟨f1,bC⟩ : ∃ f1,f1=uf f 18 (.loc C.length):=⟨_,rfl⟩
 have P9:f1 15=some (.loc s):=by rw [bC]; exact iJ
 have Qa:f1 18=some (.loc C.length):=by rw [bC]; rfl
 obtain ⟨C2,e2,a2,b2⟩:=xi (n:=n) (f:=f1) (C:=C1) (e:=.var 15) (j:=false) aC iH hU.lt (λC=>bF rfl P9) (.inr ⟨s,rfl,b1 s _ hs⟩)
 have DZ:=iH.bZ (j:=false) _ hU.lt
 have e3:=Di (P:=Q1) (cl:=cl) (N:=64) hf e2 (mX a2) DZ.gF DZ.lt (RW hl aU)
 have hm:=(iH.bZ (j:=false) fs aU).lt
 obtain ⟨C3,e4,a3,b3⟩:=xi (n:=n) (f:=f1) (C:=C2) (e:=.var 18) (j:=true) aC o9 hm (λC=>bF rfl Qa) (.inr ⟨C.length,rfl,b2 _ _ a1⟩)
 have D0:=o9.bZ (j:=true) _ hm
 have e5:=Di (P:=Q1) (cl:=cl) (N:=64) hf e4 (mX a3) D0.gF D0.lt (RX aU)
 rw [<-IW aU hU] at e5
 refine ⟨⟨fr 19 f1,C3⟩,lz e1 rfl ?_⟩
 rw [<-bC]
 exact kg (b7 e3 e5 (by rw [wW,decide_eq_true rfl]))
theorem SR (ns:List Int) (hz:ns.length<=63) : ∃ st,aE P1 10000 12 21 [.lst (ns.map .int)] [] []=.ok (.bool true) st:=by
 refine cps λQ0 k0=>?_
 obtain ⟨cl,aC⟩ : ∃ cl:Calls,cl=⟨aE Q1 10000 11,10000⟩:=⟨_,rfl⟩
 obtain ⟨f,fs,ob,C,e1,H⟩:=Oa (n:=7) aC hz
 obtain ⟨f2,C2,s,e2,h6,iJ,hs⟩:=Ra (n:=6) (f:=f) (C:=C) aC H
 obtain ⟨st,e3⟩:=LZ (n:=10) (f:=f2) (C:=C2) aC H.len H.lt h6 iJ hs
 have go:aE P1 10000 12 21 [.lst (ns.map .int)] [] []=dq (ax Q1 cl wt ⟨some (.lst (ns.map .int))::replicate 18 none,[]⟩):=by subst aC; kernel_rfl
 exact k0 ⟨st,go.trans (kc (e1.trans (e2.trans e3)))⟩
end Mine.Lake
end
open PySem PySem.W PyProof.Rows
set_option Elab.async false
namespace Mine.Lake
noncomputable def Ql (fs:List (Str × D)):List (Str × D):=[(Str.ofString "_buffer",.fn 0),(Str.ofString "_truth",.fn 1),(Str.ofString "b2a_base64",.fn 2),(Str.ofString "b64encode",.fn 3),(Str.ofString "_filter",.fn 7)]++fs ++
 [(Str.ofString "_NodeInfo",.cls 0),(Str.ofString "CycleError",.cls 1),(Str.ofString "TopologicalSorter",.cls 2),(Str.ofString "filterfalse",.cls 3),(Str.ofString "_NODE_OUT",.int (-1)),(Str.ofString "_NODE_DONE",.int (-2)),(Str.ofString "_B64",.bytes iD),
 (Str.ofString "len",.bn .len),(Str.ofString "list",.bn .list),(Str.ofString "range",.bn .range),(Str.ofString "tuple",.bn .tuple),(Str.ofString "sum",.bn .sum),(Str.ofString "min",.bn .min),(Str.ofString "sorted",.bn .sorted),
 (Str.ofString "isinstance",.bn .isinstance),(Str.ofString "bool",.bn .bool),(Str.ofString "bytes",.bn .bytes),(Str.ofString "str",.bn .str),(Str.ofString "type",.bn .type),(Str.ofString "set",.bn .set),(Str.ofString "iter",.bn .iter),(Str.ofString "next",.bn .next),
 (Str.ofString "int",.bn .int),(Str.ofString "float",.bn .float),(Str.ofString "complex",.bn .complex),(Str.ofString "bytearray",.bn .bytearray),(Str.ofString "dict",.bn .dict),(Str.ofString "frozenset",.bn .frozenset),(Str.ofString "repr",.bn .repr),
 (Str.ofString "ValueError",.bn .vv),(Str.ofString "StopIteration",.bn .stopIteration)]
noncomputable def Qm:List Str:=[Str.ofString "out",Str.ofString "successors",Str.ofString "_ready_nodes",Str.ofString "stack",Str.ofString "itstack",Str.ofString "gone",Str.ofString "sizes",Str.ofString "waiting",Str.ofString "active",Str.ofString "told",Str.ofString "octets",
 Str.ofString "known",Str.ofString "sets",Str.ofString "lost",Str.ofString "won",Str.ofString "later",Str.ofString "earlier",Str.ofString "ahead"]
noncomputable def Qk (fs:List (Str × D)):a0:={glob:=Ql fs,mu:=Qm,BX:=[(Str.ofString "_law_spread",0)]}
noncomputable def slots:List (List Nat):=[[0,1,2],[],[],[1,0]]
noncomputable def wM:a0:=Qk [(Str.ofString "_law_sign",.fn 17),(Str.ofString "_law_sorter",.fn 18),(Str.ofString "_law_came",.fn 19),(Str.ofString "_law_spread",.fn 20),(Str.ofString "law",.fn 21)]
noncomputable def xw:List Addr:=[148,155,163,171,186,193,200,215,36,73,80,87,92,99,106,120,127,222,229,236,241,246]
noncomputable def B8:List Addr:=[40,55,137,204]
noncomputable def loose:List Str:=["_wall","_buffer","_truth","_B64","b2a_base64","b64encode","filterfalse","_filter","_NODE_OUT","_NODE_DONE","_NodeInfo","CycleError","TopologicalSorter","_law_sign","_law_sorter","_law_came","_law_spread"].map Str.ofString
noncomputable def q1:Program:=view PySem.Challenge.rw_kt0039_01.row.toRowW.prog [23]
theorem Qr:LeftO PySem.Challenge.rw_kt0039_01.row.toRowW.prog q1 loose (λs=>xlAt q1 [] s&&recOk (RowW.records PySem.Challenge.rw_kt0039_01.row.toRowW) s) (Fi P1 wM xw B8 slots) (Fj P1 xw 21) 2000:=by
 intro w
 kernel_rfl
end Mine.Lake
set_option tactic.hygienic true in
set_option maxRecDepth 100000 in
set_option maxHeartbeats 8000000 in
theorem PySem.Challenge.cw_kt0039_01_holds : PySem.Challenge.rw_kt0039_01.Holds := by
 w_on
 refine holds_law (by kernel_rfl) λXo=>?_
 refine holds_open (q:=Mine.Lake.q1) (loose:=Mine.Lake.loose) (Xt:=λs=>xlAt Mine.Lake.q1 [] s&&recOk (RowW.records PySem.Challenge.rw_kt0039_01.row.toRowW) s) (XP:=XL Mine.Lake.q1 []) (YP:=Mine.Lake.uQ Mine.Lake.P1 Mine.Lake.wM Mine.Lake.xw Mine.Lake.B8 Mine.Lake.slots 21) Mine.Lake.Qr Mine.Lake.Qo Mine.Lake.Qn
  (λs e=>xl_of s (and_eq_true_iff.mp e).1) XL.keeps (by rfl) (by rfl) (by rfl) (λs e=>recFacts_of (and_eq_true_iff.mp e).2) (by rfl) (by first|assumption|decide +kernel) (by decide +kernel) ⟨rfl,rfl,rfl,rfl,rfl,by decide +kernel⟩ ?hw ?hc
 (case hw=>w_witness2)
 w_strict (
  intro w Xp au mg mb G Y fa o pm cd doc dV kV ho hd ma hD OP hg args vals as O6 OK O9 Py mh
  obtain ⟨K,KX,L,yo⟩:=Y
  refine Ground.open G ?_
  intro T B D TE TW
  wrow_args O6 OK O9 Py mh
  all_goals (first|refine callC_kw (enter_call ?_)|refine enter_call ?_|refine callC_kw (enter_callW ?_)|refine enter_callW ?_|w_how)
  all_goals (
     rename_i ns _ _ _ _ _ _ _ sa vs _ hL ra w1 r0 hI _ hz _
     refine Mine.Lake.P7 (P:=Mine.Lake.P1) (G:=Mine.Lake.wM) (k:=21) (f:=Mine.Lake.wo) KX OP T.g T.b T.nolimit T.builtins (T.seer ?_) hg (Mine.Lake.Qu w1 hL) hI ?_ L ⟨?_,?_,?_⟩ yo ?_ ?_ ?_ ?_ ?_ (Mine.Lake.SR ns (by omega)) ?_
     ·kernel_rfl
     ·omega
     ·kernel_rfl
     ·kernel_rfl
     ·kernel_rfl
     ·rfl
     ·rfl
     ·rfl
     ·rfl
     ·rfl
     ·intro s' hk nI ho
      exact GoodW.toG ⟨.inl ⟨_,.bool true,[],rfl,λu'=>by first|rfl|kernel_rfl,.bool true,by first|rfl|kernel_rfl,unshared_nil⟩,hk,ho,nI⟩))
