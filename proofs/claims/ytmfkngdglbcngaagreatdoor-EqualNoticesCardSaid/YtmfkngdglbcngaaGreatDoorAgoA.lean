
import Derived.Laws.Cells
import Derived.KernelRfl
set_option linter.all false
namespace Go.Ago
abbrev AT:=@if_pos
abbrev By:=@if_neg
abbrev BY:=@List.mem_cons_of_mem
abbrev IN:=@List.mem_of_getElem?
abbrev IS:=@List.mem_cons_self
abbrev IT:=@Int.toNat_natCast
abbrev OF:=@decide_eq_true_eq
abbrev aab:=@Nat.eq_of_beq_eq_true
abbrev aam:=@Nat.lt_succ_self
abbrev aao:=@Nat.le_refl
abbrev aas:=@List.length_cons
abbrev aau:=@Bool.and_eq_true
abbrev abi:=@List.getElem?_eq_getElem
abbrev abo:=@List.getElem?_map
abbrev abG:=@Option.some.injEq
abbrev abV:=@List.drop_eq_nil_of_le
abbrev abW:=@List.mem_append_right
abbrev abX:=@Nat.le_trans
abbrev abY:=@List.length_append
abbrev ab0:=@Option.some.inj
abbrev ab3:=@List.mem_append_left
abbrev ab8:=@Nat.lt_succ_of_lt
abbrev acb:=@List.eq_nil_of_length_eq_zero
abbrev acu:=@List.append_assoc
abbrev acw:=@List.map_cons
abbrev acW:=@List.length_nil
abbrev ac0:=@Nat.mul_one
abbrev ac3:=@List.length_map
abbrev adr:=@List.flatMap_cons
abbrev adx:=@List.cons_append
abbrev adQ:=@Nat.zero_add
abbrev adZ:=@Bool.false_eq_true
abbrev ad0:=@Nat.mul_le_mul_right
abbrev aen:=@Nat.add_mul
abbrev aeo:=@Array.getElem?_toList
abbrev aep:=@List.eq_of_mem_replicate
abbrev aev:=@List.getElem?_drop
abbrev aeC:=@Nat.le_of_ble_eq_true
abbrev aeD:=@List.length_replicate
abbrev aeF:=@List.append_nil
abbrev aeG:=@Classical.byContradiction
abbrev aeI:=@List.all_eq_true
abbrev aeJ:=@Int.tdiv_eq_ediv_of_nonneg
abbrev aeK:=@Int.eq_ofNat_of_zero_le
abbrev aeL:=@if_false
abbrev aeM:=@Array.ext'
abbrev aeN:=@List.length_set
abbrev aeO:=@List.length_take
abbrev aeP:=@List.getD_eq_getElem?_getD
abbrev aeQ:=@List.nil_append
abbrev aeR:=@Option.bind_some
abbrev aeT:=@List.getElem?_eq_some_iff
abbrev aeX:=@Array.getElem?_eq_getElem
abbrev afc:=@List.drop_eq_getElem_cons
abbrev afe:=@List.Sublist.refl
abbrev afj:=@List.drop_zero
abbrev afk:=@Option.map_some
abbrev afl:=@List.count_cons
abbrev afm:=@Array.getD_eq_getD_getElem?
abbrev afn:=@List.set_cons_zero
abbrev afo:=@Nat.beq_refl
abbrev afr:=@Prod.mk.injEq
abbrev afH:=@List.count_append
abbrev afI:=@List.getElem?_append_left
abbrev afL:=@List.map_append
abbrev afQ:=@List.perm_append_comm
abbrev afW:=@Nat.lt_of_lt_of_le
abbrev afY:=@List.mem_singleton
abbrev afZ:=@Array.mem_toList_iff
abbrev af5:=@cond_false
abbrev af8:=@List.mem_append
abbrev agc:=@List.replicate_succ
abbrev agk:=@Nat.sub_self
abbrev agu:=@List.mem_cons
abbrev agv:=@Array.mem_append
abbrev agw:=@congrArg
abbrev agx:=@List.not_mem_nil
abbrev agy:=@List.map_replicate
abbrev agz:=@List.set_append_right
abbrev agA:=@ByteArray.size_append
abbrev agB:=@List.sublist_append_right
abbrev agC:=@Nat.le_succ
abbrev agD:=@Int.le_refl
abbrev agE:=@List.getElem?_append
abbrev agF:=@Nat.add_zero
abbrev agG:=@Int.le_trans
abbrev agH:=@Nat.lt_trans
abbrev agI:=@Nat.not_lt_zero
abbrev agJ:=@List.getElem?_cons_succ
abbrev agK:=@Array.toList_append
abbrev agL:=@List.flatMap_append
abbrev agM:=@List.getElem_mem
abbrev agN:=@if_true
abbrev agO:=@Array.getElem?_setIfInBounds
abbrev agP:=@List.nodup_range
abbrev agQ:=@Nat.zero_le
abbrev agR:=@List.take_of_length_le
abbrev agS:=@List.getElem?_take
abbrev agT:=@List.map_map
abbrev agU:=@List.set_cons_succ
abbrev agV:=@Nat.lt_of_le_of_lt
abbrev agW:=@List.perm_append_comm_assoc
abbrev agX:=@of_decide_eq_true
abbrev agY:=@List.size_toArray
abbrev agZ:=@Array.toArray_toList
abbrev ag0:=@List.mem_or_eq_of_mem_set
abbrev ag1:=@Nat.one_mul
abbrev ag2:=@List.set_eq_take_append_cons_drop
abbrev ag3:=@List.drop_drop
abbrev ag4:=@Nat.le_of_lt
abbrev ag5:=@Classical.axiomOfChoice
abbrev ag6:=@List.pairwise_cons
abbrev ag7:=@decide_eq_false
abbrev ag8:=@true_and
abbrev ag9:=@List.sublist_cons_self
abbrev aha:=@List.ext_getElem?
abbrev ahd:=@Bool.not_eq_true'
abbrev ahf:=@List.getElem?_toArray
abbrev ahi:=@Array.mem_of_getElem?
abbrev ahl:=@Nat.mul_le_mul
abbrev aho:=@List.map_set
abbrev ahp:=@List.getElem?_eq_none
abbrev ahq:=@List.Perm.append_left
abbrev ahr:=@List.length_singleton
abbrev ahs:=@ByteArray.data_append
abbrev aht:=@List.length_drop
abbrev ahu:=@List.take_length
abbrev ahv:=@List.replicate_succ'
abbrev ahw:=@List.perm_middle
abbrev ahx:=@List.getElem?_set_ne
abbrev ahy:=@Array.getElem?_eq_some_iff
abbrev ahz:=@Nat.add_assoc
abbrev ahA:=@List.getElem?_append_right
abbrev ahB:=@List.length_reverse
abbrev ahC:=@Nat.mul_le_mul_left
abbrev ahD:=@List.map_congr_left
abbrev ahE:=@Bool.or_eq_true
abbrev ahF:=@List.Pairwise.imp_of_mem
abbrev ahG:=@not_true_eq_false
abbrev ahH:=@List.take_add_one
abbrev ahI:=@List.nodup_append
abbrev ahJ:=@List.Perm.append_right
abbrev ahK:=@List.head?_eq_getElem?
abbrev ahL:=@Bool.true_and
abbrev ahM:=@List.range'_succ
abbrev ahN:=@List.flatten_replicate_singleton
abbrev ahO:=@or_false
abbrev ahP:=@List.countP_cons
abbrev ahQ:=@Nat.le_add_right
abbrev ahR:=@Nat.mod_lt
abbrev ahS:=@List.count_le_length
abbrev ahT:=@Array.getElem?_push
abbrev ahU:=@List.Sublist.append
abbrev ahV:=@decide_eq_true
abbrev ahW:=@List.dropLast_concat_getLast
abbrev ahX:=@List.countP_eq_length_filter
abbrev ahY:=@Array.ext_getElem?
abbrev ahZ:=@Option.isSome_none
abbrev ah0:=@Int.natCast_nonneg
abbrev ah1:=@BitVec.toNat_ofInt
abbrev ah2:=@List.count_pos_iff
abbrev ah4:=@Array.toList_setIfInBounds
abbrev ah5:=@Bool.or_false
abbrev ah6:=@Bool.not_true
abbrev ah7:=@List.all_cons
abbrev ah8:=@Int.fdiv_eq_ediv_of_nonneg
abbrev ah9:=@Int.tmod_eq_emod_of_nonneg
abbrev aia:=@List.cons.inj
abbrev aib:=@List.sum_cons
abbrev aic:=@List.flatten_cons
abbrev aid:=@List.pairwise_map
abbrev aie:=@Option.getD_some
abbrev aif:=@List.set_set
abbrev aih:=@Option.bind_eq_some_iff
abbrev aii:=@List.mem_filter
abbrev aij:=@Nat.min_eq_left
abbrev aik:=@UInt8.toNat_inj
abbrev ail:=@List.range_succ_eq_map
abbrev aim:=@List.getElem?_set_self
abbrev ain:=@List.take_append_drop
abbrev aio:=@List.mem_iff_getElem?
abbrev aip:=@List.modify_zero_cons
abbrev aiq:=@List.mem_range
abbrev air:=@Bool.and_false
abbrev ais:=@Bool.false_and
abbrev ait:=@List.singleton_append
abbrev aiu:=@List.take_succ
abbrev aiv:=@List.countP_le_length
abbrev aiw:=@List.getElem?_modify
abbrev aix:=@List.set_append_left
abbrev aiy:=@Decidable.of_not_not
abbrev aiz:=@List.any_cons
abbrev aiR:=@Nat.add_comm
open Go
abbrev δ:=List Value
abbrev ε:=List Int
abbrev ζ:=ByteArray
abbrev η:=List Nat
abbrev θ:=Option Addr
abbrev κ:=TypeId
abbrev μ:=Option Nat
abbrev ν:=Array Value
abbrev ξ:=Value
abbrev Env:=Nat->Option ξ
def Env.set (E:Env)(i:Nat)(v:ξ):Env:=λj=>cond (Nat.beq j i) (some v) (E j)
def Env.put (E:Env)(d:μ)(v:ξ):Env:=
 match d with
 |some i=>E.set i v
 |none=>E
def Env.emp:Env:=λ_=>none
def dz:ξ->Bool
 |.bool _ | .int _ _ | .float _ _ | .complex _ _ _ | .string _ | .nilFunc | .nilIface | .pointer none | .map none | .chan none | .slice none _ _=>true
 |_=>false
def flat:ξ->Bool
 |.agg cs=>cs.toList.all dz
 |.tuple vs=>vs.toList.isEmpty
 |.iface _ v=>dz v
 |v=>dz v
def Env.ev (E:Env):Operand->Option ξ
 |.tmp t=>E t
 |.const v=>match flat v with|true=>some v|false=>none
 |.global _=>none
 |.func f=>some (.func (.func f) #[] #[])
def Env.KK (E:Env):List Operand->Option δ
 |[]=>some []
 |x::xs=>match E.ev x,E.KK xs with
  |some v,some vs=>some (v::vs)
  |_,_=>none
def PH:IntKind->Nat
 |.i8=>0 | .i16=>1 | .i32=>2 | .i64=>3 | .u8=>4 | .u16=>5 | .u32=>6 | .u64=>7
def PI (a b:IntKind):Bool:=Nat.beq (PH a) (PH b)
inductive GN where
 |cells (c:δ) (dY base:Nat) (elem:κ)
 |map (es:List (ξ×ξ))
 |iter (s:ζ) (pos:Nat)
structure nU where
 key:ξ
 val:ξ
 born:Nat
structure X3 where
 kt:κ
 clock:Nat
 es:List nU
structure af where
 jy:Nat->Option X3
 get:Nat->Option GN
 next:Nat
 oV:Nat->Nat
 used:Nat->Bool
 dec:∀p:Prop,Decidable p
abbrev M (α:Type):=af->Option (α×af)
def sh {α β:Type}(m:M α)(f:α->M β):M β:=λh=>
 match m h with
 |some (a,h')=>f a h'
 |none=>none
def AI {α:Type}(a:α):M α:=λh=>some (a,h)
def AS {α:Type}:M α:=λ_=>none
structure Sl where
 a:θ
 len:Nat
 cap:Nat
inductive eN where
 |int (k:IntKind)|bool|str|ptr|an|sl|mp|raw|f64
@[reducible] def eN.den:eN->Type
 |.int _=>Int
 |.bool=>Bool
 |.str=>ζ
 |.ptr=>θ
 |.an=>Addr
 |.sl=>Sl
 |.mp=>μ
 |.raw=>ξ
 |.f64=>Nat
def Nf:(l:eN)->l.den->ξ
 |.int k,n=>.int k n
 |.bool,b=>.bool b
 |.str,s=>.string s
 |.ptr,p=>.pointer p
 |.an,p=>.pointer (some p)
 |.sl,s=>.slice s.a s.len s.cap
 |.mp,r=>.map r
 |.raw,v=>v
 |.f64,n=>.float .f64 n
def Al:(l:eN)->ξ->Option l.den
 |.int .i8,.int .i8 n | .int .i16,.int .i16 n | .int .i32,.int .i32 n | .int .i64,.int .i64 n=>some n
 |.int .u8,.int .u8 n | .int .u16,.int .u16 n | .int .u32,.int .u32 n | .int .u64,.int .u64 n=>some n
 |.bool,.bool b=>some b
 |.str,.string s=>some s
 |.ptr,.pointer p=>some p
 |.an,.pointer (some p)=>some p
 |.sl,.slice a n c=>some ⟨a,n,c⟩
 |.mp,.map r=>some r
 |.raw,v=>some v
 |.f64,.float .f64 n=>some n
 |_,_=>none
@[reducible] def bS:List eN->Type
 |[]=>Unit
 |[l]=>l.den
 |l::ls=>l.den×bS ls
def GO:(ls:List eN)->bS ls->δ
 |[],_=>[]
 |[l],x=>[Nf l x]
 |l::l'::ls,x=>Nf l x.1::GO (l'::ls) x.2
def zG:(ls:List eN)->δ->Option (bS ls)
 |[],[]=>some ()
 |[l],[v]=>Al l v
 |l::l'::ls,v::vs=>match Al l v,zG (l'::ls) vs with
  |some x,some y=>some (x,y)
  |_,_=>none
 |_,_=>none
inductive Ty where
 |one (l:eN)
 |agg (ls:List eN)
@[reducible] def Ty.den:Ty->Type
 |.one l=>l.den
 |.agg ls=>bS ls
def De:(t:Ty)->t.den->ξ
 |.one l,x=>Nf l x
 |.agg ls,x=>.agg (GO ls x).toArray
def KM:(t:Ty)->ξ->Option t.den
 |.one l,v=>Al l v
 |.agg ls,.agg cs=>zG ls cs.toList
 |_,_=>none
@[reducible] def aL:List Ty->Type
 |[]=>Unit
 |[t]=>t.den
 |t::ts=>t.den×aL ts
def fq:(ts:List Ty)->aL ts->δ
 |[],_=>[]
 |[t],x=>[De t x]
 |t::t'::ts,x=>De t x.1::fq (t'::ts) x.2
def vy:(ts:List Ty)->δ->Option (aL ts)
 |[],[]=>some ()
 |[t],[v]=>KM t v
 |t::t'::ts,v::vs=>match KM t v,vy (t'::ts) vs with
  |some x,some y=>some (x,y)
  |_,_=>none
 |_,_=>none
def gq (vs:δ):ξ:=
 match vs with
 |[v]=>v
 |vs=>.tuple vs.toArray
def unR (ts:List Ty)(v:ξ):Option (aL ts):=
 match ts with
 |[t]=>KM t v
 |ts=>match v with
  |.tuple vs=>vy ts vs.toList
  |_=>none
def rf (E:Env):List (Nat×Ty)->Option δ
 |[]=>some []
 |(i,_)::r=>match E i,rf E r with
  |some v,some vs=>some (v::vs)
  |_,_=>none
def s7:List (Nat×Ty)->δ->Env
 |(i,_)::r,v::vs=>(s7 r vs).set i v
 |_,_=>Env.emp
def X4 (E:Env):List (Nat×Ty)->δ->Env
 |(i,_)::r,v::vs=>(X4 E r vs).set i v
 |_,_=>E
def gV:List (Nat×Ty)->List Ty
 |[]=>[]
 |(_,t)::r=>t::gV r
def af.cell (h:af)(a:Addr):Option ξ:=
 match h.get a.block with
 |some (.cells c _ _ _)=>c[a.off]?
 |_=>none
def _root_.Go.Addr.plus (a:Addr)(n:Nat):Addr:=⟨a.block,a.off+n,none⟩
def ar (l:eN)(a:Addr):M l.den:=λh=>
 match h.cell a with
 |some v=>(match Al l v with|some x=>some (x,h)|none=>none)
 |none=>none
def af.dA (h:af)(nm next':Nat)(elem:κ)(cs:δ):af:=
 { h with
  get:=λj=>cond (Nat.beq j nm) (some (.cells cs (nm+1) 0 elem)) (h.get j)
  next:=next'
  oV:=λg=>cond (Nat.beq g (nm+1)) cs.length (h.oV g)
  used:=λj=>cond (Nat.beq j nm) true (h.used j) }
def af.new (h:af)(elem:κ)(cs:δ):af:=h.dA h.next (h.next+1) elem cs
def eZ:ξ->Bool
 |.agg _ | .tuple _=>false
 |_=>true
def aM (nm:μ)(elem:κ)(cs:δ):M Nat:=λh=>
 if cs.all eZ=true then (match nm with
  |none=>some (h.next,h.new elem cs)
  |some k=>if h.used k=false/\k<h.next/\(h.get k).isNone=true then some (k,h.dA k h.next elem cs) else none) else none
def eC (n:Nat):M Nat:=λh=>some (h.next,{ h with next:=h.next+n })
def bf (c:δ)(o:Nat)(vs:δ):δ:=c.take o++vs++c.drop (o+vs.length)
def af.sr (h:af)(b:Nat)(c:δ)(g base:Nat)(elem:κ):af:=
 { h with get:=λj=>cond (Nat.beq j b) (some (.cells c g base elem)) (match h.get j with
   |some (.cells c' g' base' elem')=>cond (Nat.beq g' g) none (some (.cells c' g' base' elem'))
   |o=>o) }
def bF (a:Addr)(vs:δ):M Unit:=λh=>
 match h.get a.block with
 |some (.cells c g base elem)=>
  if g≠0/\a.off+vs.length<=c.length/\vs.all eZ=true then some ((),h.sr a.block (bf c a.off vs) g base elem) else none
 |_=>none
def oq (b:Bool):M Unit:=λh=>match b with
 |true=>some ((),h)
 |false=>none
def nn (p:θ):M Addr:=λh=>match p with
 |some a=>some (a,h)
 |none=>none
def aU (h:af)(a:θ)(n:Nat):Option δ:=
 match a with
 |none=>if n=0 then some [] else none
 |some a=>match h.get a.block with
  |some (.cells c _ _ _)=>if a.off+n<=c.length then some ((c.drop a.off).take n) else none
  |_=>none
def GP (s:Sl)(sz:Nat):M δ:=λh=>
 match aU h s.a (s.len*sz) with
 |some cs=>some (cs,h)
 |none=>none
def cF:Nat:=1073741824
def s9 (strict:Bool)(s:Sl)(sz:Nat)(elem:κ)(n:Nat)(new:δ):M Sl:=λh=>
 if n=0 then (match s.a with
  |none=>if s.len=0/\s.cap=0/\new=[] then some (s,h) else none
  |some _=>if new=[] then some (s,h) else none) else
 if ¬(s.len+n<=cF/\new.length=n*sz) then none else
 match s.a with
 |none=>if s.len=0/\s.cap=0 then some (⟨some ⟨h.next,0,none⟩,n,0⟩,h.new elem new) else none
 |some a=>
  match aU h (some a) (s.len*sz),h.get a.block with
  |some nY,some (.cells c g base e)=>
   if s.cap≠0/\s.len+n<s.cap then
    if g≠0/\a.off+(s.len*sz+new.length)<=c.length/\strict=false then
     some (⟨some a,s.len+n,s.cap⟩,h.sr a.block (bf c (a.off+s.len*sz) new) g base e) else none
   else if s.cap≠0 then some (⟨some ⟨h.next,0,none⟩,s.len+n,0⟩,h.new elem (nY++new))
   else if g≠0/\e=elem then
    let tipNow:=base+a.off+s.len*sz
    let au:GN:=.cells (nY++new) g (base+a.off) elem
    if h.oV g=tipNow then
     some (⟨some ⟨h.next,0,none⟩,s.len+n,0⟩,
      { h with
       get:=λj=>cond (Nat.beq j h.next) (some au) (h.get j)
       next:=h.next+1
       oV:=λg'=>cond (Nat.beq g' g) (tipNow+new.length) (h.oV g')
       used:=λj=>cond (Nat.beq j h.next) true (h.used j) })
    else if strict=false then
     some (⟨some ⟨h.next,0,none⟩,s.len+n,0⟩,
      { h with
       get:=λj=>cond (Nat.beq j h.next) (some au) (match h.get j with
        |some (.cells c' g' base' elem')=>cond (Nat.beq g' g&&Nat.blt tipNow (base'+c'.length)) none (some (.cells c' g' base' elem'))
        |o=>o)
       next:=h.next+1
       oV:=λg'=>cond (Nat.beq g' g) (tipNow+new.length) (h.oV g')
       used:=λj=>cond (Nat.beq j h.next) true (h.used j) })
    else none
   else none
  |_,_=>none
def app (strict:Bool)(s:Sl)(sz:Nat)(elem:κ)(n:Nat)(new:δ):M Sl:=λh=>
 match strict&&(h.get h.next).isSome with
 |true=>none
 |false=>s9 strict s sz elem n new h
def aw (s:Sl)(i:Int)(sz:Nat):M Addr:=λh=>
 match s.a with
 |some a=>if 0<=i/\i<s.len then some (a.plus (i.toNat*sz),h) else none
 |none=>none
def jx (s:ζ)(i:Int):M UInt8:=λh=>
 match (if 0<=i then s[i.toNat]? else none) with
 |some b=>some (b,h)
 |none=>none
def Ia (l:eN)(n:Nat)(cs:δ)(j:Int):M l.den:=λh=>
 if 0<=j/\j<(n:Int) then (match cs[j.toNat]? with
  |some v=>(match Al l v with|some x=>some (x,h)|none=>none)
  |none=>none) else none
def je (s:ζ)(lo hi:Int):M ζ:=λh=>
 if 0<=lo/\lo<=hi/\hi<=s.size then some (s.extract lo.toNat hi.toNat,h) else none
def oU (h:af)(s:Sl)(e:κ):Bool:=
 match s.a with
 |none=>Nat.beq s.len 0&&Nat.beq s.cap 0
 |some a=>match h.get a.block with
  |some (.cells _ g _ e')=>Nat.beq g 0||Nat.beq e' e
  |_=>false
def lu (s:Sl)(lo hi:Int)(e:κ)(sz:Nat):M Sl:=λh=>
 if 0<=lo/\lo<=hi/\hi<=s.len/\oU h s e=true then
  some (⟨s.a.map (·.plus (lo.toNat*sz)),hi.toNat-lo.toNat,s.cap-(if s.cap=0 then 0 else lo.toNat)⟩,h) else none
def nB (a:Addr)(len:Nat)(lo hi:Int)(sz:Nat):M Sl:=λh=>
 if 0<=lo/\lo<=hi/\hi<=(len:Int) then some (⟨some (a.plus (lo.toNat*sz)),hi.toNat-lo.toNat,len-lo.toNat+1⟩,h) else none
def ve (s:Sl)(lo hi mx:Int)(e:κ)(sz:Nat):M Sl:=λh=>
 if 0<=lo/\lo<=hi/\hi<=mx/\mx<=s.len/\s.a.isSome/\oU h s e=true then
  some (⟨s.a.map (·.plus (lo.toNat*sz)),hi.toNat-lo.toNat,mx.toNat-lo.toNat+1⟩,h) else none
def kA (x y:ζ):M ζ:=λh=>
 if x.size+y.size<=cF then some (x++y,h) else none
def vS (nm:μ)(elem:κ)(zero:δ)(l c:Int):M Sl:=λh=>
 if 0<=l/\l<=c/\c<=cF then (match aM nm elem (List.replicate c.toNat zero).flatten h with
  |some (b,h')=>some (⟨some ⟨b,0,none⟩,l.toNat,c.toNat+1⟩,h')
  |none=>none) else none
def bytesOf (vs:δ):Option (List UInt8):=
 match vs with
 |[]=>some []
 |.int .u8 n::r=>match bytesOf r with
  |some l=>some (UInt8.ofNat n.toNat::l)
  |none=>none
 |_=>none
def ofBytes (l:List UInt8):ζ:=⟨l.toArray⟩
def bQ (s:ζ):δ:=s.data.toList.map λb=>.int .u8 b.toNat
def strOf (s:Sl):M ζ:=λh=>
 match aU h s.a s.len with
 |some cs=>(match bytesOf cs with|some l=>some (ofBytes l,h)|none=>none)
 |none=>none
def EZ (elem:κ)(s:ζ):M Sl:=λh=>
 if s.size<=cF then some (⟨some ⟨h.next,0,none⟩,s.size,0⟩,h.new elem (bQ s)) else none
def kM:ξ->M Bool:=λv h=>match v with
 |.nilIface=>some (true,h)
 |.iface _ _=>some (false,h)
 |_=>none
def mX (x y:ζ):Bool:=x.toList==y.toList
def X5 (x y:ζ):Bool:=Op.bytesLess x.toList y.toList
def Bc (x y:ξ):Bool:=
 match x,y with
 |.int k a,.int k' b=>PI k k'&&decide (a=b)
 |.bool a,.bool b=>a==b
 |.string a,.string b=>mX a b
 |_,_=>false
def yf:δ->δ->Bool
 |[],[]=>true
 |x::xs,y::ys=>Bc x y&&yf xs ys
 |_,_=>false
def wG (x y:ξ):Bool:=
 match x,y with
 |.agg xs,.agg ys=>yf xs.toList ys.toList
 |x,y=>Bc x y
def gw (k:ξ):List nU->Option nU
 |[]=>none
 |e::r=>match wG k e.key with
  |true=>some e
  |false=>gw k r
def xz (k:ξ)(es:List nU):Option ξ:=(gw k es).map (·.val)
def pY (k v:ξ)(c:Nat):List nU->List nU
 |[]=>[⟨k,v,c⟩]
 |e::r=>match wG k e.key with
  |true=>⟨k,v,e.born⟩::r
  |false=>e::pY k v c r
def Ru (k:ξ):List nU->List nU
 |[]=>[]
 |e::r=>match wG k e.key with
  |true=>r
  |false=>e::Ru k r
def Hs (b:Nat)(v:ξ):List nU->Option (List nU)
 |[]=>none
 |e::r=>match Nat.beq e.born b with
  |true=>some (⟨e.key,v,e.born⟩::r)
  |false=>(match Hs b v r with|some l=>some (e::l)|none=>none)
def af.nC (h:af)(m:Nat)(x:X3):af:=
 { h with jy:=λj=>cond (Nat.beq j m) (some x) (h.jy j) }
def Be (kt:κ):M Nat:=λh=>some (h.next,{ h.nC h.next ⟨kt,0,[]⟩ with next:=h.next+1,used:=λj=>cond (Nat.beq j h.next) true (h.used j) })
def af.Ni (h:af)(k:Nat)(kt:κ):af:={ h.nC k ⟨kt,0,[]⟩ with used:=λj=>cond (Nat.beq j k) true (h.used j) }
def vf (k:Nat)(kt:κ):M Nat:=λh=>if h.used k=false/\k<h.next then some (k,h.Ni k kt) else none
def Nj {α:Type}(m:M α):Prop:=∀(h:af) (k:Nat) (kt:κ) (x:α) (h2:af),h.used k=false->k<h.next->m (h.Ni k kt)=some (x,h2)->∃h1,m h=some (x,h1)/\h1.used k=false/\k<h1.next/\h2=h1.Ni k kt
def af.zZ (h:af)(kt:κ)(m:Nat):Option (Nat×List nU):=
 match h.jy m with
 |some x=>(match Nat.beq x.kt kt with|true=>some (x.clock,x.es)|false=>none)
 |none=>none
def xA (kt:κ)(T:Ty)(z:T.den)(m:μ)(k:ξ):M (Bool×T.den):=λh=>
 match m with
 |none=>some ((false,z),h)
 |some m=>(match h.zZ kt m with
  |some (_,es)=>(match xz k es with
   |some v=>(match KM T v with|some x=>some ((true,x),h)|none=>none)
   |none=>some ((false,z),h))
  |none=>none)
def Df (kt:κ)(m:μ)(k v:ξ):M Unit:=λh=>
 match m with
 |none=>none
 |some m=>(match h.zZ kt m with
  |some (c,es)=>some ((),h.nC m ⟨kt,(match gw k es with|some _=>c|none=>c+1),pY k v c es⟩)
  |none=>none)
def wH (kt:κ)(T:Ty)(z:T.den)(m:μ)(k:ξ):M (T.den×Nat):=λh=>
 match m with
 |none=>none
 |some m=>(match h.zZ kt m with
  |some (c,es)=>(match gw k es with
   |some e=>(match KM T e.val with|some x=>some ((x,e.born),h)|none=>none)
   |none=>some ((z,c),h.nC m ⟨kt,c+1,pY k (De T z) c es⟩))
  |none=>none)
def wI (m:μ)(st:Int)(v:ξ):M Unit:=λh=>
 match m with
 |none=>none
 |some m=>(match h.jy m with
  |some x=>(match decide (0<=st),Hs st.toNat v x.es with
   |true,some es=>some ((),h.nC m ⟨x.kt,x.clock,es⟩)
   |_,_=>none)
  |none=>none)
def T7 (kt:κ)(m:μ)(k:ξ):M Unit:=λh=>
 match m with
 |none=>some ((),h)
 |some m=>(match h.zZ kt m with
  |some (c,es)=>some ((),h.nC m ⟨kt,c,Ru k es⟩)
  |none=>none)
def Dg (m:μ):M Nat:=λh=>
 match m with
 |none=>some (0,h)
 |some m=>(match h.jy m with
  |some x=>some (x.es.length,h)
  |none=>none)
def xB (d s:Sl)(sz:Nat):M Nat:=λh=>
 match aU h s.a (Nat.min s.len d.len*sz) with
 |some []=>some (Nat.min s.len d.len,h)
 |some cs=>(match d.a with
  |none=>none
  |some a=>(match bF a cs h with
   |some (_,h')=>some (Nat.min s.len d.len,h')
   |none=>none))
 |none=>none
def nnF (x:ξ):M Unit:=λh=>
 match x with
 |.func (.func _) _ _=>some ((),h)
 |_=>none
def rh (g:FuncId)(x:ξ):Bool:=
 match x with
 |.func (.func f) first _=>Nat.beq f g&&first.toList.isEmpty
 |_=>false
def Ib (x:ξ):δ:=
 match x with
 |.func _ _ caps=>caps.toList
 |_=>[]
def pG (cs:List Ty)(x:ξ):M (aL cs):=λh=>
 match vy cs (Ib x) with
 |some c=>some (c,h)
 |none=>none
def sameAt (h h':af):List θ->Bool
 |[]=>true
 |none::r=>sameAt h h' r
 |some b::r=>(match h.dec (h.get b.block=h'.get b.block) with
  |isTrue _=>sameAt h h' r
  |isFalse _=>false)
def mY {α:Type}(as:List θ)(m:M α):M α:=λh=>
 match m h with
 |some (x,h')=>(match sameAt h h' as with
  |true=>some (x,h')
  |false=>none)
 |none=>none
def BP {α:Type}(k:Nat)(m:M α)(h:af)(x:α)(h1:af):Prop:=∀(h0:af) t cs,h0.used k=false->k<h0.next->h0.get k=none->h=h0.dA k h0.next t cs ->
 ∃h3,m h0=some (x,h3)/\h3.used k=false/\k<h3.next/\h3.get k=none/\h1=h3.dA k h3.next t cs
def B7 {α:Type}(k:Nat)(m:M α):M α:=λh=>match m h with
 |some (x,h1)=>(match h.dec (BP k m h x h1) with
  |.isTrue _=>some (x,h1)
  |.isFalse _=>none)
 |none=>none
inductive Act:Type 1 where
 |val (v:ξ)
 |ask (α:Type) (m:M α) (k:α->Act)
 |none
def Act.run {R:Type}:Act->(ξ->M R)->M R
 |.val v,K=>K v
 |.ask _ m k,K=>sh m λx=>(k x).run K
 |.none,_=>AS
def Act.exec:Act->af->Option (ξ×af)
 |.val v,h=>Option.some (v,h)
 |.ask _ m k,h=>match m h with
  |Option.some (x,h')=>(k x).exec h'
  |Option.none=>Option.none
 |.none,_=>Option.none
def Ic:TypeDesc->Option eN
 |.bool=>some .bool
 |.int k=>some (.int k)
 |.string=>some .str
 |.pointer _=>some .ptr
 |.slice _=>some .sl
 |.map _ _=>some .mp
 |.float .f64=>some .f64
 |.unsafePointer=>some .ptr
 |.struct _ | .array _ _ | .tuple _ | .named _ _ | .invalid=>none
 |_=>some .raw
def bR (P:Program)(t:κ):μ:=
 match P.info? t with
 |some i=>some i.size
 |none=>none
def E4 {α:Type}:List (Option (List α))->Option (List α)
 |[]=>some []
 |some l::r=>(match E4 r with|some m=>some (l++m)|none=>none)
 |none::_=>none
def leaves (P:Program):Nat->κ->Option (List eN)
 |0,_=>none
 |n+1,t=>
  match P.underlying t with
  |some (.struct fs)=>E4 (fs.toList.map λf=>leaves P n f.type)
  |some (.array len e)=>E4 (List.replicate len (leaves P n e))
  |some d=>(match Ic d with|some l=>some [l] | none=>none)
  |none=>none
def yg:TypeDesc->Bool
 |.struct _ | .array _ _=>true
 |_=>false
def aeS (P:Program)(t:κ):Option Ty:=
 match P.underlying t with
 |some d=>(match yg d with
  |true=>(match leaves P 12 t with|some ls=>some (.agg ls)|none=>none)
  |false=>(match Ic d with|some l=>some (.one l)|none=>none))
 |none=>none
def tP (P:Program)(t:κ):Option eN:=
 match P.underlying t,bR P t with
 |some (.int k),some 1=>some (.int k)
 |some .bool,some 1=>some .bool
 |some .string,some 1=>some .str
 |_,_=>none
def E5 (P:Program):List Field->Nat->Option (List eN)
 |[],_=>some []
 |f :: fs, o => (match f.name == "_", Nat.beq f.offset o, tP P f.type, E5 P fs (o+1) with
  |false,true,some l,some ls=>some (l::ls)
  |_,_,_,_=>none)
def KP (P:Program)(t:κ):Option Ty:=
 match P.underlying t with
 |some (.struct fs)=>(match P.stoodInHeld t,E5 P fs.toList 0 with
  |false,some ls=>some (.agg ls)
  |_,_=>none)
 |some (.array n e)=>(match tP P e with
  |some l=>some (.agg (List.replicate n l))
  |none=>none)
 |_=>(match tP P t with|some l=>some (.one l)|none=>none)
def iL (l:eN)(v:ξ):Bool:=
 match l,v with
 |.int k,.int k' _=>PI k k'
 |.bool,.bool _=>true
 |.str,.string _=>true
 |_,_=>false
def fK:List eN->δ->Bool
 |[],[]=>true
 |l::ls,v::vs=>iL l v&&fK ls vs
 |_,_=>false
def Rv (T:Ty)(v:ξ):Bool:=
 match T,v with
 |.one l,v=>iL l v
 |.agg ls,.agg cs=>fK ls cs.toList
 |_,_=>false
def nW (P:Program)(t:κ)(v:ξ):Bool:=
 match KP P t with
 |some K=>Rv K v
 |none=>false
def Aa (a:Addr):List eN->Nat->δ->Act
 |[],_,acc=>.val (.agg acc.reverse.toArray)
 |l::ls,i,acc=>.ask l.den (ar l (a.plus i)) λx=>Aa a ls (i+1) (Nf l x::acc)
def aN (ls:List eN)(a:Addr):M (bS ls):=λh=>
 match aU h (some a) ls.length with
 |some vs=>(match zG ls vs with|some x=>some (x,h)|none=>none)
 |none=>none
def GJ (P:Program)(t:κ)(a:Addr):Act:=
 match P.underlying t,bR P t with
 |some d,some n=>
  (match yg d with
  |true=>(match leaves P 12 t with
   |some ls=>(match Nat.beq ls.length n with|true=>.ask (bS ls) (aN ls a) λx=>.val (.agg (GO ls x).toArray)|false=>.none)
   |none=>.none)
  |false=>(match Ic d with
   |some l=>.ask l.den (ar l a) λx=>.val (Nf l x)
   |none=>.none))
 |_,_=>.none
def zeroOf (P:Program)(t:κ):Option ξ:=
 match P.info? t with
 |some i=>(match i.zero with
  |some v=>(match v.cells.toList.all dz&&Nat.beq v.cells.size i.size with|true=>some v|false=>none)
  |none=>none)
 |none=>none
def Ec (P:Program)(op:BinOp)(t:κ)(v:ξ):Act:=
 match op,P.underlying t with
 |.eql,some (.interface _)=>.ask Bool (kM v) λb=>.val (.bool b)
 |.neq,some (.interface _)=>.ask Bool (kM v) λb=>.val (.bool (!b))
 |_,_=>.none
def KQ (op:BinOp)(k:IntKind)(a:Int)(k':IntKind)(b:Int):Act:=
 match op with
 |.shl=>.ask Unit (oq (decide (0<=b))) λ_=>.val (.int k (k.wrap (a*2^(min b.toNat k.bits))))
 |.shr=>.ask Unit (oq (decide (0<=b))) λ_=>.val (.int k (a.fdiv (2^(min b.toNat k.bits))))
 |op=>(match PI k k' with
  |false=>.none
  |true=>(match op with
   |.add=>.val (.int k (k.wrap (a+b)))
   |.sub=>.val (.int k (k.wrap (a-b)))
   |.mul=>.val (.int k (k.wrap (a*b)))
   |.quo=>.ask Unit (oq (decide (b≠0))) λ_=>.val (.int k (k.wrap (a.tdiv b)))
   |.rem=>.ask Unit (oq (decide (b≠0))) λ_=>.val (.int k (a.tmod b))
   |.and=>.val (.int k (k.wrap (BitVec.ofInt k.bits a&&&BitVec.ofInt k.bits b).toNat))
   |.or=>.val (.int k (k.wrap (BitVec.ofInt k.bits a|||BitVec.ofInt k.bits b).toNat))
   |.xor=>.val (.int k (k.wrap (BitVec.ofInt k.bits a^^^BitVec.ofInt k.bits b).toNat))
   |.andNot=>.val (.int k (k.wrap (BitVec.ofInt k.bits a&&&~~~BitVec.ofInt k.bits b).toNat))
   |.eql=>.val (.bool (decide (a=b)))
   |.neq=>.val (.bool (!decide (a=b)))
   |.lss=>.val (.bool (decide (a<b)))
   |.leq=>.val (.bool (decide (a<=b)))
   |.gtr=>.val (.bool (decide (b<a)))
   |.geq=>.val (.bool (decide (b<=a)))
   |_=>.none))
def KS (op:BinOp)(a b:ζ):Act:=
 match op with
 |.add=>.ask ζ (kA a b) λs=>.val (.string s)
 |.eql=>.val (.bool (mX a b))
 |.neq=>.val (.bool (!mX a b))
 |.lss=>.val (.bool (X5 a b))
 |.leq=>.val (.bool (X5 a b||mX a b))
 |.gtr=>.val (.bool (!(X5 a b||mX a b)))
 |.geq=>.val (.bool (!X5 a b))
 |_=>.none
def xC (op:BinOp)(b:Bool):Act:=
 match op with
 |.eql=>.val (.bool b)
 |.neq=>.val (.bool (!b))
 |_=>.none
def eq1 (P:Program)(t:κ)(x y:ξ):Option Bool:=
 match x,y with
 |.int k a,.int k' b=>(match P.underlying t with
  |some (.int _)=>(match PI k k' with|true=>some (decide (a=b))|false=>none)
  |_=>none)
 |.bool a,.bool b=>(match P.underlying t with|some .bool=>some (a==b)|_=>none)
 |.string a,.string b=>(match P.underlying t with|some .string=>some (mX a b)|_=>none)
 |_,_=>none
def KT (P:Program):List Field->Nat->δ->δ->Option Bool
 |[],_,xs,ys=>(match xs,ys with | [],[]=>some true|_,_=>none)
 |f::fs,o,xs,ys=>(match xs,ys with
  |x :: xs, y :: ys => (match f.name == "_", Nat.beq f.offset o with
   |false,true=>(match eq1 P f.type x y with
    |some a=>(match KT P fs (o+1) xs ys with|some b=>some (a&&b)|none=>none)
    |none=>none)
   |_,_=>none)
  |_,_=>none)
def GQ (o:μ):M Nat:=λh=>match o with
 |some r=>some (r,h)
 |none=>none
def aeU (a b:Nat):M Nat:=GQ (FloatKind.f64.format.add a b)
def aeV (a b:Nat):M Nat:=GQ (FloatKind.f64.format.sub a b)
def KU (a b:Nat):M Nat:=GQ (FloatKind.f64.format.mul a b)
def aeW (a b:Nat):M Nat:=GQ (FloatKind.f64.format.div a b)
def GR (a b:Nat):Bool:=FloatKind.f64.format.order a b==some .eq
def X6 (a b:Nat):Bool:=FloatKind.f64.format.order a b==some .lt
def XV (a b:Nat):Bool:=FloatKind.f64.format.order a b==some .gt
def T8 (n:Int):Nat:=FloatKind.f64.nearest n
def ab6 (b:Nat):Nat:=Op.negFloat .f64 b
def KV (op:BinOp)(a b:Nat):Act:=
 match op with
 |.add=>.ask Nat (aeU a b) λr=>.val (.float .f64 r)
 |.sub=>.ask Nat (aeV a b) λr=>.val (.float .f64 r)
 |.mul=>.ask Nat (KU a b) λr=>.val (.float .f64 r)
 |.quo=>.ask Nat (aeW a b) λr=>.val (.float .f64 r)
 |.eql=>.val (.bool (GR a b))
 |.neq=>.val (.bool (!GR a b))
 |.lss=>.val (.bool (X6 a b))
 |.leq=>.val (.bool (X6 a b||GR a b))
 |.gtr=>.val (.bool (XV a b))
 |.geq=>.val (.bool (XV a b||GR a b))
 |_=>.none
def T9 (P:Program)(op:BinOp)(t:κ)(x y:ξ):Act:=
 match x,y with
 |.int k a,.int k' b=>KQ op k a k' b
 |.string a,.string b=>KS op a b
 |.float .f64 a,.float .f64 b=>KV op a b
 |.bool a,.bool b=>(match P.underlying t with|some .bool=>xC op (a==b)|_=>.none)
 |.slice a _ _,.slice none _ _=>(match P.underlying t with|some (.slice _)=>xC op a.isNone|_=>.none)
 |.pointer a,.pointer none=>(match P.underlying t with|some (.pointer _)=>xC op a.isNone|_=>.none)
 |.map a,.map none=>(match P.underlying t with|some (.map _ _)=>xC op a.isNone|_=>.none)
 |.agg xs,.agg ys=>(match P.underlying t,P.stoodInHeld t,P.eqGuardType P.depth t with
  |some (.struct fs),false,false=>(match KT P fs.toList 0 xs.toList ys.toList with|some b=>xC op b|none=>.none)
  |_,_,_=>.none)
 |_,_=>.none
def Ua (P:Program)(op:BinOp)(t:κ)(x y:ξ):Act:=
 match y with
 |.nilIface=>Ec P op t x
 |y=>T9 P op t x y
def aun (op:UnOp)(x:ξ):Act:=
 match op,x with
 |.neg,.int k n=>.val (.int k (k.wrap (0-n)))
 |.not,.bool b=>.val (.bool (!b))
 |.neg,.float .f64 b=>.val (.float .f64 (ab6 b))
 |_,_=>.none
def inB (a:Addr):M Addr:=λh=>
 match h.get a.block with
 |some (.cells c _ _ _)=>if a.off<c.length then some (a,h) else none
 |_=>none
def atB (u:κ)(k:Nat)(a:Addr):M Addr:=λh=>
 match h.get a.block with
 |some (.cells c g _ e)=>if g=a.block+1/\k<=c.length/\e=u/\a.off=0 then some (a,h) else none
 |_=>none
def af.shut (h:af)(g:Nat):af:={ h with get:=λj=>match h.get j with
 |some (.cells c' g' base' e')=>cond (Nat.beq g' g) none (some (.cells c' g' base' e'))
 |o=>o }
def X7 (e:κ)(p:θ)(n:Int):M ζ:=λh=>
 match p with
 |none=>if n=0 then some (ofBytes [],h) else none
 |some a=>(match h.get a.block,aU h (some a) n.toNat with
  |some (.cells _ g _ e'),some cs=>if 0<n/\n<=1073741824/\g≠0/\e'=e then (match bytesOf cs with|some l=>some (ofBytes l,h.shut g)|none=>none) else none
  |_,_=>none)
def Dh (p:θ)(n:Nat):M θ:=λh=>
 match p with
 |none=>some (none,h)
 |some a=>if n≠0 then some (some a,h) else none
def KW (P:Program)(src dst:κ)(x:ξ):Act:=
 match P.underlying src,P.underlying dst,x with
 |some (.pointer t),some .unsafePointer,.pointer p=>(match bR P t with
  |some (_+1)=>.ask Addr (nn p) λa=>.ask Addr (inB a) λa=>.val (.pointer (some a))
  |_=>.none)
 |some .unsafePointer,some (.pointer u),.pointer p=>(match bR P u with
  |some (k+1)=>(match Nat.beq (P.cellsOf u) (k+1)&&rowAt P (sameLayout P P.depth · u) P.depth u 1 0 1 with
   |true=>.ask Addr (nn p) λa=>.ask Addr (atB u (k+1) a) λa=>.val (.pointer (some a))
   |false=>.none)
  |_=>.none)
 |some (.int _),some (.int k),.int _ n=>.val (.int k (k.wrap n))
 |some .string,some .string,.string s=>.val (.string s)
 |some (.int _),some (.float .f64),.int _ n=>.val (.float .f64 (T8 n))
 |some (.int _),some .string,.int _ n=>.val (.string (Utf8.encode n))
 |some .string,some (.slice e),.string s=>(match P.underlying e,bR P e with
  |some (.int .u8),some 1=>.ask Sl (EZ e s) λr=>.val (.slice r.a r.len r.cap)
  |_,_=>.none)
 |some (.slice e),some .string,.slice a n c=>(match P.underlying e with
  |some (.int .u8)=>.ask ζ (strOf ⟨a,n,c⟩) λs=>.val (.string s)
  |_=>.none)
 |_,_,_=>.none
def partsOf (E:Env):List (Nat×Operand)->Option (List (Nat×ξ))
 |[]=>some []
 |(i,x)::r=>match E.ev x,partsOf E r with
  |some v,some vs=>some ((i,v)::vs)
  |_,_=>none
def yh (place:Nat->Option (Nat×Nat))(cells:δ):List (Nat×ξ)->Option δ
 |[]=>some cells
 |(i,v)::rest=>
  match place i with
  |none=>none
  |some (off,size)=>
   match Nat.beq v.cells.size size&&Nat.ble (off+v.cells.size) cells.length with
   |true=>yh place (bf cells off v.cells.toList) rest
   |false=>none
def placesOf (P:Program):List Field->Option (List (Nat×Nat))
 |[]=>some []
 |f::r=>match bR P f.type,placesOf P r with
  |some n,some l=>some ((f.offset,n)::l)
  |_,_=>none
def Ie (P:Program)(t:κ)(parts:List (Nat×ξ)):Act:=
 match P.underlying t,zeroOf P t with
 |some (.struct fs),some z=>(match placesOf P fs.toList with
  |some pl=>(match yh (λi=>pl[i]?) z.cells.toList parts with
   |some cs=>.val (.agg cs.toArray)
   |none=>.none)
  |none=>.none)
 |some (.array _ e),some z=>(match bR P e with
  |some n=>(match yh (λi=>some (i*n,n)) z.cells.toList parts with
   |some cs=>.val (.agg cs.toArray)
   |none=>.none)
  |none=>.none)
 |_,_=>.none
def sI (P:Program)(nm:μ)(t:κ)(len:Nat)(parts:List (Nat×ξ)):Act:=
 match P.underlying t with
 |some (.slice e)=>(match bR P e,zeroOf P e with
  |some n,some z=>(match Nat.ble (len*n) 16777216,yh (λi=>some (i*n,n)) (List.replicate len z.cells.toList).flatten parts with
   |true,some cs=>.ask Nat (aM nm e cs) λb=>.val (.slice (some ⟨b,0,none⟩) len (len+1))
   |_,_=>.none)
  |_,_=>.none)
 |_=>.none
def yi (v:ξ)(k:Addr->Act):Act:=
 match v with
 |.pointer (some a)=>k a
 |_=>.none
def DH (E:Env):Option Operand->Option (Option ξ)
 |some x=>(match E.ev x with|some v=>some (some v)|none=>none)
 |none=>some none
def E6 (P:Program)(t:κ)(x:ξ)(lo hi mx:Option ξ):Act:=
 match P.underlying t,x,mx with
 |some .string,.string s,none=>(match lo,hi with
  |none,none=>.ask ζ (je s 0 s.size) λr=>.val (.string r)
  |some (.int _ l),none=>.ask ζ (je s l s.size) λr=>.val (.string r)
  |none,some (.int _ h)=>.ask ζ (je s 0 h) λr=>.val (.string r)
  |some (.int _ l),some (.int _ h)=>.ask ζ (je s l h) λr=>.val (.string r)
  |_,_=>.none)
 |some (.slice e),.slice a n c,none=>(match bR P e with
  |some z=>(match lo,hi with
   |none,none=>.ask Sl (lu ⟨a,n,c⟩ 0 n e z) λr=>.val (.slice r.a r.len r.cap)
   |some (.int _ l),none=>.ask Sl (lu ⟨a,n,c⟩ l n e z) λr=>.val (.slice r.a r.len r.cap)
   |none,some (.int _ h)=>.ask Sl (lu ⟨a,n,c⟩ 0 h e z) λr=>.val (.slice r.a r.len r.cap)
   |some (.int _ l),some (.int _ h)=>.ask Sl (lu ⟨a,n,c⟩ l h e z) λr=>.val (.slice r.a r.len r.cap)
   |_,_=>.none)
  |none=>.none)
 |some (.array len e),.pointer (some a),none=>(match bR P e with
  |some z=>(match lo,hi with
   |none,none=>.ask Sl (nB a len 0 len z) λr=>.val (.slice r.a r.len r.cap)
   |some (.int _ l),none=>.ask Sl (nB a len l len z) λr=>.val (.slice r.a r.len r.cap)
   |none,some (.int _ h)=>.ask Sl (nB a len 0 h z) λr=>.val (.slice r.a r.len r.cap)
   |some (.int _ l),some (.int _ h)=>.ask Sl (nB a len l h z) λr=>.val (.slice r.a r.len r.cap)
   |_,_=>.none)
  |none=>.none)
 |some (.slice e),.slice a n c,some (.int _ m)=>(match bR P e with
  |some z=>(match lo,hi with
   |none,some (.int _ h)=>.ask Sl (ve ⟨a,n,c⟩ 0 h m e z) λr=>.val (.slice r.a r.len r.cap)
   |some (.int _ l),some (.int _ h)=>.ask Sl (ve ⟨a,n,c⟩ l h m e z) λr=>.val (.slice r.a r.len r.cap)
   |_,_=>.none)
  |none=>.none)
 |_,_,_=>.none
def p7 (P:Program)(strict:Bool)(b:Builtin)(ts:List κ)(vs:δ):Act:=
 match b,ts,vs with
 |.len,t::_,[.string s]=>(match P.underlying t with|some .string=>.val (.int .i64 s.size)|_=>.none)
 |.len,t::_,[.slice _ n _]=>(match P.underlying t with|some (.slice _)=>.val (.int .i64 n)|_=>.none)
 |.len,t::_,[.map m]=>(match P.underlying t with|some (.map _ _)=>.ask Nat (Dg m) λn=>.val (.int .i64 n)|_=>.none)
 |.delete,t::_,[.map m,k]=>(match P.underlying t with
  |some (.map kt _)=>(match nW P kt k with|true=>.ask Unit (T7 kt m k) λ_=>.val (.tuple #[])|false=>.none)
  |_=>.none)
 |.copy,[t,t'],[.slice a n c,.slice a' n' c']=>(match P.underlying t,P.underlying t' with
  |some (.slice e),some (.slice _)=>(match bR P e with
   |some z=>.ask Nat (xB ⟨a,n,c⟩ ⟨a',n',c'⟩ z) λk=>.val (.int .i64 k)
   |none=>.none)
  |_,_=>.none)
 |.min,_,[.int k x,.int k' y]=>(match PI k k' with|true=>.val (.int k (if y<x then y else x))|false=>.none)
 |.max,_,[.int k x,.int k' y]=>(match PI k k' with|true=>.val (.int k (if x<y then y else x))|false=>.none)
 |.append,[t,t'],[.slice a n c,.slice a' n' c']=>(match P.underlying t,P.underlying t' with
  |some (.slice e),some (.slice e')=>(match bR P e,zeroOf P e,bR P e' with
   |some z,some _,some z'=>(match Nat.beq z z'&&Nat.ble ((match P.info? e with|some i=>i.bytes|none=>0)) 4096 with
    |true=>.ask δ (GP ⟨a',n',c'⟩ z) λcs=>.ask Sl (app strict ⟨a,n,c⟩ z e n' cs) λr=>.val (.slice r.a r.len r.cap)
    |false=>.none)
   |_,_,_=>.none)
  |_,_=>.none)
 |.append,[t,t'],[.slice a n c,.string s]=>(match P.underlying t,P.underlying t' with
  |some (.slice e),some .string=>(match P.underlying e,zeroOf P e,bR P e with
   |some (.int .u8),some _,some 1=>(match Nat.ble ((match P.info? e with|some i=>i.bytes|none=>0)) 4096 with
    |true=>.ask Sl (app strict ⟨a,n,c⟩ 1 e s.size (bQ s)) λr=>.val (.slice r.a r.len r.cap)
    |false=>.none)
   |_,_,_=>.none)
  |_,_=>.none)
 |.unsafeSliceData,_,[.slice a n _]=>.ask θ (Dh a n) λp=>.val (.pointer p)
 |.unsafeString,t::_,[.pointer p,.int .i64 n]=>(match P.underlying t with
  |some (.pointer e)=>(match Nat.beq (P.cellsOf e) 1 with
   |true=>.ask ζ (X7 e p n) λs=>.val (.string s)
   |false=>.none)
  |_=>.none)
 |_,_,_=>.none
def XW (a b:θ):M Bool:=λh=>match a,b with
 |some a,some b=>(match Nat.beq a.block b.block&&Nat.beq a.off b.off with|true=>some (true,h)|false=>none)
 |_,_=>none
def aeY:Operand->ξ->ξ->Option (θ×θ)
 |.const _,_,_=>none
 |_,.pointer a,.pointer b=>some (a,b)
 |_,_,_=>none
def Ub (y:Operand)(u:ξ):Bool:=
 match u with
 |.nilIface=>(match y with | .const _=>true|_=>false)
 |_=>true
def wJ (P:Program)(nm:μ)(E:Env)(o:Oper):Act:=
 match o.op with
 |.move x | .assign x=>(match E.ev x with|some v=>.val v|none=>.none)
 |.alloc t=>(match zeroOf P t with
  |some z=>.ask Nat (aM nm t z.cells.toList) λb=>.val (.pointer (some ⟨b,0,none⟩))
  |none=>.none)
 |.box t x=>(match E.ev x with
  |some v=>.ask Nat (aM nm t v.cells.toList) λb=>.val (.pointer (some ⟨b,0,none⟩))
  |none=>.none)
 |.build t parts=>(match partsOf E parts.toList with|some vs=>Ie P t vs|none=>.none)
 |.buildSlice t len parts=>(match partsOf E parts.toList with|some vs=>sI P nm t len vs|none=>.none)
 |.load t x=>(match E.ev x with|some v=>yi v λa=>GJ P t a|none=>.none)
 |.store t x y=>(match E.ev x,E.ev y,bR P t with
  |some v,some u,some n=>yi v λa=>(match Nat.beq u.cells.size n with
   |true=>.ask Unit (bF a u.cells.toList) λ_=>.val undef
   |false=>.none)
  |_,_,_=>.none)
 |.nilCheck x=>(match P.underlying o.type with
  |some (.func _ _ _)=>(match E.ev x with
   |some v=>.ask Unit (nnF v) λ_=>.val v
   |none=>.none)
  |_=>(match E.ev x with
   |some (.pointer p)=>.ask Addr (nn p) λa=>.val (.pointer (some a))
   |_=>.none))
 |.binOp op t x y _=>(match E.ev x,E.ev y with
  |some v,some u=>(match Ub y u with
   |true=>(match aeY y v u with
    |some (a,b)=>(match P.underlying t with
     |some (.pointer e)=>(match bR P e with|some _=>.ask Bool (XW a b) λr=>xC op r|none=>.none)
     |_=>.none)
    |none=>Ua P op t v u)
   |false=>.none)
  |_,_=>.none)
 |.unOp op _ x=>(match E.ev x with|some v=>aun op v|none=>.none)
 |.convert s d x=>(match E.ev x with|some v=>KW P s d v|none=>.none)
 |.makeInterface t x=>(match E.ev x,P.underlying t with
  |some _,some (.interface _)=>.none
  |some v,some _=>.val (.iface t v)
  |_,_=>.none)
 |.makeFunc fn fs cs=>(match E.KK fs.toList,E.KK cs.toList with
  |some f,some c=>.val (.func fn f.toArray c.toArray)
  |_,_=>.none)
 |.makeSlice t l c=>(match P.underlying t,E.ev l,E.ev c with
  |some (.slice e),some (.int _ n),some (.int _ m)=>(match zeroOf P e,Nat.ble ((match P.info? e with|some i=>i.bytes|none=>0)) 4096 with
   |some z,true=>.ask Sl (vS nm e z.cells.toList n m) λr=>.val (.slice r.a r.len r.cap)
   |_,_=>.none)
  |_,_,_=>.none)
 |.slice t x lo hi mx=>(match E.ev x,DH E lo,DH E hi,DH E mx with
  |some v,some l,some h,some m=>E6 P t v l h m
  |_,_,_,_=>.none)
 |.fieldAddr s x f=>(match P.underlying s,E.ev x with
  |some (.struct fs),some v=>(match fs[f]? with
   |some fd=>(match bR P fd.type with
    |some n=>(match Nat.beq n 0 with
     |true=>.none
     |false=>yi v λa=>.val (.pointer (some (a.plus fd.offset))))
    |none=>.none)
   |none=>.none)
  |_,_=>.none)
 |.field s x f=>(match P.underlying s,E.ev x with
  |some (.struct fs),some (.agg cs)=>(match fs[f]? with
   |some fd=>(match P.underlying fd.type,bR P fd.type with
    |some d,some n=>(match yg d with
     |true=>.val (.agg ((cs.toList.drop fd.offset).take n).toArray)
     |false=>(match cs.toList[fd.offset]? with|some v=>.val v|none=>.none))
    |_,_=>.none)
   |none=>.none)
  |_,_=>.none)
 |.indexAddr t x i=>(match P.underlying t,E.ev x,E.ev i with
  |some (.slice e),some (.slice a n c),some (.int _ j)=>(match bR P e with
   |some z=>.ask Addr (aw ⟨a,n,c⟩ j z) λr=>.val (.pointer (some r))
   |none=>.none)
  |some (.array n e),some (.pointer (some a)),some (.int _ j)=>(match bR P e with
   |some z=>.ask Unit (oq (decide (0<=j/\j<(n:Int)))) λ_=>.val (.pointer (some (a.plus (j.toNat*z))))
   |none=>.none)
  |_,_,_=>.none)
 |.index t x i=>(match P.underlying t,E.ev x,E.ev i with
  |some .string,some (.string s),some (.int _ j)=>.ask UInt8 (jx s j) λb=>.val (.int .u8 b.toNat)
  |some (.array n e),some (.agg cs),some (.int _ j)=>(match P.underlying e,bR P e with
   |some d,some 1=>(match yg d,Ic d with
    |false,some l=>.ask l.den (Ia l n cs.toList j) λx=>.val (Nf l x)
    |_,_=>.none)
   |_,_=>.none)
  |_,_,_=>.none)
 |.makeMap t r=>(match P.underlying t,DH E r with
  |some (.map k _),some none=>(match KP P k with|some _=>(match nm with|none=>.ask Nat (Be k) λm=>.val (.map (some m))|some b=>.ask Nat (vf b k) λm=>.val (.map (some m)))|none=>.none)
  |some (.map k _),some (some (.int _ _))=>(match KP P k with|some _=>(match nm with|none=>.ask Nat (Be k) λm=>.val (.map (some m))|some b=>.ask Nat (vf b k) λm=>.val (.map (some m)))|none=>.none)
  |_,_=>.none)
 |.lookup t x i ok=>(match P.underlying t,E.ev x,E.ev i with
  |some (.map k e),some (.map m),some kv=>(match nW P k kv,aeS P e,zeroOf P e with
   |true,some T,some zv=>(match KM T zv with
    |some z=>.ask (Bool×T.den) (xA k T z m kv) λr=>.val (match ok with|true=>.tuple #[De T r.2,.bool r.1] | false=>De T r.2)
    |none=>.none)
   |_,_,_=>.none)
  |_,_,_=>.none)
 |.mapEntry t x i=>(match P.underlying t,E.ev x,E.ev i with
  |some (.map k e),some (.map m),some kv=>(match nW P k kv,aeS P e,zeroOf P e with
   |true,some T,some zv=>(match KM T zv with
    |some z=>.ask (T.den×Nat) (wH k T z m kv) λr=>.val (.tuple #[De T r.1,.int .i64 r.2])
    |none=>.none)
   |_,_,_=>.none)
  |_,_,_=>.none)
 |.entryStore _ x i y=>(match E.ev x,E.ev i,E.ev y with
  |some (.map m),some (.int _ st),some v=>.ask Unit (wI m st v) λ_=>.val undef
  |_,_,_=>.none)
 |.mapUpdate t x i y | .insert t x i y=>(match P.underlying t,E.ev x,E.ev i,E.ev y with
  |some (.map k _),some (.map m),some kv,some v=>(match nW P k kv with
   |true=>.ask Unit (Df k m kv v) λ_=>.val undef
   |false=>.none)
  |_,_,_,_=>.none)
 |.extract x i=>(match E.ev x with
  |some (.tuple vs)=>(match vs.toList[i]? with|some v=>.val v|none=>.none)
  |_=>.none)
 |.call c=>(match c.callee,E.KK c.args.toList with
  |.builtin b,some vs=>p7 P nm.isSome b c.argTypes.toList vs
  |_,_=>.none)
 |_=>.none
abbrev Path:=η
def child:Code->Nat->Code
 |.seq a _,0=>a
 |.seq _ b,_=>b
 |.cond _ a _,0=>a
 |.cond _ _ b,_=>b
 |.block _ c,_=>c
 |.loop c,_=>c
 |.scope c,_=>c
 |c,_=>c
def cG (c:Code):Path->Code
 |[]=>c
 |i::p=>child (cG c p) i
inductive vg where
 |code (p:Path)
 |au (id:Nat)
 |scp (p:Path)
inductive gF where
 |normal
 |exit (id:Nat)
 |ret
def eqE:gF->gF->Bool
 |.normal,.normal=>true
 |.exit a,.exit b=>Nat.beq a b
 |.ret,.ret=>true
 |_,_=>false
def uv:Path->Path->Bool
 |[],[]=>true
 |a::p,b::q=>Nat.beq a b&&uv p q
 |_,_=>false
def eqItems:List vg->List vg->Bool
 |[],[]=>true
 |.code p::k,.code q::l=>uv p q&&eqItems k l
 |.au a::k,.au b::l=>Nat.beq a b&&eqItems k l
 |.scp p::k,.scp q::l=>uv p q&&eqItems k l
 |_,_=>false
structure tQ:Type 1 where
 α:Type
 m:M α
 pk:α->ξ
structure ab7:Type 1 where
 α:Type
 m:M (α⊕ξ)
 pk:α->ξ
inductive wK:Type 1 where
 |one (α:Type) (m:M α) (e:gF) (out:α->Env)
 |two (α β:Type) (m:M (α⊕β)) (e:gF) (out:α->Env) (e':gF) (out':β->Env)
 |ae0 (α:Type) (m:M (α⊕ξ)) (e:gF) (out:α->Env)
 |ae1 (α β:Type) (m:M ((α⊕β)⊕ξ)) (e:gF) (out:α->Env) (e':gF) (out':β->Env)
 |none
structure nX:Type 1 where
 st:FuncId->δ->Option tQ
 dy:Nat->ξ->δ->Option tQ
 ahb:Nat->Bool
 mo:FuncId->Bool
 sp:FuncId->δ->Option ab7
 Ya:FuncId->Bool
structure KX (R:Type) where
 call:nX
 loop:Path->Env->wK
 join:Path->Option (List vg×(Env->Option (M R)))
 draw:Nat->Option (List (Nat×η))
 tM:ξ->M R
def o7 (id:Nat):List vg->Option (List vg)
 |.au id'::k=>(match Nat.beq id' id with|true=>some k|false=>o7 id k)
 |_::k=>o7 id k
 |[]=>none
def Env.sJ (E:Env)(c:Operand)(b:Bool):Env:=
 match c with
 |.tmp t=>E.set t (.bool b)
 |_=>E
def cY {α β R:Type}(f:α->M R)(g:β->M R):α⊕β->M R
 |.inl x=>f x
 |.inr y=>g y
def callee (E:Env)(c:Call):Option (FuncId×δ):=
 match c.callee,E.KK c.args.toList with
 |.value f,some vs=>(match E.ev f with
  |some (.func (.func g) first captured)=>some (g,first.toList++vs++captured.toList)
  |_=>none)
 |_,_=>none
def ta (C:nX)(c:Call):μ:=
 match c.callee with
 |.value (.tmp t)=>(match C.ahb t with|true=>some t|false=>none)
 |_=>none
def tR (E:Env)(t:Nat)(c:Call):Option (ξ×δ):=
 match E t,E.KK c.args.toList with
 |some x,some vs=>some (x,vs)
 |_,_=>none
def isBuiltin:Call->Bool:=λc=>match c.callee with
 |.builtin _=>true
 |_=>false
def vz {R:Type}(b:Bool)(x y:M R):M R:=if b=true then x else y
abbrev Wr:=Nat×Option η
def KH (W:Wr)(d:μ):Bool:=
 match d with
 |none=>true
 |some i=>Nat.blt i W.1&&(match W.2 with
  |some l=>l.any (Nat.beq i)
  |none=>true)
abbrev fU:=Nat->Option (Nat×δ)
def fU.emp:fU:=λ_=>none
def Env.del (E:Env)(d:μ):Env:=
 match d with
 |some i=>λj=>cond (Nat.beq j i) none (E j)
 |none=>E
def fU.del (L:fU)(d:μ):fU:=
 match d with
 |some i=>λj=>cond (Nat.beq j i) none (L j)
 |none=>L
def fU.put (L:fU)(d:μ)(x:Nat×δ):fU:=
 match d with
 |some i=>λj=>cond (Nat.beq j i) (some x) (L j)
 |none=>L
def Nk (ops:Array Oper)(t:Nat):Bool:=ops.toList.any λo=>match o.op with
 |.call c=>(match c.callee,c.args.toList with
  |.builtin .append,[_,.tmp u]=>Nat.beq u t
  |_,_=>false)
 |_=>false
def Bf (P:Program)(t:κ)(len:Nat)(parts:List (Nat×ξ)):Option δ:=
 match P.underlying t with
 |some (.slice e)=>(match bR P e,zeroOf P e with
  |some n,some z=>(match Nat.ble (len*n) 16777216,yh (λi=>some (i*n,n)) (List.replicate len z.cells.toList).flatten parts with
   |true,some cs=>(match cs.all eZ with|true=>some cs|false=>none)
   |_,_=>none)
  |_,_=>none)
 |_=>none
def uw (L:fU)(c:Call):Option (Nat×δ):=
 match c.callee,c.args.toList with
 |.builtin .append,[_,.tmp t]=>L t
 |_,_=>none
def p8 (P:Program)(strict:Bool)(E:Env)(c:Call)(n:Nat)(cs:δ):Act:=
 match c.argTypes.toList,c.args.toList with
 |[t,t'],[s,_]=>(match E.ev s,P.underlying t,P.underlying t' with
  |some (.slice a m k),some (.slice e),some (.slice _)=>(match bR P e,zeroOf P e with
   |some z,some _=>(match Nat.ble ((match P.info? e with|some i=>i.bytes|none=>0)) 4096 with
    |true=>.ask Sl (app strict ⟨a,m,k⟩ z e n cs) λr=>.val (.slice r.a r.len r.cap)
    |false=>.none)
   |_,_=>.none)
  |_,_,_=>.none)
 |_,_=>.none
def xD (P:Program)(ops:Array Oper)(E:Env)(o:Oper):Option (Nat×δ):=
 match o.op,o.dst with
 |.buildSlice t len parts,some d=>(match Nk ops d with
  |true=>(match partsOf E parts.toList with
   |some vs=>(match Bf P t len vs with|some cs=>some (len,cs)|none=>none)
   |none=>none)
  |false=>none)
 |_,_=>none
def rB (cks:List θ):Act->Act
 |.ask α m k=>(match cks with
  |[]=>.ask α m k
  |cks=>.ask α (mY cks m) k)
 |A=>A
def wrapM {α:Type}(cks:List θ)(m:M α):M α:=
 match cks with
 |[]=>m
 |cks=>mY cks m
def KY (l:η)(i:Nat):Bool:=l.any (Nat.beq i)
def yj (ops:Array Oper)(o:Oper):Bool:=
 match o.op with
 |.call c=>(match c.callee with
  |.builtin .append=>(match o.dst with
   |some d=>ops.toList.any λp=>(match p.op with
    |.call c=>!isBuiltin c&&KY (p.op.operands.toList.filterMap λ| .tmp t=>some t|_=>none) d
    |_=>false)
   |none=>false)
  |_=>false)
 |_=>false
def Bg (ops:Array Oper)(o:Oper):Bool:=
 match o.op with
 |.call c=>(match c.callee,c.args.toList with
  |.builtin .append,.tmp d::_=>ops.toList.any λp=>(match p.op,p.dst with
   |.buildSlice _ _ _,some e=>Nat.beq d e
   |_,_=>false)
  |_,_=>false)
 |_=>false
def xK (b:Bool)(E:Env)(c:Call)(A:Act):Act:=
 match b with
 |false=>A
 |true=>(match c.args.toList with
  |s::_=>(match E.ev s with
   |some (.slice _ _ k)=>(match Nat.beq k 0 with|true=>.none|false=>A)
   |_=>.none)
  |[]=>.none)
theorem B8 {b:Bool}{E:Env}{c:Call}{A:Act}{h:af}{r:ξ×af}(e:(xK b E c A).exec h=some r):xK b E c A=A:=by
 unfold xK at *
 repeat' (first|rfl|(cases e;done)|split at e)
def byB {α:Type 1}(b:Bool)(f:Bool->α):α:=
 match b with
 |true=>f true
 |false=>f false
theorem Nl {α:Type 1}{b:Bool}{f:Bool->α}:byB b f=f b:=by cases b<;>rfl
inductive Cls where
 |sil|ro|mro|alloc|add|mka|eff
def Am:Bool->Cls
 |true=>.eff
 |false=>.add
def cls (P:Program)(ops:Array Oper)(o:Oper):Cls:=
 match o.op with
 |.move _ | .assign _ | .pick _ _ _ | .build _ _ | .nilCheck _ | .binOp _ _ _ _ _ | .unOp _ _ _ | .makeInterface _ _ | .makeFunc _ _ _ | .fieldAddr _ _ _ | .field _ _ _ | .indexAddr _ _ _ | .index _ _ _ | .extract _ _=>.sil
 |.load _ _=>.ro
 |.slice t _ _ _ _=>(match P.underlying t with|some .string=>.sil|some (.slice _)=>.ro|some (.array _ _)=>.sil|_=>.eff)
 |.convert s d _=>(match P.underlying s,P.underlying d with
  |some (.slice _),some .string=>.ro
  |some (.int _),some _=>.sil
  |some .string,some .string=>.sil
  |_,_=>.eff)
 |.buildSlice _ _ _=>(match o.dst with
  |some d=>(match Nk ops d with|true=>.sil|false=>.alloc)
  |none=>.eff)
 |.alloc _ | .box _ _ | .makeSlice _ _ _=>.alloc
 |.lookup _ _ _ _=>.mro
 |.makeMap _ _=>.mka
 |.call c=>(match c.callee with
  |.builtin .append=>Am (yj ops o)
  |.builtin .len=>(match c.argTypes.toList with
   |t::_=>(match P.underlying t with|some (.map _ _)=>.mro|_=>.sil)
   |[]=>.sil)
  |.builtin .min | .builtin .max | .builtin .unsafeSliceData=>.sil
  |_=>.eff)
 |_=>.eff
def vT (o:Oper):Bool:=
 match o.op with
 |.store _ _ _=>true
 |_=>false
def Di:Cls->Bool
 |.alloc=>true
 |_=>false
def DI (P:Program)(ops:Array Oper)(nb:μ)(cs:η):η:=
 match nb with
 |none=>[]
 |some b=>(cs.filter λi=>match ops[i]? with
  |some o=>Di (cls P ops o)
  |none=>false).map (b+·)
def okK (h:af)(a:Addr)(ks:η):Bool:=
 match h.get a.block with
 |some (.cells _ g _ _)=>ks.all λk=>!Nat.beq a.block k&&!Nat.beq g (k+1)
 |_=>false
def E7 {α:Type}(ks:η)(a:Addr)(m:M α):M α:=λh=>match okK h a ks with
 |true=>m h
 |false=>none
def KZ (ks:η)(a:Addr):Act->Act
 |.ask α m k=>.ask α (E7 ks a m) k
 |A=>A
def vU {R:Type}(P:Program)(C:nX)(W:Wr)(nm:μ)(cks:List θ)(ks:η)(ops:Array Oper)(E:Env)(L:fU)(o:Oper)(K:Env->fU->M R):M R:=
 match KH W o.dst with
 |false=>AS
 |true=>
 match o.op with
 |.pick c a b=>(match E.ev c with
  |some (.bool t)=>
   vz t (match (E.sJ c true).ev a with|some v=>K ((E.sJ c true).put o.dst v) (L.del o.dst)|none=>AS)
    (match (E.sJ c false).ev b with|some v=>K ((E.sJ c false).put o.dst v) (L.del o.dst)|none=>AS)
  |_=>AS)
 |.call c=>(match isBuiltin c with
  |true=>(match uw L c with
   |some (n,cs)=>(byB (nm.isSome&&!yj ops o) λb=>rB cks (xK (Bg ops o) E c (p8 P b E c n cs))).run λv=>K (E.put o.dst v) (L.del o.dst)
   |none=>(match yj ops o with
    |true=>AS
    |false=>(rB cks (xK (Bg ops o) E c (wJ P nm E o))).run λv=>K (E.put o.dst v) (L.del o.dst)))
  |false=>(match ta C c with
   |some t=>(match tR E t c with
    |some (x,vs)=>(match C.dy t x vs with
     |some ca=>sh (wrapM cks ca.m) λx=>K (E.put o.dst (ca.pk x)) (L.del o.dst)
     |none=>AS)
    |none=>AS)
   |none=>(match callee E c with
    |some (f,vs)=>(match C.st f vs with
     |some ca=>sh (wrapM cks ca.m) λx=>K (E.put o.dst (ca.pk x)) (L.del o.dst)
     |none=>AS)
    |none=>AS)))
 |.store _ x _=>(match ks with
  |[]=>(rB cks (wJ P nm E o)).run λv=>K (E.put o.dst v) (L.del o.dst)
  |ks=>(match E.ev x with
   |some (.pointer (some a))=>(KZ ks a (rB cks (wJ P nm E o))).run λv=>K (E.put o.dst v) (L.del o.dst)
   |_=>AS))
 |.buildSlice _ _ _=>(match xD P ops E o with
  |some x=>K (E.del o.dst) (L.put o.dst x)
  |none=>(rB cks (wJ P nm E o)).run λv=>K (E.put o.dst v) (L.del o.dst))
 |_=>(rB cks (wJ P nm E o)).run λv=>K (E.put o.dst v) (L.del o.dst)
def lA (E:Env)(o:Oper):θ:=
 match o.op with
 |.load _ x=>(match E.ev x with|some (.pointer p)=>p|_=>none)
 |.slice _ x _ _ _=>(match E.ev x with|some (.slice a _ _)=>a|_=>none)
 |.convert _ _ x=>(match E.ev x with|some (.slice a _ _)=>a|_=>none)
 |_=>none
abbrev Uc:=Nat->θ
def iM {R:Type}(P:Program)(C:nX)(W:Wr)(nb:μ)(ops:Array Oper):List (Nat×η)->Env->fU->Uc->(Env->M R)->M R
 |[],E,_,_,K=>K E
 |(i,cs)::rest,E,L,A,K=>
  match ops[i]? with
  |none=>AS
  |some o=>
   match o.guard with
   |none=>vU P C W (nb.map (·+i)) (cs.map A) (DI P ops nb cs) ops E L o λE' L'=>iM P C W nb ops rest E' L' (λj=>cond (Nat.beq j i) (lA E o) (A j)) K
   |some (j,want)=>(match (ops[j]?).bind (·.dst) with
    |some t=>(match E t with
     |some (.bool b)=>
      (match want with
      |true=>vz b (vU P C W (nb.map (·+i)) (cs.map A) (DI P ops nb cs) ops (E.set t (.bool true)) L o λE' L'=>iM P C W nb ops rest E' L' (λj=>cond (Nat.beq j i) (lA E o) (A j)) K)
       (match KH W o.dst with
       |true=>iM P C W nb ops rest ((E.set t (.bool false)).put o.dst undef) (L.del o.dst) A K
       |false=>AS)
      |false=>vz b (match KH W o.dst with
       |true=>iM P C W nb ops rest ((E.set t (.bool true)).put o.dst undef) (L.del o.dst) A K
       |false=>AS)
       (vU P C W (nb.map (·+i)) (cs.map A) (DI P ops nb cs) ops (E.set t (.bool false)) L o λE' L'=>iM P C W nb ops rest E' L' (λj=>cond (Nat.beq j i) (lA E o) (A j)) K))
     |some (.tuple _)=>(match KH W o.dst with
      |true=>iM P C W nb ops rest (E.put o.dst undef) (L.del o.dst) A K
      |false=>AS)
     |_=>AS)
    |none=>AS)
def aeH (C:nX)(o:Oper):Bool:=
 match o.op with
 |.call c=>(match c.callee with
  |.value (.func f)=>C.Ya f
  |_=>false)
 |_=>false
def jf (ops:Array Oper)(o:Oper):η:=
 (o.op.operands.toList.filterMap λ| .tmp t=>some t|_=>none)++(match o.guard with
  |some (j,_)=>(match (ops[j]?).bind (·.dst) with|some t=>[t] | none=>[])
  |none=>[])
def apart (ops:Array Oper)(o p:Oper):Bool:=
 (match o.dst with|some d=>!KY (jf ops p) d|none=>true)&&(match p.dst with|some d=>!KY (jf ops o) d|none=>true) &&
 (match o.dst,p.dst with|some d,some e=>!Nat.beq d e|_,_=>true)
def yk (ops:Array Oper)(p:Oper):Bool:=
 match p.op with
 |.store _ _ _=>true
 |.call c=>!isBuiltin c||yj ops p
 |_=>false
def E8 (mo:FuncId->Bool)(p:Oper):Bool:=
 match p.op with
 |.call c=>(match c.callee with
  |.value (.func f)=>mo f
  |_=>false)
 |_=>false
def vV (p:Oper):Option FuncId:=
 match p.op with
 |.call c=>(match c.callee with
  |.value (.func f)=>some f
  |_=>none)
 |_=>none
def Ed (P:Program)(ops:Array Oper)(i:Nat):Bool:=
 match ops[i]? with
 |some o=>Di (cls P ops o)
 |none=>false
def bOf (P:Program)(ops:Array Oper)(f:FuncId):List (Nat×η)→μ
 | []=>none
 | (j,cs)::r=>(match (match ops[j]? with
   | some p=>(match vV p with
    | some g=>(match Nat.beq g f with | true=>cs.find? (Ed P ops) | false=>none)
    | none=>none)
   | none=>none) with
  | some i=>some i
  | none=>bOf P ops f r)
def bOK (P:Program)(C:nX)(ops:Array Oper)(l:List (Nat×η)):Bool:=
 l.all λ(j,cs)=>(match ops[j]? with
  |some p=>(match vV p with
   |some f=>cs.all λi=>!Ed P ops i||(!C.Ya f&&(match bOf P ops f l with|some i'=>Nat.beq i i' | none=>false))
   |none=>true)
  |none=>true)
def nX.mY (C:nX)(P:Program)(nb:Nat)(ops:Array Oper)(l:List (Nat×η)):nX:={ C with
 st:=λf vs=>(match bOf P ops f l with
  |none=>C.st f vs
  |some i=>(match C.st f vs with
   |some ca=>some ⟨ca.α,B7 (nb+i) ca.m,ca.pk⟩
   |none=>none))
 mo:=λf=>C.mo f&&(bOf P ops f l).isNone }
def PJ (P:Program)(mo:FuncId->Bool)(ops:Array Oper)(o p:Oper)(ck:Bool):Bool:=
 apart ops o p&&(match cls P ops o,cls P ops p with
  |.sil,_|_,.sil | .ro,.ro | .ro,.alloc | .ro,.add | .alloc,.alloc=>true
  |.ro,.mro | .mro,.ro | .mro,.mro | .mro,.alloc | .mro,.add | .alloc,.mro | .add,.mro=>true
  |.ro,.eff=>ck&&yk ops p
  |.alloc,.eff=>ck&&(vT p||(vV p).isSome)
  |.ro,.mka | .mka,.ro=>true
  |.mka,.eff=>E8 mo p
  |.add,.alloc=>Bg ops o
  |_,_=>false)
def vW (e:Edge):Bool:=match e.ground with
 |.textOnly _ | .gcOnly _=>false
 |_=>true
def X8 (ops:List Oper):List η:=
 ops.foldl (λacc o=>acc++[(o.after.toList.filter vW).flatMap λe=>e.on::acc.getD e.on []]) []
def Ee (P:Program)(mo:FuncId→Bool)(ops:Array Oper)(pr:List η):List (Nat×η)→Bool
 | []=>true
 | (i,_)::r=>(r.all fun (j,cj)=>KY (pr.getD j []) i || (match ops[i]?,ops[j]? with
  | some o,some p=>PJ P mo ops o p (KY cj i)
  | _,_=>false)) && Ee P mo ops pr r
def Nn (P:Program)(mo:FuncId->Bool)(ops:Array Oper)(l:List (Nat×η)):Bool:=
 P.follows .mixedOrders&&(l.map (·.1)).isPerm (List.range ops.size) &&
 (ops.toList.zipIdx.all λ(o,i)=>o.after.toList.all λe=>!vW e||Nat.blt e.on i) &&
 Ee P mo ops (X8 ops.toList) l
def nX.mo' (C:nX):FuncId->Bool:=λf=>C.mo f&&!C.Ya f
def Ud (P:Program)(ops:Array Oper):Bool:=ops.toList.any λo=>match cls P ops o with
 |.alloc | .mka=>true
 |_=>false
def den {R:Type}(P:Program)(body:Code)(T:KX R)(W:Wr)(fin:gF->Env->M R):Nat->Bool->List vg->Env->M R
 |0,_,_,_=>AS
 |_+1,_,[],E=>fin .normal E
 |n+1,_,.au _::k,E=>den P body T W fin n true k E
 |n+1,_,.scp _::k,E=>den P body T W fin n true k E
 |n+1,j,.code p::k,E=>
  match (match j with|true=>T.join p|false=>none) with
  |some (k',J)=>(match eqItems k k' with
   |true=>(match J E with|some m=>m|none=>AS)
   |false=>AS)
  |none=>
   match cG body p with
   |.skip=>den P body T W fin n true k E
   |.label _=>den P body T W fin n true k E
   |.seq _ _=>den P body T W fin n true (.code (0::p)::.code (1::p)::k) E
   |.cond c _ _=>(match E.ev c with
    |some (.bool b)=>vz b (den P body T W fin n true (.code (0::p)::k) (E.sJ c true))
     (den P body T W fin n true (.code (1::p)::k) (E.sJ c false))
    |_=>AS)
   |.block id _=>den P body T W fin n true (.code (0::p)::.au id::k) E
   |.scope _=>den P body T W fin n true (.code (0::p)::.scp (0::p)::k) E
   |.loop _=>(match T.loop p E with
    |.one _ m e out=>sh m λx=>(match e with
     |.normal=>AS
     |.ret=>fin .ret (out x)
     |.exit id=>(match o7 id k with
      |some k'=>den P body T W fin n true k' (out x)
      |none=>fin (.exit id) (out x)))
    |.two _ _ m e out e' out'=>sh m (cY
     (λx=>(match e with
      |.normal=>AS
      |.ret=>fin .ret (out x)
      |.exit id=>(match o7 id k with
       |some k'=>den P body T W fin n true k' (out x)
       |none=>fin (.exit id) (out x))))
     (λx=>(match e' with
      |.normal=>AS
      |.ret=>fin .ret (out' x)
      |.exit id=>(match o7 id k with
       |some k'=>den P body T W fin n true k' (out' x)
       |none=>fin (.exit id) (out' x)))))
    |.ae0 _ m e out=>sh m (cY (λx=>(match e with
     |.normal=>AS
     |.ret=>fin .ret (out x)
     |.exit id=>(match o7 id k with
      |some k'=>den P body T W fin n true k' (out x)
      |none=>fin (.exit id) (out x)))) T.tM)
    |.ae1 _ _ m e out e' out'=>sh m (cY (cY
     (λx=>(match e with
      |.normal=>AS
      |.ret=>fin .ret (out x)
      |.exit id=>(match o7 id k with
       |some k'=>den P body T W fin n true k' (out x)
       |none=>fin (.exit id) (out x))))
     (λx=>(match e' with
      |.normal=>AS
      |.ret=>fin .ret (out' x)
      |.exit id=>(match o7 id k with
       |some k'=>den P body T W fin n true k' (out' x)
       |none=>fin (.exit id) (out' x))))) T.tM)
    |.none=>AS)
   |.exit id=>(match o7 id k with
    |some k'=>den P body T W fin n true k' E
    |none=>fin (.exit id) E)
   |.ret=>fin .ret E
   |.region id ops draw=>(match draw with
    |true=>(match T.draw id with
     |some l=>(match Nn P (T.call.mY P 0 ops l).mo ops l&&bOK P T.call ops l with
      |true=>(match Ud P ops with
       |true=>sh (eC ops.size) λnb=>iM P (T.call.mY P nb ops l) W (some nb) ops l E fU.emp (λ_=>none) λE'=>den P body T W fin n true k E'
       |false=>iM P (T.call.mY P 0 ops l) W (some 0) ops l E fU.emp (λ_=>none) λE'=>den P body T W fin n true k E')
      |false=>AS)
     |none=>AS)
    |false=>iM P T.call W none ops ((List.range ops.size).map λi=>(i,[])) E fU.emp (λ_=>none) λE'=>den P body T W fin n true k E')
   |_=>AS
def lB (P:Program):List ResultVar->Env->δ->(δ->Act)->Act
 |[],_,acc,K=>K acc.reverse
 |.tmp t::r,E,acc,K=>(match E t with|some v=>lB P r E (v::acc) K|none=>.none)
 |.cell a t::r,E,acc,K=>(match E a with
  |some (.pointer (some x))=>(match GJ P t x with
   |.val v=>lB P r E (v::acc) K
   |.ask α m k=>.ask α m λx=>resBind (k x) λv=>lB P r E (v::acc) K
   |.none=>.none)
  |_=>.none)
where
 resBind:Act->(ξ->Act)->Act
  |.val v,K=>K v
  |.ask α m k,K=>.ask α m λx=>resBind (k x) K
  |.none,_=>.none
def jR (f:Func):Code:=match f.body with
 |some c=>c
 |none=>.skip
def X9 (ts:List Ty)(v:ξ):M (aL ts):=
 match unR ts v with
 |some r=>AI r
 |none=>AS
def Np (P:Program)(f:Func)(ts:List Ty):gF->Env->M (aL ts):=λe E=>
 match e with
 |.exit _=>AS
 |_=>(lB P f.results.toList E [] λvs=>.val (gq vs)).run (X9 ts)
def Dj (ls ms:List (Nat×Ty))(id:Nat)(next:aL (gV ls)->M (aL (gV ms))):gF->Env->M (aL (gV ms)):=λe E=>
 match e with
 |.normal=>(match rf E ls with
  |some vs=>(match vy (gV ls) vs with|some x=>next x|none=>AS)
  |none=>AS)
 |.exit id'=>(match Nat.beq id id',rf E ms with
  |true,some vs=>(match vy (gV ms) vs with|some x=>AI x|none=>AS)
  |_,_=>AS)
 |.ret=>AS
def Ht (ls ms rs:List (Nat×Ty))(id:Nat)(e2:gF)(next:aL (gV ls)->M (aL (gV ms)⊕aL (gV rs))) :
  gF->Env->M (aL (gV ms)⊕aL (gV rs)):=λe E=>
 match e with
 |.normal=>(match rf E ls with
  |some vs=>(match vy (gV ls) vs with|some x=>next x|none=>AS)
  |none=>AS)
 |e=>(match eqE e (.exit id) with
  |true=>(match rf E ms with
   |some vs=>(match vy (gV ms) vs with|some x=>AI (.inl x)|none=>AS)
   |none=>AS)
  |false=>(match eqE e e2 with
   |true=>(match rf E rs with
    |some vs=>(match vy (gV rs) vs with|some x=>AI (.inr x)|none=>AS)
    |none=>AS)
   |false=>AS))
def E9 (ls rs:List (Nat×Ty))(next:aL (gV ls)->M (aL (gV rs))):gF->Env->M (aL (gV rs)):=λe E=>
 match e with
 |.normal=>(match rf E ls with
  |some vs=>(match vy (gV ls) vs with|some x=>next x|none=>AS)
  |none=>AS)
 |.exit _=>AS
 |.ret=>(match rf E rs with
  |some vs=>(match vy (gV rs) vs with|some x=>AI x|none=>AS)
  |none=>AS)
structure bB where
 id:FuncId
 as:List Ty
 rs:List Ty
 m:aL as->M (aL rs)
def Dk (l:List bB):FuncId->δ->Option tQ:=λf vs=>
 match l with
 |[]=>none
 |e::r=>match Nat.beq f e.id with
  |true=>(match vy e.as vs with
   |some x=>some ⟨aL e.rs,e.m x,λy=>gq (fq e.rs y)⟩
   |none=>none)
  |false=>Dk r f vs
structure jM where
 slot:Nat
 as:List Ty
 rs:List Ty
 m:ξ->aL as->M (aL rs)
def PK (l:List jM):Nat->ξ->δ->Option tQ:=λt x vs=>
 match l with
 |[]=>none
 |e::r=>match Nat.beq t e.slot with
  |true=>(match vy e.as vs with
   |some a=>some ⟨aL e.rs,e.m x a,λy=>gq (fq e.rs y)⟩
   |none=>none)
  |false=>PK r t x vs
def aat (l:List jM)(t:Nat):Bool:=
 match l with
 |[]=>false
 |e::r=>Nat.beq t e.slot||aat r t
structure wL where
 id:FuncId
 as:List Ty
 rs:List Ty
 m:aL as->M (aL rs⊕ξ)
def Hu (l:List wL):FuncId->δ->Option ab7:=λf vs=>
 match l with
 |[]=>none
 |e::r=>match Nat.beq f e.id with
  |true=>(match vy e.as vs with
   |some x=>some ⟨aL e.rs,e.m x,λy=>gq (fq e.rs y)⟩
   |none=>none)
  |false=>Hu r f vs
def rC (l:List bB)(d:List jM)(ms:List FuncId:=[])(ps:List wL:=[]):nX:=⟨Dk l,PK d,aat d,λf=>ms.any (Nat.beq f),Hu ps,λf=>ps.any λe=>Nat.beq f e.id⟩
structure DTg (as rs:List Ty) where
 id:FuncId
 cs:List Ty
 m:aL as->aL cs->M (aL rs)
def dsp {as rs:List Ty}:List (DTg as rs)->ξ->aL as->M (aL rs)
 |[],_,_=>AS
 |[e],x,a=>vz (rh e.id x) (sh (pG e.cs x) λc=>e.m a c) AS
 |e::f::r,x,a=>vz (rh e.id x) (sh (pG e.cs x) λc=>e.m a c) (dsp (f::r) x a)
structure rj where
 p:Path
 ls:List (Nat×Ty)
 act:aL (gV ls)->wK
def pU (l:List rj):Path->Env->wK:=λp E=>
 match l with
 |[]=>.none
 |e::r=>match uv p e.p with
  |true=>(match rf E e.ls with
   |some vs=>(match vy (gV e.ls) vs with
    |some x=>e.act x
    |none=>.none)
   |none=>.none)
  |false=>pU r p E
def aeZ (E:Env)(ws:η):Env:=λj=>cond (ws.any (Nat.beq j)) none (E j)
def Ue (ls ms:List (Nat×Ty))(ws:η)(x:aL (gV ls))(y:aL (gV ms)):Env:=X4 (aeZ (s7 ls (fq (gV ls) x)) ws) ms (fq (gV ms) y)
def Uf (ls ms:List (Nat×Ty))(ws:η)(id:Nat)(m:aL (gV ls)->M (aL (gV ms)))(x:aL (gV ls)):wK:=.one (aL (gV ms)) (m x) (.exit id) (Ue ls ms ws x)
def Ug (ls rs:List (Nat×Ty))(ws:η)(m:aL (gV ls)->M (aL (gV rs)))(x:aL (gV ls)):wK:=.one (aL (gV rs)) (m x) .ret (Ue ls rs ws x)
def Uh (ls ms rs:List (Nat×Ty))(ws:η)(id:Nat)(e2:gF)(m:aL (gV ls)->M (aL (gV ms)⊕aL (gV rs)))(x:aL (gV ls)):wK:=
 .two (aL (gV ms)) (aL (gV rs)) (m x) (.exit id) (Ue ls ms ws x) e2 (Ue ls rs ws x)
def B9 (W:Wr)(nt:Nat)(ws:η):Bool:=Nat.beq W.1 nt&&(match W.2 with
 |some l=>ws.all λi=>l.any (Nat.beq i)
 |none=>true)
structure gC (R:Type) where
 p:Path
 k:List vg
 ls:List (Nat×Ty)
 m:aL (gV ls)->M R
def goJ {R:Type}(ls:List (Nat×Ty))(m:aL (gV ls)->M R)(E:Env):Option (M R):=
 match rf E ls with
 |some vs=>(match vy (gV ls) vs with
  |some x=>some (m x)
  |none=>none)
 |none=>none
def p9 {R:Type}(l:List (gC R)):Path->Option (List vg×(Env->Option (M R))):=λp=>
 match l with
 |[]=>none
 |e::r=>match uv p e.p with
  |true=>some (e.k,goJ e.ls e.m)
  |false=>p9 r p
end Go.Ago
