
import Derived.Laws.Cells
import Derived.Laws.Strings
import Derived.KernelRfl
set_option linter.all false
namespace Go.Ago
abbrev AT:=@if_neg
abbrev By:=@if_pos
abbrev BY:=@List.mem_of_getElem?
abbrev IN:=@List.mem_cons_of_mem
abbrev IS:=@Nat.eq_of_beq_eq_true
abbrev IT:=@List.mem_cons_self
abbrev OF:=@decide_eq_true_eq
abbrev aab:=@Int.toNat_natCast
abbrev aac:=@List.length_cons
abbrev aad:=@Nat.lt_succ_self
abbrev aae:=@Nat.le_refl
abbrev aaf:=@List.drop_eq_nil_of_le
abbrev aag:=@Bool.and_eq_true
abbrev aah:=@List.getElem?_eq_getElem
abbrev aai:=@Option.some.injEq
abbrev aal:=@List.getElem?_map
abbrev aao:=@List.cons_append
abbrev aas:=@Option.some.inj
abbrev aa8:=@List.length_append
abbrev abi:=@Nat.le_trans
abbrev abt:=@List.append_assoc
abbrev acu:=@List.eq_nil_of_length_eq_zero
abbrev acy:=@Nat.lt_succ_of_lt
abbrev acB:=@List.nil_append
abbrev acQ:=@List.mem_append_right
abbrev acS:=@List.flatMap_cons
abbrev acY:=@List.cons.injEq
abbrev adf:=@List.length_nil
abbrev adh:=@List.mem_append_left
abbrev adj:=@Nat.zero_add
abbrev adp:=@Nat.mul_one
abbrev adq:=@List.map_cons
abbrev adr:=@Nat.mul_le_mul_right
abbrev ad8:=@Nat.add_mul
abbrev aeL:=@List.length_replicate
abbrev aeY:=@List.getElem?_drop
abbrev aeZ:=@Bool.false_eq_true
abbrev ae0:=@List.mem_append
abbrev ae1:=@List.length_map
abbrev ae3:=@Classical.byContradiction
abbrev ae5:=@Array.getElem?_toList
abbrev ae6:=@Nat.le_of_ble_eq_true
abbrev afd:=@List.length_take
abbrev afg:=@Int.tdiv_eq_ediv_of_nonneg
abbrev afw:=@List.append_nil
abbrev afy:=@if_false
abbrev afQ:=@Option.bind_some
abbrev afS:=@List.getD_eq_getElem?_getD
abbrev agh:=@Array.ext'
abbrev agn:=@List.all_eq_true
abbrev agw:=@List.take_of_length_le
abbrev agH:=@Array.getElem?_eq_getElem
abbrev ag0:=@List.getElem?_append_left
abbrev ag9:=@List.sublist_append_right
abbrev aha:=@List.drop_drop
abbrev ahv:=@congrArg
abbrev ahH:=@Array.getD_eq_getD_getElem?
abbrev ahL:=@List.mem_singleton
abbrev ahM:=@List.getElem?_cons_succ
abbrev ahN:=@Nat.beq_refl
abbrev ahP:=@true_and
abbrev ahQ:=@List.getElem?_eq_some_iff
abbrev ahR:=@List.drop_eq_getElem_cons
abbrev ahS:=@List.mem_or_eq_of_mem_set
abbrev ahT:=@List.count_cons
abbrev ahV:=@List.set_cons_zero
abbrev ahZ:=@List.drop_zero
abbrev aii:=@Int.eq_ofNat_of_zero_le
abbrev aim:=@List.count_append
abbrev ain:=@List.map_append
abbrev aio:=@List.mem_cons
abbrev aip:=@List.perm_middle
abbrev aiq:=@Nat.lt_of_lt_of_le
abbrev air:=@Nat.le_succ
abbrev ais:=@Option.map_some
abbrev ait:=@cond_false
abbrev aiu:=@Nat.lt_trans
abbrev aiw:=@List.length_set
abbrev aiH:=@List.eq_of_mem_replicate
abbrev aiJ:=@Prod.mk.injEq
abbrev aiK:=@List.replicate_succ
abbrev aiO:=@List.getElem_mem
abbrev aiP:=@List.nodup_range
abbrev aiQ:=@List.not_mem_nil
abbrev aiT:=@Nat.one_mul
abbrev ai0:=@Int.le_refl
abbrev ai3:=@Nat.add_zero
abbrev ai5:=@Nat.sub_self
abbrev ai6:=@List.set_cons_succ
abbrev ai8:=@if_true
abbrev ajc:=@Bool.or_eq_true
abbrev aji:=@Nat.not_lt_zero
abbrev ajj:=@List.set_append_right
abbrev ajk:=@ByteArray.size_append
abbrev ajr:=@Bool.not_eq_true'
abbrev ajs:=@List.getElem?_append
abbrev ajt:=@Array.toArray_toList
abbrev aju:=@Decidable.of_not_not
abbrev ajv:=@Nat.zero_le
abbrev ajw:=@List.length_drop
abbrev ajx:=@Nat.le_of_lt
abbrev ajy:=@Array.toList_append
abbrev ajz:=@Nat.mul_le_mul_left
abbrev ajA:=@Classical.axiomOfChoice
abbrev ajB:=@List.pairwise_cons
abbrev ajC:=@List.map_replicate
abbrev ajD:=@ByteArray.data_extract
abbrev ajE:=@List.sublist_cons_self
abbrev ajF:=@List.ext_getElem?
abbrev ajG:=@List.size_toArray
abbrev ajH:=@List.Sublist.refl
abbrev ajI:=@List.take_add_one
abbrev ajJ:=@Array.mem_of_getElem?
abbrev ajK:=@Int.le_trans
abbrev ajL:=@Array.getElem?_setIfInBounds
abbrev ajM:=@List.getElem?_eq_none
abbrev ajN:=@List.length_singleton
abbrev ajO:=@Nat.le_add_right
abbrev ajP:=@List.take_length
abbrev ajQ:=@Array.getElem?_eq_some_iff
abbrev ajR:=@List.getElem?_append_right
abbrev ajS:=@List.length_reverse
abbrev ajT:=@List.getElem?_take
abbrev ajU:=@List.ne_nil_of_mem
abbrev ajV:=@List.map_set
abbrev ajW:=@List.Pairwise.imp_of_mem
abbrev ajX:=@Nat.mul_le_mul
abbrev ajY:=@not_true_eq_false
abbrev ajZ:=@of_decide_eq_true
abbrev aj0:=@List.nodup_append
abbrev aj1:=@List.set_eq_take_append_cons_drop
abbrev aj2:=@List.Perm.append_right
abbrev aj3:=@List.head?_eq_getElem?
abbrev aj4:=@Nat.add_assoc
abbrev aj5:=@Bool.true_and
abbrev aj6:=@List.cons.inj
abbrev aj7:=@List.range'_succ
abbrev aj8:=@List.flatten_replicate_singleton
abbrev aj9:=@List.getElem?_toArray
abbrev akd:=@ByteArray.data_append
abbrev akh:=@UInt8.toNat_inj
abbrev akk:=@List.map_map
abbrev akl:=@List.replicate_succ'
abbrev akm:=@List.set_append_left
abbrev akn:=@Nat.min_eq_left
abbrev ako:=@List.count_le_length
abbrev akp:=@Array.getElem?_push
abbrev akq:=@List.flatMap_append
abbrev akr:=@or_false
abbrev aks:=@List.dropLast_concat_getLast
abbrev akt:=@List.countP_eq_length_filter
abbrev aku:=@Array.ext_getElem?
abbrev akv:=@Int.natCast_nonneg
abbrev akw:=@BitVec.toNat_ofInt
abbrev akx:=@Array.toList_setIfInBounds
abbrev aky:=@Bool.or_false
abbrev akz:=@Bool.not_true
abbrev akA:=@List.all_cons
abbrev akB:=@Int.fdiv_eq_ediv_of_nonneg
abbrev akC:=@List.flatten_cons
abbrev akD:=@Nat.lt_trichotomy
abbrev akE:=@Nat.mod_lt
abbrev akG:=@Option.getD_some
abbrev akH:=@Array.mem_append
abbrev akI:=@List.set_set
abbrev akJ:=@List.cons_ne_nil
abbrev akK:=@List.getElem?_cons_zero
abbrev akL:=@Option.bind_eq_some_iff
abbrev akM:=@List.append_cancel_left
abbrev akN:=@Bool.eq_iff_iff
abbrev akO:=@List.mem_filter
abbrev akP:=@List.Perm.of_eq
abbrev akQ:=@List.range_succ_eq_map
abbrev akR:=@List.dropWhile_sublist
abbrev akS:=@Option.map_eq_none_iff
abbrev akT:=@List.take_append_drop
abbrev akU:=@List.mem_iff_getElem?
abbrev akV:=@List.modify_zero_cons
abbrev akW:=@List.mem_range
abbrev akX:=@Bool.false_and
abbrev akY:=@List.singleton_append
abbrev akZ:=@List.take_succ
abbrev ak0:=@List.Perm.refl
abbrev ak1:=@List.perm_append_comm
abbrev ak2:=@Array.mem_toList_iff
abbrev ak3:=@List.getElem?_modify
abbrev ak4:=@List.getElem?_set_ne
abbrev ak5:=@List.any_cons
abbrev ak6:=@List.sum_cons
abbrev ald:=@Nat.add_comm
open Go
abbrev δ:=List Value
abbrev ε:=List Int
abbrev ζ:=ByteArray
abbrev η:=List Nat
abbrev θ:=Option Addr
abbrev κ:=TypeId
abbrev μ:=Option Nat
abbrev ν:=Array Value
abbrev ξ:=Value
abbrev Env:=Nat->Option ξ
def Env.set (E:Env)(i:Nat)(v:ξ):Env:=λj=>cond (Nat.beq j i) (some v) (E j)
def Env.put (E:Env)(d:μ)(v:ξ):Env:=
 match d with
 |some i=>E.set i v
 |none=>E
def Env.emp:Env:=λ_=>none
def dz:ξ->Bool
 |.bool _ | .int _ _ | .float _ _ | .complex _ _ _ | .string _ | .nilFunc | .nilIface | .pointer none | .map none | .chan none | .slice none _ _=>true
 |_=>false
def flat:ξ->Bool
 |.agg cs=>cs.toList.all dz
 |.tuple vs=>vs.toList.isEmpty
 |.iface _ v=>dz v
 |v=>dz v
def Env.ev (E:Env):Operand->Option ξ
 |.tmp t=>E t
 |.const v=>match flat v with|true=>some v|false=>none
 |.global _=>none
 |.func f=>some (.func (.func f) #[] #[])
def Env.Rj (E:Env):List Operand->Option δ
 |[]=>some []
 |x::xs=>match E.ev x,E.Rj xs with
  |some v,some vs=>some (v::vs)
  |_,_=>none
def Rk:IntKind->Nat
 |.i8=>0 | .i16=>1 | .i32=>2 | .i64=>3 | .u8=>4 | .u16=>5 | .u32=>6 | .u64=>7
def OT (a b:IntKind):Bool:=Nat.beq (Rk a) (Rk b)
inductive B4 where
 |cells (c:δ) (eJ base:Nat) (elem:κ)
 |map (es:List (ξ×ξ))
 |iter (s:ζ) (pos:Nat)
structure o6 where
 key:ξ
 val:ξ
 born:Nat
structure aaj where
 kt:κ
 clock:Nat
 es:List o6
structure ab where
 kZ:Nat->Option aaj
 get:Nat->Option B4
 next:Nat
 ot:Nat->Nat
 used:Nat->Bool
 dec:∀p:Prop,Decidable p
abbrev M (α:Type):=ab->Option (α×ab)
def sh {α β:Type}(m:M α)(f:α->M β):M β:=λh=>
 match m h with
 |some (a,h')=>f a h'
 |none=>none
def AI {α:Type}(a:α):M α:=λh=>some (a,h)
def AS {α:Type}:M α:=λ_=>none
structure Sl where
 a:θ
 len:Nat
 cap:Nat
inductive eD where
 |int (k:IntKind)|bool|str|ptr|ai|sl|mp|raw|f64
@[reducible] def eD.den:eD->Type
 |.int _=>Int
 |.bool=>Bool
 |.str=>ζ
 |.ptr=>θ
 |.ai=>Addr
 |.sl=>Sl
 |.mp=>μ
 |.raw=>ξ
 |.f64=>Nat
def F8:(l:eD)->l.den->ξ
 |.int k,n=>.int k n
 |.bool,b=>.bool b
 |.str,s=>.string s
 |.ptr,p=>.pointer p
 |.ai,p=>.pointer (some p)
 |.sl,s=>.slice s.a s.len s.cap
 |.mp,r=>.map r
 |.raw,v=>v
 |.f64,n=>.float .f64 n
def AX:(l:eD)->ξ->Option l.den
 |.int .i8,.int .i8 n | .int .i16,.int .i16 n | .int .i32,.int .i32 n | .int .i64,.int .i64 n=>some n
 |.int .u8,.int .u8 n | .int .u16,.int .u16 n | .int .u32,.int .u32 n | .int .u64,.int .u64 n=>some n
 |.bool,.bool b=>some b
 |.str,.string s=>some s
 |.ptr,.pointer p=>some p
 |.ai,.pointer (some p)=>some p
 |.sl,.slice a n c=>some ⟨a,n,c⟩
 |.mp,.map r=>some r
 |.raw,v=>some v
 |.f64,.float .f64 n=>some n
 |_,_=>none
@[reducible] def eI:List eD->Type
 |[]=>Unit
 |[l]=>l.den
 |l::ls=>l.den×eI ls
def HQ:(ls:List eD)->eI ls->δ
 |[],_=>[]
 |[l],x=>[F8 l x]
 |l::l'::ls,x=>F8 l x.1::HQ (l'::ls) x.2
def Ao:(ls:List eD)->δ->Option (eI ls)
 |[],[]=>some ()
 |[l],[v]=>AX l v
 |l::l'::ls,v::vs=>match AX l v,Ao (l'::ls) vs with
  |some x,some y=>some (x,y)
  |_,_=>none
 |_,_=>none
inductive Ty where
 |one (l:eD)
 |agg (ls:List eD)
@[reducible] def Ty.den:Ty->Type
 |.one l=>l.den
 |.agg ls=>eI ls
def Ec:(t:Ty)->t.den->ξ
 |.one l,x=>F8 l x
 |.agg ls,x=>.agg (HQ ls x).toArray
def Mv:(t:Ty)->ξ->Option t.den
 |.one l,v=>AX l v
 |.agg ls,.agg cs=>Ao ls cs.toList
 |_,_=>none
@[reducible] def aH:List Ty->Type
 |[]=>Unit
 |[t]=>t.den
 |t::ts=>t.den×aH ts
def eE:(ts:List Ty)->aH ts->δ
 |[],_=>[]
 |[t],x=>[Ec t x]
 |t::t'::ts,x=>Ec t x.1::eE (t'::ts) x.2
def wa:(ts:List Ty)->δ->Option (aH ts)
 |[],[]=>some ()
 |[t],[v]=>Mv t v
 |t::t'::ts,v::vs=>match Mv t v,wa (t'::ts) vs with
  |some x,some y=>some (x,y)
  |_,_=>none
 |_,_=>none
def fO (vs:δ):ξ:=
 match vs with
 |[v]=>v
 |vs=>.tuple vs.toArray
def unR (ts:List Ty)(v:ξ):Option (aH ts):=
 match ts with
 |[t]=>Mv t v
 |ts=>match v with
  |.tuple vs=>wa ts vs.toList
  |_=>none
def rv (E:Env):List (Nat×Ty)->Option δ
 |[]=>some []
 |(i,_)::r=>match E i,rv E r with
  |some v,some vs=>some (v::vs)
  |_,_=>none
def tB:List (Nat×Ty)->δ->Env
 |(i,_)::r,v::vs=>(tB r vs).set i v
 |_,_=>Env.emp
def aak (E:Env):List (Nat×Ty)->δ->Env
 |(i,_)::r,v::vs=>(aak E r vs).set i v
 |_,_=>E
def gJ:List (Nat×Ty)->List Ty
 |[]=>[]
 |(_,t)::r=>t::gJ r
def ab.cell (h:ab)(a:Addr):Option ξ:=
 match h.get a.block with
 |some (.cells c _ _ _)=>c[a.off]?
 |_=>none
def _root_.Go.Addr.plus (a:Addr)(n:Nat):Addr:=⟨a.block,a.off+n,none⟩
def ak (l:eD)(a:Addr):M l.den:=λh=>
 match h.cell a with
 |some v=>(match AX l v with|some x=>some (x,h)|none=>none)
 |none=>none
def idO (o:Option B4):Option B4:=match o with
 |some b=>some b
 |none=>none
@[simp] theorem xj (o:Option B4):idO o=o:=by cases o<;>rfl
def ab.cS (h:ab)(nm next':Nat)(elem:κ)(cs:δ):ab:=
 { h with
  get:=λj=>cond (Nat.beq j nm) (some (.cells cs (nm+1) 0 elem)) (idO (h.get j))
  next:=next'
  ot:=λg=>cond (Nat.beq g (nm+1)) cs.length (h.ot g)
  used:=λj=>cond (Nat.beq j nm) true (h.used j) }
def ab.new (h:ab)(elem:κ)(cs:δ):ab:=h.cS h.next (h.next+1) elem cs
def eB:ξ->Bool
 |.agg _ | .tuple _=>false
 |_=>true
def aJ (nm:μ)(elem:κ)(cs:δ):M Nat:=λh=>
 if cs.all eB=true then (match nm with
  |none=>some (h.next,h.new elem cs)
  |some k=>if h.used k=false/\k<h.next/\(h.get k).isNone=true then some (k,h.cS k h.next elem cs) else none) else none
def eU (n:Nat):M Nat:=λh=>some (h.next,{ h with next:=h.next+n })
def bh (c:δ)(o:Nat)(vs:δ):δ:=c.take o++vs++c.drop (o+vs.length)
def ab.sW (h:ab)(b:Nat)(c:δ)(g base:Nat)(elem:κ):ab:=
 { h with get:=λj=>cond (Nat.beq j b) (some (.cells c g base elem)) (match h.get j with
   |some (.cells c' g' base' elem')=>cond (Nat.beq g' g) none (some (.cells c' g' base' elem'))
   |o=>o) }
def bD (a:Addr)(vs:δ):M Unit:=λh=>
 match h.get a.block with
 |some (.cells c g base elem)=>
  if g≠0/\a.off+vs.length<=c.length/\vs.all eB=true then some ((),h.sW a.block (bh c a.off vs) g base elem) else none
 |_=>none
def ou (b:Bool):M Unit:=λh=>match b with
 |true=>some ((),h)
 |false=>none
def nn (p:θ):M Addr:=λh=>match p with
 |some a=>some (a,h)
 |none=>none
def aX (h:ab)(a:θ)(n:Nat):Option δ:=
 match a with
 |none=>if n=0 then some [] else none
 |some a=>match h.get a.block with
  |some (.cells c _ _ _)=>if a.off+n<=c.length then some ((c.drop a.off).take n) else none
  |_=>none
def OU (s:Sl)(sz:Nat):M δ:=λh=>
 match aX h s.a (s.len*sz) with
 |some cs=>some (cs,h)
 |none=>none
def cT:Nat:=1073741824
def uJ (strict:Bool)(s:Sl)(sz:Nat)(elem:κ)(n:Nat)(new:δ):M Sl:=λh=>
 if n=0 then (match s.a with
  |none=>if s.len=0/\s.cap=0/\new=[] then some (s,h) else none
  |some _=>if new=[] then some (s,h) else none) else
 if ¬(s.len+n<=cT/\new.length=n*sz) then none else
 match s.a with
 |none=>if s.len=0/\s.cap=0 then some (⟨some ⟨h.next,0,none⟩,n,0⟩,h.new elem new) else none
 |some a=>
  match aX h (some a) (s.len*sz),h.get a.block with
  |some na,some (.cells c g base e)=>
   if s.cap≠0/\s.len+n<s.cap then
    if g≠0/\a.off+(s.len*sz+new.length)<=c.length/\strict=false then
     some (⟨some a,s.len+n,s.cap⟩,h.sW a.block (bh c (a.off+s.len*sz) new) g base e) else none
   else if s.cap≠0 then some (⟨some ⟨h.next,0,none⟩,s.len+n,0⟩,h.new elem (na++new))
   else if g≠0/\e=elem then
    let tipNow:=base+a.off+s.len*sz
    let av:B4:=.cells (na++new) g (base+a.off) elem
    if h.ot g=tipNow then
     some (⟨some ⟨h.next,0,none⟩,s.len+n,0⟩,
      { h with
       get:=λj=>cond (Nat.beq j h.next) (some av) (idO (h.get j))
       next:=h.next+1
       ot:=λg'=>cond (Nat.beq g' g) (tipNow+new.length) (h.ot g')
       used:=λj=>cond (Nat.beq j h.next) true (h.used j) })
    else if strict=false then
     some (⟨some ⟨h.next,0,none⟩,s.len+n,0⟩,
      { h with
       get:=λj=>cond (Nat.beq j h.next) (some av) (match h.get j with
        |some (.cells c' g' base' elem')=>cond (Nat.beq g' g&&Nat.blt tipNow (base'+c'.length)) none (some (.cells c' g' base' elem'))
        |o=>o)
       next:=h.next+1
       ot:=λg'=>cond (Nat.beq g' g) (tipNow+new.length) (h.ot g')
       used:=λj=>cond (Nat.beq j h.next) true (h.used j) })
    else none
   else none
  |_,_=>none
def app (strict:Bool)(s:Sl)(sz:Nat)(elem:κ)(n:Nat)(new:δ):M Sl:=λh=>
 match strict&&(h.get h.next).isSome with
 |true=>none
 |false=>uJ strict s sz elem n new h
def an (s:Sl)(i:Int)(sz:Nat):M Addr:=λh=>
 match s.a with
 |some a=>if 0<=i/\i<s.len then some (a.plus (i.toNat*sz),h) else none
 |none=>none
def jy (s:ζ)(i:Int):M UInt8:=λh=>
 match (if 0<=i then s[i.toNat]? else none) with
 |some b=>some (b,h)
 |none=>none
def HR (l:eD)(n:Nat)(cs:δ)(j:Int):M l.den:=λh=>
 if 0<=j/\j<(n:Int) then (match cs[j.toNat]? with
  |some v=>(match AX l v with|some x=>some (x,h)|none=>none)
  |none=>none) else none
def exS (s:ζ)(a b:Nat):ζ:=⟨⟨(s.data.toList.drop a).take (b-a)⟩⟩
theorem F9 (s:ζ)(a b:Nat):exS s a b=s.extract a b:=by
 have h:(s.extract a b).data.toList=(s.data.toList.drop a).take (b-a):=by simp[ajD]
 unfold exS;rw[<-h]
def hY (s:ζ)(lo hi:Int):M ζ:=λh=>
 if 0<=lo/\lo<=hi/\hi<=s.size then some (exS s lo.toNat hi.toNat,h) else none
def jd (h:ab)(s:Sl)(e:κ):Bool:=
 match s.a with
 |none=>Nat.beq s.len 0&&Nat.beq s.cap 0
 |some a=>match h.get a.block with
  |some (.cells _ g _ e')=>Nat.beq g 0||Nat.beq e' e
  |_=>false
def jT (s:Sl)(lo hi:Int)(e:κ)(sz:Nat):M Sl:=λh=>
 if 0<=lo/\lo<=hi/\hi<=s.len/\jd h s e=true then
  some (⟨s.a.map (·.plus (lo.toNat*sz)),hi.toNat-lo.toNat,s.cap-(if s.cap=0 then 0 else lo.toNat)⟩,h) else none
def nr (a:Addr)(len:Nat)(lo hi:Int)(sz:Nat):M Sl:=λh=>
 if 0<=lo/\lo<=hi/\hi<=(len:Int) then some (⟨some (a.plus (lo.toNat*sz)),hi.toNat-lo.toNat,len-lo.toNat+1⟩,h) else none
def kY (x y:ζ):M ζ:=λh=>
 if x.size+y.size<=cT then some (x++y,h) else none
def vG (nm:μ)(elem:κ)(zero:δ)(l c:Int):M Sl:=λh=>
 if 0<=l/\l<=c/\c<=cT then (match aJ nm elem (List.replicate c.toNat zero).flatten h with
  |some (b,h')=>some (⟨some ⟨b,0,none⟩,l.toNat,c.toNat+1⟩,h')
  |none=>none) else none
def bytesOf (vs:δ):Option (List UInt8):=
 match vs with
 |[]=>some []
 |.int .u8 n::r=>match bytesOf r with
  |some l=>some (UInt8.ofNat n.toNat::l)
  |none=>none
 |_=>none
def ofBytes (l:List UInt8):ζ:=⟨l.toArray⟩
def eV (s:ζ):δ:=s.data.toList.map λb=>.int .u8 b.toNat
def strOf (s:Sl):M ζ:=λh=>
 match aX h s.a s.len with
 |some cs=>(match bytesOf cs with|some l=>some (ofBytes l,h)|none=>none)
 |none=>none
def kJ:ξ->M Bool:=λv h=>match v with
 |.nilIface=>some (true,h)
 |.iface _ _=>some (false,h)
 |_=>none
def eqL:List UInt8->List UInt8->Bool
 |[],[]=>true
 |x::xs,y::ys=>Nat.beq x.toNat y.toNat&&eqL xs ys
 |_,_=>false
def mY (x y:ζ):Bool:=eqL x.data.toList y.data.toList
theorem Jc:∀{l l':List UInt8},eqL l l'=true↔l=l'
 |[],[]=>by simp[eqL]
 |[],_::_=>by simp[eqL]
 |_::_,[]=>by simp[eqL]
 |x::l,y::l'=>by
  simp only[eqL,aag,Jc (l:=l) (l':=l'),Nat.beq_eq,akh,acY]
theorem qf (x y:ζ):mY x y=(x.toList==y.toList):=by
 rw[ByteArray.toList_eq,ByteArray.toList_eq,akN,beq_iff_eq];exact Jc
def ltS (x y:ζ):Bool:=Op.bytesLess x.toList y.toList
def Da (x y:ξ):Bool:=
 match x,y with
 |.int k a,.int k' b=>OT k k'&&decide (a=b)
 |.bool a,.bool b=>a==b
 |.string a,.string b=>mY a b
 |_,_=>false
def Ap:δ->δ->Bool
 |[],[]=>true
 |x::xs,y::ys=>Da x y&&Ap xs ys
 |_,_=>false
def y5 (x y:ξ):Bool:=
 match x,y with
 |.agg xs,.agg ys=>Ap xs.toList ys.toList
 |x,y=>Da x y
def gf (k:ξ):List o6->Option o6
 |[]=>none
 |e::r=>match y5 k e.key with
  |true=>some e
  |false=>gf k r
def yk (k:ξ)(es:List o6):Option ξ:=(gf k es).map (·.val)
def qb (k v:ξ)(c:Nat):List o6->List o6
 |[]=>[⟨k,v,c⟩]
 |e::r=>match y5 k e.key with
  |true=>⟨k,v,e.born⟩::r
  |false=>e::qb k v c r
def Iy (b:Nat)(v:ξ):List o6->Option (List o6)
 |[]=>none
 |e::r=>match Nat.beq e.born b with
  |true=>some (⟨e.key,v,e.born⟩::r)
  |false=>(match Iy b v r with|some l=>some (e::l)|none=>none)
def ab.nu (h:ab)(m:Nat)(x:aaj):ab:=
 { h with kZ:=λj=>cond (Nat.beq j m) (some x) (h.kZ j) }
def B5 (kt:κ):M Nat:=λh=>some (h.next,{ h.nu h.next ⟨kt,0,[]⟩ with next:=h.next+1,used:=λj=>cond (Nat.beq j h.next) true (h.used j) })
def ab.OW (h:ab)(k:Nat)(kt:κ):ab:={ h.nu k ⟨kt,0,[]⟩ with used:=λj=>cond (Nat.beq j k) true (h.used j) }
def ab.fresh (h:ab)(k:Nat):Prop:=h.used k=false/\k<h.next/\h.kZ k=none/\h.get k=none
def B6 (k:Nat)(kt:κ):M Nat:=λh=>if h.used k=false/\k<h.next/\(h.kZ k).isNone=true/\(h.get k).isNone=true then some (k,h.OW k kt) else none
def ae8 {α:Type}(m:M α):Prop:=∀(h:ab) (k:Nat) (kt:κ) (x:α) (h2:ab),h.fresh k->m (h.OW k kt)=some (x,h2)->∃h1,m h=some (x,h1)/\h1.fresh k/\h2=h1.OW k kt
def MoM {α:Type}(m:M α):Prop:=ae8 m/\∀h x h1,m h=some (x,h1)->h1.kZ=h.kZ
def ab.B7 (h:ab)(kt:κ)(m:Nat):Option (Nat×List o6):=
 match h.kZ m with
 |some x=>(match Nat.beq x.kt kt with|true=>some (x.clock,x.es)|false=>none)
 |none=>none
def rK (kt:κ)(T:Ty)(z:T.den)(m:μ)(k:ξ):M (Bool×T.den):=λh=>
 match m with
 |none=>some ((false,z),h)
 |some m=>(match h.B7 kt m with
  |some (_,es)=>(match yk k es with
   |some v=>(match Mv T v with|some x=>some ((true,x),h)|none=>none)
   |none=>some ((false,z),h))
  |none=>none)
def Ed (kt:κ)(m:μ)(k v:ξ):M Unit:=λh=>
 match m with
 |none=>none
 |some m=>(match h.B7 kt m with
  |some (c,es)=>some ((),h.nu m ⟨kt,(match gf k es with|some _=>c|none=>c+1),qb k v c es⟩)
  |none=>none)
def xk (kt:κ)(T:Ty)(z:T.den)(m:μ)(k:ξ):M (T.den×Nat):=λh=>
 match m with
 |none=>none
 |some m=>(match h.B7 kt m with
  |some (c,es)=>(match gf k es with
   |some e=>(match Mv T e.val with|some x=>some ((x,e.born),h)|none=>none)
   |none=>some ((z,c),h.nu m ⟨kt,c+1,qb k (Ec T z) c es⟩))
  |none=>none)
def xl (m:μ)(st:Int)(v:ξ):M Unit:=λh=>
 match m with
 |none=>none
 |some m=>(match h.kZ m with
  |some x=>(match decide (0<=st),Iy st.toNat v x.es with
   |true,some es=>some ((),h.nu m ⟨x.kt,x.clock,es⟩)
   |_,_=>none)
  |none=>none)
def Mw (m:μ):M Nat:=λh=>
 match m with
 |none=>some (0,h)
 |some m=>(match h.kZ m with
  |some x=>some (x.es.length,h)
  |none=>none)
def yl (d s:Sl)(sz:Nat):M Nat:=λh=>
 match aX h s.a (Nat.min s.len d.len*sz) with
 |some []=>some (Nat.min s.len d.len,h)
 |some cs=>(match d.a with
  |none=>none
  |some a=>(match bD a cs h with
   |some (_,h')=>some (Nat.min s.len d.len,h')
   |none=>none))
 |none=>none
def nnF (x:ξ):M Unit:=λh=>
 match x with
 |.func (.func _) _ _=>some ((),h)
 |_=>none
def pG (g:FuncId)(x:ξ):Bool:=
 match x with
 |.func (.func f) first _=>Nat.beq f g&&first.toList.isEmpty
 |_=>false
def Jd (x:ξ):δ:=
 match x with
 |.func _ _ caps=>caps.toList
 |_=>[]
def nU (cs:List Ty)(x:ξ):M (aH cs):=λh=>
 match wa cs (Jd x) with
 |some c=>some (c,h)
 |none=>none
def ae9 (x y:ξ):Bool:=
 match x,y with
 |.int k a,.int k' b=>OT k k'&&decide (a=b)
 |.bool a,.bool b=>a==b
 |.string a,.string b=>mY a b
 |.pointer none,.pointer none=>true
 |.pointer (some ⟨a,b,none⟩),.pointer (some ⟨c,d,none⟩)=>Nat.beq a c&&Nat.beq b d
 |.slice none a b,.slice none c d=>Nat.beq a c&&Nat.beq b d
 |.slice (some ⟨a,b,none⟩) m n,.slice (some ⟨c,d,none⟩) m' n'=>Nat.beq a c&&Nat.beq b d&&(Nat.beq m m'&&Nat.beq n n')
 |.map none,.map none=>true
 |.map (some a),.map (some b)=>Nat.beq a b
 |_,_=>false
def aam:δ->δ->Bool
 |[],[]=>true
 |x::xs,y::ys=>ae9 x y&&aam xs ys
 |_,_=>false
theorem aan {x y:ξ}(h:ae9 x y=true):x=y:=by
 unfold ae9 at h;split at h
 .rename_i k a k' b;simp only[aag,OF] at h;obtain⟨h1,rfl⟩:=h;cases k<;>cases k'<;>first|rfl|cases h1
 .rw[eq_of_beq h]
 .rename_i a b;obtain⟨⟨a⟩⟩:=a;obtain⟨⟨b⟩⟩:=b;have h:eqL a b=true:=h;rw[Jc.1 h]
 .rfl
 .simp only[aag] at h;rw[IS h.1,IS h.2]
 .simp only[aag] at h;rw[IS h.1,IS h.2]
 .simp only[aag] at h;rw[IS h.1.1,IS h.1.2,IS h.2.1,IS h.2.2]
 .rfl
 .rw[IS h]
 .cases h
theorem Rl:∀{x y:δ},aam x y=true->x=y
 |[],[],_=>rfl
 |[],_::_,h=>by cases h
 |_::_,[],h=>by cases h
 |x::xs,y::ys,h=>by
  simp only[aam,aag] at h;rw[aan h.1,Rl h.2]
def gq (h h':ab)(b:Addr):Prop:=
 match h.get b.block,h'.get b.block with
 |some (.cells c g base e),some (.cells c' g' base' e')=>g'=g/\base'=base/\e'=e/\c'.length=c.length/\c'.drop b.off=c.drop b.off
 |x,y=>y=x
def eqC (h h':ab)(b:Addr):Bool:=
 match h.get b.block,h'.get b.block with
 |some (.cells c g base e),some (.cells c' g' base' e')=>Nat.beq g' g&&Nat.beq base' base&&Nat.beq e' e&&Nat.beq c'.length c.length&&aam (c'.drop b.off) (c.drop b.off)
 |none,none=>true
 |_,_=>false
theorem afa {h h':ab}{b:Addr}(he:eqC h h' b=true):gq h h' b:=by
 unfold eqC at he;unfold gq;split at he
 .rename_i c g base e c' g' base' e' h1 h2;rw[h1,h2];simp only[aag] at he;exact⟨IS he.1.1.1.1,IS he.1.1.1.2,IS he.1.1.2,IS he.1.2,Rl he.2⟩
 .rename_i h1 h2;rw[h1,h2]
 .cases he
def adg (h h':ab)(b:Addr):Decidable (gq h h' b):=
 match hb:eqC h h' b with
 |true=>isTrue (afa hb)
 |false=>h.dec (gq h h' b)
def sameAt (h h':ab):List θ->Bool
 |[]=>true
 |none::r=>sameAt h h' r
 |some b::r=>(match adg h h' b with
  |isTrue _=>sameAt h h' r
  |isFalse _=>false)
def oo {α:Type}(as:List θ)(m:M α):M α:=λh=>
 match m h with
 |some (x,h')=>(match sameAt h h' as with
  |true=>some (x,h')
  |false=>none)
 |none=>none
def BP {α:Type}(k:Nat)(m:M α)(h:ab)(x:α)(h1:ab):Prop:=∀(h0:ab) t cs,h0.used k=false->k<h0.next->h0.get k=none->h=h0.cS k h0.next t cs ->
 ∃h3,m h0=some (x,h3)/\h3.used k=false/\k<h3.next/\h3.get k=none/\h1=h3.cS k h3.next t cs
def Aq {α:Type}(k:Nat)(m:M α):M α:=λh=>match m h with
 |some (x,h1)=>(match h.dec (BP k m h x h1) with
  |.isTrue _=>some (x,h1)
  |.isFalse _=>none)
 |none=>none
inductive Act:Type 1 where
 |val (v:ξ)
 |ask (α:Type) (m:M α) (k:α->Act)
 |none
def Act.run {R:Type}:Act->(ξ->M R)->M R
 |.val v,K=>K v
 |.ask _ m k,K=>sh m λx=>(k x).run K
 |.none,_=>AS
def Act.exec:Act->ab->Option (ξ×ab)
 |.val v,h=>Option.some (v,h)
 |.ask _ m k,h=>match m h with
  |Option.some (x,h')=>(k x).exec h'
  |Option.none=>Option.none
 |.none,_=>Option.none
def Je:TypeDesc->Option eD
 |.bool=>some .bool
 |.int k=>some (.int k)
 |.string=>some .str
 |.pointer _=>some .ptr
 |.slice _=>some .sl
 |.map _ _=>some .mp
 |.float .f64=>some .f64
 |.unsafePointer=>some .ptr
 |.struct _ | .array _ _ | .tuple _ | .named _ _ | .invalid=>none
 |_=>some .raw
def bX (P:Program)(t:κ):μ:=
 match P.info? t with
 |some i=>some i.size
 |none=>none
def Ga {α:Type}:List (Option (List α))->Option (List α)
 |[]=>some []
 |some l::r=>(match Ga r with|some m=>some (l++m)|none=>none)
 |none::_=>none
def leaves (P:Program):Nat->κ->Option (List eD)
 |0,_=>none
 |n+1,t=>
  match P.underlying t with
  |some (.struct fs)=>Ga (fs.toList.map λf=>leaves P n f.type)
  |some (.array len e)=>Ga (List.replicate len (leaves P n e))
  |some d=>(match Je d with|some l=>some [l] | none=>none)
  |none=>none
def y7:TypeDesc->Bool
 |.struct _ | .array _ _=>true
 |_=>false
def ahU (P:Program)(t:κ):Option Ty:=
 match P.underlying t with
 |some d=>(match y7 d with
  |true=>(match leaves P 12 t with|some ls=>some (.agg ls)|none=>none)
  |false=>(match Je d with|some l=>some (.one l)|none=>none))
 |none=>none
def ue (P:Program)(t:κ):Option eD:=
 match P.underlying t,bX P t with
 |some (.int k),some 1=>some (.int k)
 |some .bool,some 1=>some .bool
 |some .string,some 1=>some .str
 |_,_=>none
def Gb (P:Program):List Field->Nat->Option (List eD)
 |[],_=>some []
 |f :: fs, o => (match f.name == "_", Nat.beq f.offset o, ue P f.type, Gb P fs (o+1) with
  |false,true,some l,some ls=>some (l::ls)
  |_,_,_,_=>none)
def Mx (P:Program)(t:κ):Option Ty:=
 match P.underlying t with
 |some (.struct fs)=>(match P.stoodInHeld t,Gb P fs.toList 0 with
  |false,some ls=>some (.agg ls)
  |_,_=>none)
 |some (.array n e)=>(match ue P e with
  |some l=>some (.agg (List.replicate n l))
  |none=>none)
 |_=>(match ue P t with|some l=>some (.one l)|none=>none)
def iH (l:eD)(v:ξ):Bool:=
 match l,v with
 |.int k,.int k' _=>OT k k'
 |.bool,.bool _=>true
 |.str,.string _=>true
 |_,_=>false
def fF:List eD->δ->Bool
 |[],[]=>true
 |l::ls,v::vs=>iH l v&&fF ls vs
 |_,_=>false
def Tn (T:Ty)(v:ξ):Bool:=
 match T,v with
 |.one l,v=>iH l v
 |.agg ls,.agg cs=>fF ls cs.toList
 |_,_=>false
def o7 (P:Program)(t:κ)(v:ξ):Bool:=
 match Mx P t with
 |some K=>Tn K v
 |none=>false
def AY (a:Addr):List eD->Nat->δ->Act
 |[],_,acc=>.val (.agg acc.reverse.toArray)
 |l::ls,i,acc=>.ask l.den (ak l (a.plus i)) λx=>AY a ls (i+1) (F8 l x::acc)
def aE (ls:List eD)(a:Addr):M (eI ls):=λh=>
 match aX h (some a) ls.length with
 |some vs=>(match Ao ls vs with|some x=>some (x,h)|none=>none)
 |none=>none
def HS (P:Program)(t:κ)(a:Addr):Act:=
 match P.underlying t,bX P t with
 |some d,some n=>
  (match y7 d with
  |true=>(match leaves P 12 t with
   |some ls=>(match Nat.beq ls.length n with|true=>.ask (eI ls) (aE ls a) λx=>.val (.agg (HQ ls x).toArray)|false=>.none)
   |none=>.none)
  |false=>(match Je d with
   |some l=>.ask l.den (ak l a) λx=>.val (F8 l x)
   |none=>.none))
 |_,_=>.none
def zeroOf (P:Program)(t:κ):Option ξ:=
 match P.info? t with
 |some i=>(match i.zero with
  |some v=>(match v.cells.toList.all dz&&Nat.beq v.cells.size i.size with|true=>some v|false=>none)
  |none=>none)
 |none=>none
def Fe (P:Program)(op:BinOp)(t:κ)(v:ξ):Act:=
 match op,P.underlying t with
 |.eql,some (.interface _)=>.ask Bool (kJ v) λb=>.val (.bool b)
 |.neq,some (.interface _)=>.ask Bool (kJ v) λb=>.val (.bool (!b))
 |_,_=>.none
def My (op:BinOp)(k:IntKind)(a:Int)(k':IntKind)(b:Int):Act:=
 match op with
 |.shl=>.ask Unit (ou (decide (0<=b))) λ_=>.val (.int k (k.wrap (a*2^(min b.toNat k.bits))))
 |.shr=>.ask Unit (ou (decide (0<=b))) λ_=>.val (.int k (a.fdiv (2^(min b.toNat k.bits))))
 |op=>(match OT k k' with
  |false=>.none
  |true=>(match op with
   |.add=>.val (.int k (k.wrap (a+b)))
   |.sub=>.val (.int k (k.wrap (a-b)))
   |.mul=>.val (.int k (k.wrap (a*b)))
   |.quo=>.ask Unit (ou (decide (b≠0))) λ_=>.val (.int k (k.wrap (a.tdiv b)))
   |.rem=>.ask Unit (ou (decide (b≠0))) λ_=>.val (.int k (a.tmod b))
   |.and=>.val (.int k (k.wrap (BitVec.ofInt k.bits a&&&BitVec.ofInt k.bits b).toNat))
   |.or=>.val (.int k (k.wrap (BitVec.ofInt k.bits a|||BitVec.ofInt k.bits b).toNat))
   |.xor=>.val (.int k (k.wrap (BitVec.ofInt k.bits a^^^BitVec.ofInt k.bits b).toNat))
   |.andNot=>.val (.int k (k.wrap (BitVec.ofInt k.bits a&&&~~~BitVec.ofInt k.bits b).toNat))
   |.eql=>.val (.bool (decide (a=b)))
   |.neq=>.val (.bool (!decide (a=b)))
   |.lss=>.val (.bool (decide (a<b)))
   |.leq=>.val (.bool (decide (a<=b)))
   |.gtr=>.val (.bool (decide (b<a)))
   |.geq=>.val (.bool (decide (b<=a)))
   |_=>.none))
def Mz (op:BinOp)(a b:ζ):Act:=
 match op with
 |.add=>.ask ζ (kY a b) λs=>.val (.string s)
 |.eql=>.val (.bool (mY a b))
 |.neq=>.val (.bool (!mY a b))
 |.lss=>.val (.bool (ltS a b))
 |.leq=>.val (.bool (ltS a b||mY a b))
 |.gtr=>.val (.bool (!(ltS a b||mY a b)))
 |.geq=>.val (.bool (!ltS a b))
 |_=>.none
def ym (op:BinOp)(b:Bool):Act:=
 match op with
 |.eql=>.val (.bool b)
 |.neq=>.val (.bool (!b))
 |_=>.none
def eq1 (P:Program)(t:κ)(x y:ξ):Option Bool:=
 match x,y with
 |.int k a,.int k' b=>(match P.underlying t with
  |some (.int _)=>(match OT k k' with|true=>some (decide (a=b))|false=>none)
  |_=>none)
 |.bool a,.bool b=>(match P.underlying t with|some .bool=>some (a==b)|_=>none)
 |.string a,.string b=>(match P.underlying t with|some .string=>some (mY a b)|_=>none)
 |_,_=>none
def MA (P:Program):List Field->Nat->δ->δ->Option Bool
 |[],_,xs,ys=>(match xs,ys with | [],[]=>some true|_,_=>none)
 |f::fs,o,xs,ys=>(match xs,ys with
  |x :: xs, y :: ys => (match f.name == "_", Nat.beq f.offset o with
   |false,true=>(match eq1 P f.type x y with
    |some a=>(match MA P fs (o+1) xs ys with|some b=>some (a&&b)|none=>none)
    |none=>none)
   |_,_=>none)
  |_,_=>none)
def HU (o:μ):M Nat:=λh=>match o with
 |some r=>some (r,h)
 |none=>none
def ahW (a b:Nat):M Nat:=HU (FloatKind.f64.format.add a b)
def ahX (a b:Nat):M Nat:=HU (FloatKind.f64.format.sub a b)
def MC (a b:Nat):M Nat:=HU (FloatKind.f64.format.mul a b)
def ahY (a b:Nat):M Nat:=HU (FloatKind.f64.format.div a b)
def HV (a b:Nat):Bool:=FloatKind.f64.format.order a b==some .eq
def fLt (a b:Nat):Bool:=FloatKind.f64.format.order a b==some .lt
def fGt (a b:Nat):Bool:=FloatKind.f64.format.order a b==some .gt
def V8 (n:Int):Nat:=FloatKind.f64.nearest n
def afb (b:Nat):Nat:=Op.negFloat .f64 b
def MD (op:BinOp)(a b:Nat):Act:=
 match op with
 |.add=>.ask Nat (ahW a b) λr=>.val (.float .f64 r)
 |.sub=>.ask Nat (ahX a b) λr=>.val (.float .f64 r)
 |.mul=>.ask Nat (MC a b) λr=>.val (.float .f64 r)
 |.quo=>.ask Nat (ahY a b) λr=>.val (.float .f64 r)
 |.eql=>.val (.bool (HV a b))
 |.neq=>.val (.bool (!HV a b))
 |.lss=>.val (.bool (fLt a b))
 |.leq=>.val (.bool (fLt a b||HV a b))
 |.gtr=>.val (.bool (fGt a b))
 |.geq=>.val (.bool (fGt a b||HV a b))
 |_=>.none
def V9 (P:Program)(op:BinOp)(t:κ)(x y:ξ):Act:=
 match x,y with
 |.int k a,.int k' b=>My op k a k' b
 |.string a,.string b=>Mz op a b
 |.float .f64 a,.float .f64 b=>MD op a b
 |.bool a,.bool b=>(match P.underlying t with|some .bool=>ym op (a==b)|_=>.none)
 |.slice a _ _,.slice none _ _=>(match P.underlying t with|some (.slice _)=>ym op a.isNone|_=>.none)
 |.pointer a,.pointer none=>(match P.underlying t with|some (.pointer _)=>ym op a.isNone|_=>.none)
 |.map a,.map none=>(match P.underlying t with|some (.map _ _)=>ym op a.isNone|_=>.none)
 |.agg xs,.agg ys=>(match P.underlying t,P.stoodInHeld t,P.eqGuardType P.depth t with
  |some (.struct fs),false,false=>(match MA P fs.toList 0 xs.toList ys.toList with|some b=>ym op b|none=>.none)
  |_,_,_=>.none)
 |_,_=>.none
def Wa (P:Program)(op:BinOp)(t:κ)(x y:ξ):Act:=
 match y with
 |.nilIface=>Fe P op t x
 |y=>V9 P op t x y
def aun (op:UnOp)(x:ξ):Act:=
 match op,x with
 |.neg,.int k n=>.val (.int k (k.wrap (0-n)))
 |.not,.bool b=>.val (.bool (!b))
 |.neg,.float .f64 b=>.val (.float .f64 (afb b))
 |_,_=>.none
def inB (a:Addr):M Addr:=λh=>
 match h.get a.block with
 |some (.cells c _ _ _)=>if a.off<c.length then some (a,h) else none
 |_=>none
def atB (u:κ)(k:Nat)(a:Addr):M Addr:=λh=>
 match h.get a.block with
 |some (.cells c g _ e)=>if g=a.block+1/\k<=c.length/\e=u/\a.off=0 then some (a,h) else none
 |_=>none
def ab.shut (h:ab)(g:Nat):ab:={ h with get:=λj=>match h.get j with
 |some (.cells c' g' base' e')=>cond (Nat.beq g' g) none (some (.cells c' g' base' e'))
 |o=>o }
def aap (e:κ)(p:θ)(n:Int):M ζ:=λh=>
 match p with
 |none=>if n=0 then some (ofBytes [],h) else none
 |some a=>(match h.get a.block,aX h (some a) n.toNat with
  |some (.cells _ g _ e'),some cs=>if 0<n/\n<=1073741824/\g≠0/\e'=e then (match bytesOf cs with|some l=>some (ofBytes l,h.shut g)|none=>none) else none
  |_,_=>none)
def Ee (p:θ)(n:Nat):M θ:=λh=>
 match p with
 |none=>some (none,h)
 |some a=>if n≠0 then some (some a,h) else none
def MF (P:Program)(src dst:κ)(x:ξ):Act:=
 match P.underlying src,P.underlying dst,x with
 |some (.pointer t),some .unsafePointer,.pointer p=>(match bX P t with
  |some (_+1)=>.ask Addr (nn p) λa=>.ask Addr (inB a) λa=>.val (.pointer (some a))
  |_=>.none)
 |some .unsafePointer,some (.pointer u),.pointer p=>(match bX P u with
  |some (k+1)=>(match Nat.beq (P.cellsOf u) (k+1)&&rowAt P (sameLayout P P.depth · u) P.depth u 1 0 1 with
   |true=>.ask Addr (nn p) λa=>.ask Addr (atB u (k+1) a) λa=>.val (.pointer (some a))
   |false=>.none)
  |_=>.none)
 |some (.int _),some (.int k),.int _ n=>.val (.int k (k.wrap n))
 |some (.int _),some (.float .f64),.int _ n=>.val (.float .f64 (V8 n))
 |some (.slice e),some .string,.slice a n c=>(match P.underlying e with
  |some (.int .u8)=>.ask ζ (strOf ⟨a,n,c⟩) λs=>.val (.string s)
  |_=>.none)
 |_,_,_=>.none
def partsOf (E:Env):List (Nat×Operand)->Option (List (Nat×ξ))
 |[]=>some []
 |(i,x)::r=>match E.ev x,partsOf E r with
  |some v,some vs=>some ((i,v)::vs)
  |_,_=>none
def y8 (place:Nat->Option (Nat×Nat))(cells:δ):List (Nat×ξ)->Option δ
 |[]=>some cells
 |(i,v)::rest=>
  match place i with
  |none=>none
  |some (off,size)=>
   match Nat.beq v.cells.size size&&Nat.ble (off+v.cells.size) cells.length with
   |true=>y8 place (bh cells off v.cells.toList) rest
   |false=>none
def placesOf (P:Program):List Field->Option (List (Nat×Nat))
 |[]=>some []
 |f::r=>match bX P f.type,placesOf P r with
  |some n,some l=>some ((f.offset,n)::l)
  |_,_=>none
def Jf (P:Program)(t:κ)(parts:List (Nat×ξ)):Act:=
 match P.underlying t,zeroOf P t with
 |some (.struct fs),some z=>(match placesOf P fs.toList with
  |some pl=>(match y8 (λi=>pl[i]?) z.cells.toList parts with
   |some cs=>.val (.agg cs.toArray)
   |none=>.none)
  |none=>.none)
 |some (.array _ e),some z=>(match bX P e with
  |some n=>(match y8 (λi=>some (i*n,n)) z.cells.toList parts with
   |some cs=>.val (.agg cs.toArray)
   |none=>.none)
  |none=>.none)
 |_,_=>.none
def sX (P:Program)(nm:μ)(t:κ)(len:Nat)(parts:List (Nat×ξ)):Act:=
 match P.underlying t with
 |some (.slice e)=>(match bX P e,zeroOf P e with
  |some n,some z=>(match Nat.ble (len*n) 16777216,y8 (λi=>some (i*n,n)) (List.replicate len z.cells.toList).flatten parts with
   |true,some cs=>.ask Nat (aJ nm e cs) λb=>.val (.slice (some ⟨b,0,none⟩) len (len+1))
   |_,_=>.none)
  |_,_=>.none)
 |_=>.none
def y9 (v:ξ)(k:Addr->Act):Act:=
 match v with
 |.pointer (some a)=>k a
 |_=>.none
def EE (E:Env):Option Operand->Option (Option ξ)
 |some x=>(match E.ev x with|some v=>some (some v)|none=>none)
 |none=>some none
def Gc (P:Program)(t:κ)(x:ξ)(lo hi mx:Option ξ):Act:=
 match P.underlying t,x,mx with
 |some .string,.string s,none=>(match lo,hi with
  |none,none=>.ask ζ (hY s 0 s.size) λr=>.val (.string r)
  |some (.int _ l),none=>.ask ζ (hY s l s.size) λr=>.val (.string r)
  |none,some (.int _ h)=>.ask ζ (hY s 0 h) λr=>.val (.string r)
  |some (.int _ l),some (.int _ h)=>.ask ζ (hY s l h) λr=>.val (.string r)
  |_,_=>.none)
 |some (.slice e),.slice a n c,none=>(match bX P e with
  |some z=>(match lo,hi with
   |none,none=>.ask Sl (jT ⟨a,n,c⟩ 0 n e z) λr=>.val (.slice r.a r.len r.cap)
   |some (.int _ l),none=>.ask Sl (jT ⟨a,n,c⟩ l n e z) λr=>.val (.slice r.a r.len r.cap)
   |none,some (.int _ h)=>.ask Sl (jT ⟨a,n,c⟩ 0 h e z) λr=>.val (.slice r.a r.len r.cap)
   |some (.int _ l),some (.int _ h)=>.ask Sl (jT ⟨a,n,c⟩ l h e z) λr=>.val (.slice r.a r.len r.cap)
   |_,_=>.none)
  |none=>.none)
 |some (.array len e),.pointer (some a),none=>(match bX P e with
  |some z=>(match lo,hi with
   |none,none=>.ask Sl (nr a len 0 len z) λr=>.val (.slice r.a r.len r.cap)
   |some (.int _ l),none=>.ask Sl (nr a len l len z) λr=>.val (.slice r.a r.len r.cap)
   |none,some (.int _ h)=>.ask Sl (nr a len 0 h z) λr=>.val (.slice r.a r.len r.cap)
   |some (.int _ l),some (.int _ h)=>.ask Sl (nr a len l h z) λr=>.val (.slice r.a r.len r.cap)
   |_,_=>.none)
  |none=>.none)
 |_,_,_=>.none
def wK (P:Program)(strict:Bool)(b:Builtin)(ts:List κ)(vs:δ):Act:=
 match b,ts,vs with
 |.len,t::_,[.string s]=>(match P.underlying t with|some .string=>.val (.int .i64 s.size)|_=>.none)
 |.len,t::_,[.slice _ n _]=>(match P.underlying t with|some (.slice _)=>.val (.int .i64 n)|_=>.none)
 |.copy,[t,t'],[.slice a n c,.slice a' n' c']=>(match P.underlying t,P.underlying t' with
  |some (.slice e),some (.slice _)=>(match bX P e with
   |some z=>.ask Nat (yl ⟨a,n,c⟩ ⟨a',n',c'⟩ z) λk=>.val (.int .i64 k)
   |none=>.none)
  |_,_=>.none)
 |.min,_,[.int k x,.int k' y]=>(match OT k k' with|true=>.val (.int k (if y<x then y else x))|false=>.none)
 |.max,_,[.int k x,.int k' y]=>(match OT k k' with|true=>.val (.int k (if x<y then y else x))|false=>.none)
 |.append,[t,t'],[.slice a n c,.slice a' n' c']=>(match P.underlying t,P.underlying t' with
  |some (.slice e),some (.slice e')=>(match bX P e,zeroOf P e,bX P e' with
   |some z,some _,some z'=>(match Nat.beq z z'&&Nat.ble ((match P.info? e with|some i=>i.bytes|none=>0)) 4096 with
    |true=>.ask δ (OU ⟨a',n',c'⟩ z) λcs=>.ask Sl (app strict ⟨a,n,c⟩ z e n' cs) λr=>.val (.slice r.a r.len r.cap)
    |false=>.none)
   |_,_,_=>.none)
  |_,_=>.none)
 |.append,[t,t'],[.slice a n c,.string s]=>(match P.underlying t,P.underlying t' with
  |some (.slice e),some .string=>(match P.underlying e,zeroOf P e,bX P e with
   |some (.int .u8),some _,some 1=>(match Nat.ble ((match P.info? e with|some i=>i.bytes|none=>0)) 4096 with
    |true=>.ask Sl (app strict ⟨a,n,c⟩ 1 e s.size (eV s)) λr=>.val (.slice r.a r.len r.cap)
    |false=>.none)
   |_,_,_=>.none)
  |_,_=>.none)
 |.unsafeSliceData,_,[.slice a n _]=>.ask θ (Ee a n) λp=>.val (.pointer p)
 |.unsafeString,t::_,[.pointer p,.int .i64 n]=>(match P.underlying t with
  |some (.pointer e)=>(match Nat.beq (P.cellsOf e) 1 with
   |true=>.ask ζ (aap e p n) λs=>.val (.string s)
   |false=>.none)
  |_=>.none)
 |_,_,_=>.none
def eqP (a b:θ):M Bool:=λh=>match a,b with
 |some a,some b=>(match Nat.beq a.block b.block&&Nat.beq a.off b.off with|true=>some (true,h)|false=>none)
 |_,_=>none
def ah0:Operand->ξ->ξ->Option (θ×θ)
 |.const _,_,_=>none
 |_,.pointer a,.pointer b=>some (a,b)
 |_,_,_=>none
def Wb (y:Operand)(u:ξ):Bool:=
 match u with
 |.nilIface=>(match y with | .const _=>true|_=>false)
 |_=>true
def yZ (P:Program)(nm:μ)(E:Env)(o:Oper):Act:=
 match o.op with
 |.move x | .assign x=>(match E.ev x with|some v=>.val v|none=>.none)
 |.alloc t=>(match zeroOf P t with
  |some z=>.ask Nat (aJ nm t z.cells.toList) λb=>.val (.pointer (some ⟨b,0,none⟩))
  |none=>.none)
 |.box t x=>(match E.ev x with
  |some v=>.ask Nat (aJ nm t v.cells.toList) λb=>.val (.pointer (some ⟨b,0,none⟩))
  |none=>.none)
 |.build t parts=>(match partsOf E parts.toList with|some vs=>Jf P t vs|none=>.none)
 |.buildSlice t len parts=>(match partsOf E parts.toList with|some vs=>sX P nm t len vs|none=>.none)
 |.load t x=>(match E.ev x with|some v=>y9 v λa=>HS P t a|none=>.none)
 |.store t x y=>(match E.ev x,E.ev y,bX P t with
  |some v,some u,some n=>y9 v λa=>(match Nat.beq u.cells.size n with
   |true=>.ask Unit (bD a u.cells.toList) λ_=>.val undef
   |false=>.none)
  |_,_,_=>.none)
 |.nilCheck x=>(match P.underlying o.type with
  |some (.func _ _ _)=>(match E.ev x with
   |some v=>.ask Unit (nnF v) λ_=>.val v
   |none=>.none)
  |_=>(match E.ev x with
   |some (.pointer p)=>.ask Addr (nn p) λa=>.val (.pointer (some a))
   |_=>.none))
 |.binOp op t x y _=>(match E.ev x,E.ev y with
  |some v,some u=>(match Wb y u with
   |true=>(match ah0 y v u with
    |some (a,b)=>(match P.underlying t with
     |some (.pointer e)=>(match bX P e with|some _=>.ask Bool (eqP a b) λr=>ym op r|none=>.none)
     |_=>.none)
    |none=>Wa P op t v u)
   |false=>.none)
  |_,_=>.none)
 |.unOp op _ x=>(match E.ev x with|some v=>aun op v|none=>.none)
 |.convert s d x=>(match E.ev x with|some v=>MF P s d v|none=>.none)
 |.makeInterface t x=>(match E.ev x,P.underlying t with
  |some _,some (.interface _)=>.none
  |some v,some _=>.val (.iface t v)
  |_,_=>.none)
 |.makeFunc fn fs cs=>(match E.Rj fs.toList,E.Rj cs.toList with
  |some f,some c=>.val (.func fn f.toArray c.toArray)
  |_,_=>.none)
 |.makeSlice t l c=>(match P.underlying t,E.ev l,E.ev c with
  |some (.slice e),some (.int _ n),some (.int _ m)=>(match zeroOf P e,Nat.ble ((match P.info? e with|some i=>i.bytes|none=>0)) 4096 with
   |some z,true=>.ask Sl (vG nm e z.cells.toList n m) λr=>.val (.slice r.a r.len r.cap)
   |_,_=>.none)
  |_,_,_=>.none)
 |.slice t x lo hi mx=>(match E.ev x,EE E lo,EE E hi,EE E mx with
  |some v,some l,some h,some m=>Gc P t v l h m
  |_,_,_,_=>.none)
 |.fieldAddr s x f=>(match P.underlying s,E.ev x with
  |some (.struct fs),some v=>(match fs[f]? with
   |some fd=>(match bX P fd.type with
    |some n=>(match Nat.beq n 0 with
     |true=>.none
     |false=>y9 v λa=>.val (.pointer (some (a.plus fd.offset))))
    |none=>.none)
   |none=>.none)
  |_,_=>.none)
 |.field s x f=>(match P.underlying s,E.ev x with
  |some (.struct fs),some (.agg cs)=>(match fs[f]? with
   |some fd=>(match P.underlying fd.type,bX P fd.type with
    |some d,some n=>(match y7 d with
     |true=>.val (.agg ((cs.toList.drop fd.offset).take n).toArray)
     |false=>(match cs.toList[fd.offset]? with|some v=>.val v|none=>.none))
    |_,_=>.none)
   |none=>.none)
  |_,_=>.none)
 |.indexAddr t x i=>(match P.underlying t,E.ev x,E.ev i with
  |some (.slice e),some (.slice a n c),some (.int _ j)=>(match bX P e with
   |some z=>.ask Addr (an ⟨a,n,c⟩ j z) λr=>.val (.pointer (some r))
   |none=>.none)
  |some (.array n e),some (.pointer (some a)),some (.int _ j)=>(match bX P e with
   |some z=>.ask Unit (ou (decide (0<=j/\j<(n:Int)))) λ_=>.val (.pointer (some (a.plus (j.toNat*z))))
   |none=>.none)
  |_,_,_=>.none)
 |.index t x i=>(match P.underlying t,E.ev x,E.ev i with
  |some .string,some (.string s),some (.int _ j)=>.ask UInt8 (jy s j) λb=>.val (.int .u8 b.toNat)
  |some (.array n e),some (.agg cs),some (.int _ j)=>(match P.underlying e,bX P e with
   |some d,some 1=>(match y7 d,Je d with
    |false,some l=>.ask l.den (HR l n cs.toList j) λx=>.val (F8 l x)
    |_,_=>.none)
   |_,_=>.none)
  |_,_,_=>.none)
 |.makeMap t r=>(match P.underlying t,EE E r with
  |some (.map k _),some none=>(match Mx P k with|some _=>(match nm with|none=>.ask Nat (B5 k) λm=>.val (.map (some m))|some b=>.ask Nat (B6 b k) λm=>.val (.map (some m)))|none=>.none)
  |some (.map k _),some (some (.int _ _))=>(match Mx P k with|some _=>(match nm with|none=>.ask Nat (B5 k) λm=>.val (.map (some m))|some b=>.ask Nat (B6 b k) λm=>.val (.map (some m)))|none=>.none)
  |_,_=>.none)
 |.lookup t x i ok=>(match P.underlying t,E.ev x,E.ev i with
  |some (.map k e),some (.map m),some kv=>(match o7 P k kv,ahU P e,zeroOf P e with
   |true,some T,some zv=>(match Mv T zv with
    |some z=>.ask (Bool×T.den) (rK k T z m kv) λr=>.val (match ok with|true=>.tuple #[Ec T r.2,.bool r.1] | false=>Ec T r.2)
    |none=>.none)
   |_,_,_=>.none)
  |_,_,_=>.none)
 |.mapEntry t x i=>(match P.underlying t,E.ev x,E.ev i with
  |some (.map k e),some (.map m),some kv=>(match o7 P k kv,ahU P e,zeroOf P e with
   |true,some T,some zv=>(match Mv T zv with
    |some z=>.ask (T.den×Nat) (xk k T z m kv) λr=>.val (.tuple #[Ec T r.1,.int .i64 r.2])
    |none=>.none)
   |_,_,_=>.none)
  |_,_,_=>.none)
 |.entryStore _ x i y=>(match E.ev x,E.ev i,E.ev y with
  |some (.map m),some (.int _ st),some v=>.ask Unit (xl m st v) λ_=>.val undef
  |_,_,_=>.none)
 |.mapUpdate t x i y | .insert t x i y=>(match P.underlying t,E.ev x,E.ev i,E.ev y with
  |some (.map k _),some (.map m),some kv,some v=>(match o7 P k kv with
   |true=>.ask Unit (Ed k m kv v) λ_=>.val undef
   |false=>.none)
  |_,_,_,_=>.none)
 |.extract x i=>(match E.ev x with
  |some (.tuple vs)=>(match vs.toList[i]? with|some v=>.val v|none=>.none)
  |_=>.none)
 |.call c=>(match c.callee,E.Rj c.args.toList with
  |.builtin b,some vs=>wK P nm.isSome b c.argTypes.toList vs
  |_,_=>.none)
 |_=>.none
abbrev Path:=η
def child:Code->Nat->Code
 |.seq a _,0=>a
 |.seq _ b,_=>b
 |.cond _ a _,0=>a
 |.cond _ _ b,_=>b
 |.block _ c,_=>c
 |.loop c,_=>c
 |.scope c,_=>c
 |c,_=>c
def cA (c:Code):Path->Code
 |[]=>c
 |i::p=>child (cA c p) i
inductive vH where
 |code (p:Path)
 |av (id:Nat)
 |scp (p:Path)
inductive gi where
 |normal
 |exit (id:Nat)
 |ret
def eqE:gi->gi->Bool
 |.normal,.normal=>true
 |.exit a,.exit b=>Nat.beq a b
 |.ret,.ret=>true
 |_,_=>false
def uK:Path->Path->Bool
 |[],[]=>true
 |a::p,b::q=>Nat.beq a b&&uK p q
 |_,_=>false
def eqItems:List vH->List vH->Bool
 |[],[]=>true
 |.code p::k,.code q::l=>uK p q&&eqItems k l
 |.av a::k,.av b::l=>Nat.beq a b&&eqItems k l
 |.scp p::k,.scp q::l=>uK p q&&eqItems k l
 |_,_=>false
structure uf:Type 1 where
 α:Type
 m:M α
 pk:α->ξ
structure afc:Type 1 where
 α:Type
 m:M (α⊕ξ)
 pk:α->ξ
inductive xm:Type 1 where
 |one (α:Type) (m:M α) (e:gi) (out:α->Env)
 |two (α β:Type) (m:M (α⊕β)) (e:gi) (out:α->Env) (e':gi) (out':β->Env)
 |ah2 (α:Type) (m:M (α⊕ξ)) (e:gi) (out:α->Env)
 |ah3 (α β:Type) (m:M ((α⊕β)⊕ξ)) (e:gi) (out:α->Env) (e':gi) (out':β->Env)
 |none
structure mR:Type 1 where
 st:FuncId->δ->Option uf
 dy:Nat->ξ->δ->Option uf
 aka:Nat->Bool
 mo:FuncId->Bool
 sp:FuncId->δ->Option afc
 isP:FuncId->Bool
structure MG (R:Type) where
 call:mR
 loop:Path->Env->xm
 join:Path->Option (List vH×(Env->Option (M R)))
 draw:Nat->Option (List (Nat×η))
 tY:ξ->M R
def o8 (id:Nat):List vH->Option (List vH)
 |.av id'::k=>(match Nat.beq id' id with|true=>some k|false=>o8 id k)
 |_::k=>o8 id k
 |[]=>none
def Env.sY (E:Env)(c:Operand)(b:Bool):Env:=
 match c with
 |.tmp t=>E.set t (.bool b)
 |_=>E
def bu {α β R:Type}(f:α->M R)(g:β->M R):α⊕β->M R
 |.inl x=>f x
 |.inr y=>g y
def callee (E:Env)(c:Call):Option (FuncId×δ):=
 match c.callee,E.Rj c.args.toList with
 |.value f,some vs=>(match E.ev f with
  |some (.func (.func g) first captured)=>some (g,first.toList++vs++captured.toList)
  |_=>none)
 |_,_=>none
def wb (C:mR)(c:Call):μ:=
 match c.callee with
 |.value (.tmp t)=>(match C.aka t with|true=>some t|false=>none)
 |_=>none
def ug (E:Env)(t:Nat)(c:Call):Option (ξ×δ):=
 match E t,E.Rj c.args.toList with
 |some x,some vs=>some (x,vs)
 |_,_=>none
def isBuiltin:Call->Bool:=λc=>match c.callee with
 |.builtin _=>true
 |_=>false
def wc {R:Type}(b:Bool)(x y:M R):M R:=if b=true then x else y
abbrev Wr:=Nat×Option η
def Mr (W:Wr)(d:μ):Bool:=
 match d with
 |none=>true
 |some i=>Nat.blt i W.1&&(match W.2 with
  |some l=>l.any (Nat.beq i)
  |none=>true)
abbrev fS:=Nat->Option (Nat×δ)
def fS.emp:fS:=λ_=>none
def Env.del (E:Env)(d:μ):Env:=
 match d with
 |some i=>λj=>cond (Nat.beq j i) none (E j)
 |none=>E
def fS.del (L:fS)(d:μ):fS:=
 match d with
 |some i=>λj=>cond (Nat.beq j i) none (L j)
 |none=>L
def fS.put (L:fS)(d:μ)(x:Nat×δ):fS:=
 match d with
 |some i=>λj=>cond (Nat.beq j i) (some x) (L j)
 |none=>L
def OZ (ops:Array Oper)(t:Nat):Bool:=ops.toList.any λo=>match o.op with
 |.call c=>(match c.callee,c.args.toList with
  |.builtin .append,[_,.tmp u]=>Nat.beq u t
  |_,_=>false)
 |_=>false
def B8 (P:Program)(t:κ)(len:Nat)(parts:List (Nat×ξ)):Option δ:=
 match P.underlying t with
 |some (.slice e)=>(match bX P e,zeroOf P e with
  |some n,some z=>(match Nat.ble (len*n) 16777216,y8 (λi=>some (i*n,n)) (List.replicate len z.cells.toList).flatten parts with
   |true,some cs=>(match cs.all eB with|true=>some cs|false=>none)
   |_,_=>none)
  |_,_=>none)
 |_=>none
def uL (L:fS)(c:Call):Option (Nat×δ):=
 match c.callee,c.args.toList with
 |.builtin .append,[_,.tmp t]=>L t
 |_,_=>none
def uM (P:Program)(strict:Bool)(E:Env)(c:Call)(n:Nat)(cs:δ):Act:=
 match c.argTypes.toList,c.args.toList with
 |[t,t'],[s,_]=>(match E.ev s,P.underlying t,P.underlying t' with
  |some (.slice a m k),some (.slice e),some (.slice _)=>(match bX P e,zeroOf P e with
   |some z,some _=>(match Nat.ble ((match P.info? e with|some i=>i.bytes|none=>0)) 4096 with
    |true=>.ask Sl (app strict ⟨a,m,k⟩ z e n cs) λr=>.val (.slice r.a r.len r.cap)
    |false=>.none)
   |_,_=>.none)
  |_,_,_=>.none)
 |_,_=>.none
def yo (P:Program)(ops:Array Oper)(E:Env)(o:Oper):Option (Nat×δ):=
 match o.op,o.dst with
 |.buildSlice t len parts,some d=>(match OZ ops d with
  |true=>(match partsOf E parts.toList with
   |some vs=>(match B8 P t len vs with|some cs=>some (len,cs)|none=>none)
   |none=>none)
  |false=>none)
 |_,_=>none
def rL (cks:List θ):Act->Act
 |.ask α m k=>(match cks with
  |[]=>.ask α m k
  |cks=>.ask α (oo cks m) k)
 |A=>A
def wrapM {α:Type}(cks:List θ)(m:M α):M α:=
 match cks with
 |[]=>m
 |cks=>oo cks m
def HW (l:η)(i:Nat):Bool:=l.any (Nat.beq i)
def B9 (ops:Array Oper)(o:Oper):Bool:=
 match o.op with
 |.call c=>(match c.callee with
  |.builtin .append=>(match o.dst with
   |some d=>ops.toList.any λp=>(match p.op with
    |.call c=>!isBuiltin c&&HW (p.op.operands.toList.filterMap λ| .tmp t=>some t|_=>none) d
    |_=>false)
   |none=>false)
  |_=>false)
 |_=>false
def HX (ops:Array Oper)(o:Oper):Bool:=
 match o.op with
 |.call c=>(match c.callee,c.args.toList with
  |.builtin .append,.tmp d::_=>ops.toList.any λp=>(match p.op,p.dst with
   |.buildSlice _ _ _,some e=>Nat.beq d e
   |_,_=>false)
  |_,_=>false)
 |_=>false
def Ar (b:Bool)(E:Env)(c:Call)(A:Act):Act:=
 match b with
 |false=>A
 |true=>(match c.args.toList with
  |s::_=>(match E.ev s with
   |some (.slice _ _ k)=>(match Nat.beq k 0 with|true=>.none|false=>A)
   |_=>.none)
  |[]=>.none)
theorem Db {b:Bool}{E:Env}{c:Call}{A:Act}{h:ab}{r:ξ×ab}(e:(Ar b E c A).exec h=some r):Ar b E c A=A:=by
 unfold Ar at *
 repeat' (first|rfl|(cases e;done)|split at e)
def byB {α:Type 1}(b:Bool)(f:Bool->α):α:=
 match b with
 |true=>f true
 |false=>f false
theorem O0 {α:Type 1}{b:Bool}{f:Bool->α}:byB b f=f b:=by cases b<;>rfl
inductive Cls where
 |sil|ro|mro|alloc|add|mka|eff
def A9:Bool->Cls
 |true=>.eff
 |false=>.add
def cls (P:Program)(ops:Array Oper)(o:Oper):Cls:=
 match o.op with
 |.move _ | .assign _ | .pick _ _ _ | .build _ _ | .nilCheck _ | .binOp _ _ _ _ _ | .unOp _ _ _ | .makeInterface _ _ | .makeFunc _ _ _ | .fieldAddr _ _ _ | .field _ _ _ | .indexAddr _ _ _ | .index _ _ _ | .extract _ _=>.sil
 |.load _ _=>.ro
 |.slice t _ _ _ _=>(match P.underlying t with|some .string=>.sil|some (.slice _)=>.ro|some (.array _ _)=>.sil|_=>.eff)
 |.convert s d _=>(match P.underlying s,P.underlying d with
  |some (.slice _),some .string=>.ro
  |some (.int _),some _=>.sil
  |some .string,some .string=>.sil
  |_,_=>.eff)
 |.buildSlice _ _ _=>(match o.dst with
  |some d=>(match OZ ops d with|true=>.sil|false=>.alloc)
  |none=>.eff)
 |.alloc _ | .box _ _ | .makeSlice _ _ _=>.alloc
 |.lookup _ _ _ _=>.mro
 |.makeMap _ _=>.mka
 |.call c=>(match c.callee with
  |.builtin .append=>A9 (B9 ops o)
  |.builtin .len=>(match c.argTypes.toList with
   |t::_=>(match P.underlying t with|some (.map _ _)=>.mro|_=>.sil)
   |[]=>.sil)
  |.builtin .min | .builtin .max | .builtin .unsafeSliceData=>.sil
  |_=>.eff)
 |_=>.eff
def xo (o:Oper):Bool:=
 match o.op with
 |.store _ _ _=>true
 |_=>false
def Ef:Cls->Bool
 |.alloc=>true
 |_=>false
def EF (P:Program)(ops:Array Oper)(nb:μ)(cs:η):η:=
 match nb with
 |none=>[]
 |some b=>(cs.filter λi=>match ops[i]? with
  |some o=>Ef (cls P ops o)
  |none=>false).map (b+·)
def okK (h:ab)(a:Addr)(ks:η):Bool:=
 match h.get a.block with
 |some (.cells _ g _ _)=>ks.all λk=>!Nat.beq a.block k&&!Nat.beq g (k+1)
 |_=>false
def Gd {α:Type}(ks:η)(a:Addr)(m:M α):M α:=λh=>match okK h a ks with
 |true=>m h
 |false=>none
def MH (ks:η)(a:Addr):Act->Act
 |.ask α m k=>.ask α (Gd ks a m) k
 |A=>A
def wL {R:Type}(P:Program)(C:mR)(W:Wr)(nm:μ)(cks:List θ)(ks:η)(ops:Array Oper)(E:Env)(L:fS)(o:Oper)(K:Env->fS->M R):M R:=
 match Mr W o.dst with
 |false=>AS
 |true=>
 match o.op with
 |.pick c a b=>(match E.ev c with
  |some (.bool t)=>
   wc t (match (E.sY c true).ev a with|some v=>K ((E.sY c true).put o.dst v) (L.del o.dst)|none=>AS)
    (match (E.sY c false).ev b with|some v=>K ((E.sY c false).put o.dst v) (L.del o.dst)|none=>AS)
  |_=>AS)
 |.call c=>(match isBuiltin c with
  |true=>(match uL L c with
   |some (n,cs)=>(byB (nm.isSome&&!B9 ops o) λb=>rL cks (Ar (HX ops o) E c (uM P b E c n cs))).run λv=>K (E.put o.dst v) (L.del o.dst)
   |none=>(match B9 ops o with
    |true=>AS
    |false=>(rL cks (Ar (HX ops o) E c (yZ P nm E o))).run λv=>K (E.put o.dst v) (L.del o.dst)))
  |false=>(match wb C c with
   |some t=>(match ug E t c with
    |some (x,vs)=>(match C.dy t x vs with
     |some ca=>sh (wrapM cks ca.m) λx=>K (E.put o.dst (ca.pk x)) (L.del o.dst)
     |none=>AS)
    |none=>AS)
   |none=>(match callee E c with
    |some (f,vs)=>(match C.st f vs with
     |some ca=>sh (wrapM cks ca.m) λx=>K (E.put o.dst (ca.pk x)) (L.del o.dst)
     |none=>AS)
    |none=>AS)))
 |.store _ x _=>(match ks with
  |[]=>(rL cks (yZ P nm E o)).run λv=>K (E.put o.dst v) (L.del o.dst)
  |ks=>(match E.ev x with
   |some (.pointer (some a))=>(MH ks a (rL cks (yZ P nm E o))).run λv=>K (E.put o.dst v) (L.del o.dst)
   |_=>AS))
 |.buildSlice _ _ _=>(match yo P ops E o with
  |some x=>K (E.del o.dst) (L.put o.dst x)
  |none=>(rL cks (yZ P nm E o)).run λv=>K (E.put o.dst v) (L.del o.dst))
 |_=>(rL cks (yZ P nm E o)).run λv=>K (E.put o.dst v) (L.del o.dst)
def lr (E:Env)(o:Oper):θ:=
 match o.op with
 |.load _ x=>(match E.ev x with|some (.pointer p)=>p|_=>none)
 |.slice _ x _ _ _=>(match E.ev x with|some (.slice a _ _)=>a|_=>none)
 |.convert _ _ x=>(match E.ev x with|some (.slice a _ _)=>a|_=>none)
 |_=>none
abbrev Wc:=Nat->θ
def iI {R:Type}(P:Program)(C:mR)(W:Wr)(nb:μ)(ops:Array Oper):List (Nat×η)->Env->fS->Wc->(Env->M R)->M R
 |[],E,_,_,K=>K E
 |(i,cs)::rest,E,L,A,K=>
  match ops[i]? with
  |none=>AS
  |some o=>
   match o.guard with
   |none=>wL P C W (nb.map (·+i)) (cs.map A) (EF P ops nb cs) ops E L o λE' L'=>iI P C W nb ops rest E' L' (λj=>cond (Nat.beq j i) (lr E o) (A j)) K
   |some (j,want)=>(match (ops[j]?).bind (·.dst) with
    |some t=>(match E t with
     |some (.bool b)=>
      (match want with
      |true=>wc b (wL P C W (nb.map (·+i)) (cs.map A) (EF P ops nb cs) ops (E.set t (.bool true)) L o λE' L'=>iI P C W nb ops rest E' L' (λj=>cond (Nat.beq j i) (lr E o) (A j)) K)
       (match Mr W o.dst with
       |true=>iI P C W nb ops rest ((E.set t (.bool false)).put o.dst undef) (L.del o.dst) A K
       |false=>AS)
      |false=>wc b (match Mr W o.dst with
       |true=>iI P C W nb ops rest ((E.set t (.bool true)).put o.dst undef) (L.del o.dst) A K
       |false=>AS)
       (wL P C W (nb.map (·+i)) (cs.map A) (EF P ops nb cs) ops (E.set t (.bool false)) L o λE' L'=>iI P C W nb ops rest E' L' (λj=>cond (Nat.beq j i) (lr E o) (A j)) K))
     |some (.tuple _)=>(match Mr W o.dst with
      |true=>iI P C W nb ops rest (E.put o.dst undef) (L.del o.dst) A K
      |false=>AS)
     |_=>AS)
    |none=>AS)
def ahO (C:mR)(o:Oper):Bool:=
 match o.op with
 |.call c=>(match c.callee with
  |.value (.func f)=>C.isP f
  |_=>false)
 |_=>false
def je (ops:Array Oper)(o:Oper):η:=
 (o.op.operands.toList.filterMap λ| .tmp t=>some t|_=>none)++(match o.guard with
  |some (j,_)=>(match (ops[j]?).bind (·.dst) with|some t=>[t] | none=>[])
  |none=>[])
def apart (ops:Array Oper)(o p:Oper):Bool:=
 (match o.dst with|some d=>!HW (je ops p) d|none=>true)&&(match p.dst with|some d=>!HW (je ops o) d|none=>true) &&
 (match o.dst,p.dst with|some d,some e=>!Nat.beq d e|_,_=>true)
def za (ops:Array Oper)(p:Oper):Bool:=
 match p.op with
 |.store _ _ _=>true
 |.call c=>!isBuiltin c||B9 ops p
 |_=>false
def wM (p:Oper):Option FuncId:=
 match p.op with
 |.call c=>(match c.callee with
  |.value (.func f)=>some f
  |_=>none)
 |_=>none
def Ff (P:Program)(ops:Array Oper)(i:Nat):Bool:=
 match ops[i]? with
 |some o=>Ef (cls P ops o)
 |none=>false
def bOf (P:Program)(ops:Array Oper)(f:FuncId):List (Nat×η)→μ
 | []=>none
 | (j,cs)::r=>(match (match ops[j]? with
   | some p=>(match wM p with
    | some g=>(match Nat.beq g f with | true=>cs.find? (Ff P ops) | false=>none)
    | none=>none)
   | none=>none) with
  | some i=>some i
  | none=>bOf P ops f r)
def bOK (P:Program)(C:mR)(ops:Array Oper)(l:List (Nat×η)):Bool:=
 l.all λ(j,cs)=>(match ops[j]? with
  |some p=>(match wM p with
   |some f=>cs.all λi=>!Ff P ops i||(!C.isP f&&(match bOf P ops f l with|some i'=>Nat.beq i i' | none=>false))
   |none=>true)
  |none=>true)
def mR.oo (C:mR)(P:Program)(nb:Nat)(ops:Array Oper)(l:List (Nat×η)):mR:={ C with
 st:=λf vs=>(match bOf P ops f l with
  |none=>C.st f vs
  |some i=>(match C.st f vs with
   |some ca=>some ⟨ca.α,Aq (nb+i) ca.m,ca.pk⟩
   |none=>none))
 mo:=C.mo }
def Rn (P:Program)(mo:FuncId->Bool)(ops:Array Oper)(o p:Oper)(ck:Bool):Bool:=
 apart ops o p&&(match cls P ops o,cls P ops p with
  |.sil,_|_,.sil | .ro,.ro | .ro,.alloc | .ro,.add | .alloc,.alloc | .ro,.mro=>true
  |.ro,.eff=>ck&&za ops p
  |.alloc,.eff=>ck&&(xo p||(wM p).isSome)
  |_,_=>false)
def wN (e:Edge):Bool:=match e.ground with
 |.textOnly _ | .gcOnly _=>false
 |_=>true
def Wd:η->η->η
 |[],a=>a
 |x::l,a=>Wd l (cond (HW a x) a (x::a))
def aaq (ops:List Oper):List η:=
 ops.foldl (λacc o=>acc++[Wd ((o.after.toList.filter wN).flatMap λe=>e.on::acc.getD e.on []) []]) []
def Fg (P:Program)(mo:FuncId→Bool)(ops:Array Oper)(pr:List η):List (Nat×η)→Bool
 | []=>true
 | (i,_)::r=>(r.all fun (j,cj)=>HW (pr.getD j []) i || (match ops[i]?,ops[j]? with
  | some o,some p=>Rn P mo ops o p (HW cj i)
  | _,_=>false)) && Fg P mo ops pr r
def O1 (P:Program)(mo:FuncId->Bool)(ops:Array Oper)(l:List (Nat×η)):Bool:=
 P.follows .mixedOrders&&(l.map (·.1)).isPerm (List.range ops.size) &&
 (ops.toList.zipIdx.all λ(o,i)=>o.after.toList.all λe=>!wN e||Nat.blt e.on i) &&
 Fg P mo ops (aaq ops.toList) l
def mR.mo' (C:mR):FuncId->Bool:=λf=>C.mo f&&!C.isP f
def We (P:Program)(ops:Array Oper):Bool:=ops.toList.any λo=>match cls P ops o with
 |.alloc | .mka=>true
 |_=>false
def den {R:Type}(P:Program)(body:Code)(T:MG R)(W:Wr)(fin:gi->Env->M R):Nat->Bool->List vH->Env->M R
 |0,_,_,_=>AS
 |_+1,_,[],E=>fin .normal E
 |n+1,_,.av _::k,E=>den P body T W fin n true k E
 |n+1,_,.scp _::k,E=>den P body T W fin n true k E
 |n+1,j,.code p::k,E=>
  match (match j with|true=>T.join p|false=>none) with
  |some (k',J)=>(match eqItems k k' with
   |true=>(match J E with|some m=>m|none=>AS)
   |false=>AS)
  |none=>
   match cA body p with
   |.skip=>den P body T W fin n true k E
   |.label _=>den P body T W fin n true k E
   |.seq _ _=>den P body T W fin n true (.code (0::p)::.code (1::p)::k) E
   |.cond c _ _=>(match E.ev c with
    |some (.bool b)=>wc b (den P body T W fin n true (.code (0::p)::k) (E.sY c true))
     (den P body T W fin n true (.code (1::p)::k) (E.sY c false))
    |_=>AS)
   |.block id _=>den P body T W fin n true (.code (0::p)::.av id::k) E
   |.scope _=>den P body T W fin n true (.code (0::p)::.scp (0::p)::k) E
   |.loop _=>(match T.loop p E with
    |.one _ m e out=>sh m λx=>(match e with
     |.normal=>AS
     |.ret=>fin .ret (out x)
     |.exit id=>(match o8 id k with
      |some k'=>den P body T W fin n true k' (out x)
      |none=>fin (.exit id) (out x)))
    |.two _ _ m e out e' out'=>sh m (bu
     (λx=>(match e with
      |.normal=>AS
      |.ret=>fin .ret (out x)
      |.exit id=>(match o8 id k with
       |some k'=>den P body T W fin n true k' (out x)
       |none=>fin (.exit id) (out x))))
     (λx=>(match e' with
      |.normal=>AS
      |.ret=>fin .ret (out' x)
      |.exit id=>(match o8 id k with
       |some k'=>den P body T W fin n true k' (out' x)
       |none=>fin (.exit id) (out' x)))))
    |.ah2 _ m e out=>sh m (bu (λx=>(match e with
     |.normal=>AS
     |.ret=>fin .ret (out x)
     |.exit id=>(match o8 id k with
      |some k'=>den P body T W fin n true k' (out x)
      |none=>fin (.exit id) (out x)))) T.tY)
    |.ah3 _ _ m e out e' out'=>sh m (bu (bu
     (λx=>(match e with
      |.normal=>AS
      |.ret=>fin .ret (out x)
      |.exit id=>(match o8 id k with
       |some k'=>den P body T W fin n true k' (out x)
       |none=>fin (.exit id) (out x))))
     (λx=>(match e' with
      |.normal=>AS
      |.ret=>fin .ret (out' x)
      |.exit id=>(match o8 id k with
       |some k'=>den P body T W fin n true k' (out' x)
       |none=>fin (.exit id) (out' x))))) T.tY)
    |.none=>AS)
   |.exit id=>(match o8 id k with
    |some k'=>den P body T W fin n true k' E
    |none=>fin (.exit id) E)
   |.ret=>fin .ret E
   |.region id ops draw=>(match draw with
    |true=>(match T.draw id with
     |some l=>(match O1 P (T.call.oo P 0 ops l).mo ops l&&bOK P T.call ops l with
      |true=>(match We P ops with
       |true=>sh (eU ops.size) λnb=>iI P (T.call.oo P nb ops l) W (some nb) ops l E fS.emp (λ_=>none) λE'=>den P body T W fin n true k E'
       |false=>iI P (T.call.oo P 0 ops l) W (some 0) ops l E fS.emp (λ_=>none) λE'=>den P body T W fin n true k E')
      |false=>AS)
     |none=>AS)
    |false=>iI P T.call W none ops ((List.range ops.size).map λi=>(i,[])) E fS.emp (λ_=>none) λE'=>den P body T W fin n true k E')
   |_=>AS
def lu (P:Program):List ResultVar->Env->δ->(δ->Act)->Act
 |[],_,acc,K=>K acc.reverse
 |.tmp t::r,E,acc,K=>(match E t with|some v=>lu P r E (v::acc) K|none=>.none)
 |.cell a t::r,E,acc,K=>(match E a with
  |some (.pointer (some x))=>(match HS P t x with
   |.val v=>lu P r E (v::acc) K
   |.ask α m k=>.ask α m λx=>resBind (k x) λv=>lu P r E (v::acc) K
   |.none=>.none)
  |_=>.none)
where
 resBind:Act->(ξ->Act)->Act
  |.val v,K=>K v
  |.ask α m k,K=>.ask α m λx=>resBind (k x) K
  |.none,_=>.none
def jU (f:Func):Code:=match f.body with
 |some c=>c
 |none=>.skip
def aar (ts:List Ty)(v:ξ):M (aH ts):=
 match unR ts v with
 |some r=>AI r
 |none=>AS
def O2 (P:Program)(f:Func)(ts:List Ty):gi->Env->M (aH ts):=λe E=>
 match e with
 |.exit _=>AS
 |_=>(lu P f.results.toList E [] λvs=>.val (fO vs)).run (aar ts)
def Eg (ls ms:List (Nat×Ty))(id:Nat)(next:aH (gJ ls)->M (aH (gJ ms))):gi->Env->M (aH (gJ ms)):=λe E=>
 match e with
 |.normal=>(match rv E ls with
  |some vs=>(match wa (gJ ls) vs with|some x=>next x|none=>AS)
  |none=>AS)
 |.exit id'=>(match Nat.beq id id',rv E ms with
  |true,some vs=>(match wa (gJ ms) vs with|some x=>AI x|none=>AS)
  |_,_=>AS)
 |.ret=>AS
def Iz (ls ms rs:List (Nat×Ty))(id:Nat)(e2:gi)(next:aH (gJ ls)->M (aH (gJ ms)⊕aH (gJ rs))) :
  gi->Env->M (aH (gJ ms)⊕aH (gJ rs)):=λe E=>
 match e with
 |.normal=>(match rv E ls with
  |some vs=>(match wa (gJ ls) vs with|some x=>next x|none=>AS)
  |none=>AS)
 |e=>(match eqE e (.exit id) with
  |true=>(match rv E ms with
   |some vs=>(match wa (gJ ms) vs with|some x=>AI (.inl x)|none=>AS)
   |none=>AS)
  |false=>(match eqE e e2 with
   |true=>(match rv E rs with
    |some vs=>(match wa (gJ rs) vs with|some x=>AI (.inr x)|none=>AS)
    |none=>AS)
   |false=>AS))
def Ge (ls rs:List (Nat×Ty))(next:aH (gJ ls)->M (aH (gJ rs))):gi->Env->M (aH (gJ rs)):=λe E=>
 match e with
 |.normal=>(match rv E ls with
  |some vs=>(match wa (gJ ls) vs with|some x=>next x|none=>AS)
  |none=>AS)
 |.exit _=>AS
 |.ret=>(match rv E rs with
  |some vs=>(match wa (gJ rs) vs with|some x=>AI x|none=>AS)
  |none=>AS)
structure aS where
 id:FuncId
 as:List Ty
 rs:List Ty
 m:aH as->M (aH rs)
def Eh (l:List aS):FuncId->δ->Option uf:=λf vs=>
 match l with
 |[]=>none
 |e::r=>match Nat.beq f e.id with
  |true=>(match wa e.as vs with
   |some x=>some ⟨aH e.rs,e.m x,λy=>fO (eE e.rs y)⟩
   |none=>none)
  |false=>Eh r f vs
structure jV where
 slot:Nat
 as:List Ty
 rs:List Ty
 m:ξ->aH as->M (aH rs)
def Ro (l:List jV):Nat->ξ->δ->Option uf:=λt x vs=>
 match l with
 |[]=>none
 |e::r=>match Nat.beq t e.slot with
  |true=>(match wa e.as vs with
   |some a=>some ⟨aH e.rs,e.m x a,λy=>fO (eE e.rs y)⟩
   |none=>none)
  |false=>Ro r t x vs
def adi (l:List jV)(t:Nat):Bool:=
 match l with
 |[]=>false
 |e::r=>Nat.beq t e.slot||adi r t
structure xp where
 id:FuncId
 as:List Ty
 rs:List Ty
 m:aH as->M (aH rs⊕ξ)
def IA (l:List xp):FuncId->δ->Option afc:=λf vs=>
 match l with
 |[]=>none
 |e::r=>match Nat.beq f e.id with
  |true=>(match wa e.as vs with
   |some x=>some ⟨aH e.rs,e.m x,λy=>fO (eE e.rs y)⟩
   |none=>none)
  |false=>IA r f vs
def rM (l:List aS)(d:List jV)(ms:List FuncId:=[])(ps:List xp:=[]):mR:=⟨Eh l,Ro d,adi d,λf=>ms.any (Nat.beq f),IA ps,λf=>ps.any λe=>Nat.beq f e.id⟩
structure DTg (as rs:List Ty) where
 id:FuncId
 cs:List Ty
 m:aH as->aH cs->M (aH rs)
def dsp {as rs:List Ty}:List (DTg as rs)->ξ->aH as->M (aH rs)
 |[],_,_=>AS
 |[e],x,a=>wc (pG e.id x) (sh (nU e.cs x) λc=>e.m a c) AS
 |e::f::r,x,a=>wc (pG e.id x) (sh (nU e.cs x) λc=>e.m a c) (dsp (f::r) x a)
structure ry where
 p:Path
 ls:List (Nat×Ty)
 act:aH (gJ ls)->xm
def pZ (l:List ry):Path->Env->xm:=λp E=>
 match l with
 |[]=>.none
 |e::r=>match uK p e.p with
  |true=>(match rv E e.ls with
   |some vs=>(match wa (gJ e.ls) vs with
    |some x=>e.act x
    |none=>.none)
   |none=>.none)
  |false=>pZ r p E
def ah1 (E:Env)(ws:η):Env:=λj=>cond (ws.any (Nat.beq j)) none (E j)
def Wf (ls ms:List (Nat×Ty))(ws:η)(x:aH (gJ ls))(y:aH (gJ ms)):Env:=aak (ah1 (tB ls (eE (gJ ls) x)) ws) ms (eE (gJ ms) y)
def Wg (ls ms:List (Nat×Ty))(ws:η)(id:Nat)(m:aH (gJ ls)->M (aH (gJ ms)))(x:aH (gJ ls)):xm:=.one (aH (gJ ms)) (m x) (.exit id) (Wf ls ms ws x)
def Wh (ls rs:List (Nat×Ty))(ws:η)(m:aH (gJ ls)->M (aH (gJ rs)))(x:aH (gJ ls)):xm:=.one (aH (gJ rs)) (m x) .ret (Wf ls rs ws x)
def Wi (ls ms rs:List (Nat×Ty))(ws:η)(id:Nat)(e2:gi)(m:aH (gJ ls)->M (aH (gJ ms)⊕aH (gJ rs)))(x:aH (gJ ls)):xm:=
 .two (aH (gJ ms)) (aH (gJ rs)) (m x) (.exit id) (Wf ls ms ws x) e2 (Wf ls rs ws x)
def Dc (W:Wr)(nt:Nat)(ws:η):Bool:=Nat.beq W.1 nt&&(match W.2 with
 |some l=>ws.all λi=>l.any (Nat.beq i)
 |none=>true)
structure fT (R:Type) where
 p:Path
 k:List vH
 ls:List (Nat×Ty)
 m:aH (gJ ls)->M R
def goJ {R:Type}(ls:List (Nat×Ty))(m:aH (gJ ls)->M R)(E:Env):Option (M R):=
 match rv E ls with
 |some vs=>(match wa (gJ ls) vs with
  |some x=>some (m x)
  |none=>none)
 |none=>none
def qg {R:Type}(l:List (fT R)):Path->Option (List vH×(Env->Option (M R))):=λp=>
 match l with
 |[]=>none
 |e::r=>match uK p e.p with
  |true=>some (e.k,goJ e.ls e.m)
  |false=>qg r p
end Go.Ago
