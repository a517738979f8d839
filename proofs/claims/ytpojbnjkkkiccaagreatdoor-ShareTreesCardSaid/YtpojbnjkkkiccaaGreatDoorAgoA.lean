
import Derived.Laws.Cells
import Derived.Laws.Strings
import Derived.KernelRfl
set_option linter.all false
namespace Go.Ago
abbrev AT:=@if_neg
abbrev By:=@if_pos
abbrev BY:=@List.mem_cons_of_mem
abbrev IN:=@List.mem_of_getElem?
abbrev IS:=@List.mem_cons_self
abbrev IT:=@Nat.eq_of_beq_eq_true
abbrev OF:=@List.mem_append_right
abbrev aba:=@Int.toNat_natCast
abbrev abh:=@List.getElem?_map
abbrev abi:=@Nat.le_refl
abbrev abw:=@Bool.and_eq_true
abbrev aby:=@List.length_append
abbrev abK:=@List.length_cons
abbrev abY:=@List.drop_eq_nil_of_le
abbrev aca:=@decide_eq_true_eq
abbrev aci:=@List.getElem?_eq_getElem
abbrev acC:=@List.mem_append_left
abbrev acD:=@List.flatMap_cons
abbrev acL:=@List.length_map
abbrev acU:=@Option.some.injEq
abbrev acV:=@List.cons_append
abbrev acW:=@List.map_cons
abbrev acX:=@List.append_assoc
abbrev acY:=@Nat.le_trans
abbrev acZ:=@Option.some.inj
abbrev ac1:=@List.mem_singleton
abbrev ac4:=@List.eq_nil_of_length_eq_zero
abbrev adj:=@Classical.byContradiction
abbrev adr:=@Nat.zero_add
abbrev afk:=@List.nil_append
abbrev aft:=@Bool.false_eq_true
abbrev afx:=@List.append_nil
abbrev afK:=@List.mem_append
abbrev afM:=@if_false
abbrev af2:=@List.length_replicate
abbrev agf:=@List.count_append
abbrev agj:=@List.getElem?_append_right
abbrev agt:=@List.length_nil
abbrev agw:=@List.count_cons
abbrev ag8:=@Nat.mul_le_mul_right
abbrev ahy:=@List.sublist_cons_self
abbrev ahO:=@List.map_append
abbrev ahP:=@Array.getElem?_toList
abbrev ahQ:=@List.getElem?_append_left
abbrev ahR:=@List.perm_append_comm_assoc
abbrev ahS:=@Nat.mul_one
abbrev ahT:=@List.length_take
abbrev ahW:=@List.getElem?_eq_none
abbrev ahX:=@List.length_singleton
abbrev ahY:=@List.sublist_append_right
abbrev ah5:=@Nat.le_of_ble_eq_true
abbrev ah8:=@List.length_set
abbrev aid:=@Int.tdiv_eq_ediv_of_nonneg
abbrev aio:=@not_true_eq_false
abbrev aiq:=@List.drop_zero
abbrev ais:=@Nat.lt_succ_self
abbrev aiu:=@List.perm_append_comm
abbrev aiw:=@List.Perm.append_left
abbrev akz:=@Int.le_refl
abbrev akC:=@List.getD_eq_getElem?_getD
abbrev ak4:=@Nat.add_zero
abbrev ald:=@Int.natCast_nonneg
abbrev ale:=@Nat.add_mul
abbrev alg:=@Nat.zero_le
abbrev alx:=@List.length_drop
abbrev alU:=@List.getElem?_eq_some_iff
abbrev alV:=@Array.getElem?_eq_getElem
abbrev alW:=@List.drop_eq_getElem_cons
abbrev alX:=@List.flatMap_append
abbrev alY:=@Array.ext'
abbrev alZ:=@congrArg
abbrev al0:=@List.getElem?_drop
abbrev al1:=@List.all_eq_true
abbrev al2:=@List.perm_middle
abbrev al3:=@Nat.beq_refl
abbrev al4:=@List.take_of_length_le
abbrev al5:=@List.getElem?_set_self
abbrev al6:=@List.nodup_append
abbrev al7:=@List.mem_or_eq_of_mem_set
abbrev al8:=@List.set_append_right
abbrev ama:=@List.nodup_range
abbrev amc:=@List.set_cons_zero
abbrev amg:=@BitVec.toNat_ofInt
abbrev amk:=@List.eq_of_mem_replicate
abbrev amt:=@if_true
abbrev amu:=@Int.eq_ofNat_of_zero_le
abbrev amv:=@List.ext_getElem?
abbrev amK:=@Array.getD_eq_getD_getElem?
abbrev amS:=@Option.map_some
abbrev amV:=@List.replicate_succ
abbrev amW:=@Nat.sub_self
abbrev amX:=@Nat.lt_of_lt_of_le
abbrev am0:=@List.map_replicate
abbrev ane:=@Nat.le_succ
abbrev ang:=@List.sublist_append_left
abbrev anl:=@of_decide_eq_true
abbrev anE:=@List.mem_map_of_mem
abbrev anJ:=@List.getElem_mem
abbrev anK:=@Nat.le_of_lt
abbrev anL:=@List.set_cons_succ
abbrev anM:=@List.take_append_drop
abbrev anN:=@ByteArray.size_append
abbrev anO:=@List.getElem?_set_ne
abbrev anP:=@List.drop_drop
abbrev anQ:=@Option.bind_some
abbrev anR:=@List.take_length
abbrev anS:=@List.filter_sublist
abbrev anT:=@Classical.axiomOfChoice
abbrev anU:=@Bool.or_eq_true
abbrev anV:=@List.filter_append
abbrev anW:=@List.pairwise_cons
abbrev anX:=@true_and
abbrev anY:=@List.getLast?_eq_some_getLast
abbrev anZ:=@List.Sublist.refl
abbrev an0:=@Int.le_trans
abbrev an2:=@Array.getElem?_setIfInBounds
abbrev an3:=@List.map_set
abbrev an4:=@List.countP_eq_length_filter
abbrev an5:=@Nat.mod_lt
abbrev an8:=@Nat.shiftLeft_eq
abbrev aod:=@Nat.add_assoc
abbrev aof:=@Prod.mk.injEq
abbrev aok:=@List.mem_cons
abbrev aol:=@Array.toList_append
abbrev aom:=@List.Sublist.append
abbrev aon:=@List.length_reverse
abbrev aoo:=@Nat.le_add_left
abbrev aop:=@List.getElem?_take
abbrev aoq:=@List.Pairwise.imp_of_mem
abbrev aor:=@Nat.mul_le_mul
abbrev aos:=@cond_false
abbrev aot:=@Bool.not_eq_true'
abbrev aou:=@List.size_toArray
abbrev aov:=@List.take_add_one
abbrev aow:=@List.Perm.append_right
abbrev aox:=@List.map_id
abbrev aoy:=@Nat.one_mul
abbrev aoA:=@List.set_eq_take_append_cons_drop
abbrev aoD:=@ByteArray.data_extract
abbrev aoE:=@List.head?_eq_getElem?
abbrev aoF:=@ByteArray.append_assoc
abbrev aoI:=@Bool.true_and
abbrev aoJ:=@ByteArray.ext
abbrev aoK:=@List.all_cons
abbrev aoN:=@List.sum_cons
abbrev aoP:=@List.range'_succ
abbrev aoX:=@Nat.le_add_right
abbrev aoY:=@List.getElem?_toArray
abbrev ao0:=@List.mem_iff_getElem?
abbrev ao1:=@Array.mem_of_getElem?
abbrev ao2:=@ByteArray.data_append
abbrev ao3:=@Bool.eq_iff_iff
abbrev ao4:=@Array.toArray_toList
abbrev ao5:=@List.mem_filter
abbrev ao7:=@List.nodup_cons
abbrev ao8:=@List.map_map
abbrev ao9:=@Nat.add_comm
abbrev apa:=@Nat.min_eq_left
abbrev apb:=@List.replicate_succ'
abbrev apc:=@Nat.and_two_pow_sub_one_eq_mod
abbrev ape:=@List.forall_mem_cons
abbrev apf:=@List.count_le_length
abbrev apg:=@Nat.div_add_mod
abbrev aph:=@Nat.mul_comm
abbrev api:=@Nat.zero_mul
abbrev apj:=@Nat.shiftLeft_add_eq_or_of_lt
abbrev apk:=@List.map_congr_left
abbrev apl:=@List.nodup_nil
abbrev apm:=@Bool.false_and
abbrev apn:=@List.Perm.refl
abbrev apo:=@List.dropLast_concat_getLast
abbrev apq:=@Array.ext_getElem?
abbrev apr:=@Nat.mul_lt_mul_of_pos_right
abbrev aps:=@List.idxOf_lt_length_of_mem
abbrev apt:=@Bool.not_true
abbrev apu:=@List.flatten_cons
abbrev apv:=@Nat.lt_trichotomy
abbrev apw:=@List.getElem?_set
abbrev apx:=@List.Pairwise.map
abbrev apy:=@Nat.lt_succ_of_le
abbrev apA:=@List.getLast?_eq_getElem?
abbrev apB:=@Nat.sub_zero
abbrev apC:=@Array.mem_append
abbrev apD:=@List.map_nil
abbrev apF:=@BitVec.toNat_and
abbrev apG:=@List.set_set
abbrev apH:=@Nat.add_lt_add_iff_right
abbrev apI:=@List.flatMap_map
abbrev apJ:=@List.Sublist.append_left
abbrev apK:=@Option.bind_eq_some_iff
abbrev apL:=@List.getElem?_cons_succ
abbrev apM:=@UInt8.toNat_inj
abbrev apN:=@List.cons.injEq
abbrev apO:=@List.range_succ_eq_map
abbrev apP:=@List.dropWhile_sublist
abbrev apQ:=@List.modify_zero_cons
abbrev apR:=@List.mem_range
abbrev apS:=@List.singleton_append
abbrev apT:=@List.take_succ
abbrev apU:=@UInt8.lt_iff_toNat_lt
abbrev apV:=@List.getElem?_append
abbrev apW:=@List.mem_erase_of_ne
abbrev apX:=@List.getElem?_modify
abbrev apY:=@List.set_append_left
abbrev apZ:=@Decidable.of_not_not
abbrev ap0:=@List.nodup_iff_count
abbrev ap1:=@Nat.div_lt_of_lt_mul
abbrev ap2:=@Option.some_beq_some
abbrev ap3:=@Bool.or_false
abbrev aqb:=@Int.le_of_lt
open Go
abbrev δ:=List Value
abbrev ε:=List Int
abbrev ζ:=ByteArray
abbrev η:=List Nat
abbrev θ:=Option Addr
abbrev κ:=TypeId
abbrev μ:=Option Nat
abbrev ν:=Array Value
abbrev ξ:=Value
abbrev Env:=Nat->Option ξ
def Env.set (E:Env)(i:Nat)(v:ξ):Env:=λj=>cond (Nat.beq j i) (some v) (E j)
def Env.put (E:Env)(d:μ)(v:ξ):Env:=
 match d with
 |some i=>E.set i v
 |none=>E
def Env.emp:Env:=λ_=>none
def dO:ξ->Bool
 |.bool _ | .int _ _ | .float _ _ | .complex _ _ _ | .string _ | .nilFunc | .nilIface | .pointer none | .map none | .chan none | .slice none _ _=>true
 |_=>false
def flat:ξ->Bool
 |.agg cs=>cs.toList.all dO
 |.tuple vs=>vs.toList.isEmpty
 |.iface _ v=>dO v
 |v=>dO v
def Env.ev (E:Env):Operand->Option ξ
 |.tmp t=>E t
 |.const v=>match flat v with|true=>some v|false=>none
 |.global _=>none
 |.func f=>some (.func (.func f) #[] #[])
def Env.QW (E:Env):List Operand->Option δ
 |[]=>some []
 |x::xs=>match E.ev x,E.QW xs with
  |some v,some vs=>some (v::vs)
  |_,_=>none
def TE:IntKind->Nat
 |.i8=>0 | .i16=>1 | .i32=>2 | .i64=>3 | .u8=>4 | .u16=>5 | .u32=>6 | .u64=>7
def Q7 (a b:IntKind):Bool:=Nat.beq (TE a) (TE b)
inductive MU where
 |cells (c:δ) (jo base:Nat) (elem:κ)
 |map (es:List (ξ×ξ))
 |iter (s:ζ) (pos:Nat)
structure H6 where
 key:ξ
 val:ξ
 born:Nat
structure al9 where
 kt:κ
 clock:Nat
 es:List H6
structure ai where
 jz:Nat->Option al9
 get:Nat->Option MU
 next:Nat
 qI:Nat->Nat
 used:Nat->Bool
 dec:∀p:Prop,Decidable p
abbrev M (α:Type):=ai->Option (α×ai)
def sh {α β}(m:M α)(f:α->M β):M β:=λh=>
 match m h with
 |some (a,h')=>f a h'
 |none=>none
def AI {α}(a:α):M α:=λh=>some (a,h)
def AS {α}:M α:=λ_=>none
structure Sl where
 a:θ
 len:Nat
 cap:Nat
inductive vO where
 |int (k:IntKind)|bool|str|ptr|ak|sl|mp|raw|f64
@[reducible] def vO.den:vO->Type
 |.int _=>Int
 |.bool=>Bool
 |.str=>ζ
 |.ptr=>θ
 |.ak=>Addr
 |.sl=>Sl
 |.mp=>μ
 |.raw=>ξ
 |.f64=>Nat
def QX:(l:vO)->l.den->ξ
 |.int k,n=>.int k n
 |.bool,b=>.bool b
 |.str,s=>.string s
 |.ptr,p=>.pointer p
 |.ak,p=>.pointer (some p)
 |.sl,s=>.slice s.a s.len s.cap
 |.mp,r=>.map r
 |.raw,v=>v
 |.f64,n=>.float .f64 n
def D6:(l:vO)->ξ->Option l.den
 |.int .i8,.int .i8 n | .int .i16,.int .i16 n | .int .i32,.int .i32 n | .int .i64,.int .i64 n=>some n
 |.int .u8,.int .u8 n | .int .u16,.int .u16 n | .int .u32,.int .u32 n | .int .u64,.int .u64 n=>some n
 |.bool,.bool b=>some b
 |.str,.string s=>some s
 |.ptr,.pointer p=>some p
 |.ak,.pointer (some p)=>some p
 |.sl,.slice a n c=>some ⟨a,n,c⟩
 |.mp,.map r=>some r
 |.raw,v=>some v
 |.f64,.float .f64 n=>some n
 |_,_=>none
@[reducible] def j9:List vO->Type
 |[]=>Unit
 |[l]=>l.den
 |l::ls=>l.den×j9 ls
def Le:(ls:List vO)->j9 ls->δ
 |[],_=>[]
 |[l],x=>[QX l x]
 |l::l'::ls,x=>QX l x.1::Le (l'::ls) x.2
def D7:(ls:List vO)->δ->Option (j9 ls)
 |[],[]=>some ()
 |[l],[v]=>D6 l v
 |l::l'::ls,v::vs=>match D6 l v,D7 (l'::ls) vs with
  |some x,some y=>some (x,y)
  |_,_=>none
 |_,_=>none
inductive Ty where
 |one (l:vO)
 |agg (ls:List vO)
@[reducible] def Ty.den:Ty->Type
 |.one l=>l.den
 |.agg ls=>j9 ls
def GH:(t:Ty)->t.den->ξ
 |.one l,x=>QX l x
 |.agg ls,x=>.agg (Le ls x).toArray
def Ox:(t:Ty)->ξ->Option t.den
 |.one l,v=>D6 l v
 |.agg ls,.agg cs=>D7 ls cs.toList
 |_,_=>none
@[reducible] def aV:List Ty->Type
 |[]=>Unit
 |[t]=>t.den
 |t::ts=>t.den×aV ts
def fC:(ts:List Ty)->aV ts->δ
 |[],_=>[]
 |[t],x=>[GH t x]
 |t::t'::ts,x=>GH t x.1::fC (t'::ts) x.2
def yX:(ts:List Ty)->δ->Option (aV ts)
 |[],[]=>some ()
 |[t],[v]=>Ox t v
 |t::t'::ts,v::vs=>match Ox t v,yX (t'::ts) vs with
  |some x,some y=>some (x,y)
  |_,_=>none
 |_,_=>none
def gE (vs:δ):ξ:=
 match vs with
 |[v]=>v
 |vs=>.tuple vs.toArray
def unR ts (v:ξ):Option (aV ts):=
 match ts with
 |[t]=>Ox t v
 |ts=>match v with
  |.tuple vs=>yX ts vs.toList
  |_=>none
def tY (E:Env):List (Nat×Ty)->Option δ
 |[]=>some []
 |(i,_)::r=>match E i,tY E r with
  |some v,some vs=>some (v::vs)
  |_,_=>none
def zJ:List (Nat×Ty)->δ->Env
 |(i,_)::r,v::vs=>(zJ r vs).set i v
 |_,_=>Env.emp
def ac0 (E:Env):List (Nat×Ty)->δ->Env
 |(i,_)::r,v::vs=>(ac0 E r vs).set i v
 |_,_=>E
def lN:List (Nat×Ty)->List Ty
 |[]=>[]
 |(_,t)::r=>t::lN r
def ai.cell (h:ai)(a:Addr):Option ξ:=
 match h.get a.block with
 |some (.cells c _ _ _)=>c[a.off]?
 |_=>none
def _root_.Go.Addr.plus (a:Addr)(n:Nat):Addr:=⟨a.block,a.off+n,none⟩
def dL (l:vO)(a:Addr):M l.den:=λh=>
 match h.cell a with
 |some v=>(match D6 l v with|some x=>some (x,h)|none=>none)
 |none=>none
def idO (o:Option MU):Option MU:=match o with
 |some b=>some b
 |none=>none
@[simp] theorem D8 o:idO o=o:=by cases o<;>rfl
def ai.cM (h:ai)(nm next':Nat)(elem:κ)(cs:δ):ai:=
 { h with
  get:=λj=>cond (Nat.beq j nm) (some (.cells cs (nm+1) 0 elem)) (idO (h.get j))
  next:=next'
  qI:=λg=>cond (Nat.beq g (nm+1)) cs.length (h.qI g)
  used:=λj=>cond (Nat.beq j nm) true (h.used j) }
def ai.new (h:ai)(elem:κ)(cs:δ):ai:=h.cM h.next (h.next+1) elem cs
def fk:ξ->Bool
 |.agg _ | .tuple _=>false
 |_=>true
def iI (nm:μ)(elem:κ)(cs:δ):M Nat:=λh=>
 if cs.all fk=true then (match nm with
  |none=>some (h.next,h.new elem cs)
  |some k=>if h.used k=false/\k<h.next/\(h.get k).isNone=true then some (k,h.cM k h.next elem cs) else none) else none
def dP (n:Nat):M Nat:=λh=>some (h.next,{ h with next:=h.next+n })
def aM (c:δ)(o:Nat)(vs:δ):δ:=c.take o++vs++c.drop (o+vs.length)
def ai.wj (h:ai)(b:Nat)(c:δ)(g base:Nat)(elem:κ):ai:=
 { h with get:=λj=>cond (Nat.beq j b) (some (.cells c g base elem)) (match h.get j with
   |some (.cells c' g' base' elem')=>cond (Nat.beq g' g) none (some (.cells c' g' base' elem'))
   |o=>o) }
def rN (a:Addr)(vs:δ):M Unit:=λh=>
 match h.get a.block with
 |some (.cells c g base elem)=>
  if g≠0/\a.off+vs.length<=c.length/\vs.all fk=true then some ((),h.wj a.block (aM c a.off vs) g base elem) else none
 |_=>none
def pD (b:Bool):M Unit:=λh=>match b with
 |true=>some ((),h)
 |false=>none
def nn (p:θ):M Addr:=λh=>match p with
 |some a=>some (a,h)
 |none=>none
def bu (h:ai)(a:θ)(n:Nat):Option δ:=
 match a with
 |none=>if n=0 then some [] else none
 |some a=>match h.get a.block with
  |some (.cells c _ _ _)=>if a.off+n<=c.length then some ((c.drop a.off).take n) else none
  |_=>none
def Jd (s:Sl)(sz:Nat):M δ:=λh=>
 match s.len with
 |0=>some ([],h)
 |n+1=>match bu h s.a ((n+1)*sz) with
  |some cs=>some (cs,h)
  |none=>none
def da:Nat:=1073741824
def AW (strict:Bool)(s:Sl)(sz:Nat)(elem:κ)(n:Nat)(new:δ):M Sl:=λh=>
 if n=0 then (match s.a with
  |none=>if s.len=0/\s.cap=0/\new=[] then some (s,h) else none
  |some _=>if new=[] then some (s,h) else none) else
 if ¬(s.len+n<=da/\new.length=n*sz) then none else
 match s.a with
 |none=>if s.len=0/\s.cap=0 then some (⟨some ⟨h.next,0,none⟩,n,0⟩,h.new elem new) else none
 |some a=>
  match bu h (some a) (s.len*sz),h.get a.block with
  |some lA,some (.cells c g base e)=>
   if s.cap≠0/\s.len+n<s.cap then
    if g≠0/\a.off+(s.len*sz+new.length)<=c.length/\strict=false then
     some (⟨some a,s.len+n,s.cap⟩,h.wj a.block (aM c (a.off+s.len*sz) new) g base e) else none
   else if s.cap≠0 then some (⟨some ⟨h.next,0,none⟩,s.len+n,0⟩,h.new elem (lA++new))
   else if g≠0/\e=elem then
    let tipNow:=base+a.off+s.len*sz
    let ar:MU:=.cells (lA++new) g (base+a.off) elem
    if h.qI g=tipNow then
     some (⟨some ⟨h.next,0,none⟩,s.len+n,0⟩,
      { h with
       get:=λj=>cond (Nat.beq j h.next) (some ar) (idO (h.get j))
       next:=h.next+1
       qI:=λg'=>cond (Nat.beq g' g) (tipNow+new.length) (h.qI g')
       used:=λj=>cond (Nat.beq j h.next) true (h.used j) })
    else if strict=false then
     some (⟨some ⟨h.next,0,none⟩,s.len+n,0⟩,
      { h with
       get:=λj=>cond (Nat.beq j h.next) (some ar) (match h.get j with
        |some (.cells c' g' base' elem')=>cond (Nat.beq g' g&&Nat.blt tipNow (base'+c'.length)) none (some (.cells c' g' base' elem'))
        |o=>o)
       next:=h.next+1
       qI:=λg'=>cond (Nat.beq g' g) (tipNow+new.length) (h.qI g')
       used:=λj=>cond (Nat.beq j h.next) true (h.used j) })
    else none
   else none
  |_,_=>none
def app (strict:Bool)(s:Sl)(sz:Nat)(elem:κ)(n:Nat)(new:δ):M Sl:=λh=>
 match strict&&(h.get h.next).isSome with
 |true=>none
 |false=>AW strict s sz elem n new h
def mz (s:Sl)(i:Int)(sz:Nat):M Addr:=λh=>
 match s.a with
 |some a=>if 0<=i/\i<s.len then some (a.plus (i.toNat*sz),h) else none
 |none=>none
def lj (s:ζ)(i:Int):M UInt8:=λh=>
 match (if 0<=i then s[i.toNat]? else none) with
 |some b=>some (b,h)
 |none=>none
def MV (l:vO)(n:Nat)(cs:δ)(j:Int):M l.den:=λh=>
 if 0<=j/\j<(n:Int) then (match cs[j.toNat]? with
  |some v=>(match D6 l v with|some x=>some (x,h)|none=>none)
  |none=>none) else none
def exS (s:ζ)(a b:Nat):ζ:=⟨⟨(s.data.toList.drop a).take (b-a)⟩⟩
theorem D9 s a b:exS s a b=s.extract a b:=by
 have h:(s.extract a b).data.toList=(s.data.toList.drop a).take (b-a):=by simp_all
 unfold exS;rw[<-h]
def im (s:ζ)(lo hi:Int):M ζ:=λh=>
 if 0<=lo/\lo<=hi/\hi<=s.size then some (exS s lo.toNat hi.toNat,h) else none
def lO (h:ai)(s:Sl)(e:κ):Bool:=
 match s.a with
 |none=>Nat.beq s.len 0&&Nat.beq s.cap 0
 |some a=>match h.get a.block with
  |some (.cells _ g _ e')=>Nat.beq g 0||Nat.beq e' e
  |_=>false
def iM (s:Sl)(lo hi:Int)(e:κ)(sz:Nat):M Sl:=λh=>
 if 0<=lo/\lo<=hi/\hi<=s.len/\lO h s e=true then
  some (⟨s.a.map (·.plus (lo.toNat*sz)),hi.toNat-lo.toNat,s.cap-(if s.cap=0 then 0 else lo.toNat)⟩,h) else none
def o7 (a:Addr)(len:Nat)(lo hi:Int)(sz:Nat):M Sl:=λh=>
 if 0<=lo/\lo<=hi/\hi<=(len:Int) then some (⟨some (a.plus (lo.toNat*sz)),hi.toNat-lo.toNat,len-lo.toNat+1⟩,h) else none
def kc (x y:ζ):M ζ:=λh=>
 if x.size+y.size<=da then some (x++y,h) else none
def w9 (nm:μ)(elem:κ)(zero:δ)(l c:Int):M Sl:=λh=>
 if 0<=l/\l<=c/\c<=da then (match iI nm elem (List.replicate c.toNat zero).flatten h with
  |some (b,h')=>some (⟨some ⟨b,0,none⟩,l.toNat,c.toNat+1⟩,h')
  |none=>none) else none
def bytesOf (vs:δ):Option (List UInt8):=
 match vs with
 |[]=>some []
 |.int .u8 n::r=>match bytesOf r with
  |some l=>some (UInt8.ofNat n.toNat::l)
  |none=>none
 |_=>none
def ofBytes (l:List UInt8):ζ:=⟨l.toArray⟩
def cB (s:ζ):δ:=s.data.toList.map λb=>.int .u8 b.toNat
def strOf (s:Sl):M ζ:=λh=>
 match bu h s.a s.len with
 |some cs=>(match bytesOf cs with|some l=>some (ofBytes l,h)|none=>none)
 |none=>none
def Fi (elem:κ)(s:ζ):M Sl:=λh=>
 if s.size<=da then some (⟨some ⟨h.next,0,none⟩,s.size,0⟩,h.new elem (cB s)) else none
def kR:ξ->M Bool:=λv h=>match v with
 |.nilIface=>some (true,h)
 |.iface _ _=>some (false,h)
 |_=>none
def eqL:List UInt8->List UInt8->Bool
 |[],[]=>true
 |x::xs,y::ys=>Nat.beq x.toNat y.toNat&&eqL xs ys
 |_,_=>false
def qk (x y:ζ):Bool:=eqL x.data.toList y.data.toList
def MW:∀{l l'},eqL l l'=true↔l=l'
 |[],[]=>by simp[eqL]
 |[],_::_=>by simp[eqL]
 |_::_,[]=>by simp[eqL]
 |x::l,y::l'=>by
  simp[eqL,abw,MW,Nat.beq_eq,apM,apN]
theorem sM x y:qk x y=(x.toList==y.toList):=by
 rw[ByteArray.toList_eq,ByteArray.toList_eq,ao3,beq_iff_eq];exact MW
def ltS (x y:ζ):Bool:=Op.bytesLess x.toList y.toList
def Fj (x y:ξ):Bool:=
 match x,y with
 |.int k a,.int k' b=>Q7 k k'&&decide (a=b)
 |.bool a,.bool b=>a==b
 |.string a,.string b=>qk a b
 |_,_=>false
def Bq:δ->δ->Bool
 |[],[]=>true
 |x::xs,y::ys=>Fj x y&&Bq xs ys
 |_,_=>false
def DO (x y:ξ):Bool:=
 match x,y with
 |.agg xs,.agg ys=>Bq xs.toList ys.toList
 |x,y=>Fj x y
def iq (k:ξ):List H6->Option H6
 |[]=>none
 |e::r=>match DO k e.key with
  |true=>some e
  |false=>iq k r
def Br (k:ξ)(es:List H6):Option ξ:=(iq k es).map (·.val)
def sO (k v:ξ)(c:Nat):List H6->List H6
 |[]=>[⟨k,v,c⟩]
 |e::r=>match DO k e.key with
  |true=>⟨k,v,e.born⟩::r
  |false=>e::sO k v c r
def LX (b:Nat)(v:ξ):List H6->Option (List H6)
 |[]=>none
 |e::r=>match Nat.beq e.born b with
  |true=>some (⟨e.key,v,e.born⟩::r)
  |false=>(match LX b v r with|some l=>some (e::l)|none=>none)
def ai.o8 (h:ai)(m:Nat)(x:al9):ai:=
 { h with jz:=λj=>cond (Nat.beq j m) (some x) (h.jz j) }
def Bs (kt:κ):M Nat:=λh=>some (h.next,{ h.o8 h.next ⟨kt,0,[]⟩ with next:=h.next+1,used:=λj=>cond (Nat.beq j h.next) true (h.used j) })
def ai.Bt (h:ai)(k:Nat)(kt:κ):ai:={ h.o8 k ⟨kt,0,[]⟩ with used:=λj=>cond (Nat.beq j k) true (h.used j) }
def ai.fresh (h:ai)(k:Nat):Prop:=h.used k=false/\k<h.next/\h.jz k=none/\h.get k=none
def sP (k:Nat)(kt:κ):M Nat:=λh=>if h.used k=false/\k<h.next/\(h.jz k).isNone=true/\(h.get k).isNone=true then some (k,h.Bt k kt) else none
def an1 {α}(m:M α):Prop:=∀(h:ai) (k:Nat) (kt:κ) (x:α) (h2:ai),h.fresh k->m (h.Bt k kt)=some (x,h2)->∃h1,m h=some (x,h1)/\h1.fresh k/\h2=h1.Bt k kt
def GA {α}(m:M α):Prop:=an1 m/\∀h x h1,m h=some (x,h1)->h1.jz=h.jz
def ai.Fk (h:ai)(kt:κ)(m:Nat):Option (Nat×List H6):=
 match h.jz m with
 |some x=>(match Nat.beq x.kt kt with|true=>some (x.clock,x.es)|false=>none)
 |none=>none
def vx (kt:κ)(T:Ty)(z:T.den)(m:μ)(k:ξ):M (Bool×T.den):=λh=>
 match m with
 |none=>some ((false,z),h)
 |some m=>(match h.Fk kt m with
  |some (_,es)=>(match Br k es with
   |some v=>(match Ox T v with|some x=>some ((true,x),h)|none=>none)
   |none=>some ((false,z),h))
  |none=>none)
def DP (kt:κ)(m:μ)(k v:ξ):M Unit:=λh=>
 match m with
 |none=>none
 |some m=>(match h.Fk kt m with
  |some (c,es)=>some ((),h.o8 m ⟨kt,(match iq k es with|some _=>c|none=>c+1),sO k v c es⟩)
  |none=>none)
def zK (kt:κ)(T:Ty)(z:T.den)(m:μ)(k:ξ):M (T.den×Nat):=λh=>
 match m with
 |none=>none
 |some m=>(match h.Fk kt m with
  |some (c,es)=>(match iq k es with
   |some e=>(match Ox T e.val with|some x=>some ((x,e.born),h)|none=>none)
   |none=>some ((z,c),h.o8 m ⟨kt,c+1,sO k (GH T z) c es⟩))
  |none=>none)
def zL (m:μ)(st:Int)(v:ξ):M Unit:=λh=>
 match m with
 |none=>none
 |some m=>(match h.jz m with
  |some x=>(match decide (0<=st),LX st.toNat v x.es with
   |true,some es=>some ((),h.o8 m ⟨x.kt,x.clock,es⟩)
   |_,_=>none)
  |none=>none)
def DQ (m:μ):M Nat:=λh=>
 match m with
 |none=>some (0,h)
 |some m=>(match h.jz m with
  |some x=>some (x.es.length,h)
  |none=>none)
def Je (d s:Sl)(sz:Nat):M Nat:=λh=>
 match bu h s.a (Nat.min s.len d.len*sz) with
 |some []=>some (Nat.min s.len d.len,h)
 |some cs=>(match d.a with
  |none=>none
  |some a=>(match rN a cs h with
   |some (_,h')=>some (Nat.min s.len d.len,h')
   |none=>none))
 |none=>none
def nnF (x:ξ):M Unit:=λh=>
 match x with
 |.func (.func _) _ _=>some ((),h)
 |_=>none
def nG (g:FuncId)(x:ξ):Bool:=
 match x with
 |.func (.func f) first _=>Nat.beq f g&&first.toList.isEmpty
 |_=>false
def MX (x:ξ):δ:=
 match x with
 |.func _ _ caps=>caps.toList
 |_=>[]
def mr cs (x:ξ):M (aV cs):=λh=>
 match yX cs (MX x) with
 |some c=>some (c,h)
 |none=>none
def VK:δ->δ->Bool
 |[],[]=>true
 |.pointer (some ⟨a,b,none⟩)::r,.pointer (some ⟨c,d,none⟩)::s=>Nat.beq a c&&Nat.beq b d&&VK r s
 |_,_=>false
def TF:∀{x y},VK x y=true->x=y:=by
 intro x
 induction x with
 |nil=>intro y h;cases y<;>first|rfl|cases h
 |cons v r ih=>
  intro y h;cases y with
  |nil=>unfold VK at h;simp at h
  |cons w s=>
   unfold VK at h;split at h
   .simp_all
   .rename_i e1 e2;cases e1;cases e2;simp only[abw] at h;rw[IT h.1.1,IT h.1.2,ih h.2]
   .cases h
def ah0 (x y:ξ):Bool:=
 match x,y with
 |.int k a,.int k' b=>Q7 k k'&&decide (a=b)
 |.bool a,.bool b=>a==b
 |.string a,.string b=>qk a b
 |.pointer none,.pointer none=>true
 |.pointer (some ⟨a,b,none⟩),.pointer (some ⟨c,d,none⟩)=>Nat.beq a c&&Nat.beq b d
 |.slice none a b,.slice none c d=>Nat.beq a c&&Nat.beq b d
 |.slice (some ⟨a,b,none⟩) m n,.slice (some ⟨c,d,none⟩) m' n'=>Nat.beq a c&&Nat.beq b d&&(Nat.beq m m'&&Nat.beq n n')
 |.map none,.map none=>true
 |.map (some a),.map (some b)=>Nat.beq a b
 |.func (.func f) a c,.func (.func g) b d=>Nat.beq f g&&(VK a.toList b.toList&&VK c.toList d.toList)
 |_,_=>false
def ac2:δ->δ->Bool
 |[],[]=>true
 |x::xs,y::ys=>ah0 x y&&ac2 xs ys
 |_,_=>false
def ac3 {x y}(h:ah0 x y=true):x=y:=by
 unfold ah0 at h;split at h
 .rename_i k a k' b;simp at h;obtain⟨h1,rfl⟩:=h;cases k<;>cases k'<;>first|rfl|cases h1
 .rw[eq_of_beq h]
 .rename_i a b;obtain⟨⟨a⟩⟩:=a;obtain⟨⟨b⟩⟩:=b;have h:eqL a b=true:=h;rw[MW.1 h]
 .rfl
 .simp_all
 .simp_all
 .simp_all
 .rfl
 .simp_all
 .rename_i f a c g b d;simp only[abw] at h;rw[IT h.1,Array.toList_inj.1 (TF h.2.1),Array.toList_inj.1 (TF h.2.2)]
 .cases h
theorem TG:∀{x y},ac2 x y=true->x=y
 |[],[],_=>rfl
 |[],_::_,h=>by cases h
 |_::_,[],h=>by cases h
 |x::xs,y::ys,h=>by
  simp[ac2,abw] at h;rw[ac3 h.1,TG h.2]
def gN (h h':ai)(b:Addr):Prop:=
 match h.get b.block,h'.get b.block with
 |some (.cells c g base e),some (.cells c' g' base' e')=>g'=g/\base'=base/\e'=e/\c'.length=c.length/\c'.drop b.off=c.drop b.off
 |x,y=>y=x
def eqC (h h':ai)(b:Addr):Bool:=
 match h.get b.block,h'.get b.block with
 |some (.cells c g base e),some (.cells c' g' base' e')=>Nat.beq g' g&&Nat.beq base' base&&Nat.beq e' e&&Nat.beq c'.length c.length&&ac2 (c'.drop b.off) (c.drop b.off)
 |none,none=>true
 |_,_=>false
def ah1 {h h'}{b}(he:eqC h h' b=true):gN h h' b:=by
 unfold eqC at he;unfold gN;split at he
 .rename_i c g base e c' g' base' e' h1 h2;rw[h1,h2];simp only[abw] at he
  grind [Nat.eq_of_beq_eq_true,TG]
 .grind
 .cases he
def agh h h' b:Decidable (gN h h' b):=
 match hb:eqC h h' b with
 |true=>isTrue (ah1 hb)
 |false=>h.dec (gN h h' b)
def sameAt (h h':ai):List θ->Bool
 |[]=>true
 |none::r=>sameAt h h' r
 |some b::r=>(match agh h h' b with
  |isTrue _=>sameAt h h' r
  |isFalse _=>false)
def tX {α}(as:List θ)(m:M α):M α:=λh=>
 match m h with
 |some (x,h')=>(match sameAt h h' as with
  |true=>some (x,h')
  |false=>none)
 |none=>none
inductive Act:Type 1 where
 |val (v:ξ)
 |ask (α:Type) (m:M α) (k:α->Act)
 |none
def Act.run {R}:Act->(ξ->M R)->M R
 |.val v,K=>K v
 |.ask _ m k,K=>sh m λx=>(k x).run K
 |.none,_=>AS
def Act.exec:Act->ai->Option (ξ×ai)
 |.val v,h=>Option.some (v,h)
 |.ask _ m k,h=>match m h with
  |Option.some (x,h')=>(k x).exec h'
  |Option.none=>Option.none
 |.none,_=>Option.none
def MY:TypeDesc->Option vO
 |.bool=>some .bool
 |.int k=>some (.int k)
 |.string=>some .str
 |.pointer _=>some .ptr
 |.slice _=>some .sl
 |.map _ _=>some .mp
 |.float .f64=>some .f64
 |.unsafePointer=>some .ptr
 |.struct _ | .array _ _ | .tuple _ | .named _ _ | .invalid=>none
 |_=>some .raw
def bU (P:Program)(t:κ):μ:=
 match P.info? t with
 |some i=>some i.size
 |none=>none
def Jf {α:Type}:List (Option (List α))->Option (List α)
 |[]=>some []
 |some l::r=>(match Jf r with|some m=>some (l++m)|none=>none)
 |none::_=>none
def leaves (P:Program):Nat->κ->Option (List vO)
 |0,_=>none
 |n+1,t=>
  match P.underlying t with
  |some (.struct fs)=>Jf (fs.toList.map λf=>leaves P n f.type)
  |some (.array len e)=>Jf (List.replicate len (leaves P n e))
  |some d=>(match MY d with|some l=>some [l] | none=>none)
  |none=>none
def Bu:TypeDesc->Bool
 |.struct _ | .array _ _=>true
 |_=>false
def amb (P:Program)(t:κ):Option Ty:=
 match P.underlying t with
 |some d=>(match Bu d with
  |true=>(match leaves P 12 t with|some ls=>some (.agg ls)|none=>none)
  |false=>(match MY d with|some l=>some (.one l)|none=>none))
 |none=>none
def wx (P:Program)(t:κ):Option vO:=
 match P.underlying t,bU P t with
 |some (.int k),some 1=>some (.int k)
 |some .bool,some 1=>some .bool
 |some .string,some 1=>some .str
 |_,_=>none
def Jg (P:Program):List Field->Nat->Option (List vO)
 |[],_=>some []
 |f :: fs, o => (match f.name == "_", Nat.beq f.offset o, wx P f.type, Jg P fs (o+1) with
  |false,true,some l,some ls=>some (l::ls)
  |_,_,_,_=>none)
def Oy (P:Program)(t:κ):Option Ty:=
 match P.underlying t with
 |some (.struct fs)=>(match P.stoodInHeld t,Jg P fs.toList 0 with
  |false,some ls=>some (.agg ls)
  |_,_=>none)
 |some (.array n e)=>(match wx P e with
  |some l=>some (.agg (List.replicate n l))
  |none=>none)
 |_=>(match wx P t with|some l=>some (.one l)|none=>none)
def jm (l:vO)(v:ξ):Bool:=
 match l,v with
 |.int k,.int k' _=>Q7 k k'
 |.bool,.bool _=>true
 |.str,.string _=>true
 |_,_=>false
def fH:List vO->δ->Bool
 |[],[]=>true
 |l::ls,v::vs=>jm l v&&fH ls vs
 |_,_=>false
def VL (T:Ty)(v:ξ):Bool:=
 match T,v with
 |.one l,v=>jm l v
 |.agg ls,.agg cs=>fH ls cs.toList
 |_,_=>false
def qW (P:Program)(t:κ)(v:ξ):Bool:=
 match Oy P t with
 |some K=>VL K v
 |none=>false
def Fm (a:Addr):List vO->Nat->δ->Act
 |[],_,acc=>.val (.agg acc.reverse.toArray)
 |l::ls,i,acc=>.ask l.den (dL l (a.plus i)) λx=>Fm a ls (i+1) (QX l x::acc)
def cT ls (a:Addr):M (j9 ls):=λh=>
 match bu h (some a) ls.length with
 |some vs=>(match D7 ls vs with|some x=>some (x,h)|none=>none)
 |none=>none
def Q8 (P:Program)(t:κ)(a:Addr):Act:=
 match P.underlying t,bU P t with
 |some d,some n=>
  (match Bu d with
  |true=>(match leaves P 12 t with
   |some ls=>(match Nat.beq ls.length n with|true=>.ask (j9 ls) (cT ls a) λx=>.val (.agg (Le ls x).toArray)|false=>.none)
   |none=>.none)
  |false=>(match MY d with
   |some l=>.ask l.den (dL l a) λx=>.val (QX l x)
   |none=>.none))
 |_,_=>.none
def zeroOf (P:Program)(t:κ):Option ξ:=
 match P.info? t with
 |some i=>(match i.zero with
  |some v=>(match v.cells.toList.all dO&&Nat.beq v.cells.size i.size with|true=>some v|false=>none)
  |none=>none)
 |none=>none
def IK (P:Program)(op:BinOp)(t:κ)(v:ξ):Act:=
 match op,P.underlying t with
 |.eql,some (.interface _)=>.ask Bool (kR v) λb=>.val (.bool b)
 |.neq,some (.interface _)=>.ask Bool (kR v) λb=>.val (.bool (!b))
 |_,_=>.none
def Oz (op:BinOp)(k:IntKind)(a:Int)(k':IntKind)(b:Int):Act:=
 match op with
 |.shl=>.ask Unit (pD (decide (0<=b))) λ_=>.val (.int k (k.wrap (a*2^(min b.toNat k.bits))))
 |.shr=>.ask Unit (pD (decide (0<=b))) λ_=>.val (.int k (a.fdiv (2^(min b.toNat k.bits))))
 |op=>(match Q7 k k' with
  |false=>.none
  |true=>(match op with
   |.add=>.val (.int k (k.wrap (a+b)))
   |.sub=>.val (.int k (k.wrap (a-b)))
   |.mul=>.val (.int k (k.wrap (a*b)))
   |.quo=>.ask Unit (pD (decide (b≠0))) λ_=>.val (.int k (k.wrap (a.tdiv b)))
   |.rem=>.ask Unit (pD (decide (b≠0))) λ_=>.val (.int k (a.tmod b))
   |.and=>.val (.int k (k.wrap (BitVec.ofInt k.bits a&&&BitVec.ofInt k.bits b).toNat))
   |.or=>.val (.int k (k.wrap (BitVec.ofInt k.bits a|||BitVec.ofInt k.bits b).toNat))
   |.xor=>.val (.int k (k.wrap (BitVec.ofInt k.bits a^^^BitVec.ofInt k.bits b).toNat))
   |.andNot=>.val (.int k (k.wrap (BitVec.ofInt k.bits a&&&~~~BitVec.ofInt k.bits b).toNat))
   |.eql=>.val (.bool (decide (a=b)))
   |.neq=>.val (.bool (!decide (a=b)))
   |.lss=>.val (.bool (decide (a<b)))
   |.leq=>.val (.bool (decide (a<=b)))
   |.gtr=>.val (.bool (decide (b<a)))
   |.geq=>.val (.bool (decide (b<=a)))
   |_=>.none))
def OA (op:BinOp)(a b:ζ):Act:=
 match op with
 |.add=>.ask ζ (kc a b) λs=>.val (.string s)
 |.eql=>.val (.bool (qk a b))
 |.neq=>.val (.bool (!qk a b))
 |.lss=>.val (.bool (ltS a b))
 |.leq=>.val (.bool (ltS a b||qk a b))
 |.gtr=>.val (.bool (!(ltS a b||qk a b)))
 |.geq=>.val (.bool (!ltS a b))
 |_=>.none
def AG (op:BinOp)(b:Bool):Act:=
 match op with
 |.eql=>.val (.bool b)
 |.neq=>.val (.bool (!b))
 |_=>.none
def eq1 (P:Program)(t:κ)(x y:ξ):Option Bool:=
 match x,y with
 |.int k a,.int k' b=>(match P.underlying t with
  |some (.int _)=>(match Q7 k k' with|true=>some (decide (a=b))|false=>none)
  |_=>none)
 |.bool a,.bool b=>(match P.underlying t with|some .bool=>some (a==b)|_=>none)
 |.string a,.string b=>(match P.underlying t with|some .string=>some (qk a b)|_=>none)
 |_,_=>none
def OB (P:Program):List Field->Nat->δ->δ->Option Bool
 |[],_,xs,ys=>(match xs,ys with | [],[]=>some true|_,_=>none)
 |f::fs,o,xs,ys=>(match xs,ys with
  |x :: xs, y :: ys => (match f.name == "_", Nat.beq f.offset o with
   |false,true=>(match eq1 P f.type x y with
    |some a=>(match OB P fs (o+1) xs ys with|some b=>some (a&&b)|none=>none)
    |none=>none)
   |_,_=>none)
  |_,_=>none)
def Lf (o:μ):M Nat:=λh=>match o with
 |some r=>some (r,h)
 |none=>none
def amd (a b:Nat):M Nat:=Lf (FloatKind.f64.format.add a b)
def ame (a b:Nat):M Nat:=Lf (FloatKind.f64.format.sub a b)
def OE (a b:Nat):M Nat:=Lf (FloatKind.f64.format.mul a b)
def amf (a b:Nat):M Nat:=Lf (FloatKind.f64.format.div a b)
def AH (a b:Nat):Bool:=FloatKind.f64.format.order a b==some .eq
def Yw (a b:Nat):Bool:=FloatKind.f64.format.order a b==some .lt
def Q9 (a b:Nat):Bool:=FloatKind.f64.format.order a b==some .gt
def Yx (n:Int):Nat:=FloatKind.f64.nearest n
def OH (n:Int):ζ:=Utf8.encode n
def ah2 (b:Nat):Nat:=Op.negFloat .f64 b
def OJ (op:BinOp)(a b:Nat):Act:=
 match op with
 |.add=>.ask Nat (amd a b) λr=>.val (.float .f64 r)
 |.sub=>.ask Nat (ame a b) λr=>.val (.float .f64 r)
 |.mul=>.ask Nat (OE a b) λr=>.val (.float .f64 r)
 |.quo=>.ask Nat (amf a b) λr=>.val (.float .f64 r)
 |.eql=>.val (.bool (AH a b))
 |.neq=>.val (.bool (!AH a b))
 |.lss=>.val (.bool (Yw a b))
 |.leq=>.val (.bool (Yw a b||AH a b))
 |.gtr=>.val (.bool (Q9 a b))
 |.geq=>.val (.bool (Q9 a b||AH a b))
 |_=>.none
def Yy (P:Program)(op:BinOp)(t:κ)(x y:ξ):Act:=
 match x,y with
 |.int k a,.int k' b=>Oz op k a k' b
 |.string a,.string b=>OA op a b
 |.float .f64 a,.float .f64 b=>OJ op a b
 |.bool a,.bool b=>(match P.underlying t with|some .bool=>AG op (a==b)|_=>.none)
 |.slice a _ _,.slice none _ _=>(match P.underlying t with|some (.slice _)=>AG op a.isNone|_=>.none)
 |.pointer a,.pointer none=>(match P.underlying t with|some (.pointer _)=>AG op a.isNone|_=>.none)
 |.map a,.map none=>(match P.underlying t with|some (.map _ _)=>AG op a.isNone|_=>.none)
 |.agg xs,.agg ys=>(match P.underlying t,P.stoodInHeld t,P.eqGuardType P.depth t with
  |some (.struct fs),false,false=>(match OB P fs.toList 0 xs.toList ys.toList with|some b=>AG op b|none=>.none)
  |_,_,_=>.none)
 |_,_=>.none
def Yz (P:Program)(op:BinOp)(t:κ)(x y:ξ):Act:=
 match y with
 |.nilIface=>IK P op t x
 |y=>Yy P op t x y
def aun (op:UnOp)(x:ξ):Act:=
 match op,x with
 |.neg,.int k n=>.val (.int k (k.wrap (0-n)))
 |.not,.bool b=>.val (.bool (!b))
 |.neg,.float .f64 b=>.val (.float .f64 (ah2 b))
 |_,_=>.none
def inB (a:Addr):M Addr:=λh=>
 match h.get a.block with
 |some (.cells c _ _ _)=>if a.off<c.length then some (a,h) else none
 |_=>none
def YA:List (Nat×Nat×Nat×Nat):=[]
def amh (u e n o:Nat):Bool:=YA.any λx=>Nat.beq x.2.2.2 u&&Nat.beq x.1 e&&Nat.ble x.2.1 n&&Nat.beq x.2.2.1 o
def agi (P:Program)(u:Nat):Bool:=YA.all λx=>!(Nat.beq x.2.2.2 u)||(Nat.beq (P.cellsOf x.1) x.2.1&&rowAt P (sameLayout P P.depth · u) P.depth x.1 1 x.2.2.1 1)
def atB (u:κ)(k:Nat)(a:Addr):M Addr:=λh=>
 match h.get a.block with
 |some (.cells c g _ e)=>if g=a.block+1/\((k<=c.length/\e=u/\a.off=0)\/amh u e c.length a.off=true) then some (a,h) else none
 |_=>none
def ai.shut (h:ai)(g:Nat):ai:={ h with get:=λj=>match h.get j with
 |some (.cells c' g' base' e')=>cond (Nat.beq g' g) none (some (.cells c' g' base' e'))
 |o=>o }
def ah3 (e:κ)(p:θ)(n:Int):M ζ:=λh=>
 match p with
 |none=>if n=0 then some (ofBytes [],h) else none
 |some a=>(match h.get a.block,bu h (some a) n.toNat with
  |some (.cells _ g _ e'),some cs=>if 0<n/\n<=1073741824/\g≠0/\e'=e then (match bytesOf cs with|some l=>some (ofBytes l,h.shut g)|none=>none) else none
  |_,_=>none)
def Jh (p:θ)(n:Nat):M θ:=λh=>
 match p with
 |none=>some (none,h)
 |some a=>if n≠0 then some (some a,h) else none
def OL (P:Program)(src dst:κ)(x:ξ):Act:=
 match P.underlying src,P.underlying dst,x with
 |some (.pointer t),some .unsafePointer,.pointer p=>(match bU P t with
  |some (_+1)=>.ask Addr (nn p) λa=>.ask Addr (inB a) λa=>.val (.pointer (some a))
  |_=>.none)
 |some .unsafePointer,some (.pointer u),.pointer p=>(match bU P u with
  |some (k+1)=>(match Nat.beq (P.cellsOf u) (k+1)&&rowAt P (sameLayout P P.depth · u) P.depth u 1 0 1&&agi P u with
   |true=>.ask Addr (nn p) λa=>.ask Addr (atB u (k+1) a) λa=>.val (.pointer (some a))
   |false=>.none)
  |_=>.none)
 |some (.int _),some (.int k),.int _ n=>.val (.int k (k.wrap n))
 |some (.int _),some (.float .f64),.int _ n=>.val (.float .f64 (Yx n))
 |some (.int _),some .string,.int _ n=>.val (.string (OH n))
 |some .string,some (.slice e),.string s=>(match P.underlying e,bU P e with
  |some (.int .u8),some 1=>.ask Sl (Fi e s) λr=>.val (.slice r.a r.len r.cap)
  |_,_=>.none)
 |some (.slice e),some .string,.slice a n c=>(match P.underlying e with
  |some (.int .u8)=>.ask ζ (strOf ⟨a,n,c⟩) λs=>.val (.string s)
  |_=>.none)
 |_,_,_=>.none
def partsOf (E:Env):List (Nat×Operand)->Option (List (Nat×ξ))
 |[]=>some []
 |(i,x)::r=>match E.ev x,partsOf E r with
  |some v,some vs=>some ((i,v)::vs)
  |_,_=>none
def Bv (place:Nat->Option (Nat×Nat))(cells:δ):List (Nat×ξ)->Option δ
 |[]=>some cells
 |(i,v)::rest=>
  match place i with
  |none=>none
  |some (off,size)=>
   match Nat.beq v.cells.size size&&Nat.ble (off+v.cells.size) cells.length with
   |true=>Bv place (aM cells off v.cells.toList) rest
   |false=>none
def placesOf (P:Program):List Field->Option (List (Nat×Nat))
 |[]=>some []
 |f::r=>match bU P f.type,placesOf P r with
  |some n,some l=>some ((f.offset,n)::l)
  |_,_=>none
def M0 (P:Program)(t:κ)(parts:List (Nat×ξ)):Act:=
 match P.underlying t,zeroOf P t with
 |some (.struct fs),some z=>(match placesOf P fs.toList with
  |some pl=>(match Bv (λi=>pl[i]?) z.cells.toList parts with
   |some cs=>.val (.agg cs.toArray)
   |none=>.none)
  |none=>.none)
 |some (.array _ e),some z=>(match bU P e with
  |some n=>(match Bv (λi=>some (i*n,n)) z.cells.toList parts with
   |some cs=>.val (.agg cs.toArray)
   |none=>.none)
  |none=>.none)
 |_,_=>.none
def vy (P:Program)(nm:μ)(t:κ)(len:Nat)(parts:List (Nat×ξ)):Act:=
 match P.underlying t with
 |some (.slice e)=>(match bU P e,zeroOf P e with
  |some n,some z=>(match Nat.ble (len*n) 16777216,Bv (λi=>some (i*n,n)) (List.replicate len z.cells.toList).flatten parts with
   |true,some cs=>.ask Nat (iI nm e cs) λb=>.val (.slice (some ⟨b,0,none⟩) len (len+1))
   |_,_=>.none)
  |_,_=>.none)
 |_=>.none
def Bw (v:ξ)(k:Addr->Act):Act:=
 match v with
 |.pointer (some a)=>k a
 |_=>.none
def H7 (E:Env):Option Operand->Option (Option ξ)
 |some x=>(match E.ev x with|some v=>some (some v)|none=>none)
 |none=>some none
def Ji (P:Program)(t:κ)(x:ξ)(lo hi mx:Option ξ):Act:=
 match P.underlying t,x,mx with
 |some .string,.string s,none=>(match lo,hi with
  |none,none=>.ask ζ (im s 0 s.size) λr=>.val (.string r)
  |some (.int _ l),none=>.ask ζ (im s l s.size) λr=>.val (.string r)
  |none,some (.int _ h)=>.ask ζ (im s 0 h) λr=>.val (.string r)
  |some (.int _ l),some (.int _ h)=>.ask ζ (im s l h) λr=>.val (.string r)
  |_,_=>.none)
 |some (.slice e),.slice a n c,none=>(match bU P e with
  |some z=>(match lo,hi with
   |none,none=>.ask Sl (iM ⟨a,n,c⟩ 0 n e z) λr=>.val (.slice r.a r.len r.cap)
   |some (.int _ l),none=>.ask Sl (iM ⟨a,n,c⟩ l n e z) λr=>.val (.slice r.a r.len r.cap)
   |none,some (.int _ h)=>.ask Sl (iM ⟨a,n,c⟩ 0 h e z) λr=>.val (.slice r.a r.len r.cap)
   |some (.int _ l),some (.int _ h)=>.ask Sl (iM ⟨a,n,c⟩ l h e z) λr=>.val (.slice r.a r.len r.cap)
   |_,_=>.none)
  |none=>.none)
 |some (.array len e),.pointer (some a),none=>(match bU P e with
  |some z=>(match lo,hi with
   |none,none=>.ask Sl (o7 a len 0 len z) λr=>.val (.slice r.a r.len r.cap)
   |some (.int _ l),none=>.ask Sl (o7 a len l len z) λr=>.val (.slice r.a r.len r.cap)
   |none,some (.int _ h)=>.ask Sl (o7 a len 0 h z) λr=>.val (.slice r.a r.len r.cap)
   |some (.int _ l),some (.int _ h)=>.ask Sl (o7 a len l h z) λr=>.val (.slice r.a r.len r.cap)
   |_,_=>.none)
  |none=>.none)
 |_,_,_=>.none
def sQ (P:Program)(strict:Bool)(b:Builtin)(ts:List κ)(vs:δ):Act:=
 match b,ts,vs with
 |.len,t::_,[.string s]=>(match P.underlying t with|some .string=>.val (.int .i64 s.size)|_=>.none)
 |.len,t::_,[.slice _ n _]=>(match P.underlying t with|some (.slice _)=>.val (.int .i64 n)|_=>.none)
 |.len,t::_,[.map m]=>(match P.underlying t with|some (.map _ _)=>.ask Nat (DQ m) λn=>.val (.int .i64 n)|_=>.none)
 |.copy,[t,t'],[.slice a n c,.slice a' n' c']=>(match P.underlying t,P.underlying t' with
  |some (.slice e),some (.slice _)=>(match bU P e with
   |some z=>.ask Nat (Je ⟨a,n,c⟩ ⟨a',n',c'⟩ z) λk=>.val (.int .i64 k)
   |none=>.none)
  |_,_=>.none)
 |.min,_,[.int k x,.int k' y]=>(match Q7 k k' with|true=>.val (.int k (if y<x then y else x))|false=>.none)
 |.max,_,[.int k x,.int k' y]=>(match Q7 k k' with|true=>.val (.int k (if x<y then y else x))|false=>.none)
 |.append,[t,t'],[.slice a n c,.slice a' n' c']=>(match P.underlying t,P.underlying t' with
  |some (.slice e),some (.slice e')=>(match bU P e,zeroOf P e,bU P e' with
   |some z,some _,some z'=>(match Nat.beq z z'&&Nat.ble ((match P.info? e with|some i=>i.bytes|none=>0)) 4096 with
    |true=>.ask δ (Jd ⟨a',n',c'⟩ z) λcs=>.ask Sl (app strict ⟨a,n,c⟩ z e n' cs) λr=>.val (.slice r.a r.len r.cap)
    |false=>.none)
   |_,_,_=>.none)
  |_,_=>.none)
 |.append,[t,t'],[.slice a n c,.string s]=>(match P.underlying t,P.underlying t' with
  |some (.slice e),some .string=>(match P.underlying e,zeroOf P e,bU P e with
   |some (.int .u8),some _,some 1=>(match Nat.ble ((match P.info? e with|some i=>i.bytes|none=>0)) 4096 with
    |true=>.ask Sl (app strict ⟨a,n,c⟩ 1 e s.size (cB s)) λr=>.val (.slice r.a r.len r.cap)
    |false=>.none)
   |_,_,_=>.none)
  |_,_=>.none)
 |.unsafeSliceData,_,[.slice a n _]=>.ask θ (Jh a n) λp=>.val (.pointer p)
 |.unsafeString,t::_,[.pointer p,.int .i64 n]=>(match P.underlying t with
  |some (.pointer e)=>(match Nat.beq (P.cellsOf e) 1 with
   |true=>.ask ζ (ah3 e p n) λs=>.val (.string s)
   |false=>.none)
  |_=>.none)
 |_,_,_=>.none
def eqP (a b:θ):M Bool:=λh=>match a,b with
 |some a,some b=>(match Nat.beq a.block b.block&&Nat.beq a.off b.off with|true=>some (true,h)|false=>none)
 |_,_=>none
def ami:Operand->ξ->ξ->Option (θ×θ)
 |.const _,_,_=>none
 |_,.pointer a,.pointer b=>some (a,b)
 |_,_,_=>none
def YB (y:Operand)(u:ξ):Bool:=
 match u with
 |.nilIface=>(match y with | .const _=>true|_=>false)
 |_=>true
def yY (P:Program)(nm:μ)(E:Env)(o:Oper):Act:=
 match o.op with
 |.move x | .assign x=>(match E.ev x with|some v=>.val v|none=>.none)
 |.alloc t=>(match zeroOf P t with
  |some z=>.ask Nat (iI nm t z.cells.toList) λb=>.val (.pointer (some ⟨b,0,none⟩))
  |none=>.none)
 |.box t x=>(match E.ev x with
  |some v=>.ask Nat (iI nm t v.cells.toList) λb=>.val (.pointer (some ⟨b,0,none⟩))
  |none=>.none)
 |.build t parts=>(match partsOf E parts.toList with|some vs=>M0 P t vs|none=>.none)
 |.buildSlice t len parts=>(match partsOf E parts.toList with|some vs=>vy P nm t len vs|none=>.none)
 |.load t x=>(match E.ev x with|some v=>Bw v λa=>Q8 P t a|none=>.none)
 |.store t x y=>(match E.ev x,E.ev y,bU P t with
  |some v,some u,some n=>Bw v λa=>(match Nat.beq u.cells.size n with
   |true=>.ask Unit (rN a u.cells.toList) λ_=>.val undef
   |false=>.none)
  |_,_,_=>.none)
 |.nilCheck x=>(match P.underlying o.type with
  |some (.func _ _ _)=>(match E.ev x with
   |some v=>.ask Unit (nnF v) λ_=>.val v
   |none=>.none)
  |_=>(match E.ev x with
   |some (.pointer p)=>.ask Addr (nn p) λa=>.val (.pointer (some a))
   |_=>.none))
 |.binOp op t x y _=>(match E.ev x,E.ev y with
  |some v,some u=>(match YB y u with
   |true=>(match ami y v u with
    |some (a,b)=>(match P.underlying t with
     |some (.pointer e)=>(match bU P e with|some _=>.ask Bool (eqP a b) λr=>AG op r|none=>.none)
     |_=>.none)
    |none=>Yz P op t v u)
   |false=>.none)
  |_,_=>.none)
 |.unOp op _ x=>(match E.ev x with|some v=>aun op v|none=>.none)
 |.convert s d x=>(match E.ev x with|some v=>OL P s d v|none=>.none)
 |.makeInterface t x=>(match E.ev x,P.underlying t with
  |some _,some (.interface _)=>.none
  |some v,some _=>.val (.iface t v)
  |_,_=>.none)
 |.makeFunc fn fs cs=>(match E.QW fs.toList,E.QW cs.toList with
  |some f,some c=>.val (.func fn f.toArray c.toArray)
  |_,_=>.none)
 |.makeSlice t l c=>(match P.underlying t,E.ev l,E.ev c with
  |some (.slice e),some (.int _ n),some (.int _ m)=>(match zeroOf P e,Nat.ble ((match P.info? e with|some i=>i.bytes|none=>0)) 4096 with
   |some z,true=>.ask Sl (w9 nm e z.cells.toList n m) λr=>.val (.slice r.a r.len r.cap)
   |_,_=>.none)
  |_,_,_=>.none)
 |.slice t x lo hi mx=>(match E.ev x,H7 E lo,H7 E hi,H7 E mx with
  |some v,some l,some h,some m=>Ji P t v l h m
  |_,_,_,_=>.none)
 |.fieldAddr s x f=>(match P.underlying s,E.ev x with
  |some (.struct fs),some v=>(match fs[f]? with
   |some fd=>(match bU P fd.type with
    |some n=>(match Nat.beq n 0 with
     |true=>.none
     |false=>Bw v λa=>.val (.pointer (some (a.plus fd.offset))))
    |none=>.none)
   |none=>.none)
  |_,_=>.none)
 |.field s x f=>(match P.underlying s,E.ev x with
  |some (.struct fs),some (.agg cs)=>(match fs[f]? with
   |some fd=>(match P.underlying fd.type,bU P fd.type with
    |some d,some n=>(match Bu d with
     |true=>.val (.agg ((cs.toList.drop fd.offset).take n).toArray)
     |false=>(match cs.toList[fd.offset]? with|some v=>.val v|none=>.none))
    |_,_=>.none)
   |none=>.none)
  |_,_=>.none)
 |.indexAddr t x i=>(match P.underlying t,E.ev x,E.ev i with
  |some (.slice e),some (.slice a n c),some (.int _ j)=>(match bU P e with
   |some z=>.ask Addr (mz ⟨a,n,c⟩ j z) λr=>.val (.pointer (some r))
   |none=>.none)
  |some (.array n e),some (.pointer (some a)),some (.int _ j)=>(match bU P e with
   |some z=>.ask Unit (pD (decide (0<=j/\j<(n:Int)))) λ_=>.val (.pointer (some (a.plus (j.toNat*z))))
   |none=>.none)
  |_,_,_=>.none)
 |.index t x i=>(match P.underlying t,E.ev x,E.ev i with
  |some .string,some (.string s),some (.int _ j)=>.ask UInt8 (lj s j) λb=>.val (.int .u8 b.toNat)
  |some (.array n e),some (.agg cs),some (.int _ j)=>(match P.underlying e,bU P e with
   |some d,some 1=>(match Bu d,MY d with
    |false,some l=>.ask l.den (MV l n cs.toList j) λx=>.val (QX l x)
    |_,_=>.none)
   |_,_=>.none)
  |_,_,_=>.none)
 |.makeMap t r=>(match P.underlying t,H7 E r with
  |some (.map k _),some none=>(match Oy P k with|some _=>(match nm with|none=>.ask Nat (Bs k) λm=>.val (.map (some m))|some b=>.ask Nat (sP b k) λm=>.val (.map (some m)))|none=>.none)
  |some (.map k _),some (some (.int _ _))=>(match Oy P k with|some _=>(match nm with|none=>.ask Nat (Bs k) λm=>.val (.map (some m))|some b=>.ask Nat (sP b k) λm=>.val (.map (some m)))|none=>.none)
  |_,_=>.none)
 |.lookup t x i ok=>(match P.underlying t,E.ev x,E.ev i with
  |some (.map k e),some (.map m),some kv=>(match qW P k kv,amb P e,zeroOf P e with
   |true,some T,some zv=>(match Ox T zv with
    |some z=>.ask (Bool×T.den) (vx k T z m kv) λr=>.val (match ok with|true=>.tuple #[GH T r.2,.bool r.1] | false=>GH T r.2)
    |none=>.none)
   |_,_,_=>.none)
  |_,_,_=>.none)
 |.mapEntry t x i=>(match P.underlying t,E.ev x,E.ev i with
  |some (.map k e),some (.map m),some kv=>(match qW P k kv,amb P e,zeroOf P e with
   |true,some T,some zv=>(match Ox T zv with
    |some z=>.ask (T.den×Nat) (zK k T z m kv) λr=>.val (.tuple #[GH T r.1,.int .i64 r.2])
    |none=>.none)
   |_,_,_=>.none)
  |_,_,_=>.none)
 |.entryStore _ x i y=>(match E.ev x,E.ev i,E.ev y with
  |some (.map m),some (.int _ st),some v=>.ask Unit (zL m st v) λ_=>.val undef
  |_,_,_=>.none)
 |.mapUpdate t x i y | .insert t x i y=>(match P.underlying t,E.ev x,E.ev i,E.ev y with
  |some (.map k _),some (.map m),some kv,some v=>(match qW P k kv with
   |true=>.ask Unit (DP k m kv v) λ_=>.val undef
   |false=>.none)
  |_,_,_,_=>.none)
 |.extract x i=>(match E.ev x with
  |some (.tuple vs)=>(match vs.toList[i]? with|some v=>.val v|none=>.none)
  |_=>.none)
 |.call c=>(match c.callee,E.QW c.args.toList with
  |.builtin b,some vs=>sQ P nm.isSome b c.argTypes.toList vs
  |_,_=>.none)
 |_=>.none
abbrev Path:=η
def child:Code->Nat->Code
 |.seq a _,0=>a
 |.seq _ b,_=>b
 |.cond _ a _,0=>a
 |.cond _ _ b,_=>b
 |.block _ c,_=>c
 |.loop c,_=>c
 |.scope c,_=>c
 |c,_=>c
def fU (c:Code):Path->Code
 |[]=>c
 |i::p=>child (fU c p) i
inductive Fo where
 |code (p:Path)
 |ar (id:Nat)
 |scp (p:Path)
inductive ov where
 |normal
 |exit (id:Nat)
 |ret
def eqE:ov->ov->Bool
 |.normal,.normal=>true
 |.exit a,.exit b=>Nat.beq a b
 |.ret,.ret=>true
 |_,_=>false
def xa:Path->Path->Bool
 |[],[]=>true
 |a::p,b::q=>Nat.beq a b&&xa p q
 |_,_=>false
def eqItems:List Fo->List Fo->Bool
 |[],[]=>true
 |.code p::k,.code q::l=>xa p q&&eqItems k l
 |.ar a::k,.ar b::l=>Nat.beq a b&&eqItems k l
 |.scp p::k,.scp q::l=>xa p q&&eqItems k l
 |_,_=>false
structure zM:Type 1 where
 α:Type
 m:M α
 pk:α->ξ
inductive xZ:Type 1 where
 |one (α:Type) (m:M α) (e:ov) (out:α->Env)
 |two (α β:Type) (m:M (α⊕β)) (e:ov) (out:α->Env) (e':ov) (out':β->Env)
 |none
structure Ea:Type 1 where
 st:FuncId->δ->Option zM
 dy:Nat->ξ->δ->Option zM
 an6:Nat->Bool
 mo:FuncId->Bool
structure OM (R:Type) where
 call:Ea
 loop:Path->Env->xZ
 join:Path->Option (List Fo×(Env->Option (M R)))
 draw:Nat->Option (List (Nat×η))
def uk (id:Nat):List Fo->Option (List Fo)
 |.ar id'::k=>(match Nat.beq id' id with|true=>some k|false=>uk id k)
 |_::k=>uk id k
 |[]=>none
def Env.vz (E:Env)(c:Operand)(b:Bool):Env:=
 match c with
 |.tmp t=>E.set t (.bool b)
 |_=>E
def dW {α β R:Type}(f:α->M R)(g:β->M R):α⊕β->M R
 |.inl x=>f x
 |.inr y=>g y
def callee (E:Env)(c:Call):Option (FuncId×δ):=
 match c.callee,E.QW c.args.toList with
 |.value f,some vs=>(match E.ev f with
  |some (.func (.func g) first captured)=>some (g,first.toList++vs++captured.toList)
  |_=>none)
 |_,_=>none
def vP (C:Ea)(c:Call):μ:=
 match c.callee with
 |.value (.tmp t)=>(match C.an6 t with|true=>some t|false=>none)
 |_=>none
def wy (E:Env)(t:Nat)(c:Call):Option (ξ×δ):=
 match E t,E.QW c.args.toList with
 |some x,some vs=>some (x,vs)
 |_,_=>none
def isBuiltin:Call->Bool:=λc=>match c.callee with
 |.builtin _=>true
 |_=>false
def yC {R}(b:Bool)(x y:M R):M R:=if b=true then x else y
abbrev Wr:=Nat×Option η
def GI (W:Wr)(d:μ):Bool:=
 match d with
 |none=>true
 |some i=>Nat.blt i W.1&&(match W.2 with
  |some l=>l.any (Nat.beq i)
  |none=>true)
abbrev fK:=Nat->Option (Nat×δ)
def fK.emp:fK:=λ_=>none
def Env.del (E:Env)(d:μ):Env:=
 match d with
 |some i=>λj=>cond (Nat.beq j i) none (E j)
 |none=>E
def fK.del (L:fK)(d:μ):fK:=
 match d with
 |some i=>λj=>cond (Nat.beq j i) none (L j)
 |none=>L
def fK.put (L:fK)(d:μ)(x:Nat×δ):fK:=
 match d with
 |some i=>λj=>cond (Nat.beq j i) (some x) (L j)
 |none=>L
def Rb (ops:Array Oper)(t:Nat):Bool:=ops.toList.any λo=>match o.op with
 |.call c=>(match c.callee,c.args.toList with
  |.builtin .append,[_,.tmp u]=>Nat.beq u t
  |_,_=>false)
 |_=>false
def Fp (P:Program)(t:κ)(len:Nat)(parts:List (Nat×ξ)):Option δ:=
 match P.underlying t with
 |some (.slice e)=>(match bU P e,zeroOf P e with
  |some n,some z=>(match Nat.ble (len*n) 16777216,Bv (λi=>some (i*n,n)) (List.replicate len z.cells.toList).flatten parts with
   |true,some cs=>(match cs.all fk with|true=>some cs|false=>none)
   |_,_=>none)
  |_,_=>none)
 |_=>none
def xb (L:fK)(c:Call):Option (Nat×δ):=
 match c.callee,c.args.toList with
 |.builtin .append,[_,.tmp t]=>L t
 |_,_=>none
def sR (P:Program)(strict:Bool)(E:Env)(c:Call)(n:Nat)(cs:δ):Act:=
 match c.argTypes.toList,c.args.toList with
 |[t,t'],[s,_]=>(match E.ev s,P.underlying t,P.underlying t' with
  |some (.slice a m k),some (.slice e),some (.slice _)=>(match bU P e,zeroOf P e with
   |some z,some _=>(match Nat.ble ((match P.info? e with|some i=>i.bytes|none=>0)) 4096 with
    |true=>.ask Sl (app strict ⟨a,m,k⟩ z e n cs) λr=>.val (.slice r.a r.len r.cap)
    |false=>.none)
   |_,_=>.none)
  |_,_,_=>.none)
 |_,_=>.none
def AJ (P:Program)(ops:Array Oper)(E:Env)(o:Oper):Option (Nat×δ):=
 match o.op,o.dst with
 |.buildSlice t len parts,some d=>(match Rb ops d with
  |true=>(match partsOf E parts.toList with
   |some vs=>(match Fp P t len vs with|some cs=>some (len,cs)|none=>none)
   |none=>none)
  |false=>none)
 |_,_=>none
def um (cks:List θ):Act->Act
 |.ask α m k=>(match cks with
  |[]=>.ask α m k
  |cks=>.ask α (tX cks m) k)
 |A=>A
def wrapM {α}(cks:List θ)(m:M α):M α:=
 match cks with
 |[]=>m
 |cks=>tX cks m
def Bx (l:η)(i:Nat):Bool:=l.any (Nat.beq i)
def CZ (ops:Array Oper)(o:Oper):Bool:=
 match o.op with
 |.call c=>(match c.callee with
  |.builtin .append=>(match o.dst with
   |some d=>ops.toList.any λp=>(match p.op with
    |.call c=>!isBuiltin c&&Bx (p.op.operands.toList.filterMap λ| .tmp t=>some t|_=>none) d
    |_=>false)
   |none=>false)
  |_=>false)
 |_=>false
def Fq (ops:Array Oper)(o:Oper):Bool:=
 match o.op with
 |.call c=>(match c.callee,c.args.toList with
  |.builtin .append,.tmp d::_=>ops.toList.any λp=>(match p.op,p.dst with
   |.buildSlice _ _ _,some e=>Nat.beq d e
   |_,_=>false)
  |_,_=>false)
 |_=>false
def AX (b:Bool)(E:Env)(c:Call)(A:Act):Act:=
 match b with
 |false=>A
 |true=>(match c.args.toList with
  |s::_=>(match E.ev s with
   |some (.slice _ _ k)=>(match Nat.beq k 0 with|true=>.none|false=>A)
   |_=>.none)
  |[]=>.none)
theorem GJ {b}{E}{c}{A}{h}{r}(e:(AX b E c A).exec h=some r):AX b E c A=A:=by
 unfold AX at *
 repeat' (first|rfl|(cases e;done)|split at e)
def byB {α:Type 1}(b:Bool)(f:Bool->α):α:=
 match b with
 |true=>f true
 |false=>f false
theorem Rc {α}{b}{f:Bool->α}:byB b f=f b:=by cases b<;>rfl
inductive Cls where
 |sil|ro|mro|alloc|add|mka|eff
def Eb:Bool->Cls
 |true=>.eff
 |false=>.add
def cls (P:Program)(ops:Array Oper)(o:Oper):Cls:=
 match o.op with
 |.move _ | .assign _ | .pick _ _ _ | .build _ _ | .nilCheck _ | .binOp _ _ _ _ _ | .unOp _ _ _ | .makeInterface _ _ | .makeFunc _ _ _ | .fieldAddr _ _ _ | .field _ _ _ | .indexAddr _ _ _ | .index _ _ _ | .extract _ _=>.sil
 |.load _ _=>.ro
 |.slice t _ _ _ _=>(match P.underlying t with|some .string=>.sil|some (.slice _)=>.ro|some (.array _ _)=>.sil|_=>.eff)
 |.convert s d _=>(match P.underlying s,P.underlying d with
  |some (.slice _),some .string=>.ro
  |some (.int _),some _=>.sil
  |some .string,some .string=>.sil
  |_,_=>.eff)
 |.buildSlice _ _ _=>(match o.dst with
  |some d=>(match Rb ops d with|true=>.sil|false=>.alloc)
  |none=>.eff)
 |.alloc _ | .box _ _ | .makeSlice _ _ _=>.alloc
 |.lookup _ _ _ _=>.mro
 |.makeMap _ _=>.mka
 |.call c=>(match c.callee with
  |.builtin .append=>Eb (CZ ops o)
  |.builtin .len=>(match c.argTypes.toList with
   |t::_=>(match P.underlying t with|some (.map _ _)=>.mro|_=>.sil)
   |[]=>.sil)
  |.builtin .min | .builtin .max | .builtin .unsafeSliceData=>.sil
  |_=>.eff)
 |_=>.eff
def AY (o:Oper):Bool:=
 match o.op with
 |.store _ _ _=>true
 |_=>false
def YC:Cls->Bool
 |.alloc=>true
 |_=>false
def H8 (P:Program)(ops:Array Oper)(nb:μ)(cs:η):η:=
 match nb with
 |none=>[]
 |some b=>(cs.filter λi=>match ops[i]? with
  |some o=>YC (cls P ops o)
  |none=>false).map (b+·)
def okK (h:ai)(a:Addr)(ks:η):Bool:=
 match h.get a.block with
 |some (.cells _ g _ _)=>ks.all λk=>!Nat.beq a.block k&&!Nat.beq g (k+1)
 |_=>false
def Jj {α}(ks:η)(a:Addr)(m:M α):M α:=λh=>match okK h a ks with
 |true=>m h
 |false=>none
def ON (ks:η)(a:Addr):Act->Act
 |.ask α m k=>.ask α (Jj ks a m) k
 |A=>A
def yZ {R}(P:Program)(C:Ea)(W:Wr)(nm:μ)(cks:List θ)(ks:η)(ops:Array Oper)(E:Env)(L:fK)(o:Oper)(K:Env->fK->M R):M R:=
 match GI W o.dst with
 |false=>AS
 |true=>
 match o.op with
 |.pick c a b=>(match E.ev c with
  |some (.bool t)=>
   yC t (match (E.vz c true).ev a with|some v=>K ((E.vz c true).put o.dst v) (L.del o.dst)|none=>AS)
    (match (E.vz c false).ev b with|some v=>K ((E.vz c false).put o.dst v) (L.del o.dst)|none=>AS)
  |_=>AS)
 |.call c=>(match isBuiltin c with
  |true=>(match xb L c with
   |some (n,cs)=>(byB (nm.isSome&&!CZ ops o) λb=>um cks (AX (Fq ops o) E c (sR P b E c n cs))).run λv=>K (E.put o.dst v) (L.del o.dst)
   |none=>(match CZ ops o with
    |true=>AS
    |false=>(um cks (AX (Fq ops o) E c (yY P nm E o))).run λv=>K (E.put o.dst v) (L.del o.dst)))
  |false=>(match vP C c with
   |some t=>(match wy E t c with
    |some (x,vs)=>(match C.dy t x vs with
     |some ca=>sh (wrapM cks ca.m) λx=>K (E.put o.dst (ca.pk x)) (L.del o.dst)
     |none=>AS)
    |none=>AS)
   |none=>(match callee E c with
    |some (f,vs)=>(match C.st f vs with
     |some ca=>sh (wrapM cks ca.m) λx=>K (E.put o.dst (ca.pk x)) (L.del o.dst)
     |none=>AS)
    |none=>AS)))
 |.store _ x _=>(match ks with
  |[]=>(um cks (yY P nm E o)).run λv=>K (E.put o.dst v) (L.del o.dst)
  |ks=>(match E.ev x with
   |some (.pointer (some a))=>(ON ks a (um cks (yY P nm E o))).run λv=>K (E.put o.dst v) (L.del o.dst)
   |_=>AS))
 |.buildSlice _ _ _=>(match AJ P ops E o with
  |some x=>K (E.del o.dst) (L.put o.dst x)
  |none=>(um cks (yY P nm E o)).run λv=>K (E.put o.dst v) (L.del o.dst))
 |_=>(um cks (yY P nm E o)).run λv=>K (E.put o.dst v) (L.del o.dst)
def mA (E:Env)(o:Oper):θ:=
 match o.op with
 |.load _ x=>(match E.ev x with|some (.pointer p)=>p|_=>none)
 |.slice _ x _ _ _=>(match E.ev x with|some (.slice a _ _)=>a|_=>none)
 |.convert _ _ x=>(match E.ev x with|some (.slice a _ _)=>a|_=>none)
 |_=>none
abbrev amj:=Nat->θ
def jn {R}(P:Program)(C:Ea)(W:Wr)(nb:μ)(ops:Array Oper):List (Nat×η)->Env->fK->amj->(Env->M R)->M R
 |[],E,_,_,K=>K E
 |(i,cs)::rest,E,L,A,K=>
  match ops[i]? with
  |none=>AS
  |some o=>
   match o.guard with
   |none=>yZ P C W (nb.map (·+i)) (cs.map A) (H8 P ops nb cs) ops E L o λE' L'=>jn P C W nb ops rest E' L' (λj=>cond (Nat.beq j i) (mA E o) (A j)) K
   |some (j,want)=>(match (ops[j]?).bind (·.dst) with
    |some t=>(match E t with
     |some (.bool b)=>
      (match want with
      |true=>yC b (yZ P C W (nb.map (·+i)) (cs.map A) (H8 P ops nb cs) ops (E.set t (.bool true)) L o λE' L'=>jn P C W nb ops rest E' L' (λj=>cond (Nat.beq j i) (mA E o) (A j)) K)
       (match GI W o.dst with
       |true=>jn P C W nb ops rest ((E.set t (.bool false)).put o.dst undef) (L.del o.dst) A K
       |false=>AS)
      |false=>yC b (match GI W o.dst with
       |true=>jn P C W nb ops rest ((E.set t (.bool true)).put o.dst undef) (L.del o.dst) A K
       |false=>AS)
       (yZ P C W (nb.map (·+i)) (cs.map A) (H8 P ops nb cs) ops (E.set t (.bool false)) L o λE' L'=>jn P C W nb ops rest E' L' (λj=>cond (Nat.beq j i) (mA E o) (A j)) K))
     |some (.tuple _)=>(match GI W o.dst with
      |true=>jn P C W nb ops rest (E.put o.dst undef) (L.del o.dst) A K
      |false=>AS)
     |_=>AS)
    |none=>AS)
def eO (ops:Array Oper)(o:Oper):η:=
 (o.op.operands.toList.filterMap λ| .tmp t=>some t|_=>none)++(match o.guard with
  |some (j,_)=>(match (ops[j]?).bind (·.dst) with|some t=>[t] | none=>[])
  |none=>[])
def apart (ops:Array Oper)(o p:Oper):Bool:=
 (match o.dst with|some d=>!Bx (eO ops p) d|none=>true)&&(match p.dst with|some d=>!Bx (eO ops o) d|none=>true) &&
 (match o.dst,p.dst with|some d,some e=>!Nat.beq d e|_,_=>true)
def Bz (ops:Array Oper)(p:Oper):Bool:=
 match p.op with
 |.store _ _ _=>true
 |.call c=>!isBuiltin c||CZ ops p
 |_=>false
def Ec (mo:FuncId->Bool)(p:Oper):Bool:=
 match p.op with
 |.call c=>(match c.callee with
  |.value (.func f)=>mo f
  |_=>false)
 |_=>false
def OO (P:Program)(mo:FuncId->Bool)(ops:Array Oper)(o p:Oper)(ck:Bool):Bool:=
 apart ops o p&&(match cls P ops o,cls P ops p with
  |.sil,_|_,.sil | .ro,.ro | .ro,.alloc | .ro,.add | .alloc,.alloc=>true
  |.ro,.mro | .mro,.ro | .mro,.mro | .mro,.alloc | .mro,.add | .alloc,.mro | .add,.mro=>true
  |.ro,.eff=>ck&&Bz ops p
  |.alloc,.eff=>ck&&AY p
  |.ro,.mka | .mka,.ro | .mka,.alloc | .alloc,.mka | .mro,.mka=>true
  |.mka,.eff | .mro,.eff=>Ec mo p
  |.add,.alloc=>Fq ops o
  |_,_=>false)
def y0 (e:Edge):Bool:=match e.ground with
 |.textOnly _ | .gcOnly _=>false
 |_=>true
def YD:η->η->η
 |[],a=>a
 |x::l,a=>YD l (cond (Bx a x) a (x::a))
def vf (ops:List Oper):List η:=
 ops.foldl (λacc o=>acc++[YD ((o.after.toList.filter y0).flatMap λe=>e.on::acc.getD e.on []) []]) []
def M4 (P:Program)(mo:FuncId->Bool)(ops:Array Oper)(pr:List η)(i j:Nat)(cj:η):Bool:=
 Bx (pr.getD j []) i||(match ops[i]?,ops[j]? with
  |some o,some p=>OO P mo ops o p (Bx cj i)
  |_,_=>false)
def IM (P:Program)(mo:FuncId->Bool)(ops:Array Oper)(pr:List η)(ks:η):List (Nat×η)->Bool
 |[]=>true
 |(i,_)::r=>(r.all λ(j,cj)=>M4 P mo ops pr i j cj||Bx ks j)&&IM P mo ops pr ks r
def yc (ops:Array Oper)(k:Nat):μ:=match ops[k]? with
 |some o=>(match o.op,o.guard with
  |.alloc _,none=>o.dst
  |_,_=>none)
 |none=>none
def yD (P:Program)(mo:FuncId->Bool)(ops:Array Oper)(pr:List η):η->List (Nat×η)->List (Nat×Nat×η)
 |_,[]=>[]
 |pre,(j,cj)::r=>(match yc ops j with
  |some d=>(match pre.filter λi=>!M4 P mo ops pr i j cj with
   |[]=>yD P mo ops pr (j::pre) r
   |l=>(j,d,l)::yD P mo ops pr (j::pre) r)
  |none=>yD P mo ops pr (j::pre) r)
def ah4 (ops:Array Oper)(pr:List η)(bad:η)(k d:Nat):Bool:=ops.toList.zipIdx.all λ(o,b)=>
 (!Bx (eO ops o) d||Bx (pr.getD b []) k)&&(Nat.beq b k||(match o.dst with|some e=>!Nat.beq e d|none=>true))&&(!Bx (pr.getD b []) k||bad.all (Bx (pr.getD b [])))
def YE (P:Program)(mo:FuncId->Bool)(ops:Array Oper)(l:List (Nat×η))(pr:List η):Bool:=
 (λt:List (Nat×Nat×η)=>(λ(ks bad:η)=>IM P mo ops pr ks l&&bad.all (λi=>!Bx ks i)&&t.all λ(k,d,_)=>ah4 ops pr bad k d) (t.map (·.1)) (t.flatMap (·.2.2))) (yD P mo ops pr [] l)
def Rd (P:Program)(mo:FuncId->Bool)(ops:Array Oper)(l:List (Nat×η)):Bool:=
 P.follows .mixedOrders&&(l.map (·.1)).isPerm (List.range ops.size) &&
 (ops.toList.zipIdx.all λ(o,i)=>o.after.toList.all λe=>!y0 e||Nat.blt e.on i) &&
 YE P mo ops l (vf ops.toList)
def YF (P:Program)(ops:Array Oper):Bool:=ops.toList.any λo=>match cls P ops o with
 |.alloc | .mka=>true
 |_=>false
def den {R}(P:Program)(body:Code)(T:OM R)(W:Wr)(fin:ov->Env->M R):Nat->Bool->List Fo->Env->M R
 |0,_,_,_=>AS
 |_+1,_,[],E=>fin .normal E
 |n+1,_,.ar _::k,E=>den P body T W fin n true k E
 |n+1,_,.scp _::k,E=>den P body T W fin n true k E
 |n+1,j,.code p::k,E=>
  match (match j with|true=>T.join p|false=>none) with
  |some (k',J)=>(match eqItems k k' with
   |true=>(match J E with|some m=>m|none=>AS)
   |false=>AS)
  |none=>
   match fU body p with
   |.skip=>den P body T W fin n true k E
   |.label _=>den P body T W fin n true k E
   |.seq _ _=>den P body T W fin n true (.code (0::p)::.code (1::p)::k) E
   |.cond c _ _=>(match E.ev c with
    |some (.bool b)=>yC b (den P body T W fin n true (.code (0::p)::k) (E.vz c true))
     (den P body T W fin n true (.code (1::p)::k) (E.vz c false))
    |_=>AS)
   |.block id _=>den P body T W fin n true (.code (0::p)::.ar id::k) E
   |.scope _=>den P body T W fin n true (.code (0::p)::.scp (0::p)::k) E
   |.loop _=>(match T.loop p E with
    |.one _ m e out=>sh m λx=>(match e with
     |.normal=>AS
     |.ret=>fin .ret (out x)
     |.exit id=>(match uk id k with
      |some k'=>den P body T W fin n true k' (out x)
      |none=>fin (.exit id) (out x)))
    |.two _ _ m e out e' out'=>sh m (dW
     (λx=>(match e with
      |.normal=>AS
      |.ret=>fin .ret (out x)
      |.exit id=>(match uk id k with
       |some k'=>den P body T W fin n true k' (out x)
       |none=>fin (.exit id) (out x))))
     (λx=>(match e' with
      |.normal=>AS
      |.ret=>fin .ret (out' x)
      |.exit id=>(match uk id k with
       |some k'=>den P body T W fin n true k' (out' x)
       |none=>fin (.exit id) (out' x)))))
    |.none=>AS)
   |.exit id=>(match uk id k with
    |some k'=>den P body T W fin n true k' E
    |none=>fin (.exit id) E)
   |.ret=>fin .ret E
   |.region id ops draw=>(match draw with
    |true=>(match T.draw id with
     |some l=>(match Rd P T.call.mo ops l with
      |true=>(match YF P ops with
       |true=>sh (dP ops.size) λnb=>jn P T.call W (some nb) ops l E fK.emp (λ_=>none) λE'=>den P body T W fin n true k E'
       |false=>jn P T.call W (some 0) ops l E fK.emp (λ_=>none) λE'=>den P body T W fin n true k E')
      |false=>AS)
     |none=>AS)
    |false=>jn P T.call W none ops ((List.range ops.size).map λi=>(i,[])) E fK.emp (λ_=>none) λE'=>den P body T W fin n true k E')
   |_=>AS
def mB (P:Program):List ResultVar->Env->δ->(δ->Act)->Act
 |[],_,acc,K=>K acc.reverse
 |.tmp t::r,E,acc,K=>(match E t with|some v=>mB P r E (v::acc) K|none=>.none)
 |.cell a t::r,E,acc,K=>(match E a with
  |some (.pointer (some x))=>(match Q8 P t x with
   |.val v=>mB P r E (v::acc) K
   |.ask α m k=>.ask α m λx=>resBind (k x) λv=>mB P r E (v::acc) K
   |.none=>.none)
  |_=>.none)
where
 resBind:Act->(ξ->Act)->Act
  |.val v,K=>K v
  |.ask α m k,K=>.ask α m λx=>resBind (k x) K
  |.none,_=>.none
def xc (f:Func):Code:=match f.body with
 |some c=>c
 |none=>.skip
def ac5 ts (v:ξ):M (aV ts):=
 match unR ts v with
 |some r=>AI r
 |none=>AS
def YH (P:Program)(f:Func) ts:ov->Env->M (aV ts):=λe E=>
 match e with
 |.exit _=>AS
 |_=>(mB P f.results.toList E [] λvs=>.val (gE vs)).run (ac5 ts)
def OP ls ms (id:Nat)(next:aV (lN ls)->M (aV (lN ms))):ov->Env->M (aV (lN ms)):=λe E=>
 match e with
 |.normal=>(match tY E ls with
  |some vs=>(match yX (lN ls) vs with|some x=>next x|none=>AS)
  |none=>AS)
 |.exit id'=>(match Nat.beq id id',tY E ms with
  |true,some vs=>(match yX (lN ms) vs with|some x=>AI x|none=>AS)
  |_,_=>AS)
 |.ret=>AS
def YI ls ms rs (id:Nat)(e2:ov)(next:aV (lN ls)->M (aV (lN ms)⊕aV (lN rs))) :
  ov->Env->M (aV (lN ms)⊕aV (lN rs)):=λe E=>
 match e with
 |.normal=>(match tY E ls with
  |some vs=>(match yX (lN ls) vs with|some x=>next x|none=>AS)
  |none=>AS)
 |e=>(match eqE e (.exit id) with
  |true=>(match tY E ms with
   |some vs=>(match yX (lN ms) vs with|some x=>AI (.inl x)|none=>AS)
   |none=>AS)
  |false=>(match eqE e e2 with
   |true=>(match tY E rs with
    |some vs=>(match yX (lN rs) vs with|some x=>AI (.inr x)|none=>AS)
    |none=>AS)
   |false=>AS))
def TH ls rs (next:aV (lN ls)->M (aV (lN rs))):ov->Env->M (aV (lN rs)):=λe E=>
 match e with
 |.normal=>(match tY E ls with
  |some vs=>(match yX (lN ls) vs with|some x=>next x|none=>AS)
  |none=>AS)
 |.exit _=>AS
 |.ret=>(match tY E rs with
  |some vs=>(match yX (lN rs) vs with|some x=>AI x|none=>AS)
  |none=>AS)
structure dh where
 id:FuncId
 as:List Ty
 rs:List Ty
 m:aV as->M (aV rs)
def HI (l:List dh):FuncId->δ->Option zM:=λf vs=>
 match l with
 |[]=>none
 |e::r=>match Nat.beq f e.id with
  |true=>(match yX e.as vs with
   |some x=>some ⟨aV e.rs,e.m x,λy=>gE (fC e.rs y)⟩
   |none=>none)
  |false=>HI r f vs
structure nH where
 slot:Nat
 as:List Ty
 rs:List Ty
 m:ξ->aV as->M (aV rs)
def TK (l:List nH):Nat->ξ->δ->Option zM:=λt x vs=>
 match l with
 |[]=>none
 |e::r=>match Nat.beq t e.slot with
  |true=>(match yX e.as vs with
   |some a=>some ⟨aV e.rs,e.m x a,λy=>gE (fC e.rs y)⟩
   |none=>none)
  |false=>TK r t x vs
def agk (l:List nH)(t:Nat):Bool:=
 match l with
 |[]=>false
 |e::r=>Nat.beq t e.slot||agk r t
def OQ (l:List dh)(d:List nH)(ms:List FuncId:=[]):Ea:=⟨HI l,TK d,agk d,λf=>ms.any (Nat.beq f)⟩
structure DTg (as rs:List Ty) where
 id:FuncId
 cs:List Ty
 m:aV as->aV cs->M (aV rs)
def dsp {as rs}:List (DTg as rs)->ξ->aV as->M (aV rs)
 |[],_,_=>AS
 |[e],x,a=>yC (nG e.id x) (sh (mr e.cs x) λc=>e.m a c) AS
 |e::f::r,x,a=>yC (nG e.id x) (sh (mr e.cs x) λc=>e.m a c) (dsp (f::r) x a)
structure OR where
 p:Path
 ls:List (Nat×Ty)
 act:aV (lN ls)->xZ
def Jk (l:List OR):Path->Env->xZ:=λp E=>
 match l with
 |[]=>.none
 |e::r=>match xa p e.p with
  |true=>(match tY E e.ls with
   |some vs=>(match yX (lN e.ls) vs with
    |some x=>e.act x
    |none=>.none)
   |none=>.none)
  |false=>Jk r p E
def aml (E:Env)(ws:η):Env:=λj=>cond (ws.any (Nat.beq j)) none (E j)
def YJ ls ms (ws:η)(x:aV (lN ls))(y:aV (lN ms)):Env:=ac0 (aml (zJ ls (fC (lN ls) x)) ws) ms (fC (lN ms) y)
def agl ls ms (ws:η)(id:Nat)(m:aV (lN ls)->M (aV (lN ms)))(x:aV (lN ls)):xZ:=.one (aV (lN ms)) (m x) (.exit id) (YJ ls ms ws x)
def agm ls rs (ws:η)(m:aV (lN ls)->M (aV (lN rs)))(x:aV (lN ls)):xZ:=.one (aV (lN rs)) (m x) .ret (YJ ls rs ws x)
def agn ls ms rs (ws:η)(id:Nat)(e2:ov)(m:aV (lN ls)->M (aV (lN ms)⊕aV (lN rs)))(x:aV (lN ls)):xZ:=
 .two (aV (lN ms)) (aV (lN rs)) (m x) (.exit id) (YJ ls ms ws x) e2 (YJ ls rs ws x)
def Jl (W:Wr)(nt:Nat)(ws:η):Bool:=Nat.beq W.1 nt&&(match W.2 with
 |some l=>ws.all λi=>l.any (Nat.beq i)
 |none=>true)
structure iB (R:Type) where
 p:Path
 k:List Fo
 ls:List (Nat×Ty)
 m:aV (lN ls)->M R
def goJ {R} ls (m:aV (lN ls)->M R)(E:Env):Option (M R):=
 match tY E ls with
 |some vs=>(match yX (lN ls) vs with
  |some x=>some (m x)
  |none=>none)
 |none=>none
def LY {R}(l:List (iB R)):Path->Option (List Fo×(Env->Option (M R))):=λp=>
 match l with
 |[]=>none
 |e::r=>match xa p e.p with
  |true=>some (e.k,goJ e.ls e.m)
  |false=>LY r p
end Go.Ago
