
import Derived.Laws.Cells
import Derived.Laws.Strings
import Derived.KernelRfl
set_option linter.all false
namespace Go.Ago
abbrev AT:=@if_neg
abbrev By:=@if_pos
abbrev BY:=@List.mem_of_getElem?
abbrev IN:=@List.mem_cons_of_mem
abbrev IS:=@Int.toNat_natCast
abbrev IT:=@Nat.lt_succ_self
abbrev OF:=@List.mem_cons_self
abbrev abi:=@Nat.eq_of_beq_eq_true
abbrev abt:=@List.getElem?_map
abbrev ab8:=@decide_eq_true_eq
abbrev acg:=@List.length_cons
abbrev acm:=@List.length_append
abbrev aco:=@List.drop_eq_nil_of_le
abbrev acX:=@Nat.le_refl
abbrev ac5:=@Bool.and_eq_true
abbrev adg:=@List.getElem?_eq_getElem
abbrev adr:=@List.mem_append_right
abbrev adW:=@Option.some.injEq
abbrev adX:=@Nat.lt_succ_of_lt
abbrev adY:=@Nat.mul_one
abbrev adZ:=@List.map_cons
abbrev ad0:=@List.cons_append
abbrev ad3:=@List.append_assoc
abbrev ad4:=@List.length_singleton
abbrev ad5:=@Nat.le_trans
abbrev ad6:=@Nat.zero_add
abbrev aea:=@Nat.zero_le
abbrev aeo:=@List.mem_append_left
abbrev aeP:=@List.length_replicate
abbrev agv:=@List.mem_singleton
abbrev agy:=@List.length_nil
abbrev ahe:=@List.eq_nil_of_length_eq_zero
abbrev ahh:=@Option.some.inj
abbrev ahr:=@List.flatMap_cons
abbrev aht:=@Bool.false_eq_true
abbrev aii:=@List.length_map
abbrev aiv:=@List.sublist_cons_self
abbrev aiw:=@of_decide_eq_true
abbrev aiJ:=@List.map_append
abbrev aiK:=@Array.getElem?_toList
abbrev aiL:=@List.sublist_append_right
abbrev aiM:=@Nat.mul_le_mul_right
abbrev aiO:=@List.nil_append
abbrev aiP:=@List.append_nil
abbrev ai1:=@Nat.le_of_ble_eq_true
abbrev ai4:=@decide_eq_true
abbrev ai9:=@Int.tdiv_eq_ediv_of_nonneg
abbrev ajc:=@List.getElem?_append_left
abbrev ajl:=@Int.le_refl
abbrev ajm:=@Int.natCast_nonneg
abbrev ajo:=@List.getElem?_set_self
abbrev alZ:=@List.drop_zero
abbrev amh:=@Nat.add_zero
abbrev amp:=@List.mem_append
abbrev amq:=@List.getElem?_eq_some_iff
abbrev amr:=@Array.getElem?_eq_getElem
abbrev amJ:=@List.drop_eq_getElem_cons
abbrev amK:=@List.cons.inj
abbrev anw:=@if_false
abbrev anz:=@Nat.add_mul
abbrev anA:=@List.length_set
abbrev anB:=@List.getElem?_drop
abbrev anC:=@Array.ext'
abbrev anD:=@Nat.beq_refl
abbrev anE:=@Nat.lt_trans
abbrev anF:=@List.ext_getElem?
abbrev anG:=@List.all_eq_true
abbrev anH:=@List.length_take
abbrev anI:=@Option.bind_some
abbrev anJ:=@List.pairwise_cons
abbrev anK:=@List.set_cons_zero
abbrev anL:=@List.eq_of_mem_replicate
abbrev anM:=@Int.eq_ofNat_of_zero_le
abbrev anN:=@List.count_append
abbrev anO:=@Array.getD_eq_getD_getElem?
abbrev anP:=@List.replicate_succ
abbrev anR:=@Nat.le_of_lt
abbrev anT:=@List.getElem?_append_right
abbrev anX:=@List.nodup_range
abbrev an1:=@congrArg
abbrev aoa:=@List.set_append_right
abbrev aob:=@List.mem_or_eq_of_mem_set
abbrev aop:=@Nat.le_succ
abbrev aox:=@List.count_cons
abbrev aoy:=@List.getElem_mem
abbrev aoB:=@List.drop_drop
abbrev aoL:=@true_and
abbrev aoO:=@List.nodup_nil
abbrev ao1:=@UInt8.toNat_lt
abbrev apj:=@Nat.lt_of_lt_of_le
abbrev apk:=@List.perm_append_comm_assoc
abbrev apl:=@Bool.or_eq_true
abbrev apm:=@Option.map_some
abbrev apn:=@List.getElem?_eq_none
abbrev apo:=@List.perm_append_comm
abbrev apq:=@Nat.sub_self
abbrev apr:=@List.perm_middle
abbrev aps:=@Nat.add_assoc
abbrev apt:=@List.mem_cons
abbrev apu:=@List.set_cons_succ
abbrev apv:=@List.map_replicate
abbrev apw:=@List.head?_eq_getElem?
abbrev apx:=@List.take_of_length_le
abbrev apy:=@Bool.not_eq_true'
abbrev apz:=@List.nodup_append
abbrev apA:=@List.getElem?_toArray
abbrev apB:=@List.take_append_drop
abbrev apC:=@List.mem_iff_getElem?
abbrev apE:=@Nat.mul_le_mul
abbrev apF:=@Int.le_trans
abbrev apI:=@if_true
abbrev apL:=@Array.getElem?_setIfInBounds
abbrev apN:=@List.take_succ
abbrev apP:=@List.length_drop
abbrev apS:=@List.take_length
abbrev apT:=@ByteArray.ext
abbrev apU:=@List.flatMap_append
abbrev apV:=@List.length_reverse
abbrev apX:=@Nat.add_le_add_left
abbrev apY:=@Classical.byContradiction
abbrev apZ:=@List.nodup_cons
abbrev ap0:=@Nat.le_add_left
abbrev ap1:=@List.getElem?_take
abbrev ap2:=@List.set_set
abbrev ap3:=@Nat.zero_mul
abbrev ap4:=@cond_false
abbrev ap7:=@not_true_eq_false
abbrev aqa:=@List.getElem?_set
abbrev aqb:=@Nat.one_mul
abbrev aqc:=@List.set_eq_take_append_cons_drop
abbrev aqf:=@Prod.mk.injEq
abbrev aqi:=@List.all_cons
abbrev aql:=@Array.toList_inj
abbrev aqn:=@List.range'_succ
abbrev aqo:=@Array.mem_of_getElem?
abbrev aqp:=@UInt8.lt_iff_toNat_lt
abbrev aqq:=@UInt8.toNat_inj
abbrev aqr:=@Array.toArray_toList
abbrev aqv:=@List.replicate_succ'
abbrev aqx:=@decide_eq_false
abbrev aqB:=@List.count_le_length
abbrev aqD:=@Array.toList_append
abbrev aqE:=@Bool.false_and
abbrev aqF:=@List.Perm.refl
abbrev aqG:=@List.dropLast_concat_getLast
abbrev aqI:=@Array.ext_getElem?
abbrev aqJ:=@BitVec.toNat_ofInt
abbrev aqK:=@Bool.true_and
abbrev aqL:=@Bool.not_true
abbrev aqM:=@List.perm_ext_iff_of_nodup
abbrev aqN:=@List.sum_cons
abbrev aqO:=@List.flatten_cons
abbrev aqP:=@List.pairwise_map
abbrev aqQ:=@List.pairwise_iff_getElem
abbrev aqR:=@Nat.mod_eq_of_lt
abbrev aqS:=@Nat.sub_zero
abbrev aqT:=@Array.mem_append
abbrev aqU:=@Nat.le_add_right
abbrev aqV:=@List.sublist_append_left
abbrev aqW:=@List.map_map
abbrev aqX:=@List.map_set
abbrev aqY:=@List.Sublist.append_left
abbrev aqZ:=@List.not_mem_nil
abbrev aq0:=@Option.bind_eq_some_iff
abbrev aq1:=@List.getElem?_cons_succ
abbrev aq2:=@List.length_eq_zero_iff
abbrev aq3:=@Bool.eq_iff_iff
abbrev aq4:=@List.mem_filter
abbrev aq5:=@Nat.min_eq_left
abbrev aq6:=@List.range_succ_eq_map
abbrev aq7:=@List.Perm.append_right
abbrev aq8:=@List.modify_zero_cons
abbrev aq9:=@List.singleton_append
abbrev ara:=@List.countP_le_length
abbrev arb:=@List.Perm.append_left
abbrev arc:=@List.eq_nil_or_concat
abbrev ard:=@List.concat_eq_append
abbrev arf:=@List.getElem?_append
abbrev ari:=@Nat.mod_lt
abbrev arj:=@List.getElem?_modify
abbrev ark:=@List.set_append_left
abbrev arl:=@List.getElem?_set_ne
abbrev arn:=@Decidable.of_not_not
abbrev aro:=@List.nodup_iff_count
abbrev arp:=@Nat.add_le_add_right
abbrev arq:=@List.mem_of_mem_take
abbrev ars:=@List.mem_of_mem_drop
abbrev art:=@List.drop_eq_nil_iff
abbrev aru:=@Bool.or_false
abbrev arB:=@Nat.add_comm
open Go
abbrev δ:=List Value
abbrev ε:=List Int
abbrev ζ:=ByteArray
abbrev η:=List Nat
abbrev θ:=Option Addr
abbrev κ:=TypeId
abbrev μ:=Option Nat
abbrev ν:=Array Value
abbrev ξ:=Value
abbrev Env:=Nat->Option ξ
def Env.set (E:Env)(i:Nat)(v:ξ):Env:=λj=>cond (Nat.beq j i) (some v) (E j)
def Env.put (E:Env)(d:μ)(v:ξ):Env:=
 match d with
 |some i=>E.set i v
 |none=>E
def Env.emp:Env:=λ_=>none
def dX:ξ->Bool
 |.bool _ | .int _ _ | .float _ _ | .complex _ _ _ | .string _ | .nilFunc | .nilIface | .pointer none | .map none | .chan none | .slice none _ _=>true
 |_=>false
def flat:ξ->Bool
 |.agg cs=>cs.toList.all dX
 |.tuple vs=>vs.toList.isEmpty
 |.iface _ v=>dX v
 |v=>dX v
def Env.ev (E:Env):Operand->Option ξ
 |.tmp t=>E t
 |.const v=>match flat v with|true=>some v|false=>none
 |.global _=>none
 |.func f=>some (.func (.func f) #[] #[])
def Env.Ri (E:Env):List Operand->Option δ
 |[]=>some []
 |x::xs=>match E.ev x,E.Ri xs with
  |some v,some vs=>some (v::vs)
  |_,_=>none
def T5:IntKind->Nat
 |.i8=>0 | .i16=>1 | .i32=>2 | .i64=>3 | .u8=>4 | .u16=>5 | .u32=>6 | .u64=>7
def T6 (a b:IntKind):Bool:=Nat.beq (T5 a) (T5 b)
inductive Nc where
 |cells (c:δ) (jU base:Nat) (elem:κ)
 |map (es:List (ξ×ξ))
 |iter (s:ζ) (pos:Nat)
structure Iq where
 key:ξ
 val:ξ
 born:Nat
structure anQ where
 kt:κ
 clock:Nat
 es:List Iq
structure aj where
 kX:Nat->Option anQ
 get:Nat->Option Nc
 next:Nat
 sx:Nat->Nat
 used:Nat->Bool
 dec:∀p:Prop,Decidable p
abbrev M (α:Type):=aj->Option (α×aj)
def sh {α β}(m:M α)(f:α->M β):M β:=λh=>
 match m h with
 |some (a,h')=>f a h'
 |none=>none
def AI {α}(a:α):M α:=λh=>some (a,h)
def AS {α}:M α:=λ_=>none
structure Sl where
 a:θ
 len:Nat
 cap:Nat
inductive yf where
 |int (k:IntKind)|bool|str|ptr|ak|sl|mp|raw|f64
@[reducible] def yf.den:yf->Type
 |.int _=>Int
 |.bool=>Bool
 |.str=>ζ
 |.ptr=>θ
 |.ak=>Addr
 |.sl=>Sl
 |.mp=>μ
 |.raw=>ξ
 |.f64=>Nat
def OW:(l:yf)->l.den->ξ
 |.int k,n=>.int k n
 |.bool,b=>.bool b
 |.str,s=>.string s
 |.ptr,p=>.pointer p
 |.ak,p=>.pointer (some p)
 |.sl,s=>.slice s.a s.len s.cap
 |.mp,r=>.map r
 |.raw,v=>v
 |.f64,n=>.float .f64 n
def D9:(l:yf)->ξ->Option l.den
 |.int .i8,.int .i8 n | .int .i16,.int .i16 n | .int .i32,.int .i32 n | .int .i64,.int .i64 n=>some n
 |.int .u8,.int .u8 n | .int .u16,.int .u16 n | .int .u32,.int .u32 n | .int .u64,.int .u64 n=>some n
 |.bool,.bool b=>some b
 |.str,.string s=>some s
 |.ptr,.pointer p=>some p
 |.ak,.pointer (some p)=>some p
 |.sl,.slice a n c=>some ⟨a,n,c⟩
 |.mp,.map r=>some r
 |.raw,v=>some v
 |.f64,.float .f64 n=>some n
 |_,_=>none
@[reducible] def pC:List yf->Type
 |[]=>Unit
 |[l]=>l.den
 |l::ls=>l.den×pC ls
def LH:(ls:List yf)->pC ls->δ
 |[],_=>[]
 |[l],x=>[OW l x]
 |l::l'::ls,x=>OW l x.1::LH (l'::ls) x.2
def Ea:(ls:List yf)->δ->Option (pC ls)
 |[],[]=>some ()
 |[l],[v]=>D9 l v
 |l::l'::ls,v::vs=>match D9 l v,Ea (l'::ls) vs with
  |some x,some y=>some (x,y)
  |_,_=>none
 |_,_=>none
inductive Ty where
 |one (l:yf)
 |agg (ls:List yf)
@[reducible] def Ty.den:Ty->Type
 |.one l=>l.den
 |.agg ls=>pC ls
def GR:(t:Ty)->t.den->ξ
 |.one l,x=>OW l x
 |.agg ls,x=>.agg (LH ls x).toArray
def OX:(t:Ty)->ξ->Option t.den
 |.one l,v=>D9 l v
 |.agg ls,.agg cs=>Ea ls cs.toList
 |_,_=>none
@[reducible] def aY:List Ty->Type
 |[]=>Unit
 |[t]=>t.den
 |t::ts=>t.den×aY ts
def gp:(ts:List Ty)->aY ts->δ
 |[],_=>[]
 |[t],x=>[GR t x]
 |t::t'::ts,x=>GR t x.1::gp (t'::ts) x.2
def An:(ts:List Ty)->δ->Option (aY ts)
 |[],[]=>some ()
 |[t],[v]=>OX t v
 |t::t'::ts,v::vs=>match OX t v,An (t'::ts) vs with
  |some x,some y=>some (x,y)
  |_,_=>none
 |_,_=>none
def im (vs:δ):ξ:=
 match vs with
 |[v]=>v
 |vs=>.tuple vs.toArray
def unR ts (v:ξ):Option (aY ts):=
 match ts with
 |[t]=>OX t v
 |ts=>match v with
  |.tuple vs=>An ts vs.toList
  |_=>none
def ve (E:Env):List (Nat×Ty)->Option δ
 |[]=>some []
 |(i,_)::r=>match E i,ve E r with
  |some v,some vs=>some (v::vs)
  |_,_=>none
def AP:List (Nat×Ty)->δ->Env
 |(i,_)::r,v::vs=>(AP r vs).set i v
 |_,_=>Env.emp
def ad7 (E:Env):List (Nat×Ty)->δ->Env
 |(i,_)::r,v::vs=>(ad7 E r vs).set i v
 |_,_=>E
def nM:List (Nat×Ty)->List Ty
 |[]=>[]
 |(_,t)::r=>t::nM r
def aj.cell (h:aj)(a:Addr):Option ξ:=
 match h.get a.block with
 |some (.cells c _ _ _)=>c[a.off]?
 |_=>none
def _root_.Go.Addr.plus (a:Addr)(n:Nat):Addr:=⟨a.block,a.off+n,none⟩
def dz (l:yf)(a:Addr):M l.den:=λh=>
 match h.cell a with
 |some v=>(match D9 l v with|some x=>some (x,h)|none=>none)
 |none=>none
def idO (o:Option Nc):Option Nc:=match o with
 |some b=>some b
 |none=>none
@[simp] theorem ET o:idO o=o:=by cases o<;>rfl
def aj.cQ (h:aj)(nm next':Nat)(elem:κ)(cs:δ):aj:=
 { h with
  get:=λj=>cond (Nat.beq j nm) (some (.cells cs (nm+1) 0 elem)) (idO (h.get j))
  next:=next'
  sx:=λg=>cond (Nat.beq g (nm+1)) cs.length (h.sx g)
  used:=λj=>cond (Nat.beq j nm) true (h.used j) }
def aj.new (h:aj)(elem:κ)(cs:δ):aj:=h.cQ h.next (h.next+1) elem cs
def fv:ξ->Bool
 |.agg _ | .tuple _=>false
 |_=>true
def gG (nm:μ)(elem:κ)(cs:δ):M Nat:=λh=>
 if cs.all fv=true then (match nm with
  |none=>some (h.next,h.new elem cs)
  |some k=>if h.used k=false/\k<h.next/\(h.get k).isNone=true then some (k,h.cQ k h.next elem cs) else none) else none
def bX (n:Nat):M Nat:=λh=>some (h.next,{ h with next:=h.next+n })
def aR (c:δ)(o:Nat)(vs:δ):δ:=c.take o++vs++c.drop (o+vs.length)
def aj.wE (h:aj)(b:Nat)(c:δ)(g base:Nat)(elem:κ):aj:=
 { h with get:=λj=>cond (Nat.beq j b) (some (.cells c g base elem)) (match h.get j with
   |some (.cells c' g' base' elem')=>cond (Nat.beq g' g) none (some (.cells c' g' base' elem'))
   |o=>o) }
def sL (a:Addr)(vs:δ):M Unit:=λh=>
 match h.get a.block with
 |some (.cells c g base elem)=>
  if g≠0/\a.off+vs.length<=c.length/\vs.all fv=true then some ((),h.wE a.block (aR c a.off vs) g base elem) else none
 |_=>none
def qT (b:Bool):M Unit:=λh=>match b with
 |true=>some ((),h)
 |false=>none
def nn (p:θ):M Addr:=λh=>match p with
 |some a=>some (a,h)
 |none=>none
def aX (h:aj)(a:θ)(n:Nat):Option δ:=
 match a with
 |none=>if n=0 then some [] else none
 |some a=>match h.get a.block with
  |some (.cells c _ _ _)=>if a.off+n<=c.length then some ((c.drop a.off).take n) else none
  |_=>none
def EU (s:Sl)(sz:Nat):M δ:=λh=>
 match s.len with
 |0=>some ([],h)
 |n+1=>match aX h s.a ((n+1)*sz) with
  |some cs=>some (cs,h)
  |none=>none
def bJ:Nat:=1073741824
def zO (strict:Bool)(s:Sl)(sz:Nat)(elem:κ)(n:Nat)(new:δ):M Sl:=λh=>
 if n=0 then (match s.a with
  |none=>if s.len=0/\s.cap=0/\new=[] then some (s,h) else none
  |some _=>if new=[] then some (s,h) else none) else
 if ¬(s.len+n<=bJ/\new.length=n*sz) then none else
 match s.a with
 |none=>if s.len=0/\s.cap=0 then some (⟨some ⟨h.next,0,none⟩,n,0⟩,h.new elem new) else none
 |some a=>
  match aX h (some a) (s.len*sz),h.get a.block with
  |some qC,some (.cells c g base e)=>
   if s.cap≠0/\s.len+n<s.cap then
    if g≠0/\a.off+(s.len*sz+new.length)<=c.length/\strict=false then
     some (⟨some a,s.len+n,s.cap⟩,h.wE a.block (aR c (a.off+s.len*sz) new) g base e) else none
   else if s.cap≠0 then some (⟨some ⟨h.next,0,none⟩,s.len+n,0⟩,h.new elem (qC++new))
   else if g≠0/\e=elem then
    let tipNow:=base+a.off+s.len*sz
    let au:Nc:=.cells (qC++new) g (base+a.off) elem
    if h.sx g=tipNow then
     some (⟨some ⟨h.next,0,none⟩,s.len+n,0⟩,
      { h with
       get:=λj=>cond (Nat.beq j h.next) (some au) (idO (h.get j))
       next:=h.next+1
       sx:=λg'=>cond (Nat.beq g' g) (tipNow+new.length) (h.sx g')
       used:=λj=>cond (Nat.beq j h.next) true (h.used j) })
    else if strict=false then
     some (⟨some ⟨h.next,0,none⟩,s.len+n,0⟩,
      { h with
       get:=λj=>cond (Nat.beq j h.next) (some au) (match h.get j with
        |some (.cells c' g' base' elem')=>cond (Nat.beq g' g&&Nat.blt tipNow (base'+c'.length)) none (some (.cells c' g' base' elem'))
        |o=>o)
       next:=h.next+1
       sx:=λg'=>cond (Nat.beq g' g) (tipNow+new.length) (h.sx g')
       used:=λj=>cond (Nat.beq j h.next) true (h.used j) })
    else none
   else none
  |_,_=>none
def app (strict:Bool)(s:Sl)(sz:Nat)(elem:κ)(n:Nat)(new:δ):M Sl:=λh=>
 match strict&&(h.get h.next).isSome with
 |true=>none
 |false=>zO strict s sz elem n new h
def ni (s:Sl)(i:Int)(sz:Nat):M Addr:=λh=>
 match s.a with
 |some a=>if 0<=i/\i<s.len then some (a.plus (i.toNat*sz),h) else none
 |none=>none
def qc (s:ζ)(i:Int):M UInt8:=λh=>
 match (if 0<=i then s[i.toNat]? else none) with
 |some b=>some (b,h)
 |none=>none
def Nd (l:yf)(n:Nat)(cs:δ)(j:Int):M l.den:=λh=>
 if 0<=j/\j<(n:Int) then (match cs[j.toNat]? with
  |some v=>(match D9 l v with|some x=>some (x,h)|none=>none)
  |none=>none) else none
def exS (s:ζ)(a b:Nat):ζ:=⟨⟨(s.data.toList.drop a).take (b-a)⟩⟩
theorem EV s a b:exS s a b=s.extract a b:=by
 have h:(s.extract a b).data.toList=(s.data.toList.drop a).take (b-a):=by simp_all
 unfold exS;rw[<-h]
def jG (s:ζ)(lo hi:Int):M ζ:=λh=>
 if 0<=lo/\lo<=hi/\hi<=s.size then some (exS s lo.toNat hi.toNat,h) else none
def mM (h:aj)(s:Sl)(e:κ):Bool:=
 match s.a with
 |none=>Nat.beq s.len 0&&Nat.beq s.cap 0
 |some a=>match h.get a.block with
  |some (.cells _ g _ e')=>Nat.beq g 0||Nat.beq e' e
  |_=>false
def jH (s:Sl)(lo hi:Int)(e:κ)(sz:Nat):M Sl:=λh=>
 if 0<=lo/\lo<=hi/\hi<=s.len/\mM h s e=true then
  some (⟨s.a.map (·.plus (lo.toNat*sz)),hi.toNat-lo.toNat,s.cap-(if s.cap=0 then 0 else lo.toNat)⟩,h) else none
def qG (a:Addr)(len:Nat)(lo hi:Int)(sz:Nat):M Sl:=λh=>
 if 0<=lo/\lo<=hi/\hi<=(len:Int) then some (⟨some (a.plus (lo.toNat*sz)),hi.toNat-lo.toNat,len-lo.toNat+1⟩,h) else none
def mG (x y:ζ):M ζ:=λh=>
 if x.size+y.size<=bJ then some (x++y,h) else none
def xm (nm:μ)(elem:κ)(zero:δ)(l c:Int):M Sl:=λh=>
 if 0<=l/\l<=c/\c<=bJ then (match gG nm elem (List.replicate c.toNat zero).flatten h with
  |some (b,h')=>some (⟨some ⟨b,0,none⟩,l.toNat,c.toNat+1⟩,h')
  |none=>none) else none
def bytesOf (vs:δ):Option (List UInt8):=
 match vs with
 |[]=>some []
 |.int .u8 n::r=>match bytesOf r with
  |some l=>some (UInt8.ofNat n.toNat::l)
  |none=>none
 |_=>none
def ofBytes (l:List UInt8):ζ:=⟨l.toArray⟩
def bK (s:ζ):δ:=s.data.toList.map λb=>.int .u8 b.toNat
def strOf (s:Sl):M ζ:=λh=>
 match aX h s.a s.len with
 |some cs=>(match bytesOf cs with|some l=>some (ofBytes l,h)|none=>none)
 |none=>none
def Ao (elem:κ)(s:ζ):M Sl:=λh=>
 if s.size<=bJ then some (⟨some ⟨h.next,0,none⟩,s.size,0⟩,h.new elem (bK s)) else none
def nN:ξ->M Bool:=λv h=>match v with
 |.nilIface=>some (true,h)
 |.iface _ _=>some (false,h)
 |_=>none
def eqL:List UInt8->List UInt8->Bool
 |[],[]=>true
 |x::xs,y::ys=>Nat.beq x.toNat y.toNat&&eqL xs ys
 |_,_=>false
def oG (x y:ζ):Bool:=eqL x.data.toList y.data.toList
def Nf:∀{l l'},eqL l l'=true↔l=l'
 |[],[]=>by simp[eqL]
 |[],_::_=>by simp[eqL]
 |_::_,[]=>by simp[eqL]
 |x::l,y::l'=>by
  simp[eqL,ac5,Nf,Nat.beq_eq,aqq,List.cons.injEq]
theorem s9 x y:oG x y=(x.toList==y.toList):=by
 rw[ByteArray.toList_eq,ByteArray.toList_eq,aq3,beq_iff_eq];exact Nf
def LC (x y:ζ):Bool:=Op.bytesLess x.toList y.toList
def GS (x y:ξ):Bool:=
 match x,y with
 |.int k a,.int k' b=>T6 k k'&&decide (a=b)
 |.bool a,.bool b=>a==b
 |.string a,.string b=>oG a b
 |_,_=>false
def Eb:δ->δ->Bool
 |[],[]=>true
 |x::xs,y::ys=>GS x y&&Eb xs ys
 |_,_=>false
def FO (x y:ξ):Bool:=
 match x,y with
 |.agg xs,.agg ys=>Eb xs.toList ys.toList
 |x,y=>GS x y
def jj (k:ξ):List Iq->Option Iq
 |[]=>none
 |e::r=>match FO k e.key with
  |true=>some e
  |false=>jj k r
def CH (k:ξ)(es:List Iq):Option ξ:=(jj k es).map (·.val)
def ud (k v:ξ)(c:Nat):List Iq->List Iq
 |[]=>[⟨k,v,c⟩]
 |e::r=>match FO k e.key with
  |true=>⟨k,v,e.born⟩::r
  |false=>e::ud k v c r
def Ml (b:Nat)(v:ξ):List Iq->Option (List Iq)
 |[]=>none
 |e::r=>match Nat.beq e.born b with
  |true=>some (⟨e.key,v,e.born⟩::r)
  |false=>(match Ml b v r with|some l=>some (e::l)|none=>none)
def aj.qH (h:aj)(m:Nat)(x:anQ):aj:=
 { h with kX:=λj=>cond (Nat.beq j m) (some x) (h.kX j) }
def H0 (kt:κ):M Nat:=λh=>some (h.next,{ h.qH h.next ⟨kt,0,[]⟩ with next:=h.next+1,used:=λj=>cond (Nat.beq j h.next) true (h.used j) })
def aj.CI (h:aj)(k:Nat)(kt:κ):aj:={ h.qH k ⟨kt,0,[]⟩ with used:=λj=>cond (Nat.beq j k) true (h.used j) }
def aj.fresh (h:aj)(k:Nat):Prop:=h.used k=false/\k<h.next/\h.kX k=none/\h.get k=none
def ue (k:Nat)(kt:κ):M Nat:=λh=>if h.used k=false/\k<h.next/\(h.kX k).isNone=true/\(h.get k).isNone=true then some (k,h.CI k kt) else none
def apD {α}(m:M α):Prop:=∀(h:aj) (k:Nat) (kt:κ) (x:α) (h2:aj),h.fresh k->m (h.CI k kt)=some (x,h2)->∃h1,m h=some (x,h1)/\h1.fresh k/\h2=h1.CI k kt
def GO {α}(m:M α):Prop:=apD m/\∀h x h1,m h=some (x,h1)->h1.kX=h.kX
def aj.FU (h:aj)(kt:κ)(m:Nat):Option (Nat×List Iq):=
 match h.kX m with
 |some x=>(match Nat.beq x.kt kt with|true=>some (x.clock,x.es)|false=>none)
 |none=>none
def CJ (kt:κ)(T:Ty)(z:T.den)(m:μ)(k:ξ):M (Bool×T.den):=λh=>
 match m with
 |none=>some ((false,z),h)
 |some m=>(match h.FU kt m with
  |some (_,es)=>(match CH k es with
   |some v=>(match OX T v with|some x=>some ((true,x),h)|none=>none)
   |none=>some ((false,z),h))
  |none=>none)
def Ju (kt:κ)(m:μ)(k v:ξ):M Unit:=λh=>
 match m with
 |none=>none
 |some m=>(match h.FU kt m with
  |some (c,es)=>some ((),h.qH m ⟨kt,(match jj k es with|some _=>c|none=>c+1),ud k v c es⟩)
  |none=>none)
def AQ (kt:κ)(T:Ty)(z:T.den)(m:μ)(k:ξ):M (T.den×Nat):=λh=>
 match m with
 |none=>none
 |some m=>(match h.FU kt m with
  |some (c,es)=>(match jj k es with
   |some e=>(match OX T e.val with|some x=>some ((x,e.born),h)|none=>none)
   |none=>some ((z,c),h.qH m ⟨kt,c+1,ud k (GR T z) c es⟩))
  |none=>none)
def AR (m:μ)(st:Int)(v:ξ):M Unit:=λh=>
 match m with
 |none=>none
 |some m=>(match h.kX m with
  |some x=>(match decide (0<=st),Ml st.toNat v x.es with
   |true,some es=>some ((),h.qH m ⟨x.kt,x.clock,es⟩)
   |_,_=>none)
  |none=>none)
def OY (m:μ):M Nat:=λh=>
 match m with
 |none=>some (0,h)
 |some m=>(match h.kX m with
  |some x=>some (x.es.length,h)
  |none=>none)
def Jv (d s:Sl)(sz:Nat):M Nat:=λh=>
 match aX h s.a (Nat.min s.len d.len*sz) with
 |some []=>some (Nat.min s.len d.len,h)
 |some cs=>(match d.a with
  |none=>none
  |some a=>(match sL a cs h with
   |some (_,h')=>some (Nat.min s.len d.len,h')
   |none=>none))
 |none=>none
def nnF (x:ξ):M Unit:=λh=>
 match x with
 |.func (.func _) _ _=>some ((),h)
 |_=>none
def tU (g:FuncId)(x:ξ):Bool:=
 match x with
 |.func (.func f) first _=>Nat.beq f g&&first.toList.isEmpty
 |_=>false
def Ng (x:ξ):δ:=
 match x with
 |.func _ _ caps=>caps.toList
 |_=>[]
def sB cs (x:ξ):M (aY cs):=λh=>
 match An cs (Ng x) with
 |some c=>some (c,h)
 |none=>none
def aiX (x y:ξ):Bool:=
 match x,y with
 |.int k a,.int k' b=>T6 k k'&&decide (a=b)
 |.bool a,.bool b=>a==b
 |.string a,.string b=>oG a b
 |.pointer none,.pointer none=>true
 |.pointer (some ⟨a,b,none⟩),.pointer (some ⟨c,d,none⟩)=>Nat.beq a c&&Nat.beq b d
 |.slice none a b,.slice none c d=>Nat.beq a c&&Nat.beq b d
 |.slice (some ⟨a,b,none⟩) m n,.slice (some ⟨c,d,none⟩) m' n'=>Nat.beq a c&&Nat.beq b d&&(Nat.beq m m'&&Nat.beq n n')
 |.map none,.map none=>true
 |.map (some a),.map (some b)=>Nat.beq a b
 |_,_=>false
def ad8:δ->δ->Bool
 |[],[]=>true
 |x::xs,y::ys=>aiX x y&&ad8 xs ys
 |_,_=>false
def ad9 {x y}(h:aiX x y=true):x=y:=by
 unfold aiX at h;split at h
 .rename_i k a k' b;simp at h;obtain⟨h1,rfl⟩:=h;cases k<;>cases k'<;>first|rfl|cases h1
 .rw[eq_of_beq h]
 .rename_i a b;obtain⟨⟨a⟩⟩:=a;obtain⟨⟨b⟩⟩:=b;have h:eqL a b=true:=h;rw[Nf.1 h]
 .rfl
 .simp_all
 .simp_all
 .simp_all
 .rfl
 .simp_all
 .cases h
theorem T7:∀{x y},ad8 x y=true->x=y
 |[],[],_=>rfl
 |[],_::_,h=>by cases h
 |_::_,[],h=>by cases h
 |x::xs,y::ys,h=>by
  simp[ad8,ac5] at h;rw[ad9 h.1,T7 h.2]
def iD (h h':aj)(b:Addr):Prop:=
 match h.get b.block,h'.get b.block with
 |some (.cells c g base e),some (.cells c' g' base' e')=>g'=g/\base'=base/\e'=e/\c'.length=c.length/\c'.drop b.off=c.drop b.off
 |x,y=>y=x
def eqC (h h':aj)(b:Addr):Bool:=
 match h.get b.block,h'.get b.block with
 |some (.cells c g base e),some (.cells c' g' base' e')=>Nat.beq g' g&&Nat.beq base' base&&Nat.beq e' e&&Nat.beq c'.length c.length&&ad8 (c'.drop b.off) (c.drop b.off)
 |none,none=>true
 |_,_=>false
def aiY {h h'}{b}(he:eqC h h' b=true):iD h h' b:=by
 unfold eqC at he;unfold iD;split at he
 .rename_i c g base e c' g' base' e' h1 h2;rw[h1,h2];simp only[ac5] at he
  grind [Nat.eq_of_beq_eq_true,T7]
 .grind
 .cases he
def ahf h h' b:Decidable (iD h h' b):=
 match hb:eqC h h' b with
 |true=>isTrue (aiY hb)
 |false=>h.dec (iD h h' b)
def sameAt (h h':aj):List θ->Bool
 |[]=>true
 |none::r=>sameAt h h' r
 |some b::r=>(match ahf h h' b with
  |isTrue _=>sameAt h h' r
  |isFalse _=>false)
def sM {α}(as:List θ)(m:M α):M α:=λh=>
 match m h with
 |some (x,h')=>(match sameAt h h' as with
  |true=>some (x,h')
  |false=>none)
 |none=>none
inductive Act:Type 1 where
 |val (v:ξ)
 |ask (α:Type) (m:M α) (k:α->Act)
 |none
def Act.run {R}:Act->(ξ->M R)->M R
 |.val v,K=>K v
 |.ask _ m k,K=>sh m λx=>(k x).run K
 |.none,_=>AS
def Act.exec:Act->aj->Option (ξ×aj)
 |.val v,h=>Option.some (v,h)
 |.ask _ m k,h=>match m h with
  |Option.some (x,h')=>(k x).exec h'
  |Option.none=>Option.none
 |.none,_=>Option.none
def Nh:TypeDesc->Option yf
 |.bool=>some .bool
 |.int k=>some (.int k)
 |.string=>some .str
 |.pointer _=>some .ptr
 |.slice _=>some .sl
 |.map _ _=>some .mp
 |.float .f64=>some .f64
 |.unsafePointer=>some .ptr
 |.struct _ | .array _ _ | .tuple _ | .named _ _ | .invalid=>none
 |_=>some .raw
def bV (P:Program)(t:κ):μ:=
 match P.info? t with
 |some i=>some i.size
 |none=>none
def Jw {α:Type}:List (Option (List α))->Option (List α)
 |[]=>some []
 |some l::r=>(match Jw r with|some m=>some (l++m)|none=>none)
 |none::_=>none
def leaves (P:Program):Nat->κ->Option (List yf)
 |0,_=>none
 |n+1,t=>
  match P.underlying t with
  |some (.struct fs)=>Jw (fs.toList.map λf=>leaves P n f.type)
  |some (.array len e)=>Jw (List.replicate len (leaves P n e))
  |some d=>(match Nh d with|some l=>some [l] | none=>none)
  |none=>none
def CK:TypeDesc->Bool
 |.struct _ | .array _ _=>true
 |_=>false
def anS (P:Program)(t:κ):Option Ty:=
 match P.underlying t with
 |some d=>(match CK d with
  |true=>(match leaves P 12 t with|some ls=>some (.agg ls)|none=>none)
  |false=>(match Nh d with|some l=>some (.one l)|none=>none))
 |none=>none
def xt (P:Program)(t:κ):Option yf:=
 match P.underlying t,bV P t with
 |some (.int k),some 1=>some (.int k)
 |some .bool,some 1=>some .bool
 |some .string,some 1=>some .str
 |_,_=>none
def Jx (P:Program):List Field->Nat->Option (List yf)
 |[],_=>some []
 |f :: fs, o => (match f.name == "_", Nat.beq f.offset o, xt P f.type, Jx P fs (o+1) with
  |false,true,some l,some ls=>some (l::ls)
  |_,_,_,_=>none)
def OZ (P:Program)(t:κ):Option Ty:=
 match P.underlying t with
 |some (.struct fs)=>(match P.stoodInHeld t,Jx P fs.toList 0 with
  |false,some ls=>some (.agg ls)
  |_,_=>none)
 |some (.array n e)=>(match xt P e with
  |some l=>some (.agg (List.replicate n l))
  |none=>none)
 |_=>(match xt P t with|some l=>some (.one l)|none=>none)
def kG (l:yf)(v:ξ):Bool:=
 match l,v with
 |.int k,.int k' _=>T6 k k'
 |.bool,.bool _=>true
 |.str,.string _=>true
 |_,_=>false
def gE:List yf->δ->Bool
 |[],[]=>true
 |l::ls,v::vs=>kG l v&&gE ls vs
 |_,_=>false
def VR (T:Ty)(v:ξ):Bool:=
 match T,v with
 |.one l,v=>kG l v
 |.agg ls,.agg cs=>gE ls cs.toList
 |_,_=>false
def sO (P:Program)(t:κ)(v:ξ):Bool:=
 match OZ P t with
 |some K=>VR K v
 |none=>false
def FV (a:Addr):List yf->Nat->δ->Act
 |[],_,acc=>.val (.agg acc.reverse.toArray)
 |l::ls,i,acc=>.ask l.den (dz l (a.plus i)) λx=>FV a ls (i+1) (OW l x::acc)
def cF ls (a:Addr):M (pC ls):=λh=>
 match aX h (some a) ls.length with
 |some vs=>(match Ea ls vs with|some x=>some (x,h)|none=>none)
 |none=>none
def O0 (P:Program)(t:κ)(a:Addr):Act:=
 match P.underlying t,bV P t with
 |some d,some n=>
  (match CK d with
  |true=>(match leaves P 12 t with
   |some ls=>(match Nat.beq ls.length n with|true=>.ask (pC ls) (cF ls a) λx=>.val (.agg (LH ls x).toArray)|false=>.none)
   |none=>.none)
  |false=>(match Nh d with
   |some l=>.ask l.den (dz l a) λx=>.val (OW l x)
   |none=>.none))
 |_,_=>.none
def zeroOf (P:Program)(t:κ):Option ξ:=
 match P.info? t with
 |some i=>(match i.zero with
  |some v=>(match v.cells.toList.all dX&&Nat.beq v.cells.size i.size with|true=>some v|false=>none)
  |none=>none)
 |none=>none
def Je (P:Program)(op:BinOp)(t:κ)(v:ξ):Act:=
 match op,P.underlying t with
 |.eql,some (.interface _)=>.ask Bool (nN v) λb=>.val (.bool b)
 |.neq,some (.interface _)=>.ask Bool (nN v) λb=>.val (.bool (!b))
 |_,_=>.none
def O1 (op:BinOp)(k:IntKind)(a:Int)(k':IntKind)(b:Int):Act:=
 match op with
 |.shl=>.ask Unit (qT (decide (0<=b))) λ_=>.val (.int k (k.wrap (a*2^(min b.toNat k.bits))))
 |.shr=>.ask Unit (qT (decide (0<=b))) λ_=>.val (.int k (a.fdiv (2^(min b.toNat k.bits))))
 |op=>(match T6 k k' with
  |false=>.none
  |true=>(match op with
   |.add=>.val (.int k (k.wrap (a+b)))
   |.sub=>.val (.int k (k.wrap (a-b)))
   |.mul=>.val (.int k (k.wrap (a*b)))
   |.quo=>.ask Unit (qT (decide (b≠0))) λ_=>.val (.int k (k.wrap (a.tdiv b)))
   |.rem=>.ask Unit (qT (decide (b≠0))) λ_=>.val (.int k (a.tmod b))
   |.and=>.val (.int k (k.wrap (BitVec.ofInt k.bits a&&&BitVec.ofInt k.bits b).toNat))
   |.or=>.val (.int k (k.wrap (BitVec.ofInt k.bits a|||BitVec.ofInt k.bits b).toNat))
   |.xor=>.val (.int k (k.wrap (BitVec.ofInt k.bits a^^^BitVec.ofInt k.bits b).toNat))
   |.andNot=>.val (.int k (k.wrap (BitVec.ofInt k.bits a&&&~~~BitVec.ofInt k.bits b).toNat))
   |.eql=>.val (.bool (decide (a=b)))
   |.neq=>.val (.bool (!decide (a=b)))
   |.lss=>.val (.bool (decide (a<b)))
   |.leq=>.val (.bool (decide (a<=b)))
   |.gtr=>.val (.bool (decide (b<a)))
   |.geq=>.val (.bool (decide (b<=a)))
   |_=>.none))
def O4 (op:BinOp)(a b:ζ):Act:=
 match op with
 |.add=>.ask ζ (mG a b) λs=>.val (.string s)
 |.eql=>.val (.bool (oG a b))
 |.neq=>.val (.bool (!oG a b))
 |.lss=>.val (.bool (LC a b))
 |.leq=>.val (.bool (LC a b||oG a b))
 |.gtr=>.val (.bool (!(LC a b||oG a b)))
 |.geq=>.val (.bool (!LC a b))
 |_=>.none
def BU (op:BinOp)(b:Bool):Act:=
 match op with
 |.eql=>.val (.bool b)
 |.neq=>.val (.bool (!b))
 |_=>.none
def eq1 (P:Program)(t:κ)(x y:ξ):Option Bool:=
 match x,y with
 |.int k a,.int k' b=>(match P.underlying t with
  |some (.int _)=>(match T6 k k' with|true=>some (decide (a=b))|false=>none)
  |_=>none)
 |.bool a,.bool b=>(match P.underlying t with|some .bool=>some (a==b)|_=>none)
 |.string a,.string b=>(match P.underlying t with|some .string=>some (oG a b)|_=>none)
 |_,_=>none
def O5 (P:Program):List Field->Nat->δ->δ->Option Bool
 |[],_,xs,ys=>(match xs,ys with | [],[]=>some true|_,_=>none)
 |f::fs,o,xs,ys=>(match xs,ys with
  |x :: xs, y :: ys => (match f.name == "_", Nat.beq f.offset o with
   |false,true=>(match eq1 P f.type x y with
    |some a=>(match O5 P fs (o+1) xs ys with|some b=>some (a&&b)|none=>none)
    |none=>none)
   |_,_=>none)
  |_,_=>none)
def LJ (o:μ):M Nat:=λh=>match o with
 |some r=>some (r,h)
 |none=>none
def anU (a b:Nat):M Nat:=LJ (FloatKind.f64.format.add a b)
def anV (a b:Nat):M Nat:=LJ (FloatKind.f64.format.sub a b)
def O6 (a b:Nat):M Nat:=LJ (FloatKind.f64.format.mul a b)
def anW (a b:Nat):M Nat:=LJ (FloatKind.f64.format.div a b)
def LK (a b:Nat):Bool:=FloatKind.f64.format.order a b==some .eq
def fLt (a b:Nat):Bool:=FloatKind.f64.format.order a b==some .lt
def fGt (a b:Nat):Bool:=FloatKind.f64.format.order a b==some .gt
def Y8 (n:Int):Nat:=FloatKind.f64.nearest n
def aiZ (b:Nat):Nat:=Op.negFloat .f64 b
def O7 (op:BinOp)(a b:Nat):Act:=
 match op with
 |.add=>.ask Nat (anU a b) λr=>.val (.float .f64 r)
 |.sub=>.ask Nat (anV a b) λr=>.val (.float .f64 r)
 |.mul=>.ask Nat (O6 a b) λr=>.val (.float .f64 r)
 |.quo=>.ask Nat (anW a b) λr=>.val (.float .f64 r)
 |.eql=>.val (.bool (LK a b))
 |.neq=>.val (.bool (!LK a b))
 |.lss=>.val (.bool (fLt a b))
 |.leq=>.val (.bool (fLt a b||LK a b))
 |.gtr=>.val (.bool (fGt a b))
 |.geq=>.val (.bool (fGt a b||LK a b))
 |_=>.none
def Y9 (P:Program)(op:BinOp)(t:κ)(x y:ξ):Act:=
 match x,y with
 |.int k a,.int k' b=>O1 op k a k' b
 |.string a,.string b=>O4 op a b
 |.float .f64 a,.float .f64 b=>O7 op a b
 |.bool a,.bool b=>(match P.underlying t with|some .bool=>BU op (a==b)|_=>.none)
 |.slice a _ _,.slice none _ _=>(match P.underlying t with|some (.slice _)=>BU op a.isNone|_=>.none)
 |.pointer a,.pointer none=>(match P.underlying t with|some (.pointer _)=>BU op a.isNone|_=>.none)
 |.map a,.map none=>(match P.underlying t with|some (.map _ _)=>BU op a.isNone|_=>.none)
 |.agg xs,.agg ys=>(match P.underlying t,P.stoodInHeld t,P.eqGuardType P.depth t with
  |some (.struct fs),false,false=>(match O5 P fs.toList 0 xs.toList ys.toList with|some b=>BU op b|none=>.none)
  |_,_,_=>.none)
 |_,_=>.none
def Za (P:Program)(op:BinOp)(t:κ)(x y:ξ):Act:=
 match y with
 |.nilIface=>Je P op t x
 |y=>Y9 P op t x y
def aun (op:UnOp)(x:ξ):Act:=
 match op,x with
 |.neg,.int k n=>.val (.int k (k.wrap (0-n)))
 |.not,.bool b=>.val (.bool (!b))
 |.neg,.float .f64 b=>.val (.float .f64 (aiZ b))
 |_,_=>.none
def inB (a:Addr):M Addr:=λh=>
 match h.get a.block with
 |some (.cells c _ _ _)=>if a.off<c.length then some (a,h) else none
 |_=>none
def Zb:List (Nat×Nat×Nat×Nat):=[(49,5,2,47)]
def anY (u e n o:Nat):Bool:=Zb.any λx=>Nat.beq x.2.2.2 u&&Nat.beq x.1 e&&Nat.ble x.2.1 n&&Nat.beq x.2.2.1 o
def ahg (P:Program)(u:Nat):Bool:=Zb.all λx=>!(Nat.beq x.2.2.2 u)||(Nat.beq (P.cellsOf x.1) x.2.1&&rowAt P (sameLayout P P.depth · u) P.depth x.1 1 x.2.2.1 1)
def atB (u:κ)(k:Nat)(a:Addr):M Addr:=λh=>
 match h.get a.block with
 |some (.cells c g _ e)=>if g=a.block+1/\((k<=c.length/\e=u/\a.off=0)\/anY u e c.length a.off=true) then some (a,h) else none
 |_=>none
def aj.shut (h:aj)(g:Nat):aj:={ h with get:=λj=>match h.get j with
 |some (.cells c' g' base' e')=>cond (Nat.beq g' g) none (some (.cells c' g' base' e'))
 |o=>o }
def aeb (e:κ)(p:θ)(n:Int):M ζ:=λh=>
 match p with
 |none=>if n=0 then some (ofBytes [],h) else none
 |some a=>(match h.get a.block,aX h (some a) n.toNat with
  |some (.cells _ g _ e'),some cs=>if 0<n/\n<=1073741824/\g≠0/\e'=e then (match bytesOf cs with|some l=>some (ofBytes l,h.shut g)|none=>none) else none
  |_,_=>none)
def H2 (p:θ)(n:Nat):M θ:=λh=>
 match p with
 |none=>some (none,h)
 |some a=>if n≠0 then some (some a,h) else none
def O8 (P:Program)(src dst:κ)(x:ξ):Act:=
 match P.underlying src,P.underlying dst,x with
 |some (.pointer t),some .unsafePointer,.pointer p=>(match bV P t with
  |some (_+1)=>.ask Addr (nn p) λa=>.ask Addr (inB a) λa=>.val (.pointer (some a))
  |_=>.none)
 |some .unsafePointer,some (.pointer u),.pointer p=>(match bV P u with
  |some (k+1)=>(match Nat.beq (P.cellsOf u) (k+1)&&rowAt P (sameLayout P P.depth · u) P.depth u 1 0 1&&ahg P u with
   |true=>.ask Addr (nn p) λa=>.ask Addr (atB u (k+1) a) λa=>.val (.pointer (some a))
   |false=>.none)
  |_=>.none)
 |some (.int _),some (.int k),.int _ n=>.val (.int k (k.wrap n))
 |some (.int _),some (.float .f64),.int _ n=>.val (.float .f64 (Y8 n))
 |some .string,some (.slice e),.string s=>(match P.underlying e,bV P e with
  |some (.int .u8),some 1=>.ask Sl (Ao e s) λr=>.val (.slice r.a r.len r.cap)
  |_,_=>.none)
 |some (.slice e),some .string,.slice a n c=>(match P.underlying e with
  |some (.int .u8)=>.ask ζ (strOf ⟨a,n,c⟩) λs=>.val (.string s)
  |_=>.none)
 |_,_,_=>.none
def partsOf (E:Env):List (Nat×Operand)->Option (List (Nat×ξ))
 |[]=>some []
 |(i,x)::r=>match E.ev x,partsOf E r with
  |some v,some vs=>some ((i,v)::vs)
  |_,_=>none
def CL (place:Nat->Option (Nat×Nat))(cells:δ):List (Nat×ξ)->Option δ
 |[]=>some cells
 |(i,v)::rest=>
  match place i with
  |none=>none
  |some (off,size)=>
   match Nat.beq v.cells.size size&&Nat.ble (off+v.cells.size) cells.length with
   |true=>CL place (aR cells off v.cells.toList) rest
   |false=>none
def placesOf (P:Program):List Field->Option (List (Nat×Nat))
 |[]=>some []
 |f::r=>match bV P f.type,placesOf P r with
  |some n,some l=>some ((f.offset,n)::l)
  |_,_=>none
def Ni (P:Program)(t:κ)(parts:List (Nat×ξ)):Act:=
 match P.underlying t,zeroOf P t with
 |some (.struct fs),some z=>(match placesOf P fs.toList with
  |some pl=>(match CL (λi=>pl[i]?) z.cells.toList parts with
   |some cs=>.val (.agg cs.toArray)
   |none=>.none)
  |none=>.none)
 |some (.array _ e),some z=>(match bV P e with
  |some n=>(match CL (λi=>some (i*n,n)) z.cells.toList parts with
   |some cs=>.val (.agg cs.toArray)
   |none=>.none)
  |none=>.none)
 |_,_=>.none
def wF (P:Program)(nm:μ)(t:κ)(len:Nat)(parts:List (Nat×ξ)):Act:=
 match P.underlying t with
 |some (.slice e)=>(match bV P e,zeroOf P e with
  |some n,some z=>(match Nat.ble (len*n) 16777216,CL (λi=>some (i*n,n)) (List.replicate len z.cells.toList).flatten parts with
   |true,some cs=>.ask Nat (gG nm e cs) λb=>.val (.slice (some ⟨b,0,none⟩) len (len+1))
   |_,_=>.none)
  |_,_=>.none)
 |_=>.none
def CM (v:ξ)(k:Addr->Act):Act:=
 match v with
 |.pointer (some a)=>k a
 |_=>.none
def Ir (E:Env):Option Operand->Option (Option ξ)
 |some x=>(match E.ev x with|some v=>some (some v)|none=>none)
 |none=>some none
def Jy (P:Program)(t:κ)(x:ξ)(lo hi mx:Option ξ):Act:=
 match P.underlying t,x,mx with
 |some .string,.string s,none=>(match lo,hi with
  |none,none=>.ask ζ (jG s 0 s.size) λr=>.val (.string r)
  |some (.int _ l),none=>.ask ζ (jG s l s.size) λr=>.val (.string r)
  |none,some (.int _ h)=>.ask ζ (jG s 0 h) λr=>.val (.string r)
  |some (.int _ l),some (.int _ h)=>.ask ζ (jG s l h) λr=>.val (.string r)
  |_,_=>.none)
 |some (.slice e),.slice a n c,none=>(match bV P e with
  |some z=>(match lo,hi with
   |none,none=>.ask Sl (jH ⟨a,n,c⟩ 0 n e z) λr=>.val (.slice r.a r.len r.cap)
   |some (.int _ l),none=>.ask Sl (jH ⟨a,n,c⟩ l n e z) λr=>.val (.slice r.a r.len r.cap)
   |none,some (.int _ h)=>.ask Sl (jH ⟨a,n,c⟩ 0 h e z) λr=>.val (.slice r.a r.len r.cap)
   |some (.int _ l),some (.int _ h)=>.ask Sl (jH ⟨a,n,c⟩ l h e z) λr=>.val (.slice r.a r.len r.cap)
   |_,_=>.none)
  |none=>.none)
 |some (.array len e),.pointer (some a),none=>(match bV P e with
  |some z=>(match lo,hi with
   |none,none=>.ask Sl (qG a len 0 len z) λr=>.val (.slice r.a r.len r.cap)
   |some (.int _ l),none=>.ask Sl (qG a len l len z) λr=>.val (.slice r.a r.len r.cap)
   |none,some (.int _ h)=>.ask Sl (qG a len 0 h z) λr=>.val (.slice r.a r.len r.cap)
   |some (.int _ l),some (.int _ h)=>.ask Sl (qG a len l h z) λr=>.val (.slice r.a r.len r.cap)
   |_,_=>.none)
  |none=>.none)
 |_,_,_=>.none
def uf (P:Program)(strict:Bool)(b:Builtin)(ts:List κ)(vs:δ):Act:=
 match b,ts,vs with
 |.len,t::_,[.string s]=>(match P.underlying t with|some .string=>.val (.int .i64 s.size)|_=>.none)
 |.len,t::_,[.slice _ n _]=>(match P.underlying t with|some (.slice _)=>.val (.int .i64 n)|_=>.none)
 |.copy,[t,t'],[.slice a n c,.slice a' n' c']=>(match P.underlying t,P.underlying t' with
  |some (.slice e),some (.slice _)=>(match bV P e with
   |some z=>.ask Nat (Jv ⟨a,n,c⟩ ⟨a',n',c'⟩ z) λk=>.val (.int .i64 k)
   |none=>.none)
  |_,_=>.none)
 |.min,_,[.int k x,.int k' y]=>(match T6 k k' with|true=>.val (.int k (if y<x then y else x))|false=>.none)
 |.max,_,[.int k x,.int k' y]=>(match T6 k k' with|true=>.val (.int k (if x<y then y else x))|false=>.none)
 |.append,[t,t'],[.slice a n c,.slice a' n' c']=>(match P.underlying t,P.underlying t' with
  |some (.slice e),some (.slice e')=>(match bV P e,zeroOf P e,bV P e' with
   |some z,some _,some z'=>(match Nat.beq z z'&&Nat.ble ((match P.info? e with|some i=>i.bytes|none=>0)) 4096 with
    |true=>.ask δ (EU ⟨a',n',c'⟩ z) λcs=>.ask Sl (app strict ⟨a,n,c⟩ z e n' cs) λr=>.val (.slice r.a r.len r.cap)
    |false=>.none)
   |_,_,_=>.none)
  |_,_=>.none)
 |.append,[t,t'],[.slice a n c,.string s]=>(match P.underlying t,P.underlying t' with
  |some (.slice e),some .string=>(match P.underlying e,zeroOf P e,bV P e with
   |some (.int .u8),some _,some 1=>(match Nat.ble ((match P.info? e with|some i=>i.bytes|none=>0)) 4096 with
    |true=>.ask Sl (app strict ⟨a,n,c⟩ 1 e s.size (bK s)) λr=>.val (.slice r.a r.len r.cap)
    |false=>.none)
   |_,_,_=>.none)
  |_,_=>.none)
 |.unsafeSliceData,_,[.slice a n _]=>.ask θ (H2 a n) λp=>.val (.pointer p)
 |.unsafeString,t::_,[.pointer p,.int .i64 n]=>(match P.underlying t with
  |some (.pointer e)=>(match Nat.beq (P.cellsOf e) 1 with
   |true=>.ask ζ (aeb e p n) λs=>.val (.string s)
   |false=>.none)
  |_=>.none)
 |_,_,_=>.none
def eqP (a b:θ):M Bool:=λh=>match a,b with
 |some a,some b=>(match Nat.beq a.block b.block&&Nat.beq a.off b.off with|true=>some (true,h)|false=>none)
 |_,_=>none
def anZ:Operand->ξ->ξ->Option (θ×θ)
 |.const _,_,_=>none
 |_,.pointer a,.pointer b=>some (a,b)
 |_,_,_=>none
def Zc (y:Operand)(u:ξ):Bool:=
 match u with
 |.nilIface=>(match y with | .const _=>true|_=>false)
 |_=>true
def Ap (P:Program)(nm:μ)(E:Env)(o:Oper):Act:=
 match o.op with
 |.move x | .assign x=>(match E.ev x with|some v=>.val v|none=>.none)
 |.alloc t=>(match zeroOf P t with
  |some z=>.ask Nat (gG nm t z.cells.toList) λb=>.val (.pointer (some ⟨b,0,none⟩))
  |none=>.none)
 |.box t x=>(match E.ev x with
  |some v=>.ask Nat (gG nm t v.cells.toList) λb=>.val (.pointer (some ⟨b,0,none⟩))
  |none=>.none)
 |.build t parts=>(match partsOf E parts.toList with|some vs=>Ni P t vs|none=>.none)
 |.buildSlice t len parts=>(match partsOf E parts.toList with|some vs=>wF P nm t len vs|none=>.none)
 |.load t x=>(match E.ev x with|some v=>CM v λa=>O0 P t a|none=>.none)
 |.store t x y=>(match E.ev x,E.ev y,bV P t with
  |some v,some u,some n=>CM v λa=>(match Nat.beq u.cells.size n with
   |true=>.ask Unit (sL a u.cells.toList) λ_=>.val undef
   |false=>.none)
  |_,_,_=>.none)
 |.nilCheck x=>(match P.underlying o.type with
  |some (.func _ _ _)=>(match E.ev x with
   |some v=>.ask Unit (nnF v) λ_=>.val v
   |none=>.none)
  |_=>(match E.ev x with
   |some (.pointer p)=>.ask Addr (nn p) λa=>.val (.pointer (some a))
   |_=>.none))
 |.binOp op t x y _=>(match E.ev x,E.ev y with
  |some v,some u=>(match Zc y u with
   |true=>(match anZ y v u with
    |some (a,b)=>(match P.underlying t with
     |some (.pointer e)=>(match bV P e with|some _=>.ask Bool (eqP a b) λr=>BU op r|none=>.none)
     |_=>.none)
    |none=>Za P op t v u)
   |false=>.none)
  |_,_=>.none)
 |.unOp op _ x=>(match E.ev x with|some v=>aun op v|none=>.none)
 |.convert s d x=>(match E.ev x with|some v=>O8 P s d v|none=>.none)
 |.makeInterface t x=>(match E.ev x,P.underlying t with
  |some _,some (.interface _)=>.none
  |some v,some _=>.val (.iface t v)
  |_,_=>.none)
 |.makeFunc fn fs cs=>(match E.Ri fs.toList,E.Ri cs.toList with
  |some f,some c=>.val (.func fn f.toArray c.toArray)
  |_,_=>.none)
 |.makeSlice t l c=>(match P.underlying t,E.ev l,E.ev c with
  |some (.slice e),some (.int _ n),some (.int _ m)=>(match zeroOf P e,Nat.ble ((match P.info? e with|some i=>i.bytes|none=>0)) 4096 with
   |some z,true=>.ask Sl (xm nm e z.cells.toList n m) λr=>.val (.slice r.a r.len r.cap)
   |_,_=>.none)
  |_,_,_=>.none)
 |.slice t x lo hi mx=>(match E.ev x,Ir E lo,Ir E hi,Ir E mx with
  |some v,some l,some h,some m=>Jy P t v l h m
  |_,_,_,_=>.none)
 |.fieldAddr s x f=>(match P.underlying s,E.ev x with
  |some (.struct fs),some v=>(match fs[f]? with
   |some fd=>(match bV P fd.type with
    |some n=>(match Nat.beq n 0 with
     |true=>.none
     |false=>CM v λa=>.val (.pointer (some (a.plus fd.offset))))
    |none=>.none)
   |none=>.none)
  |_,_=>.none)
 |.field s x f=>(match P.underlying s,E.ev x with
  |some (.struct fs),some (.agg cs)=>(match fs[f]? with
   |some fd=>(match P.underlying fd.type,bV P fd.type with
    |some d,some n=>(match CK d with
     |true=>.val (.agg ((cs.toList.drop fd.offset).take n).toArray)
     |false=>(match cs.toList[fd.offset]? with|some v=>.val v|none=>.none))
    |_,_=>.none)
   |none=>.none)
  |_,_=>.none)
 |.indexAddr t x i=>(match P.underlying t,E.ev x,E.ev i with
  |some (.slice e),some (.slice a n c),some (.int _ j)=>(match bV P e with
   |some z=>.ask Addr (ni ⟨a,n,c⟩ j z) λr=>.val (.pointer (some r))
   |none=>.none)
  |some (.array n e),some (.pointer (some a)),some (.int _ j)=>(match bV P e with
   |some z=>.ask Unit (qT (decide (0<=j/\j<(n:Int)))) λ_=>.val (.pointer (some (a.plus (j.toNat*z))))
   |none=>.none)
  |_,_,_=>.none)
 |.index t x i=>(match P.underlying t,E.ev x,E.ev i with
  |some .string,some (.string s),some (.int _ j)=>.ask UInt8 (qc s j) λb=>.val (.int .u8 b.toNat)
  |some (.array n e),some (.agg cs),some (.int _ j)=>(match P.underlying e,bV P e with
   |some d,some 1=>(match CK d,Nh d with
    |false,some l=>.ask l.den (Nd l n cs.toList j) λx=>.val (OW l x)
    |_,_=>.none)
   |_,_=>.none)
  |_,_,_=>.none)
 |.makeMap t r=>(match P.underlying t,Ir E r with
  |some (.map k _),some none=>(match OZ P k with|some _=>(match nm with|none=>.ask Nat (H0 k) λm=>.val (.map (some m))|some b=>.ask Nat (ue b k) λm=>.val (.map (some m)))|none=>.none)
  |some (.map k _),some (some (.int _ _))=>(match OZ P k with|some _=>(match nm with|none=>.ask Nat (H0 k) λm=>.val (.map (some m))|some b=>.ask Nat (ue b k) λm=>.val (.map (some m)))|none=>.none)
  |_,_=>.none)
 |.lookup t x i ok=>(match P.underlying t,E.ev x,E.ev i with
  |some (.map k e),some (.map m),some kv=>(match sO P k kv,anS P e,zeroOf P e with
   |true,some T,some zv=>(match OX T zv with
    |some z=>.ask (Bool×T.den) (CJ k T z m kv) λr=>.val (match ok with|true=>.tuple #[GR T r.2,.bool r.1] | false=>GR T r.2)
    |none=>.none)
   |_,_,_=>.none)
  |_,_,_=>.none)
 |.mapEntry t x i=>(match P.underlying t,E.ev x,E.ev i with
  |some (.map k e),some (.map m),some kv=>(match sO P k kv,anS P e,zeroOf P e with
   |true,some T,some zv=>(match OX T zv with
    |some z=>.ask (T.den×Nat) (AQ k T z m kv) λr=>.val (.tuple #[GR T r.1,.int .i64 r.2])
    |none=>.none)
   |_,_,_=>.none)
  |_,_,_=>.none)
 |.entryStore _ x i y=>(match E.ev x,E.ev i,E.ev y with
  |some (.map m),some (.int _ st),some v=>.ask Unit (AR m st v) λ_=>.val undef
  |_,_,_=>.none)
 |.mapUpdate t x i y | .insert t x i y=>(match P.underlying t,E.ev x,E.ev i,E.ev y with
  |some (.map k _),some (.map m),some kv,some v=>(match sO P k kv with
   |true=>.ask Unit (Ju k m kv v) λ_=>.val undef
   |false=>.none)
  |_,_,_,_=>.none)
 |.extract x i=>(match E.ev x with
  |some (.tuple vs)=>(match vs.toList[i]? with|some v=>.val v|none=>.none)
  |_=>.none)
 |.call c=>(match c.callee,E.Ri c.args.toList with
  |.builtin b,some vs=>uf P nm.isSome b c.argTypes.toList vs
  |_,_=>.none)
 |_=>.none
abbrev Path:=η
def child:Code->Nat->Code
 |.seq a _,0=>a
 |.seq _ b,_=>b
 |.cond _ a _,0=>a
 |.cond _ _ b,_=>b
 |.block _ c,_=>c
 |.loop c,_=>c
 |.scope c,_=>c
 |c,_=>c
def gU (c:Code):Path->Code
 |[]=>c
 |i::p=>child (gU c p) i
inductive FW where
 |code (p:Path)
 |au (id:Nat)
 |scp (p:Path)
inductive qd where
 |normal
 |exit (id:Nat)
 |ret
def eqE:qd->qd->Bool
 |.normal,.normal=>true
 |.exit a,.exit b=>Nat.beq a b
 |.ret,.ret=>true
 |_,_=>false
def yg:Path->Path->Bool
 |[],[]=>true
 |a::p,b::q=>Nat.beq a b&&yg p q
 |_,_=>false
def eqItems:List FW->List FW->Bool
 |[],[]=>true
 |.code p::k,.code q::l=>yg p q&&eqItems k l
 |.au a::k,.au b::l=>Nat.beq a b&&eqItems k l
 |.scp p::k,.scp q::l=>yg p q&&eqItems k l
 |_,_=>false
structure AU:Type 1 where
 α:Type
 m:M α
 pk:α->ξ
inductive zp:Type 1 where
 |one (α:Type) (m:M α) (e:qd) (out:α->Env)
 |two (α β:Type) (m:M (α⊕β)) (e:qd) (out:α->Env) (e':qd) (out':β->Env)
 |none
structure EW:Type 1 where
 st:FuncId->δ->Option AU
 dy:Nat->ξ->δ->Option AU
 apG:Nat->Bool
 mo:FuncId->Bool
structure O9 (R:Type) where
 call:EW
 loop:Path->Env->zp
 join:Path->Option (List FW×(Env->Option (M R)))
 draw:Nat->Option (List (Nat×η))
def vx (id:Nat):List FW->Option (List FW)
 |.au id'::k=>(match Nat.beq id' id with|true=>some k|false=>vx id k)
 |_::k=>vx id k
 |[]=>none
def Env.wG (E:Env)(c:Operand)(b:Bool):Env:=
 match c with
 |.tmp t=>E.set t (.bool b)
 |_=>E
def aK {α β R:Type}(f:α->M R)(g:β->M R):α⊕β->M R
 |.inl x=>f x
 |.inr y=>g y
def callee (E:Env)(c:Call):Option (FuncId×δ):=
 match c.callee,E.Ri c.args.toList with
 |.value f,some vs=>(match E.ev f with
  |some (.func (.func g) first captured)=>some (g,first.toList++vs++captured.toList)
  |_=>none)
 |_,_=>none
def wW (C:EW)(c:Call):μ:=
 match c.callee with
 |.value (.tmp t)=>(match C.apG t with|true=>some t|false=>none)
 |_=>none
def xu (E:Env)(t:Nat)(c:Call):Option (ξ×δ):=
 match E t,E.Ri c.args.toList with
 |some x,some vs=>some (x,vs)
 |_,_=>none
def isBuiltin:Call->Bool:=λc=>match c.callee with
 |.builtin _=>true
 |_=>false
def zP {R}(b:Bool)(x y:M R):M R:=if b=true then x else y
abbrev Wr:=Nat×Option η
def H3 (W:Wr)(d:μ):Bool:=
 match d with
 |none=>true
 |some i=>Nat.blt i W.1&&(match W.2 with
  |some l=>l.any (Nat.beq i)
  |none=>true)
abbrev gD:=Nat->Option (Nat×δ)
def gD.emp:gD:=λ_=>none
def Env.del (E:Env)(d:μ):Env:=
 match d with
 |some i=>λj=>cond (Nat.beq j i) none (E j)
 |none=>E
def gD.del (L:gD)(d:μ):gD:=
 match d with
 |some i=>λj=>cond (Nat.beq j i) none (L j)
 |none=>L
def gD.put (L:gD)(d:μ)(x:Nat×δ):gD:=
 match d with
 |some i=>λj=>cond (Nat.beq j i) (some x) (L j)
 |none=>L
def Ro (ops:Array Oper)(t:Nat):Bool:=ops.toList.any λo=>match o.op with
 |.call c=>(match c.callee,c.args.toList with
  |.builtin .append,[_,.tmp u]=>Nat.beq u t
  |_,_=>false)
 |_=>false
def FX (P:Program)(t:κ)(len:Nat)(parts:List (Nat×ξ)):Option δ:=
 match P.underlying t with
 |some (.slice e)=>(match bV P e,zeroOf P e with
  |some n,some z=>(match Nat.ble (len*n) 16777216,CL (λi=>some (i*n,n)) (List.replicate len z.cells.toList).flatten parts with
   |true,some cs=>(match cs.all fv with|true=>some cs|false=>none)
   |_,_=>none)
  |_,_=>none)
 |_=>none
def yh (L:gD)(c:Call):Option (Nat×δ):=
 match c.callee,c.args.toList with
 |.builtin .append,[_,.tmp t]=>L t
 |_,_=>none
def ug (P:Program)(strict:Bool)(E:Env)(c:Call)(n:Nat)(cs:δ):Act:=
 match c.argTypes.toList,c.args.toList with
 |[t,t'],[s,_]=>(match E.ev s,P.underlying t,P.underlying t' with
  |some (.slice a m k),some (.slice e),some (.slice _)=>(match bV P e,zeroOf P e with
   |some z,some _=>(match Nat.ble ((match P.info? e with|some i=>i.bytes|none=>0)) 4096 with
    |true=>.ask Sl (app strict ⟨a,m,k⟩ z e n cs) λr=>.val (.slice r.a r.len r.cap)
    |false=>.none)
   |_,_=>.none)
  |_,_,_=>.none)
 |_,_=>.none
def BV (P:Program)(ops:Array Oper)(E:Env)(o:Oper):Option (Nat×δ):=
 match o.op,o.dst with
 |.buildSlice t len parts,some d=>(match Ro ops d with
  |true=>(match partsOf E parts.toList with
   |some vs=>(match FX P t len vs with|some cs=>some (len,cs)|none=>none)
   |none=>none)
  |false=>none)
 |_,_=>none
def vy (cks:List θ):Act->Act
 |.ask α m k=>(match cks with
  |[]=>.ask α m k
  |cks=>.ask α (sM cks m) k)
 |A=>A
def wrapM {α}(cks:List θ)(m:M α):M α:=
 match cks with
 |[]=>m
 |cks=>sM cks m
def EX (l:η)(i:Nat):Bool:=l.any (Nat.beq i)
def Ec (ops:Array Oper)(o:Oper):Bool:=
 match o.op with
 |.call c=>(match c.callee with
  |.builtin .append=>(match o.dst with
   |some d=>ops.toList.any λp=>(match p.op with
    |.call c=>!isBuiltin c&&EX (p.op.operands.toList.filterMap λ| .tmp t=>some t|_=>none) d
    |_=>false)
   |none=>false)
  |_=>false)
 |_=>false
def FY (ops:Array Oper)(o:Oper):Bool:=
 match o.op with
 |.call c=>(match c.callee,c.args.toList with
  |.builtin .append,.tmp d::_=>ops.toList.any λp=>(match p.op,p.dst with
   |.buildSlice _ _ _,some e=>Nat.beq d e
   |_,_=>false)
  |_,_=>false)
 |_=>false
def B8 (b:Bool)(E:Env)(c:Call)(A:Act):Act:=
 match b with
 |false=>A
 |true=>(match c.args.toList with
  |s::_=>(match E.ev s with
   |some (.slice _ _ k)=>(match Nat.beq k 0 with|true=>.none|false=>A)
   |_=>.none)
  |[]=>.none)
theorem GU {b}{E}{c}{A}{h}{r}(e:(B8 b E c A).exec h=some r):B8 b E c A=A:=by
 unfold B8 at *
 repeat' (first|rfl|(cases e;done)|split at e)
def byB {α:Type 1}(b:Bool)(f:Bool->α):α:=
 match b with
 |true=>f true
 |false=>f false
theorem Rp {α}{b}{f:Bool->α}:byB b f=f b:=by cases b<;>rfl
inductive Cls where
 |sil|ro|mro|alloc|add|mka|eff
def EY:Bool->Cls
 |true=>.eff
 |false=>.add
def cls (P:Program)(ops:Array Oper)(o:Oper):Cls:=
 match o.op with
 |.move _ | .assign _ | .pick _ _ _ | .build _ _ | .nilCheck _ | .binOp _ _ _ _ _ | .unOp _ _ _ | .makeInterface _ _ | .makeFunc _ _ _ | .fieldAddr _ _ _ | .field _ _ _ | .indexAddr _ _ _ | .index _ _ _ | .extract _ _=>.sil
 |.load _ _=>.ro
 |.slice t _ _ _ _=>(match P.underlying t with|some .string=>.sil|some (.slice _)=>.ro|some (.array _ _)=>.sil|_=>.eff)
 |.convert s d _=>(match P.underlying s,P.underlying d with
  |some (.slice _),some .string=>.ro
  |some (.int _),some _=>.sil
  |some .string,some .string=>.sil
  |_,_=>.eff)
 |.buildSlice _ _ _=>(match o.dst with
  |some d=>(match Ro ops d with|true=>.sil|false=>.alloc)
  |none=>.eff)
 |.alloc _ | .box _ _ | .makeSlice _ _ _=>.alloc
 |.lookup _ _ _ _=>.mro
 |.makeMap _ _=>.mka
 |.call c=>(match c.callee with
  |.builtin .append=>EY (Ec ops o)
  |.builtin .len=>(match c.argTypes.toList with
   |t::_=>(match P.underlying t with|some (.map _ _)=>.mro|_=>.sil)
   |[]=>.sil)
  |.builtin .min | .builtin .max | .builtin .unsafeSliceData=>.sil
  |_=>.eff)
 |_=>.eff
def B9 (o:Oper):Bool:=
 match o.op with
 |.store _ _ _=>true
 |_=>false
def Zd:Cls->Bool
 |.alloc=>true
 |_=>false
def It (P:Program)(ops:Array Oper)(nb:μ)(cs:η):η:=
 match nb with
 |none=>[]
 |some b=>(cs.filter λi=>match ops[i]? with
  |some o=>Zd (cls P ops o)
  |none=>false).map (b+·)
def okK (h:aj)(a:Addr)(ks:η):Bool:=
 match h.get a.block with
 |some (.cells _ g _ _)=>ks.all λk=>!Nat.beq a.block k&&!Nat.beq g (k+1)
 |_=>false
def Jz {α}(ks:η)(a:Addr)(m:M α):M α:=λh=>match okK h a ks with
 |true=>m h
 |false=>none
def Pb (ks:η)(a:Addr):Act->Act
 |.ask α m k=>.ask α (Jz ks a m) k
 |A=>A
def Aq {R}(P:Program)(C:EW)(W:Wr)(nm:μ)(cks:List θ)(ks:η)(ops:Array Oper)(E:Env)(L:gD)(o:Oper)(K:Env->gD->M R):M R:=
 match H3 W o.dst with
 |false=>AS
 |true=>
 match o.op with
 |.pick c a b=>(match E.ev c with
  |some (.bool t)=>
   zP t (match (E.wG c true).ev a with|some v=>K ((E.wG c true).put o.dst v) (L.del o.dst)|none=>AS)
    (match (E.wG c false).ev b with|some v=>K ((E.wG c false).put o.dst v) (L.del o.dst)|none=>AS)
  |_=>AS)
 |.call c=>(match isBuiltin c with
  |true=>(match yh L c with
   |some (n,cs)=>(byB (nm.isSome&&!Ec ops o) λb=>vy cks (B8 (FY ops o) E c (ug P b E c n cs))).run λv=>K (E.put o.dst v) (L.del o.dst)
   |none=>(match Ec ops o with
    |true=>AS
    |false=>(vy cks (B8 (FY ops o) E c (Ap P nm E o))).run λv=>K (E.put o.dst v) (L.del o.dst)))
  |false=>(match wW C c with
   |some t=>(match xu E t c with
    |some (x,vs)=>(match C.dy t x vs with
     |some ca=>sh (wrapM cks ca.m) λx=>K (E.put o.dst (ca.pk x)) (L.del o.dst)
     |none=>AS)
    |none=>AS)
   |none=>(match callee E c with
    |some (f,vs)=>(match C.st f vs with
     |some ca=>sh (wrapM cks ca.m) λx=>K (E.put o.dst (ca.pk x)) (L.del o.dst)
     |none=>AS)
    |none=>AS)))
 |.store _ x _=>(match ks with
  |[]=>(vy cks (Ap P nm E o)).run λv=>K (E.put o.dst v) (L.del o.dst)
  |ks=>(match E.ev x with
   |some (.pointer (some a))=>(Pb ks a (vy cks (Ap P nm E o))).run λv=>K (E.put o.dst v) (L.del o.dst)
   |_=>AS))
 |.buildSlice _ _ _=>(match BV P ops E o with
  |some x=>K (E.del o.dst) (L.put o.dst x)
  |none=>(vy cks (Ap P nm E o)).run λv=>K (E.put o.dst v) (L.del o.dst))
 |_=>(vy cks (Ap P nm E o)).run λv=>K (E.put o.dst v) (L.del o.dst)
def oH (E:Env)(o:Oper):θ:=
 match o.op with
 |.load _ x=>(match E.ev x with|some (.pointer p)=>p|_=>none)
 |.slice _ x _ _ _=>(match E.ev x with|some (.slice a _ _)=>a|_=>none)
 |.convert _ _ x=>(match E.ev x with|some (.slice a _ _)=>a|_=>none)
 |_=>none
abbrev an0:=Nat->θ
def kH {R}(P:Program)(C:EW)(W:Wr)(nb:μ)(ops:Array Oper):List (Nat×η)->Env->gD->an0->(Env->M R)->M R
 |[],E,_,_,K=>K E
 |(i,cs)::rest,E,L,A,K=>
  match ops[i]? with
  |none=>AS
  |some o=>
   match o.guard with
   |none=>Aq P C W (nb.map (·+i)) (cs.map A) (It P ops nb cs) ops E L o λE' L'=>kH P C W nb ops rest E' L' (λj=>cond (Nat.beq j i) (oH E o) (A j)) K
   |some (j,want)=>(match (ops[j]?).bind (·.dst) with
    |some t=>(match E t with
     |some (.bool b)=>
      (match want with
      |true=>zP b (Aq P C W (nb.map (·+i)) (cs.map A) (It P ops nb cs) ops (E.set t (.bool true)) L o λE' L'=>kH P C W nb ops rest E' L' (λj=>cond (Nat.beq j i) (oH E o) (A j)) K)
       (match H3 W o.dst with
       |true=>kH P C W nb ops rest ((E.set t (.bool false)).put o.dst undef) (L.del o.dst) A K
       |false=>AS)
      |false=>zP b (match H3 W o.dst with
       |true=>kH P C W nb ops rest ((E.set t (.bool true)).put o.dst undef) (L.del o.dst) A K
       |false=>AS)
       (Aq P C W (nb.map (·+i)) (cs.map A) (It P ops nb cs) ops (E.set t (.bool false)) L o λE' L'=>kH P C W nb ops rest E' L' (λj=>cond (Nat.beq j i) (oH E o) (A j)) K))
     |some (.tuple _)=>(match H3 W o.dst with
      |true=>kH P C W nb ops rest (E.put o.dst undef) (L.del o.dst) A K
      |false=>AS)
     |_=>AS)
    |none=>AS)
def fT (ops:Array Oper)(o:Oper):η:=
 (o.op.operands.toList.filterMap λ| .tmp t=>some t|_=>none)++(match o.guard with
  |some (j,_)=>(match (ops[j]?).bind (·.dst) with|some t=>[t] | none=>[])
  |none=>[])
def apart (ops:Array Oper)(o p:Oper):Bool:=
 (match o.dst with|some d=>!EX (fT ops p) d|none=>true)&&(match p.dst with|some d=>!EX (fT ops o) d|none=>true) &&
 (match o.dst,p.dst with|some d,some e=>!Nat.beq d e|_,_=>true)
def CN (ops:Array Oper)(p:Oper):Bool:=
 match p.op with
 |.store _ _ _=>true
 |.call c=>!isBuiltin c||Ec ops p
 |_=>false
def EZ (mo:FuncId->Bool)(p:Oper):Bool:=
 match p.op with
 |.call c=>(match c.callee with
  |.value (.func f)=>mo f
  |_=>false)
 |_=>false
def Pc (P:Program)(mo:FuncId->Bool)(ops:Array Oper)(o p:Oper)(ck:Bool):Bool:=
 apart ops o p&&(match cls P ops o,cls P ops p with
  |.sil,_|_,.sil | .ro,.ro | .ro,.alloc | .ro,.add | .alloc,.alloc=>true
  |.ro,.mro | .mro,.ro | .mro,.mro | .mro,.alloc | .mro,.add | .alloc,.mro | .add,.mro=>true
  |.ro,.eff=>ck&&CN ops p
  |.alloc,.eff=>ck&&B9 p
  |.ro,.mka | .mka,.ro | .mka,.alloc | .alloc,.mka | .mro,.mka=>true
  |.mka,.eff | .mro,.eff=>EZ mo p
  |.add,.alloc=>FY ops o
  |_,_=>false)
def Ar (e:Edge):Bool:=match e.ground with
 |.textOnly _ | .gcOnly _=>false
 |_=>true
def Ze:η->η->η
 |[],a=>a
 |x::l,a=>Ze l (cond (EX a x) a (x::a))
def FZ (ops:List Oper):List η:=
 ops.foldl (λacc o=>acc++[Ze ((o.after.toList.filter Ar).flatMap λe=>e.on::acc.getD e.on []) []]) []
def Pe (P:Program)(mo:FuncId->Bool)(ops:Array Oper)(pr:List η)(i j:Nat)(cj:η):Bool:=
 EX (pr.getD j []) i||(match ops[i]?,ops[j]? with
  |some o,some p=>Pc P mo ops o p (EX cj i)
  |_,_=>false)
def F1 (P:Program)(mo:FuncId->Bool)(ops:Array Oper)(pr:List η)(k:Nat):List (Nat×η)->Bool
 |[]=>true
 |(i,_)::r=>(r.all λ(j,cj)=>Pe P mo ops pr i j cj||Nat.beq j k)&&F1 P mo ops pr k r
def Mn (ops:Array Oper)(k:Nat):μ:=match ops[k]? with
 |some o=>(match o.op,o.guard with
  |.alloc _,none=>o.dst
  |_,_=>none)
 |none=>none
def GW (P:Program)(mo:FuncId->Bool)(ops:Array Oper)(pr:List η):η->List (Nat×η)->Option (Nat×Nat×η)
 |_,[]=>none
 |pre,(j,cj)::r=>(match Mn ops j with
  |some d=>(match pre.filter λi=>!Pe P mo ops pr i j cj with
   |[]=>GW P mo ops pr (j::pre) r
   |l=>some (j,d,l))
  |none=>GW P mo ops pr (j::pre) r)
def ai0 (ops:Array Oper)(pr:List η)(k d:Nat)(bad:η):Bool:=ops.toList.zipIdx.all λ(o,b)=>
 (!EX (fT ops o) d||EX (pr.getD b []) k)&&(Nat.beq b k||(match o.dst with|some e=>!Nat.beq e d|none=>true))&&(!EX (pr.getD b []) k||bad.all (EX (pr.getD b [])))
def Zf (P:Program)(mo:FuncId->Bool)(ops:Array Oper)(l:List (Nat×η))(pr:List η):Bool:=
 match GW P mo ops pr [] l with
 |none=>F1 P mo ops pr ops.size l
 |some (k,d,bad)=>F1 P mo ops pr k l&&ai0 ops pr k d bad
def Rq (P:Program)(mo:FuncId->Bool)(ops:Array Oper)(l:List (Nat×η)):Bool:=
 P.follows .mixedOrders&&(l.map (·.1)).isPerm (List.range ops.size) &&
 (ops.toList.zipIdx.all λ(o,i)=>o.after.toList.all λe=>!Ar e||Nat.blt e.on i) &&
 Zf P mo ops l (FZ ops.toList)
def Zg (P:Program)(ops:Array Oper):Bool:=ops.toList.any λo=>match cls P ops o with
 |.alloc | .mka=>true
 |_=>false
def den {R}(P:Program)(body:Code)(T:O9 R)(W:Wr)(fin:qd->Env->M R):Nat->Bool->List FW->Env->M R
 |0,_,_,_=>AS
 |_+1,_,[],E=>fin .normal E
 |n+1,_,.au _::k,E=>den P body T W fin n true k E
 |n+1,_,.scp _::k,E=>den P body T W fin n true k E
 |n+1,j,.code p::k,E=>
  match (match j with|true=>T.join p|false=>none) with
  |some (k',J)=>(match eqItems k k' with
   |true=>(match J E with|some m=>m|none=>AS)
   |false=>AS)
  |none=>
   match gU body p with
   |.skip=>den P body T W fin n true k E
   |.label _=>den P body T W fin n true k E
   |.seq _ _=>den P body T W fin n true (.code (0::p)::.code (1::p)::k) E
   |.cond c _ _=>(match E.ev c with
    |some (.bool b)=>zP b (den P body T W fin n true (.code (0::p)::k) (E.wG c true))
     (den P body T W fin n true (.code (1::p)::k) (E.wG c false))
    |_=>AS)
   |.block id _=>den P body T W fin n true (.code (0::p)::.au id::k) E
   |.scope _=>den P body T W fin n true (.code (0::p)::.scp (0::p)::k) E
   |.loop _=>(match T.loop p E with
    |.one _ m e out=>sh m λx=>(match e with
     |.normal=>AS
     |.ret=>fin .ret (out x)
     |.exit id=>(match vx id k with
      |some k'=>den P body T W fin n true k' (out x)
      |none=>fin (.exit id) (out x)))
    |.two _ _ m e out e' out'=>sh m (aK
     (λx=>(match e with
      |.normal=>AS
      |.ret=>fin .ret (out x)
      |.exit id=>(match vx id k with
       |some k'=>den P body T W fin n true k' (out x)
       |none=>fin (.exit id) (out x))))
     (λx=>(match e' with
      |.normal=>AS
      |.ret=>fin .ret (out' x)
      |.exit id=>(match vx id k with
       |some k'=>den P body T W fin n true k' (out' x)
       |none=>fin (.exit id) (out' x)))))
    |.none=>AS)
   |.exit id=>(match vx id k with
    |some k'=>den P body T W fin n true k' E
    |none=>fin (.exit id) E)
   |.ret=>fin .ret E
   |.region id ops draw=>(match draw with
    |true=>(match T.draw id with
     |some l=>(match Rq P T.call.mo ops l with
      |true=>(match Zg P ops with
       |true=>sh (bX ops.size) λnb=>kH P T.call W (some nb) ops l E gD.emp (λ_=>none) λE'=>den P body T W fin n true k E'
       |false=>kH P T.call W (some 0) ops l E gD.emp (λ_=>none) λE'=>den P body T W fin n true k E')
      |false=>AS)
     |none=>AS)
    |false=>kH P T.call W none ops ((List.range ops.size).map λi=>(i,[])) E gD.emp (λ_=>none) λE'=>den P body T W fin n true k E')
   |_=>AS
def oI (P:Program):List ResultVar->Env->δ->(δ->Act)->Act
 |[],_,acc,K=>K acc.reverse
 |.tmp t::r,E,acc,K=>(match E t with|some v=>oI P r E (v::acc) K|none=>.none)
 |.cell a t::r,E,acc,K=>(match E a with
  |some (.pointer (some x))=>(match O0 P t x with
   |.val v=>oI P r E (v::acc) K
   |.ask α m k=>.ask α m λx=>resBind (k x) λv=>oI P r E (v::acc) K
   |.none=>.none)
  |_=>.none)
where
 resBind:Act->(ξ->Act)->Act
  |.val v,K=>K v
  |.ask α m k,K=>.ask α m λx=>resBind (k x) K
  |.none,_=>.none
def yj (f:Func):Code:=match f.body with
 |some c=>c
 |none=>.skip
def aec ts (v:ξ):M (aY ts):=
 match unR ts v with
 |some r=>AI r
 |none=>AS
def Zh (P:Program)(f:Func) ts:qd->Env->M (aY ts):=λe E=>
 match e with
 |.exit _=>AS
 |_=>(oI P f.results.toList E [] λvs=>.val (im vs)).run (aec ts)
def Pf ls ms (id:Nat)(next:aY (nM ls)->M (aY (nM ms))):qd->Env->M (aY (nM ms)):=λe E=>
 match e with
 |.normal=>(match ve E ls with
  |some vs=>(match An (nM ls) vs with|some x=>next x|none=>AS)
  |none=>AS)
 |.exit id'=>(match Nat.beq id id',ve E ms with
  |true,some vs=>(match An (nM ms) vs with|some x=>AI x|none=>AS)
  |_,_=>AS)
 |.ret=>AS
def Zi ls ms rs (id:Nat)(e2:qd)(next:aY (nM ls)->M (aY (nM ms)⊕aY (nM rs))) :
  qd->Env->M (aY (nM ms)⊕aY (nM rs)):=λe E=>
 match e with
 |.normal=>(match ve E ls with
  |some vs=>(match An (nM ls) vs with|some x=>next x|none=>AS)
  |none=>AS)
 |e=>(match eqE e (.exit id) with
  |true=>(match ve E ms with
   |some vs=>(match An (nM ms) vs with|some x=>AI (.inl x)|none=>AS)
   |none=>AS)
  |false=>(match eqE e e2 with
   |true=>(match ve E rs with
    |some vs=>(match An (nM rs) vs with|some x=>AI (.inr x)|none=>AS)
    |none=>AS)
   |false=>AS))
def T8 ls rs (next:aY (nM ls)->M (aY (nM rs))):qd->Env->M (aY (nM rs)):=λe E=>
 match e with
 |.normal=>(match ve E ls with
  |some vs=>(match An (nM ls) vs with|some x=>next x|none=>AS)
  |none=>AS)
 |.exit _=>AS
 |.ret=>(match ve E rs with
  |some vs=>(match An (nM rs) vs with|some x=>AI x|none=>AS)
  |none=>AS)
structure cA where
 id:FuncId
 as:List Ty
 rs:List Ty
 m:aY as->M (aY rs)
def H4 (l:List cA):FuncId->δ->Option AU:=λf vs=>
 match l with
 |[]=>none
 |e::r=>match Nat.beq f e.id with
  |true=>(match An e.as vs with
   |some x=>some ⟨aY e.rs,e.m x,λy=>im (gp e.rs y)⟩
   |none=>none)
  |false=>H4 r f vs
structure tB where
 slot:Nat
 as:List Ty
 rs:List Ty
 m:ξ->aY as->M (aY rs)
def T9 (l:List tB):Nat->ξ->δ->Option AU:=λt x vs=>
 match l with
 |[]=>none
 |e::r=>match Nat.beq t e.slot with
  |true=>(match An e.as vs with
   |some a=>some ⟨aY e.rs,e.m x a,λy=>im (gp e.rs y)⟩
   |none=>none)
  |false=>T9 r t x vs
def ahi (l:List tB)(t:Nat):Bool:=
 match l with
 |[]=>false
 |e::r=>Nat.beq t e.slot||ahi r t
def Pg (l:List cA)(d:List tB)(ms:List FuncId:=[]):EW:=⟨H4 l,T9 d,ahi d,λf=>ms.any (Nat.beq f)⟩
structure DTg (as rs:List Ty) where
 id:FuncId
 cs:List Ty
 m:aY as->aY cs->M (aY rs)
def dsp {as rs}:List (DTg as rs)->ξ->aY as->M (aY rs)
 |[],_,_=>AS
 |[e],x,a=>zP (tU e.id x) (sh (sB e.cs x) λc=>e.m a c) AS
 |e::f::r,x,a=>zP (tU e.id x) (sh (sB e.cs x) λc=>e.m a c) (dsp (f::r) x a)
structure Ph where
 p:Path
 ls:List (Nat×Ty)
 act:aY (nM ls)->zp
def JA (l:List Ph):Path->Env->zp:=λp E=>
 match l with
 |[]=>.none
 |e::r=>match yg p e.p with
  |true=>(match ve E e.ls with
   |some vs=>(match An (nM e.ls) vs with
    |some x=>e.act x
    |none=>.none)
   |none=>.none)
  |false=>JA r p E
def an2 (E:Env)(ws:η):Env:=λj=>cond (ws.any (Nat.beq j)) none (E j)
def Zj ls ms (ws:η)(x:aY (nM ls))(y:aY (nM ms)):Env:=ad7 (an2 (AP ls (gp (nM ls) x)) ws) ms (gp (nM ms) y)
def ahj ls ms (ws:η)(id:Nat)(m:aY (nM ls)->M (aY (nM ms)))(x:aY (nM ls)):zp:=.one (aY (nM ms)) (m x) (.exit id) (Zj ls ms ws x)
def ahk ls rs (ws:η)(m:aY (nM ls)->M (aY (nM rs)))(x:aY (nM ls)):zp:=.one (aY (nM rs)) (m x) .ret (Zj ls rs ws x)
def ahl ls ms rs (ws:η)(id:Nat)(e2:qd)(m:aY (nM ls)->M (aY (nM ms)⊕aY (nM rs)))(x:aY (nM ls)):zp:=
 .two (aY (nM ms)) (aY (nM rs)) (m x) (.exit id) (Zj ls ms ws x) e2 (Zj ls rs ws x)
def JB (W:Wr)(nt:Nat)(ws:η):Bool:=Nat.beq W.1 nt&&(match W.2 with
 |some l=>ws.all λi=>l.any (Nat.beq i)
 |none=>true)
structure gO (R:Type) where
 p:Path
 k:List FW
 ls:List (Nat×Ty)
 m:aY (nM ls)->M R
def goJ {R} ls (m:aY (nM ls)->M R)(E:Env):Option (M R):=
 match ve E ls with
 |some vs=>(match An (nM ls) vs with
  |some x=>some (m x)
  |none=>none)
 |none=>none
def Mq {R}(l:List (gO R)):Path->Option (List FW×(Env->Option (M R))):=λp=>
 match l with
 |[]=>none
 |e::r=>match yg p e.p with
  |true=>some (e.k,goJ e.ls e.m)
  |false=>Mq r p
end Go.Ago
