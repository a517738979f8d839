
import Derived.Laws.Cells
import Derived.Laws.Strings
import Derived.KernelRfl
set_option linter.all false
namespace Go.Ago
abbrev AT:=@if_neg
abbrev By:=@if_pos
abbrev BY:=@List.mem_of_getElem?
abbrev IN:=@List.mem_cons_of_mem
abbrev IS:=@Nat.eq_of_beq_eq_true
abbrev IT:=@Nat.lt_succ_self
abbrev OF:=@List.mem_cons_self
abbrev aa1:=@Int.toNat_natCast
abbrev abi:=@Nat.le_refl
abbrev abE:=@List.getElem?_map
abbrev abI:=@List.mem_append_right
abbrev abZ:=@List.drop_eq_nil_of_le
abbrev ace:=@List.getElem?_eq_getElem
abbrev ach:=@Bool.and_eq_true
abbrev acp:=@List.length_cons
abbrev acu:=@decide_eq_true_eq
abbrev adf:=@Nat.lt_succ_of_lt
abbrev adn:=@List.length_append
abbrev adr:=@Nat.le_trans
abbrev adz:=@List.mem_append_left
abbrev adA:=@Option.some.injEq
abbrev adP:=@Option.some.inj
abbrev adQ:=@List.length_map
abbrev adR:=@List.map_cons
abbrev adS:=@List.cons_append
abbrev adT:=@List.length_nil
abbrev adV:=@List.length_replicate
abbrev adW:=@List.eq_nil_of_length_eq_zero
abbrev adX:=@List.flatMap_cons
abbrev aea:=@Nat.zero_add
abbrev aed:=@List.sublist_cons_self
abbrev aev:=@Nat.mul_le_mul_right
abbrev ae1:=@Nat.mul_one
abbrev afl:=@Bool.false_eq_true
abbrev afD:=@Array.getElem?_toList
abbrev afM:=@Nat.le_of_ble_eq_true
abbrev afN:=@List.length_singleton
abbrev afO:=@Classical.byContradiction
abbrev agm:=@List.append_assoc
abbrev ago:=@List.mem_singleton
abbrev ags:=@Nat.le_succ
abbrev agu:=@Int.le_refl
abbrev agw:=@Int.tdiv_eq_ediv_of_nonneg
abbrev agx:=@List.perm_append_comm
abbrev agy:=@List.perm_append_comm_assoc
abbrev agz:=@Nat.add_mul
abbrev agA:=@List.append_nil
abbrev agB:=@List.mem_append
abbrev agC:=@List.count_cons
abbrev agD:=@Nat.zero_le
abbrev agE:=@List.getElem?_eq_some_iff
abbrev agF:=@Array.getElem?_eq_getElem
abbrev agH:=@List.drop_eq_getElem_cons
abbrev agI:=@List.getElem?_append_left
abbrev agM:=@Nat.add_zero
abbrev ag1:=@List.eq_of_mem_replicate
abbrev ag3:=@List.map_append
abbrev ag8:=@List.length_set
abbrev aha:=@List.getElem?_drop
abbrev ahb:=@Nat.lt_of_lt_of_le
abbrev ahk:=@if_false
abbrev ahl:=@Array.ext'
abbrev aho:=@List.nodup_range
abbrev ahx:=@List.drop_zero
abbrev ahB:=@List.count_append
abbrev ahH:=@Option.map_some
abbrev ahI:=@List.nil_append
abbrev ahR:=@Nat.not_lt_zero
abbrev ahX:=@Nat.beq_refl
abbrev ahY:=@List.length_take
abbrev ahZ:=@List.set_cons_zero
abbrev ah0:=@Int.natCast_nonneg
abbrev ah1:=@Int.eq_ofNat_of_zero_le
abbrev ah2:=@Array.getD_eq_getD_getElem?
abbrev ah3:=@List.replicate_succ
abbrev ah4:=@Nat.lt_trans
abbrev ah5:=@List.all_eq_true
abbrev ah6:=@Option.bind_some
abbrev ah7:=@congrArg
abbrev ah8:=@List.pairwise_cons
abbrev ah9:=@List.set_append_right
abbrev aia:=@List.map_replicate
abbrev aib:=@List.mem_or_eq_of_mem_set
abbrev aic:=@List.sublist_append_right
abbrev aid:=@Nat.le_of_lt
abbrev aie:=@List.ext_getElem?
abbrev aif:=@List.getElem_mem
abbrev aih:=@List.drop_drop
abbrev aii:=@cond_false
abbrev aij:=@List.set_cons_succ
abbrev aik:=@List.getElem?_eq_none
abbrev ail:=@List.getElem?_append_right
abbrev aim:=@true_and
abbrev ain:=@List.length_drop
abbrev aio:=@Nat.sub_self
abbrev air:=@Prod.mk.injEq
abbrev ait:=@Nat.lt_of_le_of_lt
abbrev aix:=@List.take_of_length_le
abbrev aiB:=@List.getElem?_set_self
abbrev aiC:=@Nat.le_succ_of_le
abbrev aiD:=@List.mem_iff_getElem?
abbrev aiF:=@Int.le_trans
abbrev aiG:=@if_true
abbrev aiH:=@Array.getElem?_setIfInBounds
abbrev aiI:=@List.Perm.append_left
abbrev aiJ:=@List.take_length
abbrev aiK:=@List.perm_middle
abbrev aiM:=@Nat.add_assoc
abbrev aiO:=@List.flatMap_append
abbrev aiR:=@List.length_reverse
abbrev aiS:=@Nat.add_le_add_left
abbrev aiT:=@Nat.le_add_left
abbrev aiW:=@List.getElem?_take
abbrev aiZ:=@List.Pairwise.imp_of_mem
abbrev ai0:=@Nat.mul_le_mul
abbrev ai2:=@Bool.false_and
abbrev ai3:=@Ne.symm
abbrev ai4:=@Classical.axiomOfChoice
abbrev ai7:=@not_true_eq_false
abbrev ajb:=@of_decide_eq_true
abbrev ajd:=@List.Sublist.refl
abbrev aje:=@List.nodup_append
abbrev ajf:=@Nat.one_mul
abbrev ajh:=@List.set_eq_take_append_cons_drop
abbrev aji:=@List.head?_eq_getElem?
abbrev ajj:=@Bool.true_and
abbrev ajk:=@List.sum_cons
abbrev ajl:=@List.range'_succ
abbrev ajm:=@Nat.le_add_right
abbrev ajn:=@List.getElem?_toArray
abbrev ajo:=@List.take_append_drop
abbrev ajp:=@Array.mem_of_getElem?
abbrev ajq:=@Array.toArray_toList
abbrev ajr:=@Bool.or_eq_true
abbrev ajs:=@List.map_set
abbrev ajt:=@List.replicate_succ'
abbrev aju:=@List.count_le_length
abbrev ajv:=@Nat.zero_mul
abbrev ajw:=@Array.toList_append
abbrev ajx:=@List.map_congr_left
abbrev ajz:=@List.Perm.refl
abbrev ajA:=@List.dropLast_concat_getLast
abbrev ajB:=@List.countP_eq_length_filter
abbrev ajC:=@Array.ext_getElem?
abbrev ajD:=@BitVec.toNat_ofInt
abbrev ajE:=@Bool.not_true
abbrev ajF:=@List.all_cons
abbrev ajG:=@Bool.not_eq_true'
abbrev ajH:=@List.getElem?_set
abbrev ajI:=@List.pairwise_map
abbrev ajJ:=@List.pairwise_iff_getElem
abbrev ajK:=@Nat.sub_zero
abbrev ajL:=@Array.mem_append
abbrev ajM:=@List.map_map
abbrev ajN:=@List.set_set
abbrev ajO:=@List.sublist_append_left
abbrev ajP:=@List.Sublist.append_left
abbrev ajQ:=@Option.bind_eq_some_iff
abbrev ajR:=@UInt8.toNat_inj
abbrev ajS:=@List.cons.injEq
abbrev ajT:=@Bool.eq_iff_iff
abbrev ajU:=@List.mem_filter
abbrev ajV:=@Nat.min_eq_left
abbrev ajW:=@List.range_succ_eq_map
abbrev ajX:=@List.Perm.append_right
abbrev ajY:=@List.modify_zero_cons
abbrev ajZ:=@List.mem_range
abbrev aj0:=@List.singleton_append
abbrev aj1:=@List.take_succ
abbrev aj2:=@List.countP_le_length
abbrev aj3:=@List.getElem?_append
abbrev aj4:=@Nat.mod_lt
abbrev aj5:=@List.getElem?_modify
abbrev aj6:=@List.set_append_left
abbrev aj7:=@List.getElem?_set_ne
abbrev aj8:=@Decidable.of_not_not
abbrev aj9:=@List.nodup_iff_count
abbrev aka:=@Nat.add_le_add_right
abbrev akb:=@List.mem_of_mem_take
abbrev akc:=@List.mem_of_mem_drop
abbrev akd:=@Bool.or_false
abbrev ake:=@List.any_cons
abbrev aki:=@Nat.add_comm
open Go
abbrev δ:=List Value
abbrev ε:=List Int
abbrev ζ:=ByteArray
abbrev η:=List Nat
abbrev θ:=Option Addr
abbrev κ:=TypeId
abbrev μ:=Option Nat
abbrev ν:=Array Value
abbrev ξ:=Value
abbrev Env:=Nat->Option ξ
def Env.set (E:Env)(i:Nat)(v:ξ):Env:=λj=>cond (Nat.beq j i) (some v) (E j)
def Env.put (E:Env)(d:μ)(v:ξ):Env:=
 match d with
 |some i=>E.set i v
 |none=>E
def Env.emp:Env:=λ_=>none
def dW:ξ->Bool
 |.bool _ | .int _ _ | .float _ _ | .complex _ _ _ | .string _ | .nilFunc | .nilIface | .pointer none | .map none | .chan none | .slice none _ _=>true
 |_=>false
def flat:ξ->Bool
 |.agg cs=>cs.toList.all dW
 |.tuple vs=>vs.toList.isEmpty
 |.iface _ v=>dW v
 |v=>dW v
def Env.ev (E:Env):Operand->Option ξ
 |.tmp t=>E t
 |.const v=>match flat v with|true=>some v|false=>none
 |.global _=>none
 |.func f=>some (.func (.func f) #[] #[])
def Env.LX (E:Env):List Operand->Option δ
 |[]=>some []
 |x::xs=>match E.ev x,E.LX xs with
  |some v,some vs=>some (v::vs)
  |_,_=>none
def Qn:IntKind->Nat
 |.i8=>0 | .i16=>1 | .i32=>2 | .i64=>3 | .u8=>4 | .u16=>5 | .u32=>6 | .u64=>7
def Qo (a b:IntKind):Bool:=Nat.beq (Qn a) (Qn b)
inductive Ev where
 |cells (c:δ) (eI base:Nat) (elem:κ)
 |map (es:List (ξ×ξ))
 |iter (s:ζ) (pos:Nat)
structure Ew where
 key:ξ
 val:ξ
 born:Nat
structure ZH where
 kt:κ
 clock:Nat
 es:List Ew
structure ai where
 gH:Nat->Option ZH
 get:Nat->Option Ev
 next:Nat
 lN:Nat->Nat
 used:Nat->Bool
 dec:∀p:Prop,Decidable p
abbrev M (α:Type):=ai->Option (α×ai)
def sh {α β}(m:M α)(f:α->M β):M β:=λh=>
 match m h with
 |some (a,h')=>f a h'
 |none=>none
def AI {α}(a:α):M α:=λh=>some (a,h)
def AS {α}:M α:=λ_=>none
structure Sl where
 a:θ
 len:Nat
 cap:Nat
inductive wu where
 |int (k:IntKind)|bool|str|ptr|al|sl|mp|raw|f64
@[reducible] def wu.den:wu->Type
 |.int _=>Int
 |.bool=>Bool
 |.str=>ζ
 |.ptr=>θ
 |.al=>Addr
 |.sl=>Sl
 |.mp=>μ
 |.raw=>ξ
 |.f64=>Nat
def Od:(l:wu)->l.den->ξ
 |.int k,n=>.int k n
 |.bool,b=>.bool b
 |.str,s=>.string s
 |.ptr,p=>.pointer p
 |.al,p=>.pointer (some p)
 |.sl,s=>.slice s.a s.len s.cap
 |.mp,r=>.map r
 |.raw,v=>v
 |.f64,n=>.float .f64 n
def Ae:(l:wu)->ξ->Option l.den
 |.int .i8,.int .i8 n | .int .i16,.int .i16 n | .int .i32,.int .i32 n | .int .i64,.int .i64 n=>some n
 |.int .u8,.int .u8 n | .int .u16,.int .u16 n | .int .u32,.int .u32 n | .int .u64,.int .u64 n=>some n
 |.bool,.bool b=>some b
 |.str,.string s=>some s
 |.ptr,.pointer p=>some p
 |.al,.pointer (some p)=>some p
 |.sl,.slice a n c=>some ⟨a,n,c⟩
 |.mp,.map r=>some r
 |.raw,v=>some v
 |.f64,.float .f64 n=>some n
 |_,_=>none
@[reducible] def mD:List wu->Type
 |[]=>Unit
 |[l]=>l.den
 |l::ls=>l.den×mD ls
def Hv:(ls:List wu)->mD ls->δ
 |[],_=>[]
 |[l],x=>[Od l x]
 |l::l'::ls,x=>Od l x.1::Hv (l'::ls) x.2
def yL:(ls:List wu)->δ->Option (mD ls)
 |[],[]=>some ()
 |[l],[v]=>Ae l v
 |l::l'::ls,v::vs=>match Ae l v,yL (l'::ls) vs with
  |some x,some y=>some (x,y)
  |_,_=>none
 |_,_=>none
inductive Ty where
 |one (l:wu)
 |agg (ls:List wu)
@[reducible] def Ty.den:Ty->Type
 |.one l=>l.den
 |.agg ls=>mD ls
def CR:(t:Ty)->t.den->ξ
 |.one l,x=>Od l x
 |.agg ls,x=>.agg (Hv ls x).toArray
def Ic:(t:Ty)->ξ->Option t.den
 |.one l,v=>Ae l v
 |.agg ls,.agg cs=>yL ls cs.toList
 |_,_=>none
@[reducible] def aY:List Ty->Type
 |[]=>Unit
 |[t]=>t.den
 |t::ts=>t.den×aY ts
def fE:(ts:List Ty)->aY ts->δ
 |[],_=>[]
 |[t],x=>[CR t x]
 |t::t'::ts,x=>CR t x.1::fE (t'::ts) x.2
def wv:(ts:List Ty)->δ->Option (aY ts)
 |[],[]=>some ()
 |[t],[v]=>Ic t v
 |t::t'::ts,v::vs=>match Ic t v,wv (t'::ts) vs with
  |some x,some y=>some (x,y)
  |_,_=>none
 |_,_=>none
def ga (vs:δ):ξ:=
 match vs with
 |[v]=>v
 |vs=>.tuple vs.toArray
def unR ts (v:ξ):Option (aY ts):=
 match ts with
 |[t]=>Ic t v
 |ts=>match v with
  |.tuple vs=>wv ts vs.toList
  |_=>none
def sS (E:Env):List (Nat×Ty)->Option δ
 |[]=>some []
 |(i,_)::r=>match E i,sS E r with
  |some v,some vs=>some (v::vs)
  |_,_=>none
def uG:List (Nat×Ty)->δ->Env
 |(i,_)::r,v::vs=>(uG r vs).set i v
 |_,_=>Env.emp
def ZI (E:Env):List (Nat×Ty)->δ->Env
 |(i,_)::r,v::vs=>(ZI E r vs).set i v
 |_,_=>E
def jk:List (Nat×Ty)->List Ty
 |[]=>[]
 |(_,t)::r=>t::jk r
def ai.cell (h:ai)(a:Addr):Option ξ:=
 match h.get a.block with
 |some (.cells c _ _ _)=>c[a.off]?
 |_=>none
def _root_.Go.Addr.plus (a:Addr)(n:Nat):Addr:=⟨a.block,a.off+n,none⟩
def aq (l:wu)(a:Addr):M l.den:=λh=>
 match h.cell a with
 |some v=>(match Ae l v with|some x=>some (x,h)|none=>none)
 |none=>none
def idO (o:Option Ev):Option Ev:=match o with
 |some b=>some b
 |none=>none
@[simp] theorem nL o:idO o=o:=by cases o<;>rfl
def ai.aX (h:ai)(nm next':Nat)(elem:κ)(cs:δ):ai:=
 { h with
  get:=λj=>cond (Nat.beq j nm) (some (.cells cs (nm+1) 0 elem)) (idO (h.get j))
  next:=next'
  lN:=λg=>cond (Nat.beq g (nm+1)) cs.length (h.lN g)
  used:=λj=>cond (Nat.beq j nm) true (h.used j) }
def ai.new (h:ai)(elem:κ)(cs:δ):ai:=h.aX h.next (h.next+1) elem cs
def eS:ξ->Bool
 |.agg _ | .tuple _=>false
 |_=>true
def aF (nm:μ)(elem:κ)(cs:δ):M Nat:=λh=>
 if cs.all eS=true then (match nm with
  |none=>some (h.next,h.new elem cs)
  |some k=>if h.used k=false/\k<h.next/\(h.get k).isNone=true then some (k,h.aX k h.next elem cs) else none) else none
def dz (n:Nat):M Nat:=λh=>some (h.next,{ h with next:=h.next+n })
def aU (c:δ)(o:Nat)(vs:δ):δ:=c.take o++vs++c.drop (o+vs.length)
def ai.qf (h:ai)(b:Nat)(c:δ)(g base:Nat)(elem:κ):ai:=
 { h with get:=λj=>cond (Nat.beq j b) (some (.cells c g base elem)) (match h.get j with
   |some (.cells c' g' base' elem')=>cond (Nat.beq g' g) none (some (.cells c' g' base' elem'))
   |o=>o) }
def bh (a:Addr)(vs:δ):M Unit:=λh=>
 match h.get a.block with
 |some (.cells c g base elem)=>
  if g≠0/\a.off+vs.length<=c.length/\vs.all eS=true then some ((),h.qf a.block (aU c a.off vs) g base elem) else none
 |_=>none
def px (b:Bool):M Unit:=λh=>match b with
 |true=>some ((),h)
 |false=>none
def nn (p:θ):M Addr:=λh=>match p with
 |some a=>some (a,h)
 |none=>none
def aQ (h:ai)(a:θ)(n:Nat):Option δ:=
 match a with
 |none=>if n=0 then some [] else none
 |some a=>match h.get a.block with
  |some (.cells c _ _ _)=>if a.off+n<=c.length then some ((c.drop a.off).take n) else none
  |_=>none
def BW (s:Sl)(sz:Nat):M δ:=λh=>
 match aQ h s.a (s.len*sz) with
 |some cs=>some (cs,h)
 |none=>none
def cF:Nat:=1073741824
def oK (strict:Bool)(s:Sl)(sz:Nat)(elem:κ)(n:Nat)(new:δ):M Sl:=λh=>
 if n=0 then (match s.a with
  |none=>if s.len=0/\s.cap=0/\new=[] then some (s,h) else none
  |some _=>if new=[] then some (s,h) else none) else
 if ¬(s.len+n<=cF/\new.length=n*sz) then none else
 match s.a with
 |none=>if s.len=0/\s.cap=0 then some (⟨some ⟨h.next,0,none⟩,n,0⟩,h.new elem new) else none
 |some a=>
  match aQ h (some a) (s.len*sz),h.get a.block with
  |some nF,some (.cells c g base e)=>
   if s.cap≠0/\s.len+n<s.cap then
    if g≠0/\a.off+(s.len*sz+new.length)<=c.length/\strict=false then
     some (⟨some a,s.len+n,s.cap⟩,h.qf a.block (aU c (a.off+s.len*sz) new) g base e) else none
   else if s.cap≠0 then some (⟨some ⟨h.next,0,none⟩,s.len+n,0⟩,h.new elem (nF++new))
   else if g≠0/\e=elem then
    let tipNow:=base+a.off+s.len*sz
    let au:Ev:=.cells (nF++new) g (base+a.off) elem
    if h.lN g=tipNow then
     some (⟨some ⟨h.next,0,none⟩,s.len+n,0⟩,
      { h with
       get:=λj=>cond (Nat.beq j h.next) (some au) (idO (h.get j))
       next:=h.next+1
       lN:=λg'=>cond (Nat.beq g' g) (tipNow+new.length) (h.lN g')
       used:=λj=>cond (Nat.beq j h.next) true (h.used j) })
    else if strict=false then
     some (⟨some ⟨h.next,0,none⟩,s.len+n,0⟩,
      { h with
       get:=λj=>cond (Nat.beq j h.next) (some au) (match h.get j with
        |some (.cells c' g' base' elem')=>cond (Nat.beq g' g&&Nat.blt tipNow (base'+c'.length)) none (some (.cells c' g' base' elem'))
        |o=>o)
       next:=h.next+1
       lN:=λg'=>cond (Nat.beq g' g) (tipNow+new.length) (h.lN g')
       used:=λj=>cond (Nat.beq j h.next) true (h.used j) })
    else none
   else none
  |_,_=>none
def app (strict:Bool)(s:Sl)(sz:Nat)(elem:κ)(n:Nat)(new:δ):M Sl:=λh=>
 match strict&&(h.get h.next).isSome with
 |true=>none
 |false=>oK strict s sz elem n new h
def ar (s:Sl)(i:Int)(sz:Nat):M Addr:=λh=>
 match s.a with
 |some a=>if 0<=i/\i<s.len then some (a.plus (i.toNat*sz),h) else none
 |none=>none
def oL (s:ζ)(i:Int):M UInt8:=λh=>
 match (if 0<=i then s[i.toNat]? else none) with
 |some b=>some (b,h)
 |none=>none
def A9 (l:wu)(n:Nat)(cs:δ)(j:Int):M l.den:=λh=>
 if 0<=j/\j<(n:Int) then (match cs[j.toNat]? with
  |some v=>(match Ae l v with|some x=>some (x,h)|none=>none)
  |none=>none) else none
def exS (s:ζ)(a b:Nat):ζ:=⟨⟨(s.data.toList.drop a).take (b-a)⟩⟩
theorem FM s a b:exS s a b=s.extract a b:=by
 have h:(s.extract a b).data.toList=(s.data.toList.drop a).take (b-a):=by simp_all
 unfold exS;rw[<-h]
def iq (s:ζ)(lo hi:Int):M ζ:=λh=>
 if 0<=lo/\lo<=hi/\hi<=s.size then some (exS s lo.toNat hi.toNat,h) else none
def kc (h:ai)(s:Sl)(e:κ):Bool:=
 match s.a with
 |none=>Nat.beq s.len 0&&Nat.beq s.cap 0
 |some a=>match h.get a.block with
  |some (.cells _ g _ e')=>Nat.beq g 0||Nat.beq e' e
  |_=>false
def gm (s:Sl)(lo hi:Int)(e:κ)(sz:Nat):M Sl:=λh=>
 if 0<=lo/\lo<=hi/\hi<=s.len/\kc h s e=true then
  some (⟨s.a.map (·.plus (lo.toNat*sz)),hi.toNat-lo.toNat,s.cap-(if s.cap=0 then 0 else lo.toNat)⟩,h) else none
def nM (a:Addr)(len:Nat)(lo hi:Int)(sz:Nat):M Sl:=λh=>
 if 0<=lo/\lo<=hi/\hi<=(len:Int) then some (⟨some (a.plus (lo.toNat*sz)),hi.toNat-lo.toNat,len-lo.toNat+1⟩,h) else none
def nN (x y:ζ):M ζ:=λh=>
 if x.size+y.size<=cF then some (x++y,h) else none
def qM (nm:μ)(elem:κ)(zero:δ)(l c:Int):M Sl:=λh=>
 if 0<=l/\l<=c/\c<=cF then (match aF nm elem (List.replicate c.toNat zero).flatten h with
  |some (b,h')=>some (⟨some ⟨b,0,none⟩,l.toNat,c.toNat+1⟩,h')
  |none=>none) else none
def bytesOf (vs:δ):Option (List UInt8):=
 match vs with
 |[]=>some []
 |.int .u8 n::r=>match bytesOf r with
  |some l=>some (UInt8.ofNat n.toNat::l)
  |none=>none
 |_=>none
def ofBytes (l:List UInt8):ζ:=⟨l.toArray⟩
def fO (s:ζ):δ:=s.data.toList.map λb=>.int .u8 b.toNat
def strOf (s:Sl):M ζ:=λh=>
 match aQ h s.a s.len with
 |some cs=>(match bytesOf cs with|some l=>some (ofBytes l,h)|none=>none)
 |none=>none
def ke:ξ->M Bool:=λv h=>match v with
 |.nilIface=>some (true,h)
 |.iface _ _=>some (false,h)
 |_=>none
def eqL:List UInt8->List UInt8->Bool
 |[],[]=>true
 |x::xs,y::ys=>Nat.beq x.toNat y.toNat&&eqL xs ys
 |_,_=>false
def qE (x y:ζ):Bool:=eqL x.data.toList y.data.toList
theorem IP:∀{l l'},eqL l l'=true↔l=l'
 |[],[]=>by simp[eqL]
 |[],_::_=>by simp[eqL]
 |_::_,[]=>by simp[eqL]
 |x::l,y::l'=>by
  simp[eqL,ach,IP,Nat.beq_eq,ajR,ajS]
theorem tY x y:qE x y=(x.toList==y.toList):=by
 rw[ByteArray.toList_eq,ByteArray.toList_eq,ajT,beq_iff_eq];exact IP
def ZJ (x y:ζ):Bool:=Op.bytesLess x.toList y.toList
def CS (x y:ξ):Bool:=
 match x,y with
 |.int k a,.int k' b=>Qo k k'&&decide (a=b)
 |.bool a,.bool b=>a==b
 |.string a,.string b=>qE a b
 |_,_=>false
def As:δ->δ->Bool
 |[],[]=>true
 |x::xs,y::ys=>CS x y&&As xs ys
 |_,_=>false
def BX (x y:ξ):Bool:=
 match x,y with
 |.agg xs,.agg ys=>As xs.toList ys.toList
 |x,y=>CS x y
def hC (k:ξ):List Ew->Option Ew
 |[]=>none
 |e::r=>match BX k e.key with
  |true=>some e
  |false=>hC k r
def yD (k:ξ)(es:List Ew):Option ξ:=(hC k es).map (·.val)
def rC (k v:ξ)(c:Nat):List Ew->List Ew
 |[]=>[⟨k,v,c⟩]
 |e::r=>match BX k e.key with
  |true=>⟨k,v,e.born⟩::r
  |false=>e::rC k v c r
def B3 (b:Nat)(v:ξ):List Ew->Option (List Ew)
 |[]=>none
 |e::r=>match Nat.beq e.born b with
  |true=>some (⟨e.key,v,e.born⟩::r)
  |false=>(match B3 b v r with|some l=>some (e::l)|none=>none)
def ai.mE (h:ai)(m:Nat)(x:ZH):ai:=
 { h with gH:=λj=>cond (Nat.beq j m) (some x) (h.gH j) }
def xc (kt:κ):M Nat:=λh=>some (h.next,{ h.mE h.next ⟨kt,0,[]⟩ with next:=h.next+1,used:=λj=>cond (Nat.beq j h.next) true (h.used j) })
def ai.wo (h:ai)(k:Nat)(kt:κ):ai:={ h.mE k ⟨kt,0,[]⟩ with used:=λj=>cond (Nat.beq j k) true (h.used j) }
def ai.fresh (h:ai)(k:Nat):Prop:=h.used k=false/\k<h.next/\h.gH k=none/\h.get k=none
def rG (k:Nat)(kt:κ):M Nat:=λh=>if h.used k=false/\k<h.next/\(h.gH k).isNone=true/\(h.get k).isNone=true then some (k,h.wo k kt) else none
def ad5 {α}(m:M α):Prop:=∀(h:ai) (k:Nat) (kt:κ) (x:α) (h2:ai),h.fresh k->m (h.wo k kt)=some (x,h2)->∃h1,m h=some (x,h1)/\h1.fresh k/\h2=h1.wo k kt
def B4 {α}(m:M α):Prop:=ad5 m/\∀h x h1,m h=some (x,h1)->h1.gH=h.gH
def ai.vC (h:ai)(kt:κ)(m:Nat):Option (Nat×List Ew):=
 match h.gH m with
 |some x=>(match Nat.beq x.kt kt with|true=>some (x.clock,x.es)|false=>none)
 |none=>none
def um (kt:κ)(T:Ty)(z:T.den)(m:μ)(k:ξ):M (Bool×T.den):=λh=>
 match m with
 |none=>some ((false,z),h)
 |some m=>(match h.vC kt m with
  |some (_,es)=>(match yD k es with
   |some v=>(match Ic T v with|some x=>some ((true,x),h)|none=>none)
   |none=>some ((false,z),h))
  |none=>none)
def FN (kt:κ)(m:μ)(k v:ξ):M Unit:=λh=>
 match m with
 |none=>none
 |some m=>(match h.vC kt m with
  |some (c,es)=>some ((),h.mE m ⟨kt,(match hC k es with|some _=>c|none=>c+1),rC k v c es⟩)
  |none=>none)
def oM (kt:κ)(T:Ty)(z:T.den)(m:μ)(k:ξ):M (T.den×Nat):=λh=>
 match m with
 |none=>none
 |some m=>(match h.vC kt m with
  |some (c,es)=>(match hC k es with
   |some e=>(match Ic T e.val with|some x=>some ((x,e.born),h)|none=>none)
   |none=>some ((z,c),h.mE m ⟨kt,c+1,rC k (CR T z) c es⟩))
  |none=>none)
def qF (m:μ)(st:Int)(v:ξ):M Unit:=λh=>
 match m with
 |none=>none
 |some m=>(match h.gH m with
  |some x=>(match decide (0<=st),B3 st.toNat v x.es with
   |true,some es=>some ((),h.mE m ⟨x.kt,x.clock,es⟩)
   |_,_=>none)
  |none=>none)
def LY (m:μ):M Nat:=λh=>
 match m with
 |none=>some (0,h)
 |some m=>(match h.gH m with
  |some x=>some (x.es.length,h)
  |none=>none)
def rh (d s:Sl)(sz:Nat):M Nat:=λh=>
 match aQ h s.a (Nat.min s.len d.len*sz) with
 |some []=>some (Nat.min s.len d.len,h)
 |some cs=>(match d.a with
  |none=>none
  |some a=>(match bh a cs h with
   |some (_,h')=>some (Nat.min s.len d.len,h')
   |none=>none))
 |none=>none
def nnF (x:ξ):M Unit:=λh=>
 match x with
 |.func (.func _) _ _=>some ((),h)
 |_=>none
def qo (g:FuncId)(x:ξ):Bool:=
 match x with
 |.func (.func f) first _=>Nat.beq f g&&first.toList.isEmpty
 |_=>false
def FO (x:ξ):δ:=
 match x with
 |.func _ _ caps=>caps.toList
 |_=>[]
def k7 cs (x:ξ):M (aY cs):=λh=>
 match wv cs (FO x) with
 |some c=>some (c,h)
 |none=>none
def ad6 (x y:ξ):Bool:=
 match x,y with
 |.int k a,.int k' b=>Qo k k'&&decide (a=b)
 |.bool a,.bool b=>a==b
 |.string a,.string b=>qE a b
 |.pointer none,.pointer none=>true
 |.pointer (some ⟨a,b,none⟩),.pointer (some ⟨c,d,none⟩)=>Nat.beq a c&&Nat.beq b d
 |.slice none a b,.slice none c d=>Nat.beq a c&&Nat.beq b d
 |.slice (some ⟨a,b,none⟩) m n,.slice (some ⟨c,d,none⟩) m' n'=>Nat.beq a c&&Nat.beq b d&&(Nat.beq m m'&&Nat.beq n n')
 |.map none,.map none=>true
 |.map (some a),.map (some b)=>Nat.beq a b
 |_,_=>false
def ZK:δ->δ->Bool
 |[],[]=>true
 |x::xs,y::ys=>ad6 x y&&ZK xs ys
 |_,_=>false
theorem ZL {x y}(h:ad6 x y=true):x=y:=by
 unfold ad6 at h;split at h
 .rename_i k a k' b;simp at h;obtain⟨h1,rfl⟩:=h;cases k<;>cases k'<;>first|rfl|cases h1
 .rw[eq_of_beq h]
 .rename_i a b;obtain⟨⟨a⟩⟩:=a;obtain⟨⟨b⟩⟩:=b;have h:eqL a b=true:=h;rw[IP.1 h]
 .rfl
 .simp_all
 .simp_all
 .simp_all
 .rfl
 .simp_all
 .cases h
theorem Qp:∀{x y},ZK x y=true->x=y
 |[],[],_=>rfl
 |[],_::_,h=>by cases h
 |_::_,[],h=>by cases h
 |x::xs,y::ys,h=>by
  simp[ZK,ach] at h;rw[ZL h.1,Qp h.2]
def gb (h h':ai)(b:Addr):Prop:=
 match h.get b.block,h'.get b.block with
 |some (.cells c g base e),some (.cells c' g' base' e')=>g'=g/\base'=base/\e'=e/\c'.length=c.length/\c'.drop b.off=c.drop b.off
 |x,y=>y=x
def eqC (h h':ai)(b:Addr):Bool:=
 match h.get b.block,h'.get b.block with
 |some (.cells c g base e),some (.cells c' g' base' e')=>Nat.beq g' g&&Nat.beq base' base&&Nat.beq e' e&&Nat.beq c'.length c.length&&ZK (c'.drop b.off) (c.drop b.off)
 |none,none=>true
 |_,_=>false
theorem ad7 {h h' b}(he:eqC h h' b=true):gb h h' b:=by
 unfold eqC at he;unfold gb;split at he
 .rename_i c g base e c' g' base' e' h1 h2;rw[h1,h2];simp only[ach] at he
  grind [Nat.eq_of_beq_eq_true,Qp]
 .grind
 .cases he
def acf h h' b:Decidable (gb h h' b):=
 match hb:eqC h h' b with
 |true=>isTrue (ad7 hb)
 |false=>h.dec (gb h h' b)
def sameAt (h h':ai):List θ->Bool
 |[]=>true
 |none::r=>sameAt h h' r
 |some b::r=>(match acf h h' b with
  |isTrue _=>sameAt h h' r
  |isFalse _=>false)
def k8 {α}(as:List θ)(m:M α):M α:=λh=>
 match m h with
 |some (x,h')=>(match sameAt h h' as with
  |true=>some (x,h')
  |false=>none)
 |none=>none
def BP {α}(k:Nat)(m:M α)(h:ai)(x:α)(h1:ai):Prop:=∀(h0:ai) t cs,h0.used k=false->k<h0.next->h0.get k=none->h=h0.aX k h0.next t cs ->
 ∃h3,m h0=some (x,h3)/\h3.used k=false/\k<h3.next/\h3.get k=none/\h1=h3.aX k h3.next t cs
def rH {α}(k:Nat)(m:M α):M α:=λh=>match m h with
 |some (x,h1)=>(match h.dec (BP k m h x h1) with
  |.isTrue _=>some (x,h1)
  |.isFalse _=>none)
 |none=>none
inductive Act:Type 1 where
 |val (v:ξ)
 |ask (α:Type) (m:M α) (k:α->Act)
 |none
def Act.run {R}:Act->(ξ->M R)->M R
 |.val v,K=>K v
 |.ask _ m k,K=>sh m λx=>(k x).run K
 |.none,_=>AS
def Act.exec:Act->ai->Option (ξ×ai)
 |.val v,h=>Option.some (v,h)
 |.ask _ m k,h=>match m h with
  |Option.some (x,h')=>(k x).exec h'
  |Option.none=>Option.none
 |.none,_=>Option.none
def IQ:TypeDesc->Option wu
 |.bool=>some .bool
 |.int k=>some (.int k)
 |.string=>some .str
 |.pointer _=>some .ptr
 |.slice _=>some .sl
 |.map _ _=>some .mp
 |.float .f64=>some .f64
 |.unsafePointer=>some .ptr
 |.struct _ | .array _ _ | .tuple _ | .named _ _ | .invalid=>none
 |_=>some .raw
def b7 (P:Program)(t:κ):μ:=
 match P.info? t with
 |some i=>some i.size
 |none=>none
def FP {α:Type}:List (Option (List α))->Option (List α)
 |[]=>some []
 |some l::r=>(match FP r with|some m=>some (l++m)|none=>none)
 |none::_=>none
def leaves (P:Program):Nat->κ->Option (List wu)
 |0,_=>none
 |n+1,t=>
  match P.underlying t with
  |some (.struct fs)=>FP (fs.toList.map λf=>leaves P n f.type)
  |some (.array len e)=>FP (List.replicate len (leaves P n e))
  |some d=>(match IQ d with|some l=>some [l] | none=>none)
  |none=>none
def zd:TypeDesc->Bool
 |.struct _ | .array _ _=>true
 |_=>false
def agG (P:Program)(t:κ):Option Ty:=
 match P.underlying t with
 |some d=>(match zd d with
  |true=>(match leaves P 12 t with|some ls=>some (.agg ls)|none=>none)
  |false=>(match IQ d with|some l=>some (.one l)|none=>none))
 |none=>none
def uX (P:Program)(t:κ):Option wu:=
 match P.underlying t,b7 P t with
 |some (.int k),some 1=>some (.int k)
 |some .bool,some 1=>some .bool
 |some .string,some 1=>some .str
 |_,_=>none
def FQ (P:Program):List Field->Nat->Option (List wu)
 |[],_=>some []
 |f :: fs, o => (match f.name == "_", Nat.beq f.offset o, uX P f.type, FQ P fs (o+1) with
  |false,true,some l,some ls=>some (l::ls)
  |_,_,_,_=>none)
def LZ (P:Program)(t:κ):Option Ty:=
 match P.underlying t with
 |some (.struct fs)=>(match P.stoodInHeld t,FQ P fs.toList 0 with
  |false,some ls=>some (.agg ls)
  |_,_=>none)
 |some (.array n e)=>(match uX P e with
  |some l=>some (.agg (List.replicate n l))
  |none=>none)
 |_=>(match uX P t with|some l=>some (.one l)|none=>none)
def kh (l:wu)(v:ξ):Bool:=
 match l,v with
 |.int k,.int k' _=>Qo k k'
 |.bool,.bool _=>true
 |.str,.string _=>true
 |_,_=>false
def gh:List wu->δ->Bool
 |[],[]=>true
 |l::ls,v::vs=>kh l v&&gh ls vs
 |_,_=>false
def RX (T:Ty)(v:ξ):Bool:=
 match T,v with
 |.one l,v=>kh l v
 |.agg ls,.agg cs=>gh ls cs.toList
 |_,_=>false
def qp (P:Program)(t:κ)(v:ξ):Bool:=
 match LZ P t with
 |some K=>RX K v
 |none=>false
def B5 (a:Addr):List wu->Nat->δ->Act
 |[],_,acc=>.val (.agg acc.reverse.toArray)
 |l::ls,i,acc=>.ask l.den (aq l (a.plus i)) λx=>B5 a ls (i+1) (Od l x::acc)
def aE ls (a:Addr):M (mD ls):=λh=>
 match aQ h (some a) ls.length with
 |some vs=>(match yL ls vs with|some x=>some (x,h)|none=>none)
 |none=>none
def LR (P:Program)(t:κ)(a:Addr):Act:=
 match P.underlying t,b7 P t with
 |some d,some n=>
  (match zd d with
  |true=>(match leaves P 12 t with
   |some ls=>(match Nat.beq ls.length n with|true=>.ask (mD ls) (aE ls a) λx=>.val (.agg (Hv ls x).toArray)|false=>.none)
   |none=>.none)
  |false=>(match IQ d with
   |some l=>.ask l.den (aq l a) λx=>.val (Od l x)
   |none=>.none))
 |_,_=>.none
def zeroOf (P:Program)(t:κ):Option ξ:=
 match P.info? t with
 |some i=>(match i.zero with
  |some v=>(match v.cells.toList.all dW&&Nat.beq v.cells.size i.size with|true=>some v|false=>none)
  |none=>none)
 |none=>none
def Fi (P:Program)(op:BinOp)(t:κ)(v:ξ):Act:=
 match op,P.underlying t with
 |.eql,some (.interface _)=>.ask Bool (ke v) λb=>.val (.bool b)
 |.neq,some (.interface _)=>.ask Bool (ke v) λb=>.val (.bool (!b))
 |_,_=>.none
def L4 (op:BinOp)(k:IntKind)(a:Int)(k':IntKind)(b:Int):Act:=
 match op with
 |.shl=>.ask Unit (px (decide (0<=b))) λ_=>.val (.int k (k.wrap (a*2^(min b.toNat k.bits))))
 |.shr=>.ask Unit (px (decide (0<=b))) λ_=>.val (.int k (a.fdiv (2^(min b.toNat k.bits))))
 |op=>(match Qo k k' with
  |false=>.none
  |true=>(match op with
   |.add=>.val (.int k (k.wrap (a+b)))
   |.sub=>.val (.int k (k.wrap (a-b)))
   |.mul=>.val (.int k (k.wrap (a*b)))
   |.quo=>.ask Unit (px (decide (b≠0))) λ_=>.val (.int k (k.wrap (a.tdiv b)))
   |.rem=>.ask Unit (px (decide (b≠0))) λ_=>.val (.int k (a.tmod b))
   |.and=>.val (.int k (k.wrap (BitVec.ofInt k.bits a&&&BitVec.ofInt k.bits b).toNat))
   |.or=>.val (.int k (k.wrap (BitVec.ofInt k.bits a|||BitVec.ofInt k.bits b).toNat))
   |.xor=>.val (.int k (k.wrap (BitVec.ofInt k.bits a^^^BitVec.ofInt k.bits b).toNat))
   |.andNot=>.val (.int k (k.wrap (BitVec.ofInt k.bits a&&&~~~BitVec.ofInt k.bits b).toNat))
   |.eql=>.val (.bool (decide (a=b)))
   |.neq=>.val (.bool (!decide (a=b)))
   |.lss=>.val (.bool (decide (a<b)))
   |.leq=>.val (.bool (decide (a<=b)))
   |.gtr=>.val (.bool (decide (b<a)))
   |.geq=>.val (.bool (decide (b<=a)))
   |_=>.none))
def L5 (op:BinOp)(a b:ζ):Act:=
 match op with
 |.add=>.ask ζ (nN a b) λs=>.val (.string s)
 |.eql=>.val (.bool (qE a b))
 |.neq=>.val (.bool (!qE a b))
 |.lss=>.val (.bool (ZJ a b))
 |.leq=>.val (.bool (ZJ a b||qE a b))
 |.gtr=>.val (.bool (!(ZJ a b||qE a b)))
 |.geq=>.val (.bool (!ZJ a b))
 |_=>.none
def yE (op:BinOp)(b:Bool):Act:=
 match op with
 |.eql=>.val (.bool b)
 |.neq=>.val (.bool (!b))
 |_=>.none
def eq1 (P:Program)(t:κ)(x y:ξ):Option Bool:=
 match x,y with
 |.int k a,.int k' b=>(match P.underlying t with
  |some (.int _)=>(match Qo k k' with|true=>some (decide (a=b))|false=>none)
  |_=>none)
 |.bool a,.bool b=>(match P.underlying t with|some .bool=>some (a==b)|_=>none)
 |.string a,.string b=>(match P.underlying t with|some .string=>some (qE a b)|_=>none)
 |_,_=>none
def L6 (P:Program):List Field->Nat->δ->δ->Option Bool
 |[],_,xs,ys=>(match xs,ys with | [],[]=>some true|_,_=>none)
 |f::fs,o,xs,ys=>(match xs,ys with
  |x :: xs, y :: ys => (match f.name == "_", Nat.beq f.offset o with
   |false,true=>(match eq1 P f.type x y with
    |some a=>(match L6 P fs (o+1) xs ys with|some b=>some (a&&b)|none=>none)
    |none=>none)
   |_,_=>none)
  |_,_=>none)
def At (o:μ):M Nat:=λh=>match o with
 |some r=>some (r,h)
 |none=>none
def RY (a b:Nat):M Nat:=At (FloatKind.f64.format.add a b)
def RZ (a b:Nat):M Nat:=At (FloatKind.f64.format.sub a b)
def Ex (a b:Nat):M Nat:=At (FloatKind.f64.format.mul a b)
def R4 (a b:Nat):M Nat:=At (FloatKind.f64.format.div a b)
def Hw (a b:Nat):Bool:=FloatKind.f64.format.order a b==some .eq
def ZM (a b:Nat):Bool:=FloatKind.f64.format.order a b==some .lt
def ZA (a b:Nat):Bool:=FloatKind.f64.format.order a b==some .gt
def U6 (n:Int):Nat:=FloatKind.f64.nearest n
def ad8 (b:Nat):Nat:=Op.negFloat .f64 b
def L7 (op:BinOp)(a b:Nat):Act:=
 match op with
 |.add=>.ask Nat (RY a b) λr=>.val (.float .f64 r)
 |.sub=>.ask Nat (RZ a b) λr=>.val (.float .f64 r)
 |.mul=>.ask Nat (Ex a b) λr=>.val (.float .f64 r)
 |.quo=>.ask Nat (R4 a b) λr=>.val (.float .f64 r)
 |.eql=>.val (.bool (Hw a b))
 |.neq=>.val (.bool (!Hw a b))
 |.lss=>.val (.bool (ZM a b))
 |.leq=>.val (.bool (ZM a b||Hw a b))
 |.gtr=>.val (.bool (ZA a b))
 |.geq=>.val (.bool (ZA a b||Hw a b))
 |_=>.none
def U7 (P:Program)(op:BinOp)(t:κ)(x y:ξ):Act:=
 match x,y with
 |.int k a,.int k' b=>L4 op k a k' b
 |.string a,.string b=>L5 op a b
 |.float .f64 a,.float .f64 b=>L7 op a b
 |.bool a,.bool b=>(match P.underlying t with|some .bool=>yE op (a==b)|_=>.none)
 |.slice a _ _,.slice none _ _=>(match P.underlying t with|some (.slice _)=>yE op a.isNone|_=>.none)
 |.pointer a,.pointer none=>(match P.underlying t with|some (.pointer _)=>yE op a.isNone|_=>.none)
 |.map a,.map none=>(match P.underlying t with|some (.map _ _)=>yE op a.isNone|_=>.none)
 |.agg xs,.agg ys=>(match P.underlying t,P.stoodInHeld t,P.eqGuardType P.depth t with
  |some (.struct fs),false,false=>(match L6 P fs.toList 0 xs.toList ys.toList with|some b=>yE op b|none=>.none)
  |_,_,_=>.none)
 |_,_=>.none
def U8 (P:Program)(op:BinOp)(t:κ)(x y:ξ):Act:=
 match y with
 |.nilIface=>Fi P op t x
 |y=>U7 P op t x y
def aun (op:UnOp)(x:ξ):Act:=
 match op,x with
 |.neg,.int k n=>.val (.int k (k.wrap (0-n)))
 |.not,.bool b=>.val (.bool (!b))
 |.neg,.float .f64 b=>.val (.float .f64 (ad8 b))
 |_,_=>.none
def inB (a:Addr):M Addr:=λh=>
 match h.get a.block with
 |some (.cells c _ _ _)=>if a.off<c.length then some (a,h) else none
 |_=>none
def U9:List (Nat×Nat×Nat×Nat):=[(49,5,2,47)]
def agJ (u e n o:Nat):Bool:=U9.any λx=>Nat.beq x.2.2.2 u&&Nat.beq x.1 e&&Nat.ble x.2.1 n&&Nat.beq x.2.2.1 o
def acg (P:Program)(u:Nat):Bool:=U9.all λx=>!(Nat.beq x.2.2.2 u)||(Nat.beq (P.cellsOf x.1) x.2.1&&rowAt P (sameLayout P P.depth · u) P.depth x.1 1 x.2.2.1 1)
def atB (u:κ)(k:Nat)(a:Addr):M Addr:=λh=>
 match h.get a.block with
 |some (.cells c g _ e)=>if g=a.block+1/\((k<=c.length/\e=u/\a.off=0)\/agJ u e c.length a.off=true) then some (a,h) else none
 |_=>none
def ai.shut (h:ai)(g:Nat):ai:={ h with get:=λj=>match h.get j with
 |some (.cells c' g' base' e')=>cond (Nat.beq g' g) none (some (.cells c' g' base' e'))
 |o=>o }
def ZN (e:κ)(p:θ)(n:Int):M ζ:=λh=>
 match p with
 |none=>if n=0 then some (ofBytes [],h) else none
 |some a=>(match h.get a.block,aQ h (some a) n.toNat with
  |some (.cells _ g _ e'),some cs=>if 0<n/\n<=1073741824/\g≠0/\e'=e then (match bytesOf cs with|some l=>some (ofBytes l,h.shut g)|none=>none) else none
  |_,_=>none)
def D7 (p:θ)(n:Nat):M θ:=λh=>
 match p with
 |none=>some (none,h)
 |some a=>if n≠0 then some (some a,h) else none
def L8 (P:Program)(src dst:κ)(x:ξ):Act:=
 match P.underlying src,P.underlying dst,x with
 |some (.pointer t),some .unsafePointer,.pointer p=>(match b7 P t with
  |some (_+1)=>.ask Addr (nn p) λa=>.ask Addr (inB a) λa=>.val (.pointer (some a))
  |_=>.none)
 |some .unsafePointer,some (.pointer u),.pointer p=>(match b7 P u with
  |some (k+1)=>(match Nat.beq (P.cellsOf u) (k+1)&&rowAt P (sameLayout P P.depth · u) P.depth u 1 0 1&&acg P u with
   |true=>.ask Addr (nn p) λa=>.ask Addr (atB u (k+1) a) λa=>.val (.pointer (some a))
   |false=>.none)
  |_=>.none)
 |some (.int _),some (.int k),.int _ n=>.val (.int k (k.wrap n))
 |some (.int _),some (.float .f64),.int _ n=>.val (.float .f64 (U6 n))
 |some (.slice e),some .string,.slice a n c=>(match P.underlying e with
  |some (.int .u8)=>.ask ζ (strOf ⟨a,n,c⟩) λs=>.val (.string s)
  |_=>.none)
 |_,_,_=>.none
def partsOf (E:Env):List (Nat×Operand)->Option (List (Nat×ξ))
 |[]=>some []
 |(i,x)::r=>match E.ev x,partsOf E r with
  |some v,some vs=>some ((i,v)::vs)
  |_,_=>none
def ze (place:Nat->Option (Nat×Nat))(cells:δ):List (Nat×ξ)->Option δ
 |[]=>some cells
 |(i,v)::rest=>
  match place i with
  |none=>none
  |some (off,size)=>
   match Nat.beq v.cells.size size&&Nat.ble (off+v.cells.size) cells.length with
   |true=>ze place (aU cells off v.cells.toList) rest
   |false=>none
def placesOf (P:Program):List Field->Option (List (Nat×Nat))
 |[]=>some []
 |f::r=>match b7 P f.type,placesOf P r with
  |some n,some l=>some ((f.offset,n)::l)
  |_,_=>none
def IU (P:Program)(t:κ)(parts:List (Nat×ξ)):Act:=
 match P.underlying t,zeroOf P t with
 |some (.struct fs),some z=>(match placesOf P fs.toList with
  |some pl=>(match ze (λi=>pl[i]?) z.cells.toList parts with
   |some cs=>.val (.agg cs.toArray)
   |none=>.none)
  |none=>.none)
 |some (.array _ e),some z=>(match b7 P e with
  |some n=>(match ze (λi=>some (i*n,n)) z.cells.toList parts with
   |some cs=>.val (.agg cs.toArray)
   |none=>.none)
  |none=>.none)
 |_,_=>.none
def uo (P:Program)(nm:μ)(t:κ)(len:Nat)(parts:List (Nat×ξ)):Act:=
 match P.underlying t with
 |some (.slice e)=>(match b7 P e,zeroOf P e with
  |some n,some z=>(match Nat.ble (len*n) 16777216,ze (λi=>some (i*n,n)) (List.replicate len z.cells.toList).flatten parts with
   |true,some cs=>.ask Nat (aF nm e cs) λb=>.val (.slice (some ⟨b,0,none⟩) len (len+1))
   |_,_=>.none)
  |_,_=>.none)
 |_=>.none
def zg (v:ξ)(k:Addr->Act):Act:=
 match v with
 |.pointer (some a)=>k a
 |_=>.none
def Ey (E:Env):Option Operand->Option (Option ξ)
 |some x=>(match E.ev x with|some v=>some (some v)|none=>none)
 |none=>some none
def FT (P:Program)(t:κ)(x:ξ)(lo hi mx:Option ξ):Act:=
 match P.underlying t,x,mx with
 |some .string,.string s,none=>(match lo,hi with
  |none,none=>.ask ζ (iq s 0 s.size) λr=>.val (.string r)
  |some (.int _ l),none=>.ask ζ (iq s l s.size) λr=>.val (.string r)
  |none,some (.int _ h)=>.ask ζ (iq s 0 h) λr=>.val (.string r)
  |some (.int _ l),some (.int _ h)=>.ask ζ (iq s l h) λr=>.val (.string r)
  |_,_=>.none)
 |some (.slice e),.slice a n c,none=>(match b7 P e with
  |some z=>(match lo,hi with
   |none,none=>.ask Sl (gm ⟨a,n,c⟩ 0 n e z) λr=>.val (.slice r.a r.len r.cap)
   |some (.int _ l),none=>.ask Sl (gm ⟨a,n,c⟩ l n e z) λr=>.val (.slice r.a r.len r.cap)
   |none,some (.int _ h)=>.ask Sl (gm ⟨a,n,c⟩ 0 h e z) λr=>.val (.slice r.a r.len r.cap)
   |some (.int _ l),some (.int _ h)=>.ask Sl (gm ⟨a,n,c⟩ l h e z) λr=>.val (.slice r.a r.len r.cap)
   |_,_=>.none)
  |none=>.none)
 |some (.array len e),.pointer (some a),none=>(match b7 P e with
  |some z=>(match lo,hi with
   |none,none=>.ask Sl (nM a len 0 len z) λr=>.val (.slice r.a r.len r.cap)
   |some (.int _ l),none=>.ask Sl (nM a len l len z) λr=>.val (.slice r.a r.len r.cap)
   |none,some (.int _ h)=>.ask Sl (nM a len 0 h z) λr=>.val (.slice r.a r.len r.cap)
   |some (.int _ l),some (.int _ h)=>.ask Sl (nM a len l h z) λr=>.val (.slice r.a r.len r.cap)
   |_,_=>.none)
  |none=>.none)
 |_,_,_=>.none
def rI (P:Program)(strict:Bool)(b:Builtin)(ts:List κ)(vs:δ):Act:=
 match b,ts,vs with
 |.len,t::_,[.string s]=>(match P.underlying t with|some .string=>.val (.int .i64 s.size)|_=>.none)
 |.len,t::_,[.slice _ n _]=>(match P.underlying t with|some (.slice _)=>.val (.int .i64 n)|_=>.none)
 |.copy,[t,t'],[.slice a n c,.slice a' n' c']=>(match P.underlying t,P.underlying t' with
  |some (.slice e),some (.slice _)=>(match b7 P e with
   |some z=>.ask Nat (rh ⟨a,n,c⟩ ⟨a',n',c'⟩ z) λk=>.val (.int .i64 k)
   |none=>.none)
  |_,_=>.none)
 |.min,_,[.int k x,.int k' y]=>(match Qo k k' with|true=>.val (.int k (if y<x then y else x))|false=>.none)
 |.max,_,[.int k x,.int k' y]=>(match Qo k k' with|true=>.val (.int k (if x<y then y else x))|false=>.none)
 |.append,[t,t'],[.slice a n c,.slice a' n' c']=>(match P.underlying t,P.underlying t' with
  |some (.slice e),some (.slice e')=>(match b7 P e,zeroOf P e,b7 P e' with
   |some z,some _,some z'=>(match Nat.beq z z'&&Nat.ble ((match P.info? e with|some i=>i.bytes|none=>0)) 4096 with
    |true=>.ask δ (BW ⟨a',n',c'⟩ z) λcs=>.ask Sl (app strict ⟨a,n,c⟩ z e n' cs) λr=>.val (.slice r.a r.len r.cap)
    |false=>.none)
   |_,_,_=>.none)
  |_,_=>.none)
 |.append,[t,t'],[.slice a n c,.string s]=>(match P.underlying t,P.underlying t' with
  |some (.slice e),some .string=>(match P.underlying e,zeroOf P e,b7 P e with
   |some (.int .u8),some _,some 1=>(match Nat.ble ((match P.info? e with|some i=>i.bytes|none=>0)) 4096 with
    |true=>.ask Sl (app strict ⟨a,n,c⟩ 1 e s.size (fO s)) λr=>.val (.slice r.a r.len r.cap)
    |false=>.none)
   |_,_,_=>.none)
  |_,_=>.none)
 |.unsafeSliceData,_,[.slice a n _]=>.ask θ (D7 a n) λp=>.val (.pointer p)
 |.unsafeString,t::_,[.pointer p,.int .i64 n]=>(match P.underlying t with
  |some (.pointer e)=>(match Nat.beq (P.cellsOf e) 1 with
   |true=>.ask ζ (ZN e p n) λs=>.val (.string s)
   |false=>.none)
  |_=>.none)
 |_,_,_=>.none
def ZB (a b:θ):M Bool:=λh=>match a,b with
 |some a,some b=>(match Nat.beq a.block b.block&&Nat.beq a.off b.off with|true=>some (true,h)|false=>none)
 |_,_=>none
def agK:Operand->ξ->ξ->Option (θ×θ)
 |.const _,_,_=>none
 |_,.pointer a,.pointer b=>some (a,b)
 |_,_,_=>none
def Va (y:Operand)(u:ξ):Bool:=
 match u with
 |.nilIface=>(match y with | .const _=>true|_=>false)
 |_=>true
def xH (P:Program)(nm:μ)(E:Env)(o:Oper):Act:=
 match o.op with
 |.move x | .assign x=>(match E.ev x with|some v=>.val v|none=>.none)
 |.alloc t=>(match zeroOf P t with
  |some z=>.ask Nat (aF nm t z.cells.toList) λb=>.val (.pointer (some ⟨b,0,none⟩))
  |none=>.none)
 |.box t x=>(match E.ev x with
  |some v=>.ask Nat (aF nm t v.cells.toList) λb=>.val (.pointer (some ⟨b,0,none⟩))
  |none=>.none)
 |.build t parts=>(match partsOf E parts.toList with|some vs=>IU P t vs|none=>.none)
 |.buildSlice t len parts=>(match partsOf E parts.toList with|some vs=>uo P nm t len vs|none=>.none)
 |.load t x=>(match E.ev x with|some v=>zg v λa=>LR P t a|none=>.none)
 |.store t x y=>(match E.ev x,E.ev y,b7 P t with
  |some v,some u,some n=>zg v λa=>(match Nat.beq u.cells.size n with
   |true=>.ask Unit (bh a u.cells.toList) λ_=>.val undef
   |false=>.none)
  |_,_,_=>.none)
 |.nilCheck x=>(match P.underlying o.type with
  |some (.func _ _ _)=>(match E.ev x with
   |some v=>.ask Unit (nnF v) λ_=>.val v
   |none=>.none)
  |_=>(match E.ev x with
   |some (.pointer p)=>.ask Addr (nn p) λa=>.val (.pointer (some a))
   |_=>.none))
 |.binOp op t x y _=>(match E.ev x,E.ev y with
  |some v,some u=>(match Va y u with
   |true=>(match agK y v u with
    |some (a,b)=>(match P.underlying t with
     |some (.pointer e)=>(match b7 P e with|some _=>.ask Bool (ZB a b) λr=>yE op r|none=>.none)
     |_=>.none)
    |none=>U8 P op t v u)
   |false=>.none)
  |_,_=>.none)
 |.unOp op _ x=>(match E.ev x with|some v=>aun op v|none=>.none)
 |.convert s d x=>(match E.ev x with|some v=>L8 P s d v|none=>.none)
 |.makeInterface t x=>(match E.ev x,P.underlying t with
  |some _,some (.interface _)=>.none
  |some v,some _=>.val (.iface t v)
  |_,_=>.none)
 |.makeFunc fn fs cs=>(match E.LX fs.toList,E.LX cs.toList with
  |some f,some c=>.val (.func fn f.toArray c.toArray)
  |_,_=>.none)
 |.makeSlice t l c=>(match P.underlying t,E.ev l,E.ev c with
  |some (.slice e),some (.int _ n),some (.int _ m)=>(match zeroOf P e,Nat.ble ((match P.info? e with|some i=>i.bytes|none=>0)) 4096 with
   |some z,true=>.ask Sl (qM nm e z.cells.toList n m) λr=>.val (.slice r.a r.len r.cap)
   |_,_=>.none)
  |_,_,_=>.none)
 |.slice t x lo hi mx=>(match E.ev x,Ey E lo,Ey E hi,Ey E mx with
  |some v,some l,some h,some m=>FT P t v l h m
  |_,_,_,_=>.none)
 |.fieldAddr s x f=>(match P.underlying s,E.ev x with
  |some (.struct fs),some v=>(match fs[f]? with
   |some fd=>(match b7 P fd.type with
    |some n=>(match Nat.beq n 0 with
     |true=>.none
     |false=>zg v λa=>.val (.pointer (some (a.plus fd.offset))))
    |none=>.none)
   |none=>.none)
  |_,_=>.none)
 |.field s x f=>(match P.underlying s,E.ev x with
  |some (.struct fs),some (.agg cs)=>(match fs[f]? with
   |some fd=>(match P.underlying fd.type,b7 P fd.type with
    |some d,some n=>(match zd d with
     |true=>.val (.agg ((cs.toList.drop fd.offset).take n).toArray)
     |false=>(match cs.toList[fd.offset]? with|some v=>.val v|none=>.none))
    |_,_=>.none)
   |none=>.none)
  |_,_=>.none)
 |.indexAddr t x i=>(match P.underlying t,E.ev x,E.ev i with
  |some (.slice e),some (.slice a n c),some (.int _ j)=>(match b7 P e with
   |some z=>.ask Addr (ar ⟨a,n,c⟩ j z) λr=>.val (.pointer (some r))
   |none=>.none)
  |some (.array n e),some (.pointer (some a)),some (.int _ j)=>(match b7 P e with
   |some z=>.ask Unit (px (decide (0<=j/\j<(n:Int)))) λ_=>.val (.pointer (some (a.plus (j.toNat*z))))
   |none=>.none)
  |_,_,_=>.none)
 |.index t x i=>(match P.underlying t,E.ev x,E.ev i with
  |some .string,some (.string s),some (.int _ j)=>.ask UInt8 (oL s j) λb=>.val (.int .u8 b.toNat)
  |some (.array n e),some (.agg cs),some (.int _ j)=>(match P.underlying e,b7 P e with
   |some d,some 1=>(match zd d,IQ d with
    |false,some l=>.ask l.den (A9 l n cs.toList j) λx=>.val (Od l x)
    |_,_=>.none)
   |_,_=>.none)
  |_,_,_=>.none)
 |.makeMap t r=>(match P.underlying t,Ey E r with
  |some (.map k _),some none=>(match LZ P k with|some _=>(match nm with|none=>.ask Nat (xc k) λm=>.val (.map (some m))|some b=>.ask Nat (rG b k) λm=>.val (.map (some m)))|none=>.none)
  |some (.map k _),some (some (.int _ _))=>(match LZ P k with|some _=>(match nm with|none=>.ask Nat (xc k) λm=>.val (.map (some m))|some b=>.ask Nat (rG b k) λm=>.val (.map (some m)))|none=>.none)
  |_,_=>.none)
 |.lookup t x i ok=>(match P.underlying t,E.ev x,E.ev i with
  |some (.map k e),some (.map m),some kv=>(match qp P k kv,agG P e,zeroOf P e with
   |true,some T,some zv=>(match Ic T zv with
    |some z=>.ask (Bool×T.den) (um k T z m kv) λr=>.val (match ok with|true=>.tuple #[CR T r.2,.bool r.1] | false=>CR T r.2)
    |none=>.none)
   |_,_,_=>.none)
  |_,_,_=>.none)
 |.mapEntry t x i=>(match P.underlying t,E.ev x,E.ev i with
  |some (.map k e),some (.map m),some kv=>(match qp P k kv,agG P e,zeroOf P e with
   |true,some T,some zv=>(match Ic T zv with
    |some z=>.ask (T.den×Nat) (oM k T z m kv) λr=>.val (.tuple #[CR T r.1,.int .i64 r.2])
    |none=>.none)
   |_,_,_=>.none)
  |_,_,_=>.none)
 |.entryStore _ x i y=>(match E.ev x,E.ev i,E.ev y with
  |some (.map m),some (.int _ st),some v=>.ask Unit (qF m st v) λ_=>.val undef
  |_,_,_=>.none)
 |.mapUpdate t x i y | .insert t x i y=>(match P.underlying t,E.ev x,E.ev i,E.ev y with
  |some (.map k _),some (.map m),some kv,some v=>(match qp P k kv with
   |true=>.ask Unit (FN k m kv v) λ_=>.val undef
   |false=>.none)
  |_,_,_,_=>.none)
 |.extract x i=>(match E.ev x with
  |some (.tuple vs)=>(match vs.toList[i]? with|some v=>.val v|none=>.none)
  |_=>.none)
 |.call c=>(match c.callee,E.LX c.args.toList with
  |.builtin b,some vs=>rI P nm.isSome b c.argTypes.toList vs
  |_,_=>.none)
 |_=>.none
abbrev Path:=η
def child:Code->Nat->Code
 |.seq a _,0=>a
 |.seq _ b,_=>b
 |.cond _ a _,0=>a
 |.cond _ _ b,_=>b
 |.block _ c,_=>c
 |.loop c,_=>c
 |.scope c,_=>c
 |c,_=>c
def cK (c:Code):Path->Code
 |[]=>c
 |i::p=>child (cK c p) i
inductive B6 where
 |code (p:Path)
 |au (id:Nat)
 |scp (p:Path)
inductive jU where
 |normal
 |exit (id:Nat)
 |ret
def eqE:jU->jU->Bool
 |.normal,.normal=>true
 |.exit a,.exit b=>Nat.beq a b
 |.ret,.ret=>true
 |_,_=>false
def vD:Path->Path->Bool
 |[],[]=>true
 |a::p,b::q=>Nat.beq a b&&vD p q
 |_,_=>false
def eqItems:List B6->List B6->Bool
 |[],[]=>true
 |.code p::k,.code q::l=>vD p q&&eqItems k l
 |.au a::k,.au b::l=>Nat.beq a b&&eqItems k l
 |.scp p::k,.scp q::l=>vD p q&&eqItems k l
 |_,_=>false
structure xI:Type 1 where
 α:Type
 m:M α
 pk:α->ξ
structure ad9:Type 1 where
 α:Type
 m:M (α⊕ξ)
 pk:α->ξ
inductive xJ:Type 1 where
 |one (α:Type) (m:M α) (e:jU) (out:α->Env)
 |two (α β:Type) (m:M (α⊕β)) (e:jU) (out:α->Env) (e':jU) (out':β->Env)
 |agO (α:Type) (m:M (α⊕ξ)) (e:jU) (out:α->Env)
 |agP (α β:Type) (m:M ((α⊕β)⊕ξ)) (e:jU) (out:α->Env) (e':jU) (out':β->Env)
 |none
structure sT:Type 1 where
 st:FuncId->δ->Option xI
 dy:Nat->ξ->δ->Option xI
 aip:Nat->Bool
 mo:FuncId->Bool
 sp:FuncId->δ->Option ad9
 ZR:FuncId->Bool
structure Oi (R:Type) where
 call:sT
 loop:Path->Env->xJ
 join:Path->Option (List B6×(Env->Option (M R)))
 draw:Nat->Option (List (Nat×η))
 uU:ξ->M R
def qq (id:Nat):List B6->Option (List B6)
 |.au id'::k=>(match Nat.beq id' id with|true=>some k|false=>qq id k)
 |_::k=>qq id k
 |[]=>none
def Env.uq (E:Env)(c:Operand)(b:Bool):Env:=
 match c with
 |.tmp t=>E.set t (.bool b)
 |_=>E
def cz {α β R:Type}(f:α->M R)(g:β->M R):α⊕β->M R
 |.inl x=>f x
 |.inr y=>g y
def callee (E:Env)(c:Call):Option (FuncId×δ):=
 match c.callee,E.LX c.args.toList with
 |.value f,some vs=>(match E.ev f with
  |some (.func (.func g) first captured)=>some (g,first.toList++vs++captured.toList)
  |_=>none)
 |_,_=>none
def rJ (C:sT)(c:Call):μ:=
 match c.callee with
 |.value (.tmp t)=>(match C.aip t with|true=>some t|false=>none)
 |_=>none
def uY (E:Env)(t:Nat)(c:Call):Option (ξ×δ):=
 match E t,E.LX c.args.toList with
 |some x,some vs=>some (x,vs)
 |_,_=>none
def isBuiltin:Call->Bool:=λc=>match c.callee with
 |.builtin _=>true
 |_=>false
def wR {R}(b:Bool)(x y:M R):M R:=if b=true then x else y
abbrev Wr:=Nat×Option η
def LS (W:Wr)(d:μ):Bool:=
 match d with
 |none=>true
 |some i=>Nat.blt i W.1&&(match W.2 with
  |some l=>l.any (Nat.beq i)
  |none=>true)
abbrev jl:=Nat->Option (Nat×δ)
def jl.emp:jl:=λ_=>none
def Env.del (E:Env)(d:μ):Env:=
 match d with
 |some i=>λj=>cond (Nat.beq j i) none (E j)
 |none=>E
def jl.del (L:jl)(d:μ):jl:=
 match d with
 |some i=>λj=>cond (Nat.beq j i) none (L j)
 |none=>L
def jl.put (L:jl)(d:μ)(x:Nat×δ):jl:=
 match d with
 |some i=>λj=>cond (Nat.beq j i) (some x) (L j)
 |none=>L
def Oj (ops:Array Oper)(t:Nat):Bool:=ops.toList.any λo=>match o.op with
 |.call c=>(match c.callee,c.args.toList with
  |.builtin .append,[_,.tmp u]=>Nat.beq u t
  |_,_=>false)
 |_=>false
def B7 (P:Program)(t:κ)(len:Nat)(parts:List (Nat×ξ)):Option δ:=
 match P.underlying t with
 |some (.slice e)=>(match b7 P e,zeroOf P e with
  |some n,some z=>(match Nat.ble (len*n) 16777216,ze (λi=>some (i*n,n)) (List.replicate len z.cells.toList).flatten parts with
   |true,some cs=>(match cs.all eS with|true=>some cs|false=>none)
   |_,_=>none)
  |_,_=>none)
 |_=>none
def vE (L:jl)(c:Call):Option (Nat×δ):=
 match c.callee,c.args.toList with
 |.builtin .append,[_,.tmp t]=>L t
 |_,_=>none
def rK (P:Program)(strict:Bool)(E:Env)(c:Call)(n:Nat)(cs:δ):Act:=
 match c.argTypes.toList,c.args.toList with
 |[t,t'],[s,_]=>(match E.ev s,P.underlying t,P.underlying t' with
  |some (.slice a m k),some (.slice e),some (.slice _)=>(match b7 P e,zeroOf P e with
   |some z,some _=>(match Nat.ble ((match P.info? e with|some i=>i.bytes|none=>0)) 4096 with
    |true=>.ask Sl (app strict ⟨a,m,k⟩ z e n cs) λr=>.val (.slice r.a r.len r.cap)
    |false=>.none)
   |_,_=>.none)
  |_,_,_=>.none)
 |_,_=>.none
def yF (P:Program)(ops:Array Oper)(E:Env)(o:Oper):Option (Nat×δ):=
 match o.op,o.dst with
 |.buildSlice t len parts,some d=>(match Oj ops d with
  |true=>(match partsOf E parts.toList with
   |some vs=>(match B7 P t len vs with|some cs=>some (len,cs)|none=>none)
   |none=>none)
  |false=>none)
 |_,_=>none
def td (cks:List θ):Act->Act
 |.ask α m k=>(match cks with
  |[]=>.ask α m k
  |cks=>.ask α (k8 cks m) k)
 |A=>A
def wrapM {α}(cks:List θ)(m:M α):M α:=
 match cks with
 |[]=>m
 |cks=>k8 cks m
def IV (l:η)(i:Nat):Bool:=l.any (Nat.beq i)
def Au (ops:Array Oper)(o:Oper):Bool:=
 match o.op with
 |.call c=>(match c.callee with
  |.builtin .append=>(match o.dst with
   |some d=>ops.toList.any λp=>(match p.op with
    |.call c=>!isBuiltin c&&IV (p.op.operands.toList.filterMap λ| .tmp t=>some t|_=>none) d
    |_=>false)
   |none=>false)
  |_=>false)
 |_=>false
def B8 (ops:Array Oper)(o:Oper):Bool:=
 match o.op with
 |.call c=>(match c.callee,c.args.toList with
  |.builtin .append,.tmp d::_=>ops.toList.any λp=>(match p.op,p.dst with
   |.buildSlice _ _ _,some e=>Nat.beq d e
   |_,_=>false)
  |_,_=>false)
 |_=>false
def yM (b:Bool)(E:Env)(c:Call)(A:Act):Act:=
 match b with
 |false=>A
 |true=>(match c.args.toList with
  |s::_=>(match E.ev s with
   |some (.slice _ _ k)=>(match Nat.beq k 0 with|true=>.none|false=>A)
   |_=>.none)
  |[]=>.none)
theorem CT {b E c A h r}(e:(yM b E c A).exec h=some r):yM b E c A=A:=by
 unfold yM at *
 repeat' (first|rfl|(cases e;done)|split at e)
def byB {α:Type 1}(b:Bool)(f:Bool->α):α:=
 match b with
 |true=>f true
 |false=>f false
theorem Ol {α b}{f:Bool->α}:byB b f=f b:=by cases b<;>rfl
inductive Cls where
 |sil|ro|mro|alloc|add|mka|eff
def Ba:Bool->Cls
 |true=>.eff
 |false=>.add
def cls (P:Program)(ops:Array Oper)(o:Oper):Cls:=
 match o.op with
 |.move _ | .assign _ | .pick _ _ _ | .build _ _ | .nilCheck _ | .binOp _ _ _ _ _ | .unOp _ _ _ | .makeInterface _ _ | .makeFunc _ _ _ | .fieldAddr _ _ _ | .field _ _ _ | .indexAddr _ _ _ | .index _ _ _ | .extract _ _=>.sil
 |.load _ _=>.ro
 |.slice t _ _ _ _=>(match P.underlying t with|some .string=>.sil|some (.slice _)=>.ro|some (.array _ _)=>.sil|_=>.eff)
 |.convert s d _=>(match P.underlying s,P.underlying d with
  |some (.slice _),some .string=>.ro
  |some (.int _),some _=>.sil
  |some .string,some .string=>.sil
  |_,_=>.eff)
 |.buildSlice _ _ _=>(match o.dst with
  |some d=>(match Oj ops d with|true=>.sil|false=>.alloc)
  |none=>.eff)
 |.alloc _ | .box _ _ | .makeSlice _ _ _=>.alloc
 |.lookup _ _ _ _=>.mro
 |.makeMap _ _=>.mka
 |.call c=>(match c.callee with
  |.builtin .append=>Ba (Au ops o)
  |.builtin .len=>(match c.argTypes.toList with
   |t::_=>(match P.underlying t with|some (.map _ _)=>.mro|_=>.sil)
   |[]=>.sil)
  |.builtin .min | .builtin .max | .builtin .unsafeSliceData=>.sil
  |_=>.eff)
 |_=>.eff
def xd (o:Oper):Bool:=
 match o.op with
 |.store _ _ _=>true
 |_=>false
def D8:Cls->Bool
 |.alloc=>true
 |_=>false
def Ez (P:Program)(ops:Array Oper)(nb:μ)(cs:η):η:=
 match nb with
 |none=>[]
 |some b=>(cs.filter λi=>match ops[i]? with
  |some o=>D8 (cls P ops o)
  |none=>false).map (b+·)
def ZO (h:ai)(a:Addr)(ks:η):Bool:=
 match h.get a.block with
 |some (.cells _ g _ _)=>ks.all λk=>!Nat.beq a.block k&&!Nat.beq g (k+1)
 |_=>false
def yN {α}(ks:η)(a:Addr)(m:M α):M α:=λh=>match ZO h a ks with
 |true=>m h
 |false=>none
def L9 (ks:η)(a:Addr):Act->Act
 |.ask α m k=>.ask α (yN ks a m) k
 |A=>A
def xe {R}(P:Program)(C:sT)(W:Wr)(nm:μ)(cks:List θ)(ks:η)(ops:Array Oper)(E:Env)(L:jl)(o:Oper)(K:Env->jl->M R):M R:=
 match LS W o.dst with
 |false=>AS
 |true=>
 match o.op with
 |.pick c a b=>(match E.ev c with
  |some (.bool t)=>
   wR t (match (E.uq c true).ev a with|some v=>K ((E.uq c true).put o.dst v) (L.del o.dst)|none=>AS)
    (match (E.uq c false).ev b with|some v=>K ((E.uq c false).put o.dst v) (L.del o.dst)|none=>AS)
  |_=>AS)
 |.call c=>(match isBuiltin c with
  |true=>(match vE L c with
   |some (n,cs)=>(byB (nm.isSome&&!Au ops o) λb=>td cks (yM (B8 ops o) E c (rK P b E c n cs))).run λv=>K (E.put o.dst v) (L.del o.dst)
   |none=>(match Au ops o with
    |true=>AS
    |false=>(td cks (yM (B8 ops o) E c (xH P nm E o))).run λv=>K (E.put o.dst v) (L.del o.dst)))
  |false=>(match rJ C c with
   |some t=>(match uY E t c with
    |some (x,vs)=>(match C.dy t x vs with
     |some ca=>sh (wrapM cks ca.m) λx=>K (E.put o.dst (ca.pk x)) (L.del o.dst)
     |none=>AS)
    |none=>AS)
   |none=>(match callee E c with
    |some (f,vs)=>(match C.st f vs with
     |some ca=>sh (wrapM cks ca.m) λx=>K (E.put o.dst (ca.pk x)) (L.del o.dst)
     |none=>AS)
    |none=>AS)))
 |.store _ x _=>(match ks with
  |[]=>(td cks (xH P nm E o)).run λv=>K (E.put o.dst v) (L.del o.dst)
  |ks=>(match E.ev x with
   |some (.pointer (some a))=>(L9 ks a (td cks (xH P nm E o))).run λv=>K (E.put o.dst v) (L.del o.dst)
   |_=>AS))
 |.buildSlice _ _ _=>(match yF P ops E o with
  |some x=>K (E.del o.dst) (L.put o.dst x)
  |none=>(td cks (xH P nm E o)).run λv=>K (E.put o.dst v) (L.del o.dst))
 |_=>(td cks (xH P nm E o)).run λv=>K (E.put o.dst v) (L.del o.dst)
def nO (E:Env)(o:Oper):θ:=
 match o.op with
 |.load _ x=>(match E.ev x with|some (.pointer p)=>p|_=>none)
 |.slice _ x _ _ _=>(match E.ev x with|some (.slice a _ _)=>a|_=>none)
 |.convert _ _ x=>(match E.ev x with|some (.slice a _ _)=>a|_=>none)
 |_=>none
abbrev agL:=Nat->θ
def ki {R}(P:Program)(C:sT)(W:Wr)(nb:μ)(ops:Array Oper):List (Nat×η)->Env->jl->agL->(Env->M R)->M R
 |[],E,_,_,K=>K E
 |(i,cs)::rest,E,L,A,K=>
  match ops[i]? with
  |none=>AS
  |some o=>
   match o.guard with
   |none=>xe P C W (nb.map (·+i)) (cs.map A) (Ez P ops nb cs) ops E L o λE' L'=>ki P C W nb ops rest E' L' (λj=>cond (Nat.beq j i) (nO E o) (A j)) K
   |some (j,want)=>(match (ops[j]?).bind (·.dst) with
    |some t=>(match E t with
     |some (.bool b)=>
      (match want with
      |true=>wR b (xe P C W (nb.map (·+i)) (cs.map A) (Ez P ops nb cs) ops (E.set t (.bool true)) L o λE' L'=>ki P C W nb ops rest E' L' (λj=>cond (Nat.beq j i) (nO E o) (A j)) K)
       (match LS W o.dst with
       |true=>ki P C W nb ops rest ((E.set t (.bool false)).put o.dst undef) (L.del o.dst) A K
       |false=>AS)
      |false=>wR b (match LS W o.dst with
       |true=>ki P C W nb ops rest ((E.set t (.bool true)).put o.dst undef) (L.del o.dst) A K
       |false=>AS)
       (xe P C W (nb.map (·+i)) (cs.map A) (Ez P ops nb cs) ops (E.set t (.bool false)) L o λE' L'=>ki P C W nb ops rest E' L' (λj=>cond (Nat.beq j i) (nO E o) (A j)) K))
     |some (.tuple _)=>(match LS W o.dst with
      |true=>ki P C W nb ops rest (E.put o.dst undef) (L.del o.dst) A K
      |false=>AS)
     |_=>AS)
    |none=>AS)
def agv (C:sT)(o:Oper):Bool:=
 match o.op with
 |.call c=>(match c.callee with
  |.value (.func f)=>C.ZR f
  |_=>false)
 |_=>false
def lM (ops:Array Oper)(o:Oper):η:=
 (o.op.operands.toList.filterMap λ| .tmp t=>some t|_=>none)++(match o.guard with
  |some (j,_)=>(match (ops[j]?).bind (·.dst) with|some t=>[t] | none=>[])
  |none=>[])
def apart (ops:Array Oper)(o p:Oper):Bool:=
 (match o.dst with|some d=>!IV (lM ops p) d|none=>true)&&(match p.dst with|some d=>!IV (lM ops o) d|none=>true) &&
 (match o.dst,p.dst with|some d,some e=>!Nat.beq d e|_,_=>true)
def zh (ops:Array Oper)(p:Oper):Bool:=
 match p.op with
 |.store _ _ _=>true
 |.call c=>!isBuiltin c||Au ops p
 |_=>false
def Bb (mo:FuncId->Bool)(p:Oper):Bool:=
 match p.op with
 |.call c=>(match c.callee with
  |.value (.func f)=>mo f
  |_=>false)
 |_=>false
def xf (p:Oper):Option FuncId:=
 match p.op with
 |.call c=>(match c.callee with
  |.value (.func f)=>some f
  |_=>none)
 |_=>none
def Fj (P:Program)(ops:Array Oper)(i:Nat):Bool:=
 match ops[i]? with
 |some o=>D8 (cls P ops o)
 |none=>false
def bOf (P:Program)(ops:Array Oper)(f:FuncId):List (Nat×η)→μ
 | []=>none
 | (j,cs)::r=>(match (match ops[j]? with
   | some p=>(match xf p with
    | some g=>(match Nat.beq g f with | true=>cs.find? (Fj P ops) | false=>none)
    | none=>none)
   | none=>none) with
  | some i=>some i
  | none=>bOf P ops f r)
def bOK (P:Program)(C:sT)(ops:Array Oper)(l:List (Nat×η)):Bool:=
 l.all λ(j,cs)=>(match ops[j]? with
  |some p=>(match xf p with
   |some f=>cs.all λi=>!Fj P ops i||(!C.ZR f&&(match bOf P ops f l with|some i'=>Nat.beq i i' | none=>false))
   |none=>true)
  |none=>true)
def sT.k8 (C:sT)(P:Program)(nb:Nat)(ops:Array Oper)(l:List (Nat×η)):sT:={ C with
 st:=λf vs=>(match bOf P ops f l with
  |none=>C.st f vs
  |some i=>(match C.st f vs with
   |some ca=>some ⟨ca.α,rH (nb+i) ca.m,ca.pk⟩
   |none=>none))
 mo:=C.mo }
def Qq (P:Program)(mo:FuncId->Bool)(ops:Array Oper)(o p:Oper)(ck:Bool):Bool:=
 apart ops o p&&(match cls P ops o,cls P ops p with
  |.sil,_|_,.sil | .ro,.ro | .ro,.alloc | .ro,.add | .alloc,.alloc=>true
  |.ro,.mro | .mro,.ro | .mro,.mro | .mro,.alloc | .mro,.add | .alloc,.mro | .add,.mro=>true
  |.ro,.eff=>ck&&zh ops p
  |.alloc,.eff=>ck&&(xd p||(xf p).isSome)
  |.ro,.mka | .mka,.ro | .mka,.alloc | .alloc,.mka | .mro,.mka=>true
  |.mka,.eff | .mro,.eff=>Bb mo p
  |.add,.alloc=>B8 ops o
  |_,_=>false)
def xg (e:Edge):Bool:=match e.ground with
 |.textOnly _ | .gcOnly _=>false
 |_=>true
def Vb:η->η->η
 |[],a=>a
 |x::l,a=>Vb l (cond (IV a x) a (x::a))
def ZP (ops:List Oper):List η:=
 ops.foldl (λacc o=>acc++[Vb ((o.after.toList.filter xg).flatMap λe=>e.on::acc.getD e.on []) []]) []
def Fk (P:Program)(mo:FuncId→Bool)(ops:Array Oper)(pr:List η):List (Nat×η)→Bool
 | []=>true
 | (i,_)::r=>(r.all fun (j,cj)=>IV (pr.getD j []) i || (match ops[i]?,ops[j]? with
  | some o,some p=>Qq P mo ops o p (IV cj i)
  | _,_=>false)) && Fk P mo ops pr r
def Om (P:Program)(mo:FuncId->Bool)(ops:Array Oper)(l:List (Nat×η)):Bool:=
 P.follows .mixedOrders&&(l.map (·.1)).isPerm (List.range ops.size) &&
 (ops.toList.zipIdx.all λ(o,i)=>o.after.toList.all λe=>!xg e||Nat.blt e.on i) &&
 Fk P mo ops (ZP ops.toList) l
def sT.mo' (C:sT):FuncId->Bool:=λf=>C.mo f&&!C.ZR f
def Vc (P:Program)(ops:Array Oper):Bool:=ops.toList.any λo=>match cls P ops o with
 |.alloc | .mka=>true
 |_=>false
def den {R}(P:Program)(body:Code)(T:Oi R)(W:Wr)(fin:jU->Env->M R):Nat->Bool->List B6->Env->M R
 |0,_,_,_=>AS
 |_+1,_,[],E=>fin .normal E
 |n+1,_,.au _::k,E=>den P body T W fin n true k E
 |n+1,_,.scp _::k,E=>den P body T W fin n true k E
 |n+1,j,.code p::k,E=>
  match (match j with|true=>T.join p|false=>none) with
  |some (k',J)=>(match eqItems k k' with
   |true=>(match J E with|some m=>m|none=>AS)
   |false=>AS)
  |none=>
   match cK body p with
   |.skip=>den P body T W fin n true k E
   |.label _=>den P body T W fin n true k E
   |.seq _ _=>den P body T W fin n true (.code (0::p)::.code (1::p)::k) E
   |.cond c _ _=>(match E.ev c with
    |some (.bool b)=>wR b (den P body T W fin n true (.code (0::p)::k) (E.uq c true))
     (den P body T W fin n true (.code (1::p)::k) (E.uq c false))
    |_=>AS)
   |.block id _=>den P body T W fin n true (.code (0::p)::.au id::k) E
   |.scope _=>den P body T W fin n true (.code (0::p)::.scp (0::p)::k) E
   |.loop _=>(match T.loop p E with
    |.one _ m e out=>sh m λx=>(match e with
     |.normal=>AS
     |.ret=>fin .ret (out x)
     |.exit id=>(match qq id k with
      |some k'=>den P body T W fin n true k' (out x)
      |none=>fin (.exit id) (out x)))
    |.two _ _ m e out e' out'=>sh m (cz
     (λx=>(match e with
      |.normal=>AS
      |.ret=>fin .ret (out x)
      |.exit id=>(match qq id k with
       |some k'=>den P body T W fin n true k' (out x)
       |none=>fin (.exit id) (out x))))
     (λx=>(match e' with
      |.normal=>AS
      |.ret=>fin .ret (out' x)
      |.exit id=>(match qq id k with
       |some k'=>den P body T W fin n true k' (out' x)
       |none=>fin (.exit id) (out' x)))))
    |.agO _ m e out=>sh m (cz (λx=>(match e with
     |.normal=>AS
     |.ret=>fin .ret (out x)
     |.exit id=>(match qq id k with
      |some k'=>den P body T W fin n true k' (out x)
      |none=>fin (.exit id) (out x)))) T.uU)
    |.agP _ _ m e out e' out'=>sh m (cz (cz
     (λx=>(match e with
      |.normal=>AS
      |.ret=>fin .ret (out x)
      |.exit id=>(match qq id k with
       |some k'=>den P body T W fin n true k' (out x)
       |none=>fin (.exit id) (out x))))
     (λx=>(match e' with
      |.normal=>AS
      |.ret=>fin .ret (out' x)
      |.exit id=>(match qq id k with
       |some k'=>den P body T W fin n true k' (out' x)
       |none=>fin (.exit id) (out' x))))) T.uU)
    |.none=>AS)
   |.exit id=>(match qq id k with
    |some k'=>den P body T W fin n true k' E
    |none=>fin (.exit id) E)
   |.ret=>fin .ret E
   |.region id ops draw=>(match draw with
    |true=>(match T.draw id with
     |some l=>(match Om P (T.call.k8 P 0 ops l).mo ops l&&bOK P T.call ops l with
      |true=>(match Vc P ops with
       |true=>sh (dz ops.size) λnb=>ki P (T.call.k8 P nb ops l) W (some nb) ops l E jl.emp (λ_=>none) λE'=>den P body T W fin n true k E'
       |false=>ki P (T.call.k8 P 0 ops l) W (some 0) ops l E jl.emp (λ_=>none) λE'=>den P body T W fin n true k E')
      |false=>AS)
     |none=>AS)
    |false=>ki P T.call W none ops ((List.range ops.size).map λi=>(i,[])) E jl.emp (λ_=>none) λE'=>den P body T W fin n true k E')
   |_=>AS
def nP (P:Program):List ResultVar->Env->δ->(δ->Act)->Act
 |[],_,acc,K=>K acc.reverse
 |.tmp t::r,E,acc,K=>(match E t with|some v=>nP P r E (v::acc) K|none=>.none)
 |.cell a t::r,E,acc,K=>(match E a with
  |some (.pointer (some x))=>(match LR P t x with
   |.val v=>nP P r E (v::acc) K
   |.ask α m k=>.ask α m λx=>resBind (k x) λv=>nP P r E (v::acc) K
   |.none=>.none)
  |_=>.none)
where
 resBind:Act->(ξ->Act)->Act
  |.val v,K=>K v
  |.ask α m k,K=>.ask α m λx=>resBind (k x) K
  |.none,_=>.none
def lV (f:Func):Code:=match f.body with
 |some c=>c
 |none=>.skip
def ZQ ts (v:ξ):M (aY ts):=
 match unR ts v with
 |some r=>AI r
 |none=>AS
def On (P:Program)(f:Func) ts:jU->Env->M (aY ts):=λe E=>
 match e with
 |.exit _=>AS
 |_=>(nP P f.results.toList E [] λvs=>.val (ga vs)).run (ZQ ts)
def D9 ls ms (id:Nat)(next:aY (jk ls)->M (aY (jk ms))):jU->Env->M (aY (jk ms)):=λe E=>
 match e with
 |.normal=>(match sS E ls with
  |some vs=>(match wv (jk ls) vs with|some x=>next x|none=>AS)
  |none=>AS)
 |.exit id'=>(match Nat.beq id id',sS E ms with
  |true,some vs=>(match wv (jk ms) vs with|some x=>AI x|none=>AS)
  |_,_=>AS)
 |.ret=>AS
def Ie ls ms rs (id:Nat)(e2:jU)(next:aY (jk ls)->M (aY (jk ms)⊕aY (jk rs))) :
  jU->Env->M (aY (jk ms)⊕aY (jk rs)):=λe E=>
 match e with
 |.normal=>(match sS E ls with
  |some vs=>(match wv (jk ls) vs with|some x=>next x|none=>AS)
  |none=>AS)
 |e=>(match eqE e (.exit id) with
  |true=>(match sS E ms with
   |some vs=>(match wv (jk ms) vs with|some x=>AI (.inl x)|none=>AS)
   |none=>AS)
  |false=>(match eqE e e2 with
   |true=>(match sS E rs with
    |some vs=>(match wv (jk rs) vs with|some x=>AI (.inr x)|none=>AS)
    |none=>AS)
   |false=>AS))
def FU ls rs (next:aY (jk ls)->M (aY (jk rs))):jU->Env->M (aY (jk rs)):=λe E=>
 match e with
 |.normal=>(match sS E ls with
  |some vs=>(match wv (jk ls) vs with|some x=>next x|none=>AS)
  |none=>AS)
 |.exit _=>AS
 |.ret=>(match sS E rs with
  |some vs=>(match wv (jk rs) vs with|some x=>AI x|none=>AS)
  |none=>AS)
structure dv where
 id:FuncId
 as:List Ty
 rs:List Ty
 m:aY as->M (aY rs)
def AZ (l:List dv):FuncId->δ->Option xI:=λf vs=>
 match l with
 |[]=>none
 |e::r=>match Nat.beq f e.id with
  |true=>(match wv e.as vs with
   |some x=>some ⟨aY e.rs,e.m x,λy=>ga (fE e.rs y)⟩
   |none=>none)
  |false=>AZ r f vs
structure oZ where
 slot:Nat
 as:List Ty
 rs:List Ty
 m:ξ->aY as->M (aY rs)
def Qr (l:List oZ):Nat->ξ->δ->Option xI:=λt x vs=>
 match l with
 |[]=>none
 |e::r=>match Nat.beq t e.slot with
  |true=>(match wv e.as vs with
   |some a=>some ⟨aY e.rs,e.m x a,λy=>ga (fE e.rs y)⟩
   |none=>none)
  |false=>Qr r t x vs
def aci (l:List oZ)(t:Nat):Bool:=
 match l with
 |[]=>false
 |e::r=>Nat.beq t e.slot||aci r t
structure Ma where
 id:FuncId
 as:List Ty
 rs:List Ty
 m:aY as->M (aY rs⊕ξ)
def Ig (l:List Ma):FuncId->δ->Option ad9:=λf vs=>
 match l with
 |[]=>none
 |e::r=>match Nat.beq f e.id with
  |true=>(match wv e.as vs with
   |some x=>some ⟨aY e.rs,e.m x,λy=>ga (fE e.rs y)⟩
   |none=>none)
  |false=>Ig r f vs
def tf (l:List dv)(d:List oZ)(ms:List FuncId:=[])(ps:List Ma:=[]):sT:=⟨AZ l,Qr d,aci d,λf=>ms.any (Nat.beq f),Ig ps,λf=>ps.any λe=>Nat.beq f e.id⟩
structure DTg (as rs:List Ty) where
 id:FuncId
 cs:List Ty
 m:aY as->aY cs->M (aY rs)
def dsp {as rs}:List (DTg as rs)->ξ->aY as->M (aY rs)
 |[],_,_=>AS
 |[e],x,a=>wR (qo e.id x) (sh (k7 e.cs x) λc=>e.m a c) AS
 |e::f::r,x,a=>wR (qo e.id x) (sh (k7 e.cs x) λc=>e.m a c) (dsp (f::r) x a)
structure Av where
 p:Path
 ls:List (Nat×Ty)
 act:aY (jk ls)->xJ
def ri (l:List Av):Path->Env->xJ:=λp E=>
 match l with
 |[]=>.none
 |e::r=>match vD p e.p with
  |true=>(match sS E e.ls with
   |some vs=>(match wv (jk e.ls) vs with
    |some x=>e.act x
    |none=>.none)
   |none=>.none)
  |false=>ri r p E
def agN (E:Env)(ws:η):Env:=λj=>cond (ws.any (Nat.beq j)) none (E j)
def Ve ls ms (ws:η)(x:aY (jk ls))(y:aY (jk ms)):Env:=ZI (agN (uG ls (fE (jk ls) x)) ws) ms (fE (jk ms) y)
def Vf ls ms (ws:η)(id:Nat)(m:aY (jk ls)->M (aY (jk ms)))(x:aY (jk ls)):xJ:=.one (aY (jk ms)) (m x) (.exit id) (Ve ls ms ws x)
def Vg ls rs (ws:η)(m:aY (jk ls)->M (aY (jk rs)))(x:aY (jk ls)):xJ:=.one (aY (jk rs)) (m x) .ret (Ve ls rs ws x)
def Vh ls ms rs (ws:η)(id:Nat)(e2:jU)(m:aY (jk ls)->M (aY (jk ms)⊕aY (jk rs)))(x:aY (jk ls)):xJ:=
 .two (aY (jk ms)) (aY (jk rs)) (m x) (.exit id) (Ve ls ms ws x) e2 (Ve ls rs ws x)
def CU (W:Wr)(nt:Nat)(ws:η):Bool:=Nat.beq W.1 nt&&(match W.2 with
 |some l=>ws.all λi=>l.any (Nat.beq i)
 |none=>true)
structure jm (R:Type) where
 p:Path
 k:List B6
 ls:List (Nat×Ty)
 m:aY (jk ls)->M R
def goJ {R} ls (m:aY (jk ls)->M R)(E:Env):Option (M R):=
 match sS E ls with
 |some vs=>(match wv (jk ls) vs with
  |some x=>some (m x)
  |none=>none)
 |none=>none
def rL {R}(l:List (jm R)):Path->Option (List B6×(Env->Option (M R))):=λp=>
 match l with
 |[]=>none
 |e::r=>match vD p e.p with
  |true=>some (e.k,goJ e.ls e.m)
  |false=>rL r p
end Go.Ago
