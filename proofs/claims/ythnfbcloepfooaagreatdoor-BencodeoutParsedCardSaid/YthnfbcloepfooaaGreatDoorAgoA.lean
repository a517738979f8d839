
import Derived.Laws.Cells
import Derived.Laws.Strings
import Derived.KernelRfl
set_option linter.all false
namespace Go.Ago
abbrev By:=@if_neg
abbrev BY:=@if_pos
abbrev IN:=@Option.some.injEq
abbrev IS:=@Nat.eq_of_beq_eq_true
abbrev IT:=@decide_eq_true_eq
abbrev OF:=@List.mem_of_getElem?
abbrev aaa:=@List.length_append
abbrev aab:=@Nat.zero_add
abbrev aac:=@Int.toNat_natCast
abbrev aad:=@Nat.lt_succ_self
abbrev aae:=@List.length_cons
abbrev aaf:=@Bool.and_eq_true
abbrev aag:=@Bool.false_eq_true
abbrev aah:=@List.drop_eq_nil_of_le
abbrev aai:=@Nat.le_refl
abbrev aaj:=@List.getElem?_map
abbrev aak:=@List.getElem?_eq_getElem
abbrev aal:=@Nat.lt_succ_of_lt
abbrev aam:=@List.length_nil
abbrev aan:=@List.mem_cons_of_mem
abbrev aao:=@Option.some.inj
abbrev aap:=@List.eq_nil_of_length_eq_zero
abbrev aaq:=@List.cons_append
abbrev aar:=@if_false
abbrev aas:=@List.append_assoc
abbrev aat:=@List.mem_singleton
abbrev aau:=@List.getElem?_append_left
abbrev aav:=@if_true
abbrev aaw:=@List.getElem?_set_self
abbrev aax:=@List.length_replicate
abbrev aay:=@List.drop_eq_getElem_cons
abbrev aaz:=@List.mem_cons_self
abbrev aaA:=@Option.bind_some
abbrev aaB:=@Nat.le_of_ble_eq_true
abbrev aaC:=@Nat.lt_of_lt_of_le
abbrev aaD:=@List.length_singleton
abbrev aaE:=@List.mem_append_right
abbrev aaF:=@List.append_nil
abbrev aaG:=@Nat.add_zero
abbrev aaH:=@List.getElem?_append_right
abbrev aaI:=@List.length_take
abbrev aaJ:=@List.getElem?_drop
abbrev aaK:=@List.map_cons
abbrev aaL:=@congrArg
abbrev aaM:=@Array.getElem?_toList
abbrev aaN:=@Int.eq_ofNat_of_zero_le
abbrev aaO:=@List.getElem?_cons_succ
abbrev aaP:=@List.nil_append
abbrev aaQ:=@List.length_map
abbrev aaR:=@List.all_eq_true
abbrev aaS:=@Array.ext'
abbrev aaT:=@List.mem_append_left
abbrev aaU:=@Nat.le_succ
abbrev aaV:=@Bool.not_false
abbrev aaW:=@Bool.not_true
abbrev aaX:=@Nat.le_trans
abbrev aaY:=@true_and
abbrev aaZ:=@List.length_drop
abbrev aa0:=@List.count_append
abbrev aa1:=@List.getElem?_set_ne
abbrev aa2:=@List.sublist_cons_self
abbrev aa3:=@List.drop_drop
abbrev aa4:=@List.getElem?_eq_none
abbrev aa5:=@Nat.mul_one
abbrev aa6:=@List.map_append
abbrev aa7:=@List.count_cons
abbrev aa8:=@Array.getD_eq_getD_getElem?
abbrev aa9:=@Int.natCast_nonneg
abbrev aba:=@List.take_of_length_le
abbrev abb:=@List.getElem?_eq_some_iff
abbrev abc:=@Nat.not_lt_zero
abbrev abd:=@List.take_append_drop
abbrev abe:=@Nat.beq_refl
abbrev abf:=@Nat.add_mul
abbrev abg:=@Nat.mul_le_mul_right
abbrev abh:=@List.flatMap_cons
abbrev abi:=@decide_eq_false
abbrev abj:=@Nat.le_of_lt
abbrev abk:=@Nat.lt_trans
abbrev abl:=@List.findIdx?_eq_some_iff_getElem
abbrev abm:=@Prod.mk.injEq
abbrev abn:=@List.getElem_mem
abbrev abo:=@List.set_cons_succ
abbrev abp:=@List.set_cons_zero
abbrev abq:=@List.singleton_append
abbrev abr:=@List.mem_or_eq_of_mem_set
abbrev abt:=@Bool.or_eq_true
abbrev abu:=@List.eq_of_mem_replicate
abbrev abv:=@List.replicate_succ
abbrev abw:=@List.not_mem_nil
abbrev abx:=@Array.mem_of_getElem?
abbrev aby:=@Option.map_some
abbrev abz:=@List.mem_cons
abbrev abA:=@List.all_cons
abbrev abB:=@of_decide_eq_true
abbrev abC:=@Bool.not_eq_true'
abbrev abD:=@List.getElem?_append
abbrev abE:=@Array.toArray_toList
abbrev abF:=@Array.getElem?_eq_getElem
abbrev abG:=@Classical.byContradiction
abbrev abH:=@List.set_eq_take_append_cons_drop
abbrev abI:=@Nat.sub_self
abbrev abJ:=@List.Sublist.append_left
abbrev abK:=@List.getElem?_replicate
abbrev abL:=@Bool.or_false
abbrev abM:=@UInt8.toNat_inj
abbrev abN:=@List.map_replicate
abbrev abO:=@Nat.zero_le
abbrev abP:=@not_true_eq_false
abbrev abQ:=@List.getElem?_set
abbrev abR:=@Nat.le_succ_of_le
abbrev abS:=@Int.le_trans
abbrev abT:=@Array.getElem?_setIfInBounds
abbrev abU:=@List.range'_succ
abbrev abV:=@cond_false
abbrev abW:=@Nat.add_assoc
abbrev abX:=@Bool.false_or
abbrev abY:=@Array.toList_append
abbrev abZ:=@List.takeWhile_cons
abbrev ab0:=@List.cons.injEq
abbrev ab1:=@List.sublist_append_right
abbrev ab2:=@List.length_set
abbrev ab3:=@List.getElem?_take
abbrev ab4:=@List.Perm.refl
abbrev ab5:=@Nat.add_sub_cancel_left
abbrev ab6:=@List.ext_getElem?
abbrev ab7:=@ByteArray.data_extract
abbrev ab8:=@List.nodup_range
abbrev ab9:=@or_false
abbrev aca:=@List.perm_middle
abbrev acb:=@List.set_append_right
abbrev acd:=@List.perm_append_comm
abbrev ace:=@ByteArray.size_append
abbrev acf:=@Array.mem_toList_iff
abbrev acg:=@List.map_set
abbrev ach:=@List.getElem?_modify
abbrev aci:=@Nat.zero_mul
abbrev acj:=@Array.getElem?_push
abbrev ack:=@List.flatMap_append
abbrev acm:=@Bool.and_false
abbrev acn:=@List.mem_zipIdx_iff_getElem?
abbrev aco:=@Bool.false_and
abbrev acp:=@Array.ext_getElem?
abbrev acq:=@Option.isSome_none
abbrev acr:=@List.pairwise_cons
abbrev acs:=@List.sublist_flatten_of_mem
abbrev acu:=@Array.getElem?_eq_some_iff
abbrev acv:=@Array.toList_setIfInBounds
abbrev acw:=@Bool.true_and
abbrev acx:=@List.perm_ext_iff_of_nodup
abbrev acy:=@List.getD_eq_getElem?_getD
abbrev acz:=@List.take_add_one
abbrev acA:=@Option.isNone_iff_eq_none
abbrev acB:=@Nat.succ_mul
abbrev acC:=@Nat.sub_zero
abbrev acD:=@Array.mem_append
abbrev acE:=@Nat.le_add_right
abbrev acF:=@Bool.true_or
abbrev acG:=@List.take_length
abbrev acH:=@Bool.eq_iff_iff
abbrev acI:=@List.all_append
abbrev acJ:=@Nat.min_eq_left
abbrev acK:=@List.mem_append
abbrev acL:=@Nat.one_mul
abbrev acM:=@List.Perm.append_right
abbrev acN:=@List.head?_eq_getElem?
abbrev acO:=@List.getElem?_toArray
abbrev acP:=@List.mem_iff_getElem?
abbrev acQ:=@List.modify_zero_cons
abbrev acR:=@List.drop_zero
abbrev acS:=@Bool.decide_or
abbrev acT:=@ByteArray.data_append
abbrev acU:=@Nat.mod_lt
abbrev acV:=@List.range_eq_range'
abbrev acW:=@List.set_append_left
abbrev acX:=@List.replicate_succ'
abbrev acY:=@Bool.or_eq_false_iff
abbrev acZ:=@List.any_cons
abbrev ac0:=@Bool.or_assoc
abbrev ada:=@Bool.or_true
open Go
abbrev δ:=List Value
abbrev ε:=List Int
abbrev ζ:=ByteArray
abbrev η:=List Nat
abbrev θ:=Option Addr
abbrev κ:=TypeId
abbrev μ:=Option Nat
abbrev ν:=Array Value
abbrev ξ:=Value
abbrev Env:=Nat->Option ξ
def Env.set (E:Env)(i:Nat)(v:ξ):Env:=λj=>cond (Nat.beq j i) (some v) (E j)
def Env.put (E:Env)(d:μ)(v:ξ):Env:=
 match d with
 |some i=>E.set i v
 |none=>E
def Env.emp:Env:=λ_=>none
def cV:ξ->Bool
 |.bool _ | .int _ _ | .float _ _ | .complex _ _ _ | .string _ | .nilFunc | .nilIface | .pointer none | .map none | .chan none | .slice none _ _=>true
 |_=>false
def flat:ξ->Bool
 |.agg cs=>cs.toList.all cV
 |.tuple vs=>vs.toList.isEmpty
 |.iface _ v=>cV v
 |v=>cV v
def Env.ev (E:Env):Operand->Option ξ
 |.tmp t=>E t
 |.const v=>match flat v with|true=>some v|false=>none
 |.global _=>none
 |.func f=>some (.func (.func f) #[] #[])
def Env.D9 (E:Env):List Operand->Option δ
 |[]=>some []
 |x::xs=>match E.ev x,E.D9 xs with
  |some v,some vs=>some (v::vs)
  |_,_=>none
def KW:IntKind->Nat
 |.i8=>0 | .i16=>1 | .i32=>2 | .i64=>3 | .u8=>4 | .u16=>5 | .u32=>6 | .u64=>7
def KX (a b:IntKind):Bool:=Nat.beq (KW a) (KW b)
inductive uK where
 |cells (c:δ) (bG base:Nat) (elem:κ)
 |map (es:List (ξ×ξ))
 |iter (s:ζ) (pos:Nat)
structure lJ where
 key:ξ
 val:ξ
 born:Nat
structure MA where
 kt:κ
 clock:Nat
 es:List lJ
structure af where
 fj:Nat->Option MA
 get:Nat->Option uK
 next:Nat
 jY:Nat->Nat
 used:Nat->Bool
 dec:∀p:Prop,Decidable p
abbrev M (α:Type):=af->Option (α×af)
def AI {α β:Type}(m:M α)(f:α->M β):M β:=λh=>
 match m h with
 |some (a,h')=>f a h'
 |none=>none
def AS {α:Type}(a:α):M α:=λh=>some (a,h)
def AT {α:Type}:M α:=λ_=>none
structure Sl where
 a:θ
 len:Nat
 cap:Nat
inductive eh where
 |int (k:IntKind)|bool|str|ptr|aw|sl|mp|raw|f64
@[reducible] def eh.den:eh->Type
 |.int _=>Int
 |.bool=>Bool
 |.str=>ζ
 |.ptr=>θ
 |.aw=>Addr
 |.sl=>Sl
 |.mp=>μ
 |.raw=>ξ
 |.f64=>Nat
def Pg:(l:eh)->l.den->ξ
 |.int k,n=>.int k n
 |.bool,b=>.bool b
 |.str,s=>.string s
 |.ptr,p=>.pointer p
 |.aw,p=>.pointer (some p)
 |.sl,s=>.slice s.a s.len s.cap
 |.mp,r=>.map r
 |.raw,v=>v
 |.f64,n=>.float .f64 n
def xi:(l:eh)->ξ->Option l.den
 |.int .i8,.int .i8 n | .int .i16,.int .i16 n | .int .i32,.int .i32 n | .int .i64,.int .i64 n=>some n
 |.int .u8,.int .u8 n | .int .u16,.int .u16 n | .int .u32,.int .u32 n | .int .u64,.int .u64 n=>some n
 |.bool,.bool b=>some b
 |.str,.string s=>some s
 |.ptr,.pointer p=>some p
 |.aw,.pointer (some p)=>some p
 |.sl,.slice a n c=>some ⟨a,n,c⟩
 |.mp,.map r=>some r
 |.raw,v=>some v
 |.f64,.float .f64 n=>some n
 |_,_=>none
@[reducible] def mF:List eh->Type
 |[]=>Unit
 |[l]=>l.den
 |l::ls=>l.den×mF ls
def DF:(ls:List eh)->mF ls->δ
 |[],_=>[]
 |[l],x=>[Pg l x]
 |l::l'::ls,x=>Pg l x.1::DF (l'::ls) x.2
def vX:(ls:List eh)->δ->Option (mF ls)
 |[],[]=>some ()
 |[l],[v]=>xi l v
 |l::l'::ls,v::vs=>match xi l v,vX (l'::ls) vs with
  |some x,some y=>some (x,y)
  |_,_=>none
 |_,_=>none
inductive Ty where
 |one (l:eh)
 |agg (ls:List eh)
@[reducible] def Ty.den:Ty->Type
 |.one l=>l.den
 |.agg ls=>mF ls
def zL:(t:Ty)->t.den->ξ
 |.one l,x=>Pg l x
 |.agg ls,x=>.agg (DF ls x).toArray
def DC:(t:Ty)->ξ->Option t.den
 |.one l,v=>xi l v
 |.agg ls,.agg cs=>vX ls cs.toList
 |_,_=>none
@[reducible] def aO:List Ty->Type
 |[]=>Unit
 |[t]=>t.den
 |t::ts=>t.den×aO ts
def ee:(ts:List Ty)->aO ts->δ
 |[],_=>[]
 |[t],x=>[zL t x]
 |t::t'::ts,x=>zL t x.1::ee (t'::ts) x.2
def sE:(ts:List Ty)->δ->Option (aO ts)
 |[],[]=>some ()
 |[t],[v]=>DC t v
 |t::t'::ts,v::vs=>match DC t v,sE (t'::ts) vs with
  |some x,some y=>some (x,y)
  |_,_=>none
 |_,_=>none
def eE (vs:δ):ξ:=
 match vs with
 |[v]=>v
 |vs=>.tuple vs.toArray
def Xo (ts:List Ty)(v:ξ):Option (aO ts):=
 match ts with
 |[t]=>DC t v
 |ts=>match v with
  |.tuple vs=>sE ts vs.toList
  |_=>none
def oT (E:Env):List (Nat×Ty)->Option δ
 |[]=>some []
 |(i,_)::r=>match E i,oT E r with
  |some v,some vs=>some (v::vs)
  |_,_=>none
def qq:List (Nat×Ty)->δ->Env
 |(i,_)::r,v::vs=>(qq r vs).set i v
 |_,_=>Env.emp
def Sz (E:Env):List (Nat×Ty)->δ->Env
 |(i,_)::r,v::vs=>(Sz E r vs).set i v
 |_,_=>E
def fN:List (Nat×Ty)->List Ty
 |[]=>[]
 |(_,t)::r=>t::fN r
def af.cell (h:af)(a:Addr):Option ξ:=
 match h.get a.block with
 |some (.cells c _ _ _)=>c[a.off]?
 |_=>none
def _root_.Go.Addr.plus (a:Addr)(n:Nat):Addr:=⟨a.block,a.off+n,none⟩
def ar (l:eh)(a:Addr):M l.den:=λh=>
 match h.cell a with
 |some v=>(match xi l v with|some x=>some (x,h)|none=>none)
 |none=>none
def Xp (o:Option uK):Option uK:=match o with
 |some b=>some b
 |none=>none
@[simp] theorem ly (o:Option uK):Xp o=o:=by cases o<;>rfl
def af.bt (h:af)(nm next':Nat)(elem:κ)(cs:δ):af:=
 { h with
  get:=λj=>cond (Nat.beq j nm) (some (.cells cs (nm+1) 0 elem)) (Xp (h.get j))
  next:=next'
  jY:=λg=>cond (Nat.beq g (nm+1)) cs.length (h.jY g)
  used:=λj=>cond (Nat.beq j nm) true (h.used j) }
def af.new (h:af)(elem:κ)(cs:δ):af:=h.bt h.next (h.next+1) elem cs
def fi:ξ->Bool
 |.agg _ | .tuple _=>false
 |_=>true
def aJ (nm:μ)(elem:κ)(cs:δ):M Nat:=λh=>
 if cs.all fi=true then (match nm with
  |none=>some (h.next,h.new elem cs)
  |some k=>if h.used k=false/\k<h.next/\(h.get k).isNone=true then some (k,h.bt k h.next elem cs) else none) else none
def dT (n:Nat):M Nat:=λh=>some (h.next,{ h with next:=h.next+n })
def bB (c:δ)(o:Nat)(vs:δ):δ:=c.take o++vs++c.drop (o+vs.length)
def af.mY (h:af)(b:Nat)(c:δ)(g base:Nat)(elem:κ):af:=
 { h with get:=λj=>cond (Nat.beq j b) (some (.cells c g base elem)) (match h.get j with
   |some (.cells c' g' base' elem')=>cond (Nat.beq g' g) none (some (.cells c' g' base' elem'))
   |o=>o) }
def bE (a:Addr)(vs:δ):M Unit:=λh=>
 match h.get a.block with
 |some (.cells c g base elem)=>
  if g≠0/\a.off+vs.length<=c.length/\vs.all fi=true then some ((),h.mY a.block (bB c a.off vs) g base elem) else none
 |_=>none
def xZ (b:Bool):M Unit:=λh=>match b with
 |true=>some ((),h)
 |false=>none
def nn (p:θ):M Addr:=λh=>match p with
 |some a=>some (a,h)
 |none=>none
def bj (h:af)(a:θ)(n:Nat):Option δ:=
 match a with
 |none=>if n=0 then some [] else none
 |some a=>match h.get a.block with
  |some (.cells c _ _ _)=>if a.off+n<=c.length then some ((c.drop a.off).take n) else none
  |_=>none
def DD (s:Sl)(sz:Nat):M δ:=λh=>
 match bj h s.a (s.len*sz) with
 |some cs=>some (cs,h)
 |none=>none
def cN:Nat:=1073741824
def kF (strict:Bool)(s:Sl)(sz:Nat)(elem:κ)(n:Nat)(new:δ):M Sl:=λh=>
 if n=0 then (match s.a with
  |none=>if s.len=0/\s.cap=0/\new=[] then some (s,h) else none
  |some _=>if new=[] then some (s,h) else none) else
 if ¬(s.len+n<=cN/\new.length=n*sz) then none else
 match s.a with
 |none=>if s.len=0/\s.cap=0 then some (⟨some ⟨h.next,0,none⟩,n,0⟩,h.new elem new) else none
 |some a=>
  match bj h (some a) (s.len*sz),h.get a.block with
  |some j7,some (.cells c g base e)=>
   if s.cap≠0/\s.len+n<s.cap then
    if g≠0/\a.off+(s.len*sz+new.length)<=c.length/\strict=false then
     some (⟨some a,s.len+n,s.cap⟩,h.mY a.block (bB c (a.off+s.len*sz) new) g base e) else none
   else if s.cap≠0 then some (⟨some ⟨h.next,0,none⟩,s.len+n,0⟩,h.new elem (j7++new))
   else if g≠0/\e=elem then
    let tipNow:=base+a.off+s.len*sz
    let aD:uK:=.cells (j7++new) g (base+a.off) elem
    if h.jY g=tipNow then
     some (⟨some ⟨h.next,0,none⟩,s.len+n,0⟩,
      { h with
       get:=λj=>cond (Nat.beq j h.next) (some aD) (Xp (h.get j))
       next:=h.next+1
       jY:=λg'=>cond (Nat.beq g' g) (tipNow+new.length) (h.jY g')
       used:=λj=>cond (Nat.beq j h.next) true (h.used j) })
    else if strict=false then
     some (⟨some ⟨h.next,0,none⟩,s.len+n,0⟩,
      { h with
       get:=λj=>cond (Nat.beq j h.next) (some aD) (match h.get j with
        |some (.cells c' g' base' elem')=>cond (Nat.beq g' g&&Nat.blt tipNow (base'+c'.length)) none (some (.cells c' g' base' elem'))
        |o=>o)
       next:=h.next+1
       jY:=λg'=>cond (Nat.beq g' g) (tipNow+new.length) (h.jY g')
       used:=λj=>cond (Nat.beq j h.next) true (h.used j) })
    else none
   else none
  |_,_=>none
def app (strict:Bool)(s:Sl)(sz:Nat)(elem:κ)(n:Nat)(new:δ):M Sl:=λh=>
 match strict&&(h.get h.next).isSome with
 |true=>none
 |false=>kF strict s sz elem n new h
def ao (s:Sl)(i:Int)(sz:Nat):M Addr:=λh=>
 match s.a with
 |some a=>if 0<=i/\i<s.len then some (a.plus (i.toNat*sz),h) else none
 |none=>none
def nO (s:ζ)(i:Int):M UInt8:=λh=>
 match (if 0<=i then s[i.toNat]? else none) with
 |some b=>some (b,h)
 |none=>none
def MC (l:eh)(n:Nat)(cs:δ)(j:Int):M l.den:=λh=>
 if 0<=j/\j<(n:Int) then (match cs[j.toNat]? with
  |some v=>(match xi l v with|some x=>some (x,h)|none=>none)
  |none=>none) else none
def Yo (s:ζ)(a b:Nat):ζ:=⟨⟨(s.data.toList.drop a).take (b-a)⟩⟩
theorem Ju (s:ζ)(a b:Nat):Yo s a b=s.extract a b:=by
 have h:(s.extract a b).data.toList=(s.data.toList.drop a).take (b-a):=by simp[ab7]
 unfold Yo;rw[<-h]
def ji (s:ζ)(lo hi:Int):M ζ:=λh=>
 if 0<=lo/\lo<=hi/\hi<=s.size then some (Yo s lo.toNat hi.toNat,h) else none
def gx (h:af)(s:Sl)(e:κ):Bool:=
 match s.a with
 |none=>Nat.beq s.len 0&&Nat.beq s.cap 0
 |some a=>match h.get a.block with
  |some (.cells _ g _ e')=>Nat.beq g 0||Nat.beq e' e
  |_=>false
def gf (s:Sl)(lo hi:Int)(e:κ)(sz:Nat):M Sl:=λh=>
 if 0<=lo/\lo<=hi/\hi<=s.len/\gx h s e=true then
  some (⟨s.a.map (·.plus (lo.toNat*sz)),hi.toNat-lo.toNat,s.cap-(if s.cap=0 then 0 else lo.toNat)⟩,h) else none
def tC (a:Addr)(len:Nat)(lo hi:Int)(sz:Nat):M Sl:=λh=>
 if 0<=lo/\lo<=hi/\hi<=(len:Int) then some (⟨some (a.plus (lo.toNat*sz)),hi.toNat-lo.toNat,len-lo.toNat+1⟩,h) else none
def sL (s:Sl)(lo hi mx:Int)(e:κ)(sz:Nat):M Sl:=λh=>
 if 0<=lo/\lo<=hi/\hi<=mx/\mx<=s.len/\s.a.isSome/\gx h s e=true then
  some (⟨s.a.map (·.plus (lo.toNat*sz)),hi.toNat-lo.toNat,mx.toNat-lo.toNat+1⟩,h) else none
def yS (x y:ζ):M ζ:=λh=>
 if x.size+y.size<=cN then some (x++y,h) else none
def pT (nm:μ)(elem:κ)(zero:δ)(l c:Int):M Sl:=λh=>
 if 0<=l/\l<=c/\c<=cN then (match aJ nm elem (List.replicate c.toNat zero).flatten h with
  |some (b,h')=>some (⟨some ⟨b,0,none⟩,l.toNat,c.toNat+1⟩,h')
  |none=>none) else none
def bytesOf (vs:δ):Option (List UInt8):=
 match vs with
 |[]=>some []
 |.int .u8 n::r=>match bytesOf r with
  |some l=>some (UInt8.ofNat n.toNat::l)
  |none=>none
 |_=>none
def ofBytes (l:List UInt8):ζ:=⟨l.toArray⟩
def bO (s:ζ):δ:=s.data.toList.map λb=>.int .u8 b.toNat
def strOf (s:Sl):M ζ:=λh=>
 match bj h s.a s.len with
 |some cs=>(match bytesOf cs with|some l=>some (ofBytes l,h)|none=>none)
 |none=>none
def B3 (elem:κ)(s:ζ):M Sl:=λh=>
 if s.size<=cN then some (⟨some ⟨h.next,0,none⟩,s.size,0⟩,h.new elem (bO s)) else none
def rM:ξ->M Bool:=λv h=>match v with
 |.nilIface=>some (true,h)
 |.iface _ _=>some (false,h)
 |_=>none
def Ug:List UInt8->List UInt8->Bool
 |[],[]=>true
 |x::xs,y::ys=>Nat.beq x.toNat y.toNat&&Ug xs ys
 |_,_=>false
def pj (x y:ζ):Bool:=Ug x.data.toList y.data.toList
theorem EP:∀{l l':List UInt8},Ug l l'=true↔l=l'
 |[],[]=>by simp[Ug]
 |[],_::_=>by simp[Ug]
 |_::_,[]=>by simp[Ug]
 |x::l,y::l'=>by
  simp only[Ug,aaf,EP (l:=l) (l':=l'),Nat.beq_eq,abM,ab0]
theorem mZ (x y:ζ):pj x y=(x.toList==y.toList):=by
 rw[ByteArray.toList_eq,ByteArray.toList_eq,acH,beq_iff_eq];exact EP
def zM (x y:ζ):Bool:=Op.bytesLess x.toList y.toList
def zO (x y:ξ):Bool:=
 match x,y with
 |.int k a,.int k' b=>KX k k'&&decide (a=b)
 |.bool a,.bool b=>a==b
 |.string a,.string b=>pj a b
 |_,_=>false
def xj:δ->δ->Bool
 |[],[]=>true
 |x::xs,y::ys=>zO x y&&xj xs ys
 |_,_=>false
def vF (x y:ξ):Bool:=
 match x,y with
 |.agg xs,.agg ys=>xj xs.toList ys.toList
 |x,y=>zO x y
def eK (k:ξ):List lJ->Option lJ
 |[]=>none
 |e::r=>match vF k e.key with
  |true=>some e
  |false=>eK k r
def sM (k:ξ)(es:List lJ):Option ξ:=(eK k es).map (·.val)
def nq (k v:ξ)(c:Nat):List lJ->List lJ
 |[]=>[⟨k,v,c⟩]
 |e::r=>match vF k e.key with
  |true=>⟨k,v,e.born⟩::r
  |false=>e::nq k v c r
def MD (k:ξ):List lJ->List lJ
 |[]=>[]
 |e::r=>match vF k e.key with
  |true=>r
  |false=>e::MD k r
def yT (b:Nat)(v:ξ):List lJ->Option (List lJ)
 |[]=>none
 |e::r=>match Nat.beq e.born b with
  |true=>some (⟨e.key,v,e.born⟩::r)
  |false=>(match yT b v r with|some l=>some (e::l)|none=>none)
def af.iP (h:af)(m:Nat)(x:MA):af:=
 { h with fj:=λj=>cond (Nat.beq j m) (some x) (h.fj j) }
def vx (kt:κ):M Nat:=λh=>some (h.next,{ h.iP h.next ⟨kt,0,[]⟩ with next:=h.next+1,used:=λj=>cond (Nat.beq j h.next) true (h.used j) })
def af.sD (h:af)(k:Nat)(kt:κ):af:={ h.iP k ⟨kt,0,[]⟩ with used:=λj=>cond (Nat.beq j k) true (h.used j) }
def af.fresh (h:af)(k:Nat):Prop:=h.used k=false/\k<h.next/\h.fj k=none/\h.get k=none
def nV (k:Nat)(kt:κ):M Nat:=λh=>if h.used k=false/\k<h.next/\(h.fj k).isNone=true/\(h.get k).isNone=true then some (k,h.sD k kt) else none
def Vw {α:Type}(m:M α):Prop:=∀(h:af) (k:Nat) (kt:κ) (x:α) (h2:af),h.fresh k->m (h.sD k kt)=some (x,h2)->∃h1,m h=some (x,h1)/\h1.fresh k/\h2=h1.sD k kt
def xK {α:Type}(m:M α):Prop:=Vw m/\∀h x h1,m h=some (x,h1)->h1.fj=h.fj
def af.p8 (h:af)(kt:κ)(m:Nat):Option (Nat×List lJ):=
 match h.fj m with
 |some x=>(match Nat.beq x.kt kt with|true=>some (x.clock,x.es)|false=>none)
 |none=>none
def rN (kt:κ)(T:Ty)(z:T.den)(m:μ)(k:ξ):M (Bool×T.den):=λh=>
 match m with
 |none=>some ((false,z),h)
 |some m=>(match h.p8 kt m with
  |some (_,es)=>(match sM k es with
   |some v=>(match DC T v with|some x=>some ((true,x),h)|none=>none)
   |none=>some ((false,z),h))
  |none=>none)
def B4 (kt:κ)(m:μ)(k v:ξ):M Unit:=λh=>
 match m with
 |none=>none
 |some m=>(match h.p8 kt m with
  |some (c,es)=>some ((),h.iP m ⟨kt,(match eK k es with|some _=>c|none=>c+1),nq k v c es⟩)
  |none=>none)
def lT (kt:κ)(T:Ty)(z:T.den)(m:μ)(k:ξ):M (T.den×Nat):=λh=>
 match m with
 |none=>none
 |some m=>(match h.p8 kt m with
  |some (c,es)=>(match eK k es with
   |some e=>(match DC T e.val with|some x=>some ((x,e.born),h)|none=>none)
   |none=>some ((z,c),h.iP m ⟨kt,c+1,nq k (zL T z) c es⟩))
  |none=>none)
def nW (m:μ)(st:Int)(v:ξ):M Unit:=λh=>
 match m with
 |none=>none
 |some m=>(match h.fj m with
  |some x=>(match decide (0<=st),yT st.toNat v x.es with
   |true,some es=>some ((),h.iP m ⟨x.kt,x.clock,es⟩)
   |_,_=>none)
  |none=>none)
def Ph (kt:κ)(m:μ)(k:ξ):M Unit:=λh=>
 match m with
 |none=>some ((),h)
 |some m=>(match h.p8 kt m with
  |some (c,es)=>some ((),h.iP m ⟨kt,c,MD k es⟩)
  |none=>none)
def AN (m:μ):M Nat:=λh=>
 match m with
 |none=>some (0,h)
 |some m=>(match h.fj m with
  |some x=>some (x.es.length,h)
  |none=>none)
def xL (d s:Sl)(sz:Nat):M Nat:=λh=>
 match bj h s.a (Nat.min s.len d.len*sz) with
 |some []=>some (Nat.min s.len d.len,h)
 |some cs=>(match d.a with
  |none=>none
  |some a=>(match bE a cs h with
   |some (_,h')=>some (Nat.min s.len d.len,h')
   |none=>none))
 |none=>none
def Xh (x:ξ):M Unit:=λh=>
 match x with
 |.func (.func _) _ _=>some ((),h)
 |_=>none
def uL (g:FuncId)(x:ξ):Bool:=
 match x with
 |.func (.func f) first _=>Nat.beq f g&&first.toList.isEmpty
 |_=>false
def B5 (x:ξ):δ:=
 match x with
 |.func _ _ caps=>caps.toList
 |_=>[]
def nr (cs:List Ty)(x:ξ):M (aO cs):=λh=>
 match sE cs (B5 x) with
 |some c=>some (c,h)
 |none=>none
def Vx (x y:ξ):Bool:=
 match x,y with
 |.int k a,.int k' b=>KX k k'&&decide (a=b)
 |.bool a,.bool b=>a==b
 |.string a,.string b=>pj a b
 |.pointer none,.pointer none=>true
 |.pointer (some ⟨a,b,none⟩),.pointer (some ⟨c,d,none⟩)=>Nat.beq a c&&Nat.beq b d
 |.slice none a b,.slice none c d=>Nat.beq a c&&Nat.beq b d
 |.slice (some ⟨a,b,none⟩) m n,.slice (some ⟨c,d,none⟩) m' n'=>Nat.beq a c&&Nat.beq b d&&(Nat.beq m m'&&Nat.beq n n')
 |.map none,.map none=>true
 |.map (some a),.map (some b)=>Nat.beq a b
 |_,_=>false
def SA:δ->δ->Bool
 |[],[]=>true
 |x::xs,y::ys=>Vx x y&&SA xs ys
 |_,_=>false
theorem SB {x y:ξ}(h:Vx x y=true):x=y:=by
 unfold Vx at h;split at h
 .rename_i k a k' b;simp only[aaf,IT] at h;obtain⟨h1,rfl⟩:=h;cases k<;>cases k'<;>first|rfl|cases h1
 .rw[eq_of_beq h]
 .rename_i a b;obtain⟨⟨a⟩⟩:=a;obtain⟨⟨b⟩⟩:=b;have h:Ug a b=true:=h;rw[EP.1 h]
 .rfl
 .simp only[aaf] at h;rw[IS h.1,IS h.2]
 .simp only[aaf] at h;rw[IS h.1,IS h.2]
 .simp only[aaf] at h;rw[IS h.1.1,IS h.1.2,IS h.2.1,IS h.2.2]
 .rfl
 .rw[IS h]
 .cases h
theorem KZ:∀{x y:δ},SA x y=true->x=y
 |[],[],_=>rfl
 |[],_::_,h=>by cases h
 |_::_,[],h=>by cases h
 |x::xs,y::ys,h=>by
  simp only[SA,aaf] at h;rw[SB h.1,KZ h.2]
def eL (h h':af)(b:Addr):Prop:=
 match h.get b.block,h'.get b.block with
 |some (.cells c g base e),some (.cells c' g' base' e')=>g'=g/\base'=base/\e'=e/\c'.length=c.length/\c'.drop b.off=c.drop b.off
 |x,y=>y=x
def YS (h h':af)(b:Addr):Bool:=
 match h.get b.block,h'.get b.block with
 |some (.cells c g base e),some (.cells c' g' base' e')=>Nat.beq g' g&&Nat.beq base' base&&Nat.beq e' e&&Nat.beq c'.length c.length&&SA (c'.drop b.off) (c.drop b.off)
 |none,none=>true
 |_,_=>false
theorem Vy {h h':af}{b:Addr}(he:YS h h' b=true):eL h h' b:=by
 unfold YS at he;unfold eL;split at he
 .rename_i c g base e c' g' base' e' h1 h2;rw[h1,h2];simp only[aaf] at he;exact⟨IS he.1.1.1.1,IS he.1.1.1.2,IS he.1.1.2,IS he.1.2,KZ he.2⟩
 .rename_i h1 h2;rw[h1,h2]
 .cases he
def Uh (h h':af)(b:Addr):Decidable (eL h h' b):=
 match hb:YS h h' b with
 |true=>isTrue (Vy hb)
 |false=>h.dec (eL h h' b)
def ZR (u:κ)(T:Ty)(v:ξ):M T.den:=λh=>match v with
 |.iface t y=>(match Nat.beq t u,DC T y with
  |true,some x=>some (x,h)
  |_,_=>none)
 |_=>none
def sameAt (h h':af):List θ->Bool
 |[]=>true
 |none::r=>sameAt h h' r
 |some b::r=>(match Uh h h' b with
  |isTrue _=>sameAt h h' r
  |isFalse _=>false)
def kO {α:Type}(as:List θ)(m:M α):M α:=λh=>
 match m h with
 |some (x,h')=>(match sameAt h h' as with
  |true=>some (x,h')
  |false=>none)
 |none=>none
def BP {α:Type}(k:Nat)(m:M α)(h:af)(x:α)(h1:af):Prop:=∀(h0:af) t cs,h0.used k=false->k<h0.next->h0.get k=none->h=h0.bt k h0.next t cs ->
 ∃h3,m h0=some (x,h3)/\h3.used k=false/\k<h3.next/\h3.get k=none/\h1=h3.bt k h3.next t cs
def vY {α:Type}(k:Nat)(m:M α):M α:=λh=>match m h with
 |some (x,h1)=>(match h.dec (BP k m h x h1) with
  |.isTrue _=>some (x,h1)
  |.isFalse _=>none)
 |none=>none
inductive Act:Type 1 where
 |val (v:ξ)
 |ask (α:Type) (m:M α) (k:α->Act)
 |none
def Act.run {R:Type}:Act->(ξ->M R)->M R
 |.val v,K=>K v
 |.ask _ m k,K=>AI m λx=>(k x).run K
 |.none,_=>AT
def Act.exec:Act->af->Option (ξ×af)
 |.val v,h=>Option.some (v,h)
 |.ask _ m k,h=>match m h with
  |Option.some (x,h')=>(k x).exec h'
  |Option.none=>Option.none
 |.none,_=>Option.none
def ER:TypeDesc->Option eh
 |.bool=>some .bool
 |.int k=>some (.int k)
 |.string=>some .str
 |.pointer _=>some .ptr
 |.slice _=>some .sl
 |.map _ _=>some .mp
 |.float .f64=>some .f64
 |.unsafePointer=>some .ptr
 |.struct _ | .array _ _ | .tuple _ | .named _ _ | .invalid=>none
 |_=>some .raw
def bP (P:Program)(t:κ):μ:=
 match P.info? t with
 |some i=>some i.size
 |none=>none
def B6 {α:Type}:List (Option (List α))->Option (List α)
 |[]=>some []
 |some l::r=>(match B6 r with|some m=>some (l++m)|none=>none)
 |none::_=>none
def leaves (P:Program):Nat->κ->Option (List eh)
 |0,_=>none
 |n+1,t=>
  match P.underlying t with
  |some (.struct fs)=>B6 (fs.toList.map λf=>leaves P n f.type)
  |some (.array len e)=>B6 (List.replicate len (leaves P n e))
  |some d=>(match ER d with|some l=>some [l] | none=>none)
  |none=>none
def vZ:TypeDesc->Bool
 |.struct _ | .array _ _=>true
 |_=>false
def Vz (P:Program)(t:κ):Option Ty:=
 match P.underlying t with
 |some d=>(match vZ d with
  |true=>(match leaves P 12 t with|some ls=>some (.agg ls)|none=>none)
  |false=>(match ER d with|some l=>some (.one l)|none=>none))
 |none=>none
def qX (P:Program)(t:κ):Option eh:=
 match P.underlying t,bP P t with
 |some (.int k),some 1=>some (.int k)
 |some .bool,some 1=>some .bool
 |some .string,some 1=>some .str
 |_,_=>none
def B7 (P:Program):List Field->Nat->Option (List eh)
 |[],_=>some []
 |f :: fs, o => (match f.name == "_", Nat.beq f.offset o, qX P f.type, B7 P fs (o+1) with
  |false,true,some l,some ls=>some (l::ls)
  |_,_,_,_=>none)
def Hj (P:Program)(t:κ):Option Ty:=
 match P.underlying t with
 |some (.struct fs)=>(match P.stoodInHeld t,B7 P fs.toList 0 with
  |false,some ls=>some (.agg ls)
  |_,_=>none)
 |some (.array n e)=>(match qX P e with
  |some l=>some (.agg (List.replicate n l))
  |none=>none)
 |_=>(match qX P t with|some l=>some (.one l)|none=>none)
def gZ (l:eh)(v:ξ):Bool:=
 match l,v with
 |.int k,.int k' _=>KX k k'
 |.bool,.bool _=>true
 |.str,.string _=>true
 |_,_=>false
def eJ:List eh->δ->Bool
 |[],[]=>true
 |l::ls,v::vs=>gZ l v&&eJ ls vs
 |_,_=>false
def MF (T:Ty)(v:ξ):Bool:=
 match T,v with
 |.one l,v=>gZ l v
 |.agg ls,.agg cs=>eJ ls cs.toList
 |_,_=>false
def lL (P:Program)(t:κ)(v:ξ):Bool:=
 match Hj P t with
 |some K=>MF K v
 |none=>false
def xM (a:Addr):List eh->Nat->δ->Act
 |[],_,acc=>.val (.agg acc.reverse.toArray)
 |l::ls,i,acc=>.ask l.den (ar l (a.plus i)) λx=>xM a ls (i+1) (Pg l x::acc)
def bh (ls:List eh)(a:Addr):M (mF ls):=λh=>
 match bj h (some a) ls.length with
 |some vs=>(match vX ls vs with|some x=>some (x,h)|none=>none)
 |none=>none
def Jv (P:Program)(t:κ)(a:Addr):Act:=
 match P.underlying t,bP P t with
 |some d,some n=>
  (match vZ d with
  |true=>(match leaves P 12 t with
   |some ls=>(match Nat.beq ls.length n with|true=>.ask (mF ls) (bh ls a) λx=>.val (.agg (DF ls x).toArray)|false=>.none)
   |none=>.none)
  |false=>(match ER d with
   |some l=>.ask l.den (ar l a) λx=>.val (Pg l x)
   |none=>.none))
 |_,_=>.none
def zeroOf (P:Program)(t:κ):Option ξ:=
 match P.info? t with
 |some i=>(match i.zero with
  |some v=>(match v.cells.toList.all cV&&Nat.beq v.cells.size i.size with|true=>some v|false=>none)
  |none=>none)
 |none=>none
def BG (P:Program)(op:BinOp)(t:κ)(v:ξ):Act:=
 match op,P.underlying t with
 |.eql,some (.interface _)=>.ask Bool (rM v) λb=>.val (.bool b)
 |.neq,some (.interface _)=>.ask Bool (rM v) λb=>.val (.bool (!b))
 |_,_=>.none
def Hk (op:BinOp)(k:IntKind)(a:Int)(k':IntKind)(b:Int):Act:=
 match op with
 |.shl=>.ask Unit (xZ (decide (0<=b))) λ_=>.val (.int k (k.wrap (a*2^(min b.toNat k.bits))))
 |.shr=>.ask Unit (xZ (decide (0<=b))) λ_=>.val (.int k (a.fdiv (2^(min b.toNat k.bits))))
 |op=>(match KX k k' with
  |false=>.none
  |true=>(match op with
   |.add=>.val (.int k (k.wrap (a+b)))
   |.sub=>.val (.int k (k.wrap (a-b)))
   |.mul=>.val (.int k (k.wrap (a*b)))
   |.quo=>.ask Unit (xZ (decide (b≠0))) λ_=>.val (.int k (k.wrap (a.tdiv b)))
   |.rem=>.ask Unit (xZ (decide (b≠0))) λ_=>.val (.int k (a.tmod b))
   |.and=>.val (.int k (k.wrap (BitVec.ofInt k.bits a&&&BitVec.ofInt k.bits b).toNat))
   |.or=>.val (.int k (k.wrap (BitVec.ofInt k.bits a|||BitVec.ofInt k.bits b).toNat))
   |.xor=>.val (.int k (k.wrap (BitVec.ofInt k.bits a^^^BitVec.ofInt k.bits b).toNat))
   |.andNot=>.val (.int k (k.wrap (BitVec.ofInt k.bits a&&&~~~BitVec.ofInt k.bits b).toNat))
   |.eql=>.val (.bool (decide (a=b)))
   |.neq=>.val (.bool (!decide (a=b)))
   |.lss=>.val (.bool (decide (a<b)))
   |.leq=>.val (.bool (decide (a<=b)))
   |.gtr=>.val (.bool (decide (b<a)))
   |.geq=>.val (.bool (decide (b<=a)))
   |_=>.none))
def Hl (op:BinOp)(a b:ζ):Act:=
 match op with
 |.add=>.ask ζ (yS a b) λs=>.val (.string s)
 |.eql=>.val (.bool (pj a b))
 |.neq=>.val (.bool (!pj a b))
 |.lss=>.val (.bool (zM a b))
 |.leq=>.val (.bool (zM a b||pj a b))
 |.gtr=>.val (.bool (!(zM a b||pj a b)))
 |.geq=>.val (.bool (!zM a b))
 |_=>.none
def vy (op:BinOp)(b:Bool):Act:=
 match op with
 |.eql=>.val (.bool b)
 |.neq=>.val (.bool (!b))
 |_=>.none
def Xq (P:Program)(t:κ)(x y:ξ):Option Bool:=
 match x,y with
 |.int k a,.int k' b=>(match P.underlying t with
  |some (.int _)=>(match KX k k' with|true=>some (decide (a=b))|false=>none)
  |_=>none)
 |.bool a,.bool b=>(match P.underlying t with|some .bool=>some (a==b)|_=>none)
 |.string a,.string b=>(match P.underlying t with|some .string=>some (pj a b)|_=>none)
 |_,_=>none
def Hm (P:Program):List Field->Nat->δ->δ->Option Bool
 |[],_,xs,ys=>(match xs,ys with | [],[]=>some true|_,_=>none)
 |f::fs,o,xs,ys=>(match xs,ys with
  |x :: xs, y :: ys => (match f.name == "_", Nat.beq f.offset o with
   |false,true=>(match Xq P f.type x y with
    |some a=>(match Hm P fs (o+1) xs ys with|some b=>some (a&&b)|none=>none)
    |none=>none)
   |_,_=>none)
  |_,_=>none)
def DG (o:μ):M Nat:=λh=>match o with
 |some r=>some (r,h)
 |none=>none
def Xr (a b:Nat):M Nat:=DG (FloatKind.f64.format.add a b)
def Xs (a b:Nat):M Nat:=DG (FloatKind.f64.format.sub a b)
def Xt (a b:Nat):M Nat:=DG (FloatKind.f64.format.mul a b)
def Xu (a b:Nat):M Nat:=DG (FloatKind.f64.format.div a b)
def Ui (a b:Nat):Bool:=FloatKind.f64.format.order a b==some .eq
def Yp (a b:Nat):Bool:=FloatKind.f64.format.order a b==some .lt
def Yq (a b:Nat):Bool:=FloatKind.f64.format.order a b==some .gt
def Uj (n:Int):Nat:=FloatKind.f64.nearest n
def Xv (b:Nat):Nat:=Op.negFloat .f64 b
def Hn (op:BinOp)(a b:Nat):Act:=
 match op with
 |.add=>.ask Nat (Xr a b) λr=>.val (.float .f64 r)
 |.sub=>.ask Nat (Xs a b) λr=>.val (.float .f64 r)
 |.mul=>.ask Nat (Xt a b) λr=>.val (.float .f64 r)
 |.quo=>.ask Nat (Xu a b) λr=>.val (.float .f64 r)
 |.eql=>.val (.bool (Ui a b))
 |.neq=>.val (.bool (!Ui a b))
 |.lss=>.val (.bool (Yp a b))
 |.leq=>.val (.bool (Yp a b||Ui a b))
 |.gtr=>.val (.bool (Yq a b))
 |.geq=>.val (.bool (Yq a b||Ui a b))
 |_=>.none
def Pj (P:Program)(op:BinOp)(t:κ)(x y:ξ):Act:=
 match x,y with
 |.int k a,.int k' b=>Hk op k a k' b
 |.string a,.string b=>Hl op a b
 |.float .f64 a,.float .f64 b=>Hn op a b
 |.bool a,.bool b=>(match P.underlying t with|some .bool=>vy op (a==b)|_=>.none)
 |.slice a _ _,.slice none _ _=>(match P.underlying t with|some (.slice _)=>vy op a.isNone|_=>.none)
 |.pointer a,.pointer none=>(match P.underlying t with|some (.pointer _)=>vy op a.isNone|_=>.none)
 |.map a,.map none=>(match P.underlying t with|some (.map _ _)=>vy op a.isNone|_=>.none)
 |.agg xs,.agg ys=>(match P.underlying t,P.stoodInHeld t,P.eqGuardType P.depth t with
  |some (.struct fs),false,false=>(match Hm P fs.toList 0 xs.toList ys.toList with|some b=>vy op b|none=>.none)
  |_,_,_=>.none)
 |_,_=>.none
def Pk (P:Program)(op:BinOp)(t:κ)(x y:ξ):Act:=
 match y with
 |.nilIface=>BG P op t x
 |y=>Pj P op t x y
def Xw (op:UnOp)(x:ξ):Act:=
 match op,x with
 |.neg,.int k n=>.val (.int k (k.wrap (0-n)))
 |.not,.bool b=>.val (.bool (!b))
 |.neg,.float .f64 b=>.val (.float .f64 (Xv b))
 |_,_=>.none
def Yr (a:Addr):M Addr:=λh=>
 match h.get a.block with
 |some (.cells c _ _ _)=>if a.off<c.length then some (a,h) else none
 |_=>none
def Pl:List (Nat×Nat×Nat×Nat):=[(61,5,2,59)]
def Xx (u e n o:Nat):Bool:=Pl.any λx=>Nat.beq x.2.2.2 u&&Nat.beq x.1 e&&Nat.ble x.2.1 n&&Nat.beq x.2.2.1 o
def Uk (P:Program)(u:Nat):Bool:=Pl.all λx=>!(Nat.beq x.2.2.2 u)||(Nat.beq (P.cellsOf x.1) x.2.1&&rowAt P (sameLayout P P.depth · u) P.depth x.1 1 x.2.2.1 1)
def Ys (u:κ)(k:Nat)(a:Addr):M Addr:=λh=>
 match h.get a.block with
 |some (.cells c g _ e)=>if g=a.block+1/\((k<=c.length/\e=u/\a.off=0)\/Xx u e c.length a.off=true) then some (a,h) else none
 |_=>none
def af.shut (h:af)(g:Nat):af:={ h with get:=λj=>match h.get j with
 |some (.cells c' g' base' e')=>cond (Nat.beq g' g) none (some (.cells c' g' base' e'))
 |o=>o }
def SC (e:κ)(p:θ)(n:Int):M ζ:=λh=>
 match p with
 |none=>if n=0 then some (ofBytes [],h) else none
 |some a=>(match h.get a.block,bj h (some a) n.toNat with
  |some (.cells _ g _ e'),some cs=>if 0<n/\n<=1073741824/\g≠0/\e'=e then (match bytesOf cs with|some l=>some (ofBytes l,h.shut g)|none=>none) else none
  |_,_=>none)
def AO (p:θ)(n:Nat):M θ:=λh=>
 match p with
 |none=>some (none,h)
 |some a=>if n≠0 then some (some a,h) else none
def Ho (P:Program)(src dst:κ)(x:ξ):Act:=
 match P.underlying src,P.underlying dst,x with
 |some (.pointer t),some .unsafePointer,.pointer p=>(match bP P t with
  |some (_+1)=>.ask Addr (nn p) λa=>.ask Addr (Yr a) λa=>.val (.pointer (some a))
  |_=>.none)
 |some .unsafePointer,some (.pointer u),.pointer p=>(match bP P u with
  |some (k+1)=>(match Nat.beq (P.cellsOf u) (k+1)&&rowAt P (sameLayout P P.depth · u) P.depth u 1 0 1&&Uk P u with
   |true=>.ask Addr (nn p) λa=>.ask Addr (Ys u (k+1) a) λa=>.val (.pointer (some a))
   |false=>.none)
  |_=>.none)
 |some (.int _),some (.int k),.int _ n=>.val (.int k (k.wrap n))
 |some .string,some .string,.string s=>.val (.string s)
 |some (.int _),some (.float .f64),.int _ n=>.val (.float .f64 (Uj n))
 |some (.int _),some .string,.int _ n=>.val (.string (Utf8.encode n))
 |some .string,some (.slice e),.string s=>(match P.underlying e,bP P e with
  |some (.int .u8),some 1=>.ask Sl (B3 e s) λr=>.val (.slice r.a r.len r.cap)
  |_,_=>.none)
 |some (.slice e),some .string,.slice a n c=>(match P.underlying e with
  |some (.int .u8)=>.ask ζ (strOf ⟨a,n,c⟩) λs=>.val (.string s)
  |_=>.none)
 |_,_,_=>.none
def partsOf (E:Env):List (Nat×Operand)->Option (List (Nat×ξ))
 |[]=>some []
 |(i,x)::r=>match E.ev x,partsOf E r with
  |some v,some vs=>some ((i,v)::vs)
  |_,_=>none
def v7 (place:Nat->Option (Nat×Nat))(cells:δ):List (Nat×ξ)->Option δ
 |[]=>some cells
 |(i,v)::rest=>
  match place i with
  |none=>none
  |some (off,size)=>
   match Nat.beq v.cells.size size&&Nat.ble (off+v.cells.size) cells.length with
   |true=>v7 place (bB cells off v.cells.toList) rest
   |false=>none
def placesOf (P:Program):List Field->Option (List (Nat×Nat))
 |[]=>some []
 |f::r=>match bP P f.type,placesOf P r with
  |some n,some l=>some ((f.offset,n)::l)
  |_,_=>none
def ES (P:Program)(t:κ)(parts:List (Nat×ξ)):Act:=
 match P.underlying t,zeroOf P t with
 |some (.struct fs),some z=>(match placesOf P fs.toList with
  |some pl=>(match v7 (λi=>pl[i]?) z.cells.toList parts with
   |some cs=>.val (.agg cs.toArray)
   |none=>.none)
  |none=>.none)
 |some (.array _ e),some z=>(match bP P e with
  |some n=>(match v7 (λi=>some (i*n,n)) z.cells.toList parts with
   |some cs=>.val (.agg cs.toArray)
   |none=>.none)
  |none=>.none)
 |_,_=>.none
def p9 (P:Program)(nm:μ)(t:κ)(len:Nat)(parts:List (Nat×ξ)):Act:=
 match P.underlying t with
 |some (.slice e)=>(match bP P e,zeroOf P e with
  |some n,some z=>(match Nat.ble (len*n) 16777216,v7 (λi=>some (i*n,n)) (List.replicate len z.cells.toList).flatten parts with
   |true,some cs=>.ask Nat (aJ nm e cs) λb=>.val (.slice (some ⟨b,0,none⟩) len (len+1))
   |_,_=>.none)
  |_,_=>.none)
 |_=>.none
def v8 (v:ξ)(k:Addr->Act):Act:=
 match v with
 |.pointer (some a)=>k a
 |_=>.none
def A8 (E:Env):Option Operand->Option (Option ξ)
 |some x=>(match E.ev x with|some v=>some (some v)|none=>none)
 |none=>some none
def B8 (P:Program)(t:κ)(x:ξ)(lo hi mx:Option ξ):Act:=
 match P.underlying t,x,mx with
 |some .string,.string s,none=>(match lo,hi with
  |none,none=>.ask ζ (ji s 0 s.size) λr=>.val (.string r)
  |some (.int _ l),none=>.ask ζ (ji s l s.size) λr=>.val (.string r)
  |none,some (.int _ h)=>.ask ζ (ji s 0 h) λr=>.val (.string r)
  |some (.int _ l),some (.int _ h)=>.ask ζ (ji s l h) λr=>.val (.string r)
  |_,_=>.none)
 |some (.slice e),.slice a n c,none=>(match bP P e with
  |some z=>(match lo,hi with
   |none,none=>.ask Sl (gf ⟨a,n,c⟩ 0 n e z) λr=>.val (.slice r.a r.len r.cap)
   |some (.int _ l),none=>.ask Sl (gf ⟨a,n,c⟩ l n e z) λr=>.val (.slice r.a r.len r.cap)
   |none,some (.int _ h)=>.ask Sl (gf ⟨a,n,c⟩ 0 h e z) λr=>.val (.slice r.a r.len r.cap)
   |some (.int _ l),some (.int _ h)=>.ask Sl (gf ⟨a,n,c⟩ l h e z) λr=>.val (.slice r.a r.len r.cap)
   |_,_=>.none)
  |none=>.none)
 |some (.array len e),.pointer (some a),none=>(match bP P e with
  |some z=>(match lo,hi with
   |none,none=>.ask Sl (tC a len 0 len z) λr=>.val (.slice r.a r.len r.cap)
   |some (.int _ l),none=>.ask Sl (tC a len l len z) λr=>.val (.slice r.a r.len r.cap)
   |none,some (.int _ h)=>.ask Sl (tC a len 0 h z) λr=>.val (.slice r.a r.len r.cap)
   |some (.int _ l),some (.int _ h)=>.ask Sl (tC a len l h z) λr=>.val (.slice r.a r.len r.cap)
   |_,_=>.none)
  |none=>.none)
 |some (.slice e),.slice a n c,some (.int _ m)=>(match bP P e with
  |some z=>(match lo,hi with
   |none,some (.int _ h)=>.ask Sl (sL ⟨a,n,c⟩ 0 h m e z) λr=>.val (.slice r.a r.len r.cap)
   |some (.int _ l),some (.int _ h)=>.ask Sl (sL ⟨a,n,c⟩ l h m e z) λr=>.val (.slice r.a r.len r.cap)
   |_,_=>.none)
  |none=>.none)
 |_,_,_=>.none
def nX (P:Program)(strict:Bool)(b:Builtin)(ts:List κ)(vs:δ):Act:=
 match b,ts,vs with
 |.len,t::_,[.string s]=>(match P.underlying t with|some .string=>.val (.int .i64 s.size)|_=>.none)
 |.len,t::_,[.slice _ n _]=>(match P.underlying t with|some (.slice _)=>.val (.int .i64 n)|_=>.none)
 |.len,t::_,[.map m]=>(match P.underlying t with|some (.map _ _)=>.ask Nat (AN m) λn=>.val (.int .i64 n)|_=>.none)
 |.delete,t::_,[.map m,k]=>(match P.underlying t with
  |some (.map kt _)=>(match lL P kt k with|true=>.ask Unit (Ph kt m k) λ_=>.val (.tuple #[])|false=>.none)
  |_=>.none)
 |.copy,[t,t'],[.slice a n c,.slice a' n' c']=>(match P.underlying t,P.underlying t' with
  |some (.slice e),some (.slice _)=>(match bP P e with
   |some z=>.ask Nat (xL ⟨a,n,c⟩ ⟨a',n',c'⟩ z) λk=>.val (.int .i64 k)
   |none=>.none)
  |_,_=>.none)
 |.min,_,[.int k x,.int k' y]=>(match KX k k' with|true=>.val (.int k (if y<x then y else x))|false=>.none)
 |.max,_,[.int k x,.int k' y]=>(match KX k k' with|true=>.val (.int k (if x<y then y else x))|false=>.none)
 |.append,[t,t'],[.slice a n c,.slice a' n' c']=>(match P.underlying t,P.underlying t' with
  |some (.slice e),some (.slice e')=>(match bP P e,zeroOf P e,bP P e' with
   |some z,some _,some z'=>(match Nat.beq z z'&&Nat.ble ((match P.info? e with|some i=>i.bytes|none=>0)) 4096 with
    |true=>.ask δ (DD ⟨a',n',c'⟩ z) λcs=>.ask Sl (app strict ⟨a,n,c⟩ z e n' cs) λr=>.val (.slice r.a r.len r.cap)
    |false=>.none)
   |_,_,_=>.none)
  |_,_=>.none)
 |.append,[t,t'],[.slice a n c,.string s]=>(match P.underlying t,P.underlying t' with
  |some (.slice e),some .string=>(match P.underlying e,zeroOf P e,bP P e with
   |some (.int .u8),some _,some 1=>(match Nat.ble ((match P.info? e with|some i=>i.bytes|none=>0)) 4096 with
    |true=>.ask Sl (app strict ⟨a,n,c⟩ 1 e s.size (bO s)) λr=>.val (.slice r.a r.len r.cap)
    |false=>.none)
   |_,_,_=>.none)
  |_,_=>.none)
 |.unsafeSliceData,_,[.slice a n _]=>.ask θ (AO a n) λp=>.val (.pointer p)
 |.unsafeString,t::_,[.pointer p,.int .i64 n]=>(match P.underlying t with
  |some (.pointer e)=>(match Nat.beq (P.cellsOf e) 1 with
   |true=>.ask ζ (SC e p n) λs=>.val (.string s)
   |false=>.none)
  |_=>.none)
 |_,_,_=>.none
def Sq (a b:θ):M Bool:=λh=>match a,b with
 |some a,some b=>(match Nat.beq a.block b.block&&Nat.beq a.off b.off with|true=>some (true,h)|false=>none)
 |_,_=>none
def Xy:Operand->ξ->ξ->Option (θ×θ)
 |.const _,_,_=>none
 |_,.pointer a,.pointer b=>some (a,b)
 |_,_,_=>none
def Pn (y:Operand)(u:ξ):Bool:=
 match u with
 |.nilIface=>(match y with | .const _=>true|_=>false)
 |_=>true
def uM (P:Program)(nm:μ)(E:Env)(o:Oper):Act:=
 match o.op with
 |.move x | .assign x=>(match E.ev x with|some v=>.val v|none=>.none)
 |.alloc t=>(match zeroOf P t with
  |some z=>.ask Nat (aJ nm t z.cells.toList) λb=>.val (.pointer (some ⟨b,0,none⟩))
  |none=>.none)
 |.box t x=>(match E.ev x with
  |some v=>.ask Nat (aJ nm t v.cells.toList) λb=>.val (.pointer (some ⟨b,0,none⟩))
  |none=>.none)
 |.build t parts=>(match partsOf E parts.toList with|some vs=>ES P t vs|none=>.none)
 |.buildSlice t len parts=>(match partsOf E parts.toList with|some vs=>p9 P nm t len vs|none=>.none)
 |.load t x=>(match E.ev x with|some v=>v8 v λa=>Jv P t a|none=>.none)
 |.store t x y=>(match E.ev x,E.ev y,bP P t with
  |some v,some u,some n=>v8 v λa=>(match Nat.beq u.cells.size n with
   |true=>.ask Unit (bE a u.cells.toList) λ_=>.val undef
   |false=>.none)
  |_,_,_=>.none)
 |.nilCheck x=>(match P.underlying o.type with
  |some (.func _ _ _)=>(match E.ev x with
   |some v=>.ask Unit (Xh v) λ_=>.val v
   |none=>.none)
  |_=>(match E.ev x with
   |some (.pointer p)=>.ask Addr (nn p) λa=>.val (.pointer (some a))
   |_=>.none))
 |.binOp op t x y _=>(match E.ev x,E.ev y with
  |some v,some u=>(match Pn y u with
   |true=>(match Xy y v u with
    |some (a,b)=>(match P.underlying t with
     |some (.pointer e)=>(match bP P e with|some _=>.ask Bool (Sq a b) λr=>vy op r|none=>.none)
     |_=>.none)
    |none=>Pk P op t v u)
   |false=>.none)
  |_,_=>.none)
 |.unOp op _ x=>(match E.ev x with|some v=>Xw op v|none=>.none)
 |.convert s d x=>(match E.ev x with|some v=>Ho P s d v|none=>.none)
 |.makeInterface t x=>(match E.ev x,P.underlying t with
  |some _,some (.interface _)=>.none
  |some v,some _=>.val (.iface t v)
  |_,_=>.none)
 |.makeFunc fn fs cs=>(match E.D9 fs.toList,E.D9 cs.toList with
  |some f,some c=>.val (.func fn f.toArray c.toArray)
  |_,_=>.none)
 |.makeSlice t l c=>(match P.underlying t,E.ev l,E.ev c with
  |some (.slice e),some (.int _ n),some (.int _ m)=>(match zeroOf P e,Nat.ble ((match P.info? e with|some i=>i.bytes|none=>0)) 4096 with
   |some z,true=>.ask Sl (pT nm e z.cells.toList n m) λr=>.val (.slice r.a r.len r.cap)
   |_,_=>.none)
  |_,_,_=>.none)
 |.slice t x lo hi mx=>(match E.ev x,A8 E lo,A8 E hi,A8 E mx with
  |some v,some l,some h,some m=>B8 P t v l h m
  |_,_,_,_=>.none)
 |.fieldAddr s x f=>(match P.underlying s,E.ev x with
  |some (.struct fs),some v=>(match fs[f]? with
   |some fd=>(match bP P fd.type with
    |some n=>(match Nat.beq n 0 with
     |true=>.none
     |false=>v8 v λa=>.val (.pointer (some (a.plus fd.offset))))
    |none=>.none)
   |none=>.none)
  |_,_=>.none)
 |.field s x f=>(match P.underlying s,E.ev x with
  |some (.struct fs),some (.agg cs)=>(match fs[f]? with
   |some fd=>(match P.underlying fd.type,bP P fd.type with
    |some d,some n=>(match vZ d with
     |true=>.val (.agg ((cs.toList.drop fd.offset).take n).toArray)
     |false=>(match cs.toList[fd.offset]? with|some v=>.val v|none=>.none))
    |_,_=>.none)
   |none=>.none)
  |_,_=>.none)
 |.indexAddr t x i=>(match P.underlying t,E.ev x,E.ev i with
  |some (.slice e),some (.slice a n c),some (.int _ j)=>(match bP P e with
   |some z=>.ask Addr (ao ⟨a,n,c⟩ j z) λr=>.val (.pointer (some r))
   |none=>.none)
  |some (.array n e),some (.pointer (some a)),some (.int _ j)=>(match bP P e with
   |some z=>.ask Unit (xZ (decide (0<=j/\j<(n:Int)))) λ_=>.val (.pointer (some (a.plus (j.toNat*z))))
   |none=>.none)
  |_,_,_=>.none)
 |.index t x i=>(match P.underlying t,E.ev x,E.ev i with
  |some .string,some (.string s),some (.int _ j)=>.ask UInt8 (nO s j) λb=>.val (.int .u8 b.toNat)
  |some (.array n e),some (.agg cs),some (.int _ j)=>(match P.underlying e,bP P e with
   |some d,some 1=>(match vZ d,ER d with
    |false,some l=>.ask l.den (MC l n cs.toList j) λx=>.val (Pg l x)
    |_,_=>.none)
   |_,_=>.none)
  |_,_,_=>.none)
 |.makeMap t r=>(match P.underlying t,A8 E r with
  |some (.map k _),some none=>(match Hj P k with|some _=>(match nm with|none=>.ask Nat (vx k) λm=>.val (.map (some m))|some b=>.ask Nat (nV b k) λm=>.val (.map (some m)))|none=>.none)
  |some (.map k _),some (some (.int _ _))=>(match Hj P k with|some _=>(match nm with|none=>.ask Nat (vx k) λm=>.val (.map (some m))|some b=>.ask Nat (nV b k) λm=>.val (.map (some m)))|none=>.none)
  |_,_=>.none)
 |.lookup t x i ok=>(match P.underlying t,E.ev x,E.ev i with
  |some (.map k e),some (.map m),some kv=>(match lL P k kv,Vz P e,zeroOf P e with
   |true,some T,some zv=>(match DC T zv with
    |some z=>.ask (Bool×T.den) (rN k T z m kv) λr=>.val (match ok with|true=>.tuple #[zL T r.2,.bool r.1] | false=>zL T r.2)
    |none=>.none)
   |_,_,_=>.none)
  |_,_,_=>.none)
 |.mapEntry t x i=>(match P.underlying t,E.ev x,E.ev i with
  |some (.map k e),some (.map m),some kv=>(match lL P k kv,Vz P e,zeroOf P e with
   |true,some T,some zv=>(match DC T zv with
    |some z=>.ask (T.den×Nat) (lT k T z m kv) λr=>.val (.tuple #[zL T r.1,.int .i64 r.2])
    |none=>.none)
   |_,_,_=>.none)
  |_,_,_=>.none)
 |.entryStore _ x i y=>(match E.ev x,E.ev i,E.ev y with
  |some (.map m),some (.int _ st),some v=>.ask Unit (nW m st v) λ_=>.val undef
  |_,_,_=>.none)
 |.mapUpdate t x i y | .insert t x i y=>(match P.underlying t,E.ev x,E.ev i,E.ev y with
  |some (.map k _),some (.map m),some kv,some v=>(match lL P k kv with
   |true=>.ask Unit (B4 k m kv v) λ_=>.val undef
   |false=>.none)
  |_,_,_,_=>.none)
 |.extract x i=>(match E.ev x with
  |some (.tuple vs)=>(match vs.toList[i]? with|some v=>.val v|none=>.none)
  |_=>.none)
 |.call c=>(match c.callee,E.D9 c.args.toList with
  |.builtin b,some vs=>nX P nm.isSome b c.argTypes.toList vs
  |_,_=>.none)
 |.typeAssert x _ u ok=>(match ok,E.ev x,P.underlying u,Vz P u with
  |true,some v,some (.struct _),some T=>.ask T.den (ZR u T v) λx=>.val (.tuple #[zL T x,.bool true])
  |_,_,_,_=>.none)
 |_=>.none
abbrev Path:=η
def child:Code->Nat->Code
 |.seq a _,0=>a
 |.seq _ b,_=>b
 |.cond _ a _,0=>a
 |.cond _ _ b,_=>b
 |.block _ c,_=>c
 |.loop c,_=>c
 |.scope c,_=>c
 |c,_=>c
def cB (c:Code):Path->Code
 |[]=>c
 |i::p=>child (cB c p) i
inductive sN where
 |code (p:Path)
 |aD (id:Nat)
 |VA (p:Path)
inductive fw where
 |normal
 |exit (id:Nat)
 |ret
def Ul:fw->fw->Bool
 |.normal,.normal=>true
 |.exit a,.exit b=>Nat.beq a b
 |.ret,.ret=>true
 |_,_=>false
def rO:Path->Path->Bool
 |[],[]=>true
 |a::p,b::q=>Nat.beq a b&&rO p q
 |_,_=>false
def eqItems:List sN->List sN->Bool
 |[],[]=>true
 |.code p::k,.code q::l=>rO p q&&eqItems k l
 |.aD a::k,.aD b::l=>Nat.beq a b&&eqItems k l
 |.VA p::k,.VA q::l=>rO p q&&eqItems k l
 |_,_=>false
structure nf:Type 1 where
 α:Type
 m:M α
 pk:α->ξ
structure Po:Type 1 where
 α:Type
 m:M (α⊕ξ)
 pk:α->ξ
inductive uN:Type 1 where
 |one (α:Type) (m:M α) (e:fw) (out:α->Env)
 |two (α β:Type) (m:M (α⊕β)) (e:fw) (out:α->Env) (e':fw) (out':β->Env)
 |XA (α:Type) (m:M (α⊕ξ)) (e:fw) (out:α->Env)
 |XB (α β:Type) (m:M ((α⊕β)⊕ξ)) (e:fw) (out:α->Env) (e':fw) (out':β->Env)
 |none
structure eI:Type 1 where
 st:FuncId->δ->Option nf
 dy:Nat->ξ->δ->Option nf
 VB:Nat->Bool
 mo:FuncId->Bool
 sp:FuncId->δ->Option Po
 Hh:FuncId->Bool
structure Hp (R:Type) where
 call:eI
 loop:Path->Env->uN
 join:Path->Option (List sN×(Env->Option (M R)))
 draw:Nat->Option (List (Nat×η))
 eA:ξ->M R
def mG (id:Nat):List sN->Option (List sN)
 |.aD id'::k=>(match Nat.beq id' id with|true=>some k|false=>mG id k)
 |_::k=>mG id k
 |[]=>none
def Env.nY (E:Env)(c:Operand)(b:Bool):Env:=
 match c with
 |.tmp t=>E.set t (.bool b)
 |_=>E
def cn {α β R:Type}(f:α->M R)(g:β->M R):α⊕β->M R
 |.inl x=>f x
 |.inr y=>g y
def callee (E:Env)(c:Call):Option (FuncId×δ):=
 match c.callee,E.D9 c.args.toList with
 |.value f,some vs=>(match E.ev f with
  |some (.func (.func g) first captured)=>some (g,first.toList++vs++captured.toList)
  |_=>none)
 |_,_=>none
def iQ (C:eI)(c:Call):μ:=
 match c.callee with
 |.value (.tmp t)=>(match C.VB t with|true=>some t|false=>none)
 |_=>none
def pU (E:Env)(t:Nat)(c:Call):Option (ξ×δ):=
 match E t,E.D9 c.args.toList with
 |some x,some vs=>some (x,vs)
 |_,_=>none
def isBuiltin:Call->Bool:=λc=>match c.callee with
 |.builtin _=>true
 |_=>false
def kG {R:Type}(b:Bool)(x y:M R):M R:=if b=true then x else y
abbrev Wr:=Nat×Option η
def xk (W:Wr)(d:μ):Bool:=
 match d with
 |none=>true
 |some i=>Nat.blt i W.1&&(match W.2 with
  |some l=>l.any (Nat.beq i)
  |none=>true)
abbrev cK:=Nat->Option (Nat×δ)
def cK.emp:cK:=λ_=>none
def Env.del (E:Env)(d:μ):Env:=
 match d with
 |some i=>λj=>cond (Nat.beq j i) none (E j)
 |none=>E
def cK.del (L:cK)(d:μ):cK:=
 match d with
 |some i=>λj=>cond (Nat.beq j i) none (L j)
 |none=>L
def cK.put (L:cK)(d:μ)(x:Nat×δ):cK:=
 match d with
 |some i=>λj=>cond (Nat.beq j i) (some x) (L j)
 |none=>L
def Jw (ops:Array Oper)(t:Nat):Bool:=ops.toList.any λo=>match o.op with
 |.call c=>(match c.callee,c.args.toList with
  |.builtin .append,[_,.tmp u]=>Nat.beq u t
  |_,_=>false)
 |_=>false
def yU (P:Program)(t:κ)(len:Nat)(parts:List (Nat×ξ)):Option δ:=
 match P.underlying t with
 |some (.slice e)=>(match bP P e,zeroOf P e with
  |some n,some z=>(match Nat.ble (len*n) 16777216,v7 (λi=>some (i*n,n)) (List.replicate len z.cells.toList).flatten parts with
   |true,some cs=>(match cs.all fi with|true=>some cs|false=>none)
   |_,_=>none)
  |_,_=>none)
 |_=>none
def qt (L:cK)(c:Call):Option (Nat×δ):=
 match c.callee,c.args.toList with
 |.builtin .append,[_,.tmp t]=>L t
 |_,_=>none
def nZ (P:Program)(strict:Bool)(E:Env)(c:Call)(n:Nat)(cs:δ):Act:=
 match c.argTypes.toList,c.args.toList with
 |[t,t'],[s,_]=>(match E.ev s,P.underlying t,P.underlying t' with
  |some (.slice a m k),some (.slice e),some (.slice _)=>(match bP P e,zeroOf P e with
   |some z,some _=>(match Nat.ble ((match P.info? e with|some i=>i.bytes|none=>0)) 4096 with
    |true=>.ask Sl (app strict ⟨a,m,k⟩ z e n cs) λr=>.val (.slice r.a r.len r.cap)
    |false=>.none)
   |_,_=>.none)
  |_,_,_=>.none)
 |_,_=>.none
def tX (P:Program)(ops:Array Oper)(E:Env)(o:Oper):Option (Nat×δ):=
 match o.op,o.dst with
 |.buildSlice t len parts,some d=>(match Jw ops d with
  |true=>(match partsOf E parts.toList with
   |some vs=>(match yU P t len vs with|some cs=>some (len,cs)|none=>none)
   |none=>none)
  |false=>none)
 |_,_=>none
def pn (cks:List θ):Act->Act
 |.ask α m k=>(match cks with
  |[]=>.ask α m k
  |cks=>.ask α (kO cks m) k)
 |A=>A
def wrapM {α:Type}(cks:List θ)(m:M α):M α:=
 match cks with
 |[]=>m
 |cks=>kO cks m
def B9 (l:η)(i:Nat):Bool:=l.any (Nat.beq i)
def vG (ops:Array Oper)(o:Oper):Bool:=
 match o.op with
 |.call c=>(match c.callee with
  |.builtin .append=>(match o.dst with
   |some d=>ops.toList.any λp=>(match p.op with
    |.call c=>!isBuiltin c&&B9 (p.op.operands.toList.filterMap λ| .tmp t=>some t|_=>none) d
    |_=>false)
   |none=>false)
  |_=>false)
 |_=>false
def yV (ops:Array Oper)(o:Oper):Bool:=
 match o.op with
 |.call c=>(match c.callee,c.args.toList with
  |.builtin .append,.tmp d::_=>ops.toList.any λp=>(match p.op,p.dst with
   |.buildSlice _ _ _,some e=>Nat.beq d e
   |_,_=>false)
  |_,_=>false)
 |_=>false
def vH (b:Bool)(E:Env)(c:Call)(A:Act):Act:=
 match b with
 |false=>A
 |true=>(match c.args.toList with
  |s::_=>(match E.ev s with
   |some (.slice _ _ k)=>(match Nat.beq k 0 with|true=>.none|false=>A)
   |_=>.none)
  |[]=>.none)
theorem zP {b:Bool}{E:Env}{c:Call}{A:Act}{h:af}{r:ξ×af}(e:(vH b E c A).exec h=some r):vH b E c A=A:=by
 unfold vH at *
 repeat' (first|rfl|(cases e;done)|split at e)
def ZS {α:Type 1}(b:Bool)(f:Bool->α):α:=
 match b with
 |true=>f true
 |false=>f false
theorem Jx {α:Type 1}{b:Bool}{f:Bool->α}:ZS b f=f b:=by cases b<;>rfl
inductive Yt where
 |sil|ro|mro|alloc|add|mka|eff
def ya:Bool->Yt
 |true=>.eff
 |false=>.add
def cls (P:Program)(ops:Array Oper)(o:Oper):Yt:=
 match o.op with
 |.move _ | .assign _ | .pick _ _ _ | .build _ _ | .nilCheck _ | .binOp _ _ _ _ _ | .unOp _ _ _ | .makeInterface _ _ | .makeFunc _ _ _ | .fieldAddr _ _ _ | .field _ _ _ | .indexAddr _ _ _ | .index _ _ _ | .extract _ _=>.sil
 |.load _ _=>.ro
 |.slice t _ _ _ _=>(match P.underlying t with|some .string=>.sil|some (.slice _)=>.ro|some (.array _ _)=>.sil|_=>.eff)
 |.convert s d _=>(match P.underlying s,P.underlying d with
  |some (.slice _),some .string=>.ro
  |some (.int _),some _=>.sil
  |some .string,some .string=>.sil
  |_,_=>.eff)
 |.buildSlice _ _ _=>(match o.dst with
  |some d=>(match Jw ops d with|true=>.sil|false=>.alloc)
  |none=>.eff)
 |.alloc _ | .box _ _ | .makeSlice _ _ _=>.alloc
 |.lookup _ _ _ _=>.mro
 |.makeMap _ _=>.mka
 |.call c=>(match c.callee with
  |.builtin .append=>ya (vG ops o)
  |.builtin .len=>(match c.argTypes.toList with
   |t::_=>(match P.underlying t with|some (.map _ _)=>.mro|_=>.sil)
   |[]=>.sil)
  |.builtin .min | .builtin .max | .builtin .unsafeSliceData=>.sil
  |_=>.eff)
 |_=>.eff
def tY (o:Oper):Bool:=
 match o.op with
 |.store _ _ _=>true
 |_=>false
def wa:Yt->Bool
 |.alloc=>true
 |_=>false
def vI (P:Program)(ops:Array Oper)(nb:μ)(cs:η):η:=
 match nb with
 |none=>[]
 |some b=>(cs.filter λi=>match ops[i]? with
  |some o=>wa (cls P ops o)
  |none=>false).map (b+·)
def SD (h:af)(a:Addr)(ks:η):Bool:=
 match h.get a.block with
 |some (.cells _ g _ _)=>ks.all λk=>!Nat.beq a.block k&&!Nat.beq g (k+1)
 |_=>false
def wb {α:Type}(ks:η)(a:Addr)(m:M α):M α:=λh=>match SD h a ks with
 |true=>m h
 |false=>none
def Hq (ks:η)(a:Addr):Act->Act
 |.ask α m k=>.ask α (wb ks a m) k
 |A=>A
def jU {R:Type}(P:Program)(C:eI)(W:Wr)(nm:μ)(cks:List θ)(ks:η)(ops:Array Oper)(E:Env)(L:cK)(o:Oper)(K:Env->cK->M R):M R:=
 match xk W o.dst with
 |false=>AT
 |true=>
 match o.op with
 |.pick c a b=>(match E.ev c with
  |some (.bool t)=>
   kG t (match (E.nY c true).ev a with|some v=>K ((E.nY c true).put o.dst v) (L.del o.dst)|none=>AT)
    (match (E.nY c false).ev b with|some v=>K ((E.nY c false).put o.dst v) (L.del o.dst)|none=>AT)
  |_=>AT)
 |.call c=>(match isBuiltin c with
  |true=>(match qt L c with
   |some (n,cs)=>(ZS (nm.isSome&&!vG ops o) λb=>pn cks (vH (yV ops o) E c (nZ P b E c n cs))).run λv=>K (E.put o.dst v) (L.del o.dst)
   |none=>(match vG ops o with
    |true=>AT
    |false=>(pn cks (vH (yV ops o) E c (uM P nm E o))).run λv=>K (E.put o.dst v) (L.del o.dst)))
  |false=>(match iQ C c with
   |some t=>(match pU E t c with
    |some (x,vs)=>(match C.dy t x vs with
     |some ca=>AI (wrapM cks ca.m) λx=>K (E.put o.dst (ca.pk x)) (L.del o.dst)
     |none=>AT)
    |none=>AT)
   |none=>(match callee E c with
    |some (f,vs)=>(match C.st f vs with
     |some ca=>AI (wrapM cks ca.m) λx=>K (E.put o.dst (ca.pk x)) (L.del o.dst)
     |none=>AT)
    |none=>AT)))
 |.store _ x _=>(match ks with
  |[]=>(pn cks (uM P nm E o)).run λv=>K (E.put o.dst v) (L.del o.dst)
  |ks=>(match E.ev x with
   |some (.pointer (some a))=>(Hq ks a (pn cks (uM P nm E o))).run λv=>K (E.put o.dst v) (L.del o.dst)
   |_=>AT))
 |.buildSlice _ _ _=>(match tX P ops E o with
  |some x=>K (E.del o.dst) (L.put o.dst x)
  |none=>(pn cks (uM P nm E o)).run λv=>K (E.put o.dst v) (L.del o.dst))
 |_=>(pn cks (uM P nm E o)).run λv=>K (E.put o.dst v) (L.del o.dst)
def iR (E:Env)(o:Oper):θ:=
 match o.op with
 |.load _ x=>(match E.ev x with|some (.pointer p)=>p|_=>none)
 |.slice _ x _ _ _=>(match E.ev x with|some (.slice a _ _)=>a|_=>none)
 |.convert _ _ x=>(match E.ev x with|some (.slice a _ _)=>a|_=>none)
 |_=>none
abbrev Hr:=Nat->θ
def dP {R:Type}(P:Program)(C:eI)(W:Wr)(nb:μ)(ops:Array Oper):List (Nat×η)->Env->cK->Hr->(Env->M R)->M R
 |[],E,_,_,K=>K E
 |(i,cs)::rest,E,L,A,K=>
  match ops[i]? with
  |none=>AT
  |some o=>
   match o.guard with
   |none=>jU P C W (nb.map (·+i)) (cs.map A) (vI P ops nb cs) ops E L o λE' L'=>dP P C W nb ops rest E' L' (λj=>cond (Nat.beq j i) (iR E o) (A j)) K
   |some (j,want)=>(match (ops[j]?).bind (·.dst) with
    |some t=>(match E t with
     |some (.bool b)=>
      (match want with
      |true=>kG b (jU P C W (nb.map (·+i)) (cs.map A) (vI P ops nb cs) ops (E.set t (.bool true)) L o λE' L'=>dP P C W nb ops rest E' L' (λj=>cond (Nat.beq j i) (iR E o) (A j)) K)
       (match xk W o.dst with
       |true=>dP P C W nb ops rest ((E.set t (.bool false)).put o.dst undef) (L.del o.dst) A K
       |false=>AT)
      |false=>kG b (match xk W o.dst with
       |true=>dP P C W nb ops rest ((E.set t (.bool true)).put o.dst undef) (L.del o.dst) A K
       |false=>AT)
       (jU P C W (nb.map (·+i)) (cs.map A) (vI P ops nb cs) ops (E.set t (.bool false)) L o λE' L'=>dP P C W nb ops rest E' L' (λj=>cond (Nat.beq j i) (iR E o) (A j)) K))
     |some (.tuple _)=>(match xk W o.dst with
      |true=>dP P C W nb ops rest (E.put o.dst undef) (L.del o.dst) A K
      |false=>AT)
     |_=>AT)
    |none=>AT)
def yb (o:Oper):Option Operand:=
 match o.op with
 |.panic x=>some x
 |.call c=>(match c.callee,c.args.toList with
  |.builtin .panic,[x]=>some x
  |_,_=>none)
 |_=>none
def dp (C:eI)(o:Oper):Bool:=
 match o.op with
 |.call c=>(match c.callee with
  |.value (.func f)=>C.Hh f
  |_=>false)
 |_=>false
def pV (C:eI)(E:Env)(o:Oper):Option Po:=
 match dp C o with
 |true=>(match o.op with
  |.call c=>(match callee E c with
   |some (f,vs)=>C.sp f vs
   |none=>none)
  |_=>none)
 |false=>none
def rP {R:Type}(P:Program)(C:eI)(W:Wr)(nm:μ)(ops:Array Oper)(E:Env)(L:cK)(o:Oper)(eA:ξ->M R)(K:Env->cK->M R):M R:=
 match yb o with
 |some x=>(match E.ev x with
  |some (.iface t v)=>eA (.iface t v)
  |_=>AT)
 |none=>(match pV C E o with
  |some ca=>(match xk W o.dst with
   |true=>AI ca.m (cn (λx=>K (E.put o.dst (ca.pk x)) (L.del o.dst)) eA)
   |false=>AT)
  |none=>jU P C W nm [] [] ops E L o K)
def fZ {R:Type}(P:Program)(C:eI)(W:Wr)(nb:μ)(ops:Array Oper)(eA:ξ->M R):η->Env->cK->(Env->M R)->M R
 |[],E,_,K=>K E
 |i::rest,E,L,K=>
  match ops[i]? with
  |none=>AT
  |some o=>
   match o.guard with
   |none=>rP P C W (nb.map (·+i)) ops E L o eA λE' L'=>fZ P C W nb ops eA rest E' L' K
   |some (j,want)=>(match (ops[j]?).bind (·.dst) with
    |some t=>(match E t with
     |some (.bool b)=>
      (match want with
      |true=>kG b (rP P C W (nb.map (·+i)) ops (E.set t (.bool true)) L o eA λE' L'=>fZ P C W nb ops eA rest E' L' K)
       (match xk W o.dst with
       |true=>fZ P C W nb ops eA rest ((E.set t (.bool false)).put o.dst undef) (L.del o.dst) K
       |false=>AT)
      |false=>kG b (match xk W o.dst with
       |true=>fZ P C W nb ops eA rest ((E.set t (.bool true)).put o.dst undef) (L.del o.dst) K
       |false=>AT)
       (rP P C W (nb.map (·+i)) ops (E.set t (.bool false)) L o eA λE' L'=>fZ P C W nb ops eA rest E' L' K))
     |some (.tuple _)=>(match xk W o.dst with
      |true=>fZ P C W nb ops eA rest (E.put o.dst undef) (L.del o.dst) K
      |false=>AT)
     |_=>AT)
    |none=>AT)
def ir (ops:Array Oper)(o:Oper):η:=
 (o.op.operands.toList.filterMap λ| .tmp t=>some t|_=>none)++(match o.guard with
  |some (j,_)=>(match (ops[j]?).bind (·.dst) with|some t=>[t] | none=>[])
  |none=>[])
def apart (ops:Array Oper)(o p:Oper):Bool:=
 (match o.dst with|some d=>!B9 (ir ops p) d|none=>true)&&(match p.dst with|some d=>!B9 (ir ops o) d|none=>true) &&
 (match o.dst,p.dst with|some d,some e=>!Nat.beq d e|_,_=>true)
def wc (ops:Array Oper)(p:Oper):Bool:=
 match p.op with
 |.store _ _ _=>true
 |.call c=>!isBuiltin c||vG ops p
 |_=>false
def yc (mo:FuncId->Bool)(p:Oper):Bool:=
 match p.op with
 |.call c=>(match c.callee with
  |.value (.func f)=>mo f
  |_=>false)
 |_=>false
def qQ (p:Oper):Option FuncId:=
 match p.op with
 |.call c=>(match c.callee with
  |.value (.func f)=>some f
  |_=>none)
 |_=>none
def BH (P:Program)(ops:Array Oper)(i:Nat):Bool:=
 match ops[i]? with
 |some o=>wa (cls P ops o)
 |none=>false
def YT (P:Program)(ops:Array Oper)(f:FuncId):List (Nat×η)→μ
 | []=>none
 | (j,cs)::r=>(match (match ops[j]? with
   | some p=>(match qQ p with
    | some g=>(match Nat.beq g f with | true=>cs.find? (BH P ops) | false=>none)
    | none=>none)
   | none=>none) with
  | some i=>some i
  | none=>YT P ops f r)
def YU (P:Program)(C:eI)(ops:Array Oper)(l:List (Nat×η)):Bool:=
 l.all λ(j,cs)=>(match ops[j]? with
  |some p=>(match qQ p with
   |some f=>cs.all λi=>!BH P ops i||(!C.Hh f&&(match YT P ops f l with|some i'=>Nat.beq i i' | none=>false))
   |none=>true)
  |none=>true)
def eI.kO (C:eI)(P:Program)(nb:Nat)(ops:Array Oper)(l:List (Nat×η)):eI:={ C with
 st:=λf vs=>(match YT P ops f l with
  |none=>C.st f vs
  |some i=>(match C.st f vs with
   |some ca=>some ⟨ca.α,vY (nb+i) ca.m,ca.pk⟩
   |none=>none))
 mo:=C.mo }
def Hs (P:Program)(mo:FuncId->Bool)(ops:Array Oper)(o p:Oper)(ck:Bool):Bool:=
 apart ops o p&&(match cls P ops o,cls P ops p with
  |.sil,_|_,.sil | .ro,.ro | .ro,.alloc | .ro,.add | .alloc,.alloc=>true
  |.ro,.mro | .mro,.ro | .mro,.mro | .mro,.alloc | .mro,.add | .alloc,.mro | .add,.mro=>true
  |.ro,.eff=>ck&&wc ops p
  |.alloc,.eff=>ck&&(tY p||(qQ p).isSome)
  |.ro,.mka | .mka,.ro | .mka,.alloc | .alloc,.mka | .mro,.mka=>true
  |.mka,.eff | .mro,.eff=>yc mo p
  |.add,.alloc=>yV ops o
  |_,_=>false)
def tZ (e:Edge):Bool:=match e.ground with
 |.textOnly _ | .gcOnly _=>false
 |_=>true
def Pp:η->η->η
 |[],a=>a
 |x::l,a=>Pp l (cond (B9 a x) a (x::a))
def BJ (ops:List Oper):List η:=
 ops.foldl (λacc o=>acc++[Pp ((o.after.toList.filter tZ).flatMap λe=>e.on::acc.getD e.on []) []]) []
def qY (P:Program)(mo:FuncId→Bool)(ops:Array Oper)(pr:List η):List (Nat×η)→Bool
 | []=>true
 | (i,_)::r=>(r.all fun (j,cj)=>B9 (pr.getD j []) i || (match ops[i]?,ops[j]? with
  | some o,some p=>Hs P mo ops o p (B9 cj i)
  | _,_=>false)) && qY P mo ops pr r
def Ca (P:Program)(mo:FuncId->Bool)(ops:Array Oper)(l:List (Nat×η)):Bool:=
 P.follows .mixedOrders&&(l.map (·.1)).isPerm (List.range ops.size) &&
 (ops.toList.zipIdx.all λ(o,i)=>o.after.toList.all λe=>!tZ e||Nat.blt e.on i) &&
 qY P mo ops (BJ ops.toList) l
def neutral:Yt->Bool
 |.sil | .ro | .mro=>true
 |_=>false
def yW (P:Program)(C:eI)(ops:Array Oper)(pr:List η):η->η->Bool
 |_,[]=>true
 |pre,i::post=>(match ops[i]? with
  |some o=>!dp C o||(post.all (λj=>B9 (pr.getD j []) i)&&pre.all λj=>(match ops[j]? with
    |some p=>neutral (cls P ops p)
    |none=>false))
  |none=>false)&&yW P C ops pr (i::pre) post
def eI.MG (C:eI):FuncId->Bool:=λf=>C.mo f&&!C.Hh f
def La (P:Program)(C:eI)(ops:Array Oper)(l:List (Nat×η)):Bool:=
 Ca P C.MG ops l&&yW P C ops (BJ ops.toList) [] (l.map (·.1))&&ops.toList.all λo=>!dp C o||o.dst.isSome
def yd {R:Type}(P:Program)(C:eI)(W:Wr)(nm:μ)(cks:List θ)(ks:η)(ops:Array Oper)(E:Env)(L:cK)(o:Oper)(eA:ξ->M R)(K:Env->cK->M R):M R:=
 match pV C E o with
 |some ca=>(match xk W o.dst with
  |true=>AI (wrapM cks ca.m) (cn (λx=>K (E.put o.dst (ca.pk x)) (L.del o.dst)) eA)
  |false=>AT)
 |none=>jU P C W nm cks ks ops E L o K
def kS {R:Type}(P:Program)(C:eI)(W:Wr)(nb:μ)(ops:Array Oper)(eA:ξ->M R):List (Nat×η)->Env->cK->Hr->(Env->M R)->M R
 |[],E,_,_,K=>K E
 |(i,cs)::rest,E,L,A,K=>
  match ops[i]? with
  |none=>AT
  |some o=>
   match o.guard with
   |none=>yd P C W (nb.map (·+i)) (cs.map A) (vI P ops nb cs) ops E L o eA λE' L'=>kS P C W nb ops eA rest E' L' (λj=>cond (Nat.beq j i) (iR E o) (A j)) K
   |some (j,want)=>(match (ops[j]?).bind (·.dst) with
    |some t=>(match E t with
     |some (.bool b)=>
      (match want with
      |true=>kG b (yd P C W (nb.map (·+i)) (cs.map A) (vI P ops nb cs) ops (E.set t (.bool true)) L o eA λE' L'=>kS P C W nb ops eA rest E' L' (λj=>cond (Nat.beq j i) (iR E o) (A j)) K)
       (match xk W o.dst with
       |true=>kS P C W nb ops eA rest ((E.set t (.bool false)).put o.dst undef) (L.del o.dst) A K
       |false=>AT)
      |false=>kG b (match xk W o.dst with
       |true=>kS P C W nb ops eA rest ((E.set t (.bool true)).put o.dst undef) (L.del o.dst) A K
       |false=>AT)
       (yd P C W (nb.map (·+i)) (cs.map A) (vI P ops nb cs) ops (E.set t (.bool false)) L o eA λE' L'=>kS P C W nb ops eA rest E' L' (λj=>cond (Nat.beq j i) (iR E o) (A j)) K))
     |some (.tuple _)=>(match xk W o.dst with
      |true=>kS P C W nb ops eA rest (E.put o.dst undef) (L.del o.dst) A K
      |false=>AT)
     |_=>AT)
    |none=>AT)
def Pq (P:Program)(ops:Array Oper):Bool:=ops.toList.any λo=>match cls P ops o with
 |.alloc | .mka=>true
 |_=>false
def den {R:Type}(P:Program)(body:Code)(T:Hp R)(W:Wr)(fin:fw->Env->M R):Nat->Bool->List sN->Env->M R
 |0,_,_,_=>AT
 |_+1,_,[],E=>fin .normal E
 |n+1,_,.aD _::k,E=>den P body T W fin n true k E
 |n+1,_,.VA _::k,E=>den P body T W fin n true k E
 |n+1,j,.code p::k,E=>
  match (match j with|true=>T.join p|false=>none) with
  |some (k',J)=>(match eqItems k k' with
   |true=>(match J E with|some m=>m|none=>AT)
   |false=>AT)
  |none=>
   match cB body p with
   |.skip=>den P body T W fin n true k E
   |.label _=>den P body T W fin n true k E
   |.seq _ _=>den P body T W fin n true (.code (0::p)::.code (1::p)::k) E
   |.cond c _ _=>(match E.ev c with
    |some (.bool b)=>kG b (den P body T W fin n true (.code (0::p)::k) (E.nY c true))
     (den P body T W fin n true (.code (1::p)::k) (E.nY c false))
    |_=>AT)
   |.block id _=>den P body T W fin n true (.code (0::p)::.aD id::k) E
   |.scope _=>den P body T W fin n true (.code (0::p)::.VA (0::p)::k) E
   |.loop _=>(match T.loop p E with
    |.one _ m e out=>AI m λx=>(match e with
     |.normal=>AT
     |.ret=>fin .ret (out x)
     |.exit id=>(match mG id k with
      |some k'=>den P body T W fin n true k' (out x)
      |none=>fin (.exit id) (out x)))
    |.two _ _ m e out e' out'=>AI m (cn
     (λx=>(match e with
      |.normal=>AT
      |.ret=>fin .ret (out x)
      |.exit id=>(match mG id k with
       |some k'=>den P body T W fin n true k' (out x)
       |none=>fin (.exit id) (out x))))
     (λx=>(match e' with
      |.normal=>AT
      |.ret=>fin .ret (out' x)
      |.exit id=>(match mG id k with
       |some k'=>den P body T W fin n true k' (out' x)
       |none=>fin (.exit id) (out' x)))))
    |.XA _ m e out=>AI m (cn (λx=>(match e with
     |.normal=>AT
     |.ret=>fin .ret (out x)
     |.exit id=>(match mG id k with
      |some k'=>den P body T W fin n true k' (out x)
      |none=>fin (.exit id) (out x)))) T.eA)
    |.XB _ _ m e out e' out'=>AI m (cn (cn
     (λx=>(match e with
      |.normal=>AT
      |.ret=>fin .ret (out x)
      |.exit id=>(match mG id k with
       |some k'=>den P body T W fin n true k' (out x)
       |none=>fin (.exit id) (out x))))
     (λx=>(match e' with
      |.normal=>AT
      |.ret=>fin .ret (out' x)
      |.exit id=>(match mG id k with
       |some k'=>den P body T W fin n true k' (out' x)
       |none=>fin (.exit id) (out' x))))) T.eA)
    |.none=>AT)
   |.exit id=>(match mG id k with
    |some k'=>den P body T W fin n true k' E
    |none=>fin (.exit id) E)
   |.ret=>fin .ret E
   |.region id ops draw=>(match draw with
    |true=>(match T.draw id with
     |some l=>(match La P (T.call.kO P 0 ops l) ops l&&YU P T.call ops l with
      |true=>(match Pq P ops with
       |true=>AI (dT ops.size) λnb=>kS P (T.call.kO P nb ops l) W (some nb) ops T.eA l E cK.emp (λ_=>none) λE'=>den P body T W fin n true k E'
       |false=>kS P (T.call.kO P 0 ops l) W (some 0) ops T.eA l E cK.emp (λ_=>none) λE'=>den P body T W fin n true k E')
      |false=>AT)
     |none=>AT)
    |false=>fZ P T.call W none ops T.eA (List.range ops.size) E cK.emp λE'=>den P body T W fin n true k E')
   |_=>AT
def j6 (P:Program):List ResultVar->Env->δ->(δ->Act)->Act
 |[],_,acc,K=>K acc.reverse
 |.tmp t::r,E,acc,K=>(match E t with|some v=>j6 P r E (v::acc) K|none=>.none)
 |.cell a t::r,E,acc,K=>(match E a with
  |some (.pointer (some x))=>(match Jv P t x with
   |.val v=>j6 P r E (v::acc) K
   |.ask α m k=>.ask α m λx=>resBind (k x) λv=>j6 P r E (v::acc) K
   |.none=>.none)
  |_=>.none)
where
 resBind:Act->(ξ->Act)->Act
  |.val v,K=>K v
  |.ask α m k,K=>.ask α m λx=>resBind (k x) K
  |.none,_=>.none
def jj (f:Func):Code:=match f.body with
 |some c=>c
 |none=>.skip
def SE (ts:List Ty)(v:ξ):M (aO ts):=
 match Xo ts v with
 |some r=>AS r
 |none=>AT
def Jy (P:Program)(f:Func)(ts:List Ty):fw->Env->M (aO ts):=λe E=>
 match e with
 |.exit _=>AT
 |_=>(j6 P f.results.toList E [] λvs=>.val (eE vs)).run (SE ts)
def AP (ls ms:List (Nat×Ty))(id:Nat)(next:aO (fN ls)->M (aO (fN ms))):fw->Env->M (aO (fN ms)):=λe E=>
 match e with
 |.normal=>(match oT E ls with
  |some vs=>(match sE (fN ls) vs with|some x=>next x|none=>AT)
  |none=>AT)
 |.exit id'=>(match Nat.beq id id',oT E ms with
  |true,some vs=>(match sE (fN ms) vs with|some x=>AS x|none=>AT)
  |_,_=>AT)
 |.ret=>AT
def Ea (ls ms rs:List (Nat×Ty))(id:Nat)(e2:fw)(next:aO (fN ls)->M (aO (fN ms)⊕aO (fN rs))) :
  fw->Env->M (aO (fN ms)⊕aO (fN rs)):=λe E=>
 match e with
 |.normal=>(match oT E ls with
  |some vs=>(match sE (fN ls) vs with|some x=>next x|none=>AT)
  |none=>AT)
 |e=>(match Ul e (.exit id) with
  |true=>(match oT E ms with
   |some vs=>(match sE (fN ms) vs with|some x=>AS (.inl x)|none=>AT)
   |none=>AT)
  |false=>(match Ul e e2 with
   |true=>(match oT E rs with
    |some vs=>(match sE (fN rs) vs with|some x=>AS (.inr x)|none=>AT)
    |none=>AT)
   |false=>AT))
def Cb (ls rs:List (Nat×Ty))(next:aO (fN ls)->M (aO (fN rs))):fw->Env->M (aO (fN rs)):=λe E=>
 match e with
 |.normal=>(match oT E ls with
  |some vs=>(match sE (fN ls) vs with|some x=>next x|none=>AT)
  |none=>AT)
 |.exit _=>AT
 |.ret=>(match oT E rs with
  |some vs=>(match sE (fN rs) vs with|some x=>AS x|none=>AT)
  |none=>AT)
structure cr where
 id:FuncId
 as:List Ty
 rs:List Ty
 m:aO as->M (aO rs)
def xN (l:List cr):FuncId->δ->Option nf:=λf vs=>
 match l with
 |[]=>none
 |e::r=>match Nat.beq f e.id with
  |true=>(match sE e.as vs with
   |some x=>some ⟨aO e.rs,e.m x,λy=>eE (ee e.rs y)⟩
   |none=>none)
  |false=>xN r f vs
structure jk where
 slot:Nat
 as:List Ty
 rs:List Ty
 m:ξ->aO as->M (aO rs)
def Lb (l:List jk):Nat->ξ->δ->Option nf:=λt x vs=>
 match l with
 |[]=>none
 |e::r=>match Nat.beq t e.slot with
  |true=>(match sE e.as vs with
   |some a=>some ⟨aO e.rs,e.m x a,λy=>eE (ee e.rs y)⟩
   |none=>none)
  |false=>Lb r t x vs
def Um (l:List jk)(t:Nat):Bool:=
 match l with
 |[]=>false
 |e::r=>Nat.beq t e.slot||Um r t
structure uO where
 id:FuncId
 as:List Ty
 rs:List Ty
 m:aO as->M (aO rs⊕ξ)
def Eb (l:List uO):FuncId->δ->Option Po:=λf vs=>
 match l with
 |[]=>none
 |e::r=>match Nat.beq f e.id with
  |true=>(match sE e.as vs with
   |some x=>some ⟨aO e.rs,e.m x,λy=>eE (ee e.rs y)⟩
   |none=>none)
  |false=>Eb r f vs
def po (l:List cr)(d:List jk)(ms:List FuncId:=[])(ps:List uO:=[]):eI:=⟨xN l,Lb d,Um d,λf=>ms.any (Nat.beq f),Eb ps,λf=>ps.any λe=>Nat.beq f e.id⟩
structure Un (as rs:List Ty) where
 id:FuncId
 cs:List Ty
 m:aO as->aO cs->M (aO rs)
def Yu {as rs:List Ty}:List (Un as rs)->ξ->aO as->M (aO rs)
 |[],_,_=>AT
 |[e],x,a=>kG (uL e.id x) (AI (nr e.cs x) λc=>e.m a c) AT
 |e::f::r,x,a=>kG (uL e.id x) (AI (nr e.cs x) λc=>e.m a c) (Yu (f::r) x a)
structure oU where
 p:Path
 ls:List (Nat×Ty)
 act:aO (fN ls)->uN
def nF (l:List oU):Path->Env->uN:=λp E=>
 match l with
 |[]=>.none
 |e::r=>match rO p e.p with
  |true=>(match oT E e.ls with
   |some vs=>(match sE (fN e.ls) vs with
    |some x=>e.act x
    |none=>.none)
   |none=>.none)
  |false=>nF r p E
def Xz (E:Env)(ws:η):Env:=λj=>cond (ws.any (Nat.beq j)) none (E j)
def Pr (ls ms:List (Nat×Ty))(ws:η)(x:aO (fN ls))(y:aO (fN ms)):Env:=Sz (Xz (qq ls (ee (fN ls) x)) ws) ms (ee (fN ms) y)
def Ps (ls ms:List (Nat×Ty))(ws:η)(id:Nat)(m:aO (fN ls)->M (aO (fN ms)))(x:aO (fN ls)):uN:=.one (aO (fN ms)) (m x) (.exit id) (Pr ls ms ws x)
def Pv (ls rs:List (Nat×Ty))(ws:η)(m:aO (fN ls)->M (aO (fN rs)))(x:aO (fN ls)):uN:=.one (aO (fN rs)) (m x) .ret (Pr ls rs ws x)
def Pw (ls ms rs:List (Nat×Ty))(ws:η)(id:Nat)(e2:fw)(m:aO (fN ls)->M (aO (fN ms)⊕aO (fN rs)))(x:aO (fN ls)):uN:=
 .two (aO (fN ms)) (aO (fN rs)) (m x) (.exit id) (Pr ls ms ws x) e2 (Pr ls rs ws x)
def zQ (W:Wr)(nt:Nat)(ws:η):Bool:=Nat.beq W.1 nt&&(match W.2 with
 |some l=>ws.all λi=>l.any (Nat.beq i)
 |none=>true)
structure jd (R:Type) where
 p:Path
 k:List sN
 ls:List (Nat×Ty)
 m:aO (fN ls)->M R
def ZT {R:Type}(ls:List (Nat×Ty))(m:aO (fN ls)->M R)(E:Env):Option (M R):=
 match oT E ls with
 |some vs=>(match sE (fN ls) vs with
  |some x=>some (m x)
  |none=>none)
 |none=>none
def n0 {R:Type}(l:List (jd R)):Path->Option (List sN×(Env->Option (M R))):=λp=>
 match l with
 |[]=>none
 |e::r=>match rO p e.p with
  |true=>some (e.k,ZT e.ls e.m)
  |false=>n0 r p
end Go.Ago
