
import Derived.Laws.Cells
import Derived.Laws.Strings
import Derived.KernelRfl
set_option linter.all false
namespace Go.Ago
abbrev AT:=@if_neg
abbrev By:=@if_pos
abbrev BY:=@List.mem_cons_of_mem
abbrev IN:=@List.mem_of_getElem?
abbrev IS:=@List.mem_cons_self
abbrev IT:=@Nat.eq_of_beq_eq_true
abbrev OF:=@Int.toNat_natCast
abbrev aa2:=@Nat.le_refl
abbrev abi:=@Bool.and_eq_true
abbrev abt:=@List.getElem?_eq_getElem
abbrev abv:=@List.length_cons
abbrev abD:=@decide_eq_true_eq
abbrev abE:=@List.cons_append
abbrev abF:=@List.getElem?_map
abbrev abG:=@List.drop_eq_nil_of_le
abbrev abH:=@Option.some.injEq
abbrev abI:=@List.mem_append_right
abbrev abJ:=@List.nil_append
abbrev abK:=@Nat.le_trans
abbrev abL:=@Option.some.inj
abbrev abM:=@List.append_assoc
abbrev abO:=@List.length_append
abbrev ab4:=@List.map_cons
abbrev adr:=@List.flatMap_cons
abbrev adO:=@List.mem_append_left
abbrev adS:=@List.cons.injEq
abbrev ad8:=@List.length_nil
abbrev aeb:=@Bool.false_eq_true
abbrev aed:=@if_false
abbrev aef:=@Classical.byContradiction
abbrev aeq:=@Nat.zero_add
abbrev aes:=@Nat.mul_one
abbrev aeE:=@List.eq_nil_of_length_eq_zero
abbrev aeI:=@List.length_map
abbrev aeN:=@Array.getElem?_toList
abbrev aeQ:=@Nat.mul_le_mul_right
abbrev ae0:=@List.mem_append
abbrev af3:=@Nat.add_mul
abbrev agh:=@Nat.le_of_ble_eq_true
abbrev agi:=@List.length_replicate
abbrev agj:=@List.append_nil
abbrev agk:=@List.mem_singleton
abbrev agl:=@List.getD_eq_getElem?_getD
abbrev agw:=@Int.tdiv_eq_ediv_of_nonneg
abbrev agz:=@not_true_eq_false
abbrev agE:=@Int.le_refl
abbrev agS:=@Nat.lt_succ_self
abbrev agU:=@List.eq_of_mem_replicate
abbrev agW:=@List.getElem?_eq_none
abbrev ai3:=@List.Sublist.refl
abbrev ai8:=@List.getElem?_append_right
abbrev ajb:=@List.drop_zero
abbrev ajt:=@List.map_append
abbrev ajC:=@List.take_of_length_le
abbrev ajD:=@List.getElem?_eq_some_iff
abbrev ajF:=@Array.getElem?_eq_getElem
abbrev ajO:=@List.drop_eq_getElem_cons
abbrev ajY:=@List.sublist_append_right
abbrev ajZ:=@List.length_set
abbrev aj0:=@List.getElem?_drop
abbrev akg:=@List.all_eq_true
abbrev akp:=@Array.ext'
abbrev akq:=@List.length_take
abbrev akr:=@List.map_map
abbrev aks:=@if_true
abbrev akt:=@List.nodup_append
abbrev aku:=@Option.map_some
abbrev akv:=@List.count_cons
abbrev akw:=@ByteArray.size_append
abbrev akx:=@List.perm_append_comm
abbrev aky:=@List.getElem_mem
abbrev akz:=@Nat.beq_refl
abbrev akA:=@List.nodup_range
abbrev akB:=@List.set_cons_zero
abbrev akC:=@BitVec.toNat_ofInt
abbrev akD:=@Int.eq_ofNat_of_zero_le
abbrev akF:=@true_and
abbrev akH:=@of_decide_eq_true
abbrev akL:=@congrArg
abbrev akP:=@List.count_append
abbrev akY:=@Array.getD_eq_getD_getElem?
abbrev ak0:=@List.replicate_succ
abbrev ak9:=@Array.toList_append
abbrev alf:=@Nat.le_add_right
abbrev alg:=@Nat.lt_of_lt_of_le
abbrev alj:=@List.set_append_right
abbrev alk:=@ByteArray.data_append
abbrev alm:=@Nat.zero_le
abbrev alp:=@Nat.le_succ
abbrev alu:=@List.Sublist.append
abbrev alA:=@List.map_congr_left
abbrev alC:=@ByteArray.data_extract
abbrev alD:=@Nat.add_zero
abbrev alI:=@List.set_cons_succ
abbrev alL:=@List.map_replicate
abbrev alW:=@List.perm_append_comm_assoc
abbrev al5:=@Bool.or_eq_true
abbrev al8:=@List.mem_cons
abbrev al9:=@List.ext_getElem?
abbrev ama:=@cond_false
abbrev amb:=@List.mem_or_eq_of_mem_set
abbrev amc:=@List.getElem?_append_left
abbrev amd:=@List.drop_drop
abbrev ame:=@Option.bind_some
abbrev amf:=@Nat.sub_self
abbrev amg:=@List.perm_middle
abbrev amh:=@List.not_mem_nil
abbrev ami:=@List.mem_map_of_mem
abbrev amj:=@List.flatMap_append
abbrev amk:=@Nat.mul_le_mul_left
abbrev aml:=@List.getElem?_cons_succ
abbrev amm:=@Classical.axiomOfChoice
abbrev amn:=@Prod.mk.injEq
abbrev amo:=@ByteArray.ext
abbrev amp:=@List.filter_append
abbrev amq:=@List.pairwise_cons
abbrev ams:=@Nat.lt_of_le_of_lt
abbrev amt:=@List.sublist_cons_self
abbrev amw:=@List.Perm.append_right
abbrev amB:=@List.getLast?_eq_some_getLast
abbrev amD:=@Bool.not_eq_true'
abbrev amI:=@List.getElem?_toArray
abbrev amJ:=@Nat.mul_le_mul
abbrev amK:=@Int.le_trans
abbrev amL:=@Array.getElem?_setIfInBounds
abbrev amM:=@Nat.le_of_lt
abbrev amN:=@List.Perm.append_left
abbrev amP:=@List.length_singleton
abbrev amR:=@Nat.mod_lt
abbrev amS:=@List.length_drop
abbrev amT:=@List.take_length
abbrev amU:=@List.replicate_succ'
abbrev amW:=@Nat.shiftLeft_eq
abbrev amZ:=@Nat.add_assoc
abbrev am0:=@List.cons.inj
abbrev am1:=@Nat.one_mul
abbrev am6:=@List.filter_sublist
abbrev am7:=@List.length_reverse
abbrev anb:=@List.getElem?_take
abbrev anc:=@List.ne_nil_of_mem
abbrev ane:=@List.sublist_append_left
abbrev anf:=@List.Pairwise.imp_of_mem
abbrev ang:=@Nat.lt_trichotomy
abbrev anh:=@List.size_toArray
abbrev ani:=@List.take_add_one
abbrev anj:=@List.set_eq_take_append_cons_drop
abbrev ank:=@List.head?_eq_getElem?
abbrev anl:=@ByteArray.append_assoc
abbrev anm:=@Bool.true_and
abbrev ano:=@List.all_cons
abbrev anp:=@List.range'_succ
abbrev anq:=@List.countP_cons
abbrev anr:=@List.flatMap_map
abbrev ans:=@List.take_append_drop
abbrev ant:=@Array.mem_of_getElem?
abbrev anu:=@UInt8.toNat_inj
abbrev anv:=@Array.toArray_toList
abbrev anw:=@List.mem_filter
abbrev anx:=@List.nodup_cons
abbrev anz:=@List.map_set
abbrev anA:=@Nat.and_two_pow_sub_one_eq_mod
abbrev anB:=@List.count_le_length
abbrev anC:=@List.forall_mem_cons
abbrev anD:=@Nat.div_add_mod
abbrev anE:=@Nat.mul_comm
abbrev anF:=@Nat.shiftLeft_add_eq_or_of_lt
abbrev anG:=@List.nodup_nil
abbrev anH:=@List.dropLast_concat_getLast
abbrev anI:=@List.countP_eq_length_filter
abbrev anJ:=@Array.ext_getElem?
abbrev anK:=@Int.natCast_nonneg
abbrev anL:=@Nat.mul_lt_mul_of_pos_right
abbrev anM:=@Bool.not_true
abbrev anN:=@Int.fdiv_eq_ediv_of_nonneg
abbrev anP:=@List.flatten_cons
abbrev anQ:=@List.Pairwise.map
abbrev anR:=@List.getLast?_eq_getElem?
abbrev anT:=@Array.mem_append
abbrev anU:=@Nat.add_comm
abbrev anV:=@BitVec.toNat_and
abbrev anW:=@List.set_set
abbrev anX:=@Nat.add_lt_add_iff_right
abbrev anY:=@List.flatMap_nil
abbrev anZ:=@List.cons_ne_nil
abbrev an0:=@Option.bind_eq_some_iff
abbrev an1:=@List.append_cancel_left
abbrev an2:=@Bool.eq_iff_iff
abbrev an3:=@Nat.min_eq_left
abbrev an4:=@decide_eq_false
abbrev an5:=@List.range_succ_eq_map
abbrev an6:=@List.dropWhile_sublist
abbrev an7:=@List.mem_iff_getElem?
abbrev an8:=@List.modify_zero_cons
abbrev an9:=@List.mem_range
abbrev aoa:=@Bool.false_and
abbrev aob:=@List.singleton_append
abbrev aoc:=@List.take_succ
abbrev aod:=@decide_eq_true
abbrev aoe:=@List.countP_le_length
abbrev aof:=@UInt8.lt_iff_toNat_lt
abbrev aog:=@List.getElem?_append
abbrev aoh:=@List.getElem?_modify
abbrev aoi:=@List.set_append_left
abbrev aoj:=@or_false
abbrev aok:=@List.getElem?_set_ne
abbrev aol:=@Decidable.of_not_not
abbrev aom:=@Nat.div_lt_of_lt_mul
abbrev aon:=@Option.some_beq_some
abbrev aoo:=@List.sum_cons
abbrev aov:=@Int.le_of_lt
open Go
abbrev δ:=List Value
abbrev ε:=List Int
abbrev ζ:=ByteArray
abbrev η:=List Nat
abbrev θ:=Option Addr
abbrev μ:=TypeId
abbrev ν:=Option Nat
abbrev ξ:=Array Value
abbrev ο:=Value
abbrev Env:=Nat->Option ο
def Env.set (E:Env)(i:Nat)(v:ο):Env:=λj=>cond (Nat.beq j i) (some v) (E j)
def Env.put (E:Env)(d:ν)(v:ο):Env:=
 match d with
 |some i=>E.set i v
 |none=>E
def Env.emp:Env:=λ_=>none
def dL:ο->Bool
 |.bool _ | .int _ _ | .float _ _ | .complex _ _ _ | .string _ | .nilFunc | .nilIface | .pointer none | .map none | .chan none | .slice none _ _=>true
 |_=>false
def flat:ο->Bool
 |.agg cs=>cs.toList.all dL
 |.tuple vs=>vs.toList.isEmpty
 |.iface _ v=>dL v
 |v=>dL v
def Env.ev (E:Env):Operand->Option ο
 |.tmp t=>E t
 |.const v=>match flat v with|true=>some v|false=>none
 |.global _=>none
 |.func f=>some (.func (.func f) #[] #[])
def Env.PQ (E:Env):List Operand->Option δ
 |[]=>some []
 |x::xs=>match E.ev x,E.PQ xs with
  |some v,some vs=>some (v::vs)
  |_,_=>none
def RM:IntKind->Nat
 |.i8=>0 | .i16=>1 | .i32=>2 | .i64=>3 | .u8=>4 | .u16=>5 | .u32=>6 | .u64=>7
def PZ (a b:IntKind):Bool:=Nat.beq (RM a) (RM b)
inductive KV where
 |cells (c:δ) (iL base:Nat) (elem:μ)
 |map (es:List (ο×ο))
 |iter (s:ζ) (pos:Nat)
structure Ge where
 key:ο
 val:ο
 born:Nat
structure akE where
 kt:μ
 clock:Nat
 es:List Ge
structure aj where
 jW:Nat->Option akE
 get:Nat->Option KV
 next:Nat
 oz:Nat->Nat
 used:Nat->Bool
 dec:∀p:Prop,Decidable p
abbrev M (α:Type):=aj->Option (α×aj)
def sh {α β}(m:M α)(f:α->M β):M β:=λh=>
 match m h with
 |some (a,h')=>f a h'
 |none=>none
def AI {α}(a:α):M α:=λh=>some (a,h)
def AS {α}:M α:=λ_=>none
structure Sl where
 a:θ
 len:Nat
 cap:Nat
inductive uR where
 |int (k:IntKind)|bool|str|ptr|ak|sl|mp|raw|f64
@[reducible] def uR.den:uR->Type
 |.int _=>Int
 |.bool=>Bool
 |.str=>ζ
 |.ptr=>θ
 |.ak=>Addr
 |.sl=>Sl
 |.mp=>ν
 |.raw=>ο
 |.f64=>Nat
def M0:(l:uR)->l.den->ο
 |.int k,n=>.int k n
 |.bool,b=>.bool b
 |.str,s=>.string s
 |.ptr,p=>.pointer p
 |.ak,p=>.pointer (some p)
 |.sl,s=>.slice s.a s.len s.cap
 |.mp,r=>.map r
 |.raw,v=>v
 |.f64,n=>.float .f64 n
def Cv:(l:uR)->ο->Option l.den
 |.int .i8,.int .i8 n | .int .i16,.int .i16 n | .int .i32,.int .i32 n | .int .i64,.int .i64 n=>some n
 |.int .u8,.int .u8 n | .int .u16,.int .u16 n | .int .u32,.int .u32 n | .int .u64,.int .u64 n=>some n
 |.bool,.bool b=>some b
 |.str,.string s=>some s
 |.ptr,.pointer p=>some p
 |.ak,.pointer (some p)=>some p
 |.sl,.slice a n c=>some ⟨a,n,c⟩
 |.mp,.map r=>some r
 |.raw,v=>some v
 |.f64,.float .f64 n=>some n
 |_,_=>none
@[reducible] def cF:List uR->Type
 |[]=>Unit
 |[l]=>l.den
 |l::ls=>l.den×cF ls
def Jg:(ls:List uR)->cF ls->δ
 |[],_=>[]
 |[l],x=>[M0 l x]
 |l::l'::ls,x=>M0 l x.1::Jg (l'::ls) x.2
def Cw:(ls:List uR)->δ->Option (cF ls)
 |[],[]=>some ()
 |[l],[v]=>Cv l v
 |l::l'::ls,v::vs=>match Cv l v,Cw (l'::ls) vs with
  |some x,some y=>some (x,y)
  |_,_=>none
 |_,_=>none
inductive Ty where
 |one (l:uR)
 |agg (ls:List uR)
@[reducible] def Ty.den:Ty->Type
 |.one l=>l.den
 |.agg ls=>cF ls
def EG:(t:Ty)->t.den->ο
 |.one l,x=>M0 l x
 |.agg ls,x=>.agg (Jg ls x).toArray
def M4:(t:Ty)->ο->Option t.den
 |.one l,v=>Cv l v
 |.agg ls,.agg cs=>Cw ls cs.toList
 |_,_=>none
@[reducible] def aY:List Ty->Type
 |[]=>Unit
 |[t]=>t.den
 |t::ts=>t.den×aY ts
def fS:(ts:List Ty)->aY ts->δ
 |[],_=>[]
 |[t],x=>[EG t x]
 |t::t'::ts,x=>EG t x.1::fS (t'::ts) x.2
def xX:(ts:List Ty)->δ->Option (aY ts)
 |[],[]=>some ()
 |[t],[v]=>M4 t v
 |t::t'::ts,v::vs=>match M4 t v,xX (t'::ts) vs with
  |some x,some y=>some (x,y)
  |_,_=>none
 |_,_=>none
def iK (vs:δ):ο:=
 match vs with
 |[v]=>v
 |vs=>.tuple vs.toArray
def unR ts (v:ο):Option (aY ts):=
 match ts with
 |[t]=>M4 t v
 |ts=>match v with
  |.tuple vs=>xX ts vs.toList
  |_=>none
def s6 (E:Env):List (Nat×Ty)->Option δ
 |[]=>some []
 |(i,_)::r=>match E i,s6 E r with
  |some v,some vs=>some (v::vs)
  |_,_=>none
def yG:List (Nat×Ty)->δ->Env
 |(i,_)::r,v::vs=>(yG r vs).set i v
 |_,_=>Env.emp
def abN (E:Env):List (Nat×Ty)->δ->Env
 |(i,_)::r,v::vs=>(abN E r vs).set i v
 |_,_=>E
def lH:List (Nat×Ty)->List Ty
 |[]=>[]
 |(_,t)::r=>t::lH r
def aj.cell (h:aj)(a:Addr):Option ο:=
 match h.get a.block with
 |some (.cells c _ _ _)=>c[a.off]?
 |_=>none
def _root_.Go.Addr.plus (a:Addr)(n:Nat):Addr:=⟨a.block,a.off+n,none⟩
def eU (l:uR)(a:Addr):M l.den:=λh=>
 match h.cell a with
 |some v=>(match Cv l v with|some x=>some (x,h)|none=>none)
 |none=>none
def idO (o:Option KV):Option KV:=match o with
 |some b=>some b
 |none=>none
@[simp] theorem yH o:idO o=o:=by cases o<;>rfl
def aj.dh (h:aj)(nm next':Nat)(elem:μ)(cs:δ):aj:=
 { h with
  get:=λj=>cond (Nat.beq j nm) (some (.cells cs (nm+1) 0 elem)) (idO (h.get j))
  next:=next'
  oz:=λg=>cond (Nat.beq g (nm+1)) cs.length (h.oz g)
  used:=λj=>cond (Nat.beq j nm) true (h.used j) }
def aj.new (h:aj)(elem:μ)(cs:δ):aj:=h.dh h.next (h.next+1) elem cs
def fC:ο->Bool
 |.agg _ | .tuple _=>false
 |_=>true
def iB (nm:ν)(elem:μ)(cs:δ):M Nat:=λh=>
 if cs.all fC=true then (match nm with
  |none=>some (h.next,h.new elem cs)
  |some k=>if h.used k=false/\k<h.next/\(h.get k).isNone=true then some (k,h.dh k h.next elem cs) else none) else none
def eA (n:Nat):M Nat:=λh=>some (h.next,{ h with next:=h.next+n })
def aU (c:δ)(o:Nat)(vs:δ):δ:=c.take o++vs++c.drop (o+vs.length)
def aj.vR (h:aj)(b:Nat)(c:δ)(g base:Nat)(elem:μ):aj:=
 { h with get:=λj=>cond (Nat.beq j b) (some (.cells c g base elem)) (match h.get j with
   |some (.cells c' g' base' elem')=>cond (Nat.beq g' g) none (some (.cells c' g' base' elem'))
   |o=>o) }
def rE (a:Addr)(vs:δ):M Unit:=λh=>
 match h.get a.block with
 |some (.cells c g base elem)=>
  if g≠0/\a.off+vs.length<=c.length/\vs.all fC=true then some ((),h.vR a.block (aU c a.off vs) g base elem) else none
 |_=>none
def pI (b:Bool):M Unit:=λh=>match b with
 |true=>some ((),h)
 |false=>none
def nn (p:θ):M Addr:=λh=>match p with
 |some a=>some (a,h)
 |none=>none
def aW (h:aj)(a:θ)(n:Nat):Option δ:=
 match a with
 |none=>if n=0 then some [] else none
 |some a=>match h.get a.block with
  |some (.cells c _ _ _)=>if a.off+n<=c.length then some ((c.drop a.off).take n) else none
  |_=>none
def M5 (s:Sl)(sz:Nat):M δ:=λh=>
 match s.len with
 |0=>some ([],h)
 |n+1=>match aW h s.a ((n+1)*sz) with
  |some cs=>some (cs,h)
  |none=>none
def cP:Nat:=1073741824
def vr (strict:Bool)(s:Sl)(sz:Nat)(elem:μ)(n:Nat)(new:δ):M Sl:=λh=>
 if n=0 then (match s.a with
  |none=>if s.len=0/\s.cap=0/\new=[] then some (s,h) else none
  |some _=>if new=[] then some (s,h) else none) else
 if ¬(s.len+n<=cP/\new.length=n*sz) then none else
 match s.a with
 |none=>if s.len=0/\s.cap=0 then some (⟨some ⟨h.next,0,none⟩,n,0⟩,h.new elem new) else none
 |some a=>
  match aW h (some a) (s.len*sz),h.get a.block with
  |some mR,some (.cells c g base e)=>
   if s.cap≠0/\s.len+n<s.cap then
    if g≠0/\a.off+(s.len*sz+new.length)<=c.length/\strict=false then
     some (⟨some a,s.len+n,s.cap⟩,h.vR a.block (aU c (a.off+s.len*sz) new) g base e) else none
   else if s.cap≠0 then some (⟨some ⟨h.next,0,none⟩,s.len+n,0⟩,h.new elem (mR++new))
   else if g≠0/\e=elem then
    let tipNow:=base+a.off+s.len*sz
    let au:KV:=.cells (mR++new) g (base+a.off) elem
    if h.oz g=tipNow then
     some (⟨some ⟨h.next,0,none⟩,s.len+n,0⟩,
      { h with
       get:=λj=>cond (Nat.beq j h.next) (some au) (idO (h.get j))
       next:=h.next+1
       oz:=λg'=>cond (Nat.beq g' g) (tipNow+new.length) (h.oz g')
       used:=λj=>cond (Nat.beq j h.next) true (h.used j) })
    else if strict=false then
     some (⟨some ⟨h.next,0,none⟩,s.len+n,0⟩,
      { h with
       get:=λj=>cond (Nat.beq j h.next) (some au) (match h.get j with
        |some (.cells c' g' base' elem')=>cond (Nat.beq g' g&&Nat.blt tipNow (base'+c'.length)) none (some (.cells c' g' base' elem'))
        |o=>o)
       next:=h.next+1
       oz:=λg'=>cond (Nat.beq g' g) (tipNow+new.length) (h.oz g')
       used:=λj=>cond (Nat.beq j h.next) true (h.used j) })
    else none
   else none
  |_,_=>none
def app (strict:Bool)(s:Sl)(sz:Nat)(elem:μ)(n:Nat)(new:δ):M Sl:=λh=>
 match strict&&(h.get h.next).isSome with
 |true=>none
 |false=>vr strict s sz elem n new h
def mc (s:Sl)(i:Int)(sz:Nat):M Addr:=λh=>
 match s.a with
 |some a=>if 0<=i/\i<s.len then some (a.plus (i.toNat*sz),h) else none
 |none=>none
def kE (s:ζ)(i:Int):M UInt8:=λh=>
 match (if 0<=i then s[i.toNat]? else none) with
 |some b=>some (b,h)
 |none=>none
def KW (l:uR)(n:Nat)(cs:δ)(j:Int):M l.den:=λh=>
 if 0<=j/\j<(n:Int) then (match cs[j.toNat]? with
  |some v=>(match Cv l v with|some x=>some (x,h)|none=>none)
  |none=>none) else none
def exS (s:ζ)(a b:Nat):ζ:=⟨⟨(s.data.toList.drop a).take (b-a)⟩⟩
theorem Cy s a b:exS s a b=s.extract a b:=by
 have h:(s.extract a b).data.toList=(s.data.toList.drop a).take (b-a):=by simp_all
 unfold exS;rw[<-h]
def iF (s:ζ)(lo hi:Int):M ζ:=λh=>
 if 0<=lo/\lo<=hi/\hi<=s.size then some (exS s lo.toNat hi.toNat,h) else none
def qh (h:aj)(s:Sl)(e:μ):Bool:=
 match s.a with
 |none=>Nat.beq s.len 0&&Nat.beq s.cap 0
 |some a=>match h.get a.block with
  |some (.cells _ g _ e')=>Nat.beq g 0||Nat.beq e' e
  |_=>false
def mY (s:Sl)(lo hi:Int)(e:μ)(sz:Nat):M Sl:=λh=>
 if 0<=lo/\lo<=hi/\hi<=s.len/\qh h s e=true then
  some (⟨s.a.map (·.plus (lo.toNat*sz)),hi.toNat-lo.toNat,s.cap-(if s.cap=0 then 0 else lo.toNat)⟩,h) else none
def ow (a:Addr)(len:Nat)(lo hi:Int)(sz:Nat):M Sl:=λh=>
 if 0<=lo/\lo<=hi/\hi<=(len:Int) then some (⟨some (a.plus (lo.toNat*sz)),hi.toNat-lo.toNat,len-lo.toNat+1⟩,h) else none
def kK (x y:ζ):M ζ:=λh=>
 if x.size+y.size<=cP then some (x++y,h) else none
def Ap (nm:ν)(elem:μ)(zero:δ)(l c:Int):M Sl:=λh=>
 if 0<=l/\l<=c/\c<=cP then (match iB nm elem (List.replicate c.toNat zero).flatten h with
  |some (b,h')=>some (⟨some ⟨b,0,none⟩,l.toNat,c.toNat+1⟩,h')
  |none=>none) else none
def bytesOf (vs:δ):Option (List UInt8):=
 match vs with
 |[]=>some []
 |.int .u8 n::r=>match bytesOf r with
  |some l=>some (UInt8.ofNat n.toNat::l)
  |none=>none
 |_=>none
def ofBytes (l:List UInt8):ζ:=⟨l.toArray⟩
def bI (s:ζ):δ:=s.data.toList.map λb=>.int .u8 b.toNat
def strOf (s:Sl):M ζ:=λh=>
 match aW h s.a s.len with
 |some cs=>(match bytesOf cs with|some l=>some (ofBytes l,h)|none=>none)
 |none=>none
def Hf (elem:μ)(s:ζ):M Sl:=λh=>
 if s.size<=cP then some (⟨some ⟨h.next,0,none⟩,s.size,0⟩,h.new elem (bI s)) else none
def kL:ο->M Bool:=λv h=>match v with
 |.nilIface=>some (true,h)
 |.iface _ _=>some (false,h)
 |_=>none
def eqL:List UInt8->List UInt8->Bool
 |[],[]=>true
 |x::xs,y::ys=>Nat.beq x.toNat y.toNat&&eqL xs ys
 |_,_=>false
def mQ (x y:ζ):Bool:=eqL x.data.toList y.data.toList
def KY:∀{l l'},eqL l l'=true↔l=l'
 |[],[]=>by simp[eqL]
 |[],_::_=>by simp[eqL]
 |_::_,[]=>by simp[eqL]
 |x::l,y::l'=>by
  simp[eqL,abi,KY,Nat.beq_eq,anu,adS]
theorem qI x y:mQ x y=(x.toList==y.toList):=by
 rw[ByteArray.toList_eq,ByteArray.toList_eq,an2,beq_iff_eq];exact KY
def ltS (x y:ζ):Bool:=Op.bytesLess x.toList y.toList
def DN (x y:ο):Bool:=
 match x,y with
 |.int k a,.int k' b=>PZ k k'&&decide (a=b)
 |.bool a,.bool b=>a==b
 |.string a,.string b=>mQ a b
 |_,_=>false
def Aq:δ->δ->Bool
 |[],[]=>true
 |x::xs,y::ys=>DN x y&&Aq xs ys
 |_,_=>false
def Cm (x y:ο):Bool:=
 match x,y with
 |.agg xs,.agg ys=>Aq xs.toList ys.toList
 |x,y=>DN x y
def iG (k:ο):List Ge->Option Ge
 |[]=>none
 |e::r=>match Cm k e.key with
  |true=>some e
  |false=>iG k r
def Ar (k:ο)(es:List Ge):Option ο:=(iG k es).map (·.val)
def rM (k v:ο)(c:Nat):List Ge->List Ge
 |[]=>[⟨k,v,c⟩]
 |e::r=>match Cm k e.key with
  |true=>⟨k,v,e.born⟩::r
  |false=>e::rM k v c r
def JR (b:Nat)(v:ο):List Ge->Option (List Ge)
 |[]=>none
 |e::r=>match Nat.beq e.born b with
  |true=>some (⟨e.key,v,e.born⟩::r)
  |false=>(match JR b v r with|some l=>some (e::l)|none=>none)
def aj.oQ (h:aj)(m:Nat)(x:akE):aj:=
 { h with jW:=λj=>cond (Nat.beq j m) (some x) (h.jW j) }
def DO (kt:μ):M Nat:=λh=>some (h.next,{ h.oQ h.next ⟨kt,0,[]⟩ with next:=h.next+1,used:=λj=>cond (Nat.beq j h.next) true (h.used j) })
def aj.Jc (h:aj)(k:Nat)(kt:μ):aj:={ h.oQ k ⟨kt,0,[]⟩ with used:=λj=>cond (Nat.beq j k) true (h.used j) }
def aj.fresh (h:aj)(k:Nat):Prop:=h.used k=false/\k<h.next/\h.jW k=none/\h.get k=none
def xd (k:Nat)(kt:μ):M Nat:=λh=>if h.used k=false/\k<h.next/\(h.jW k).isNone=true/\(h.get k).isNone=true then some (k,h.Jc k kt) else none
def amr {α}(m:M α):Prop:=∀(h:aj) (k:Nat) (kt:μ) (x:α) (h2:aj),h.fresh k->m (h.Jc k kt)=some (x,h2)->∃h1,m h=some (x,h1)/\h1.fresh k/\h2=h1.Jc k kt
def MoM {α}(m:M α):Prop:=amr m/\∀h x h1,m h=some (x,h1)->h1.jW=h.jW
def aj.DP (h:aj)(kt:μ)(m:Nat):Option (Nat×List Ge):=
 match h.jW m with
 |some x=>(match Nat.beq x.kt kt with|true=>some (x.clock,x.es)|false=>none)
 |none=>none
def zJ (kt:μ)(T:Ty)(z:T.den)(m:ν)(k:ο):M (Bool×T.den):=λh=>
 match m with
 |none=>some ((false,z),h)
 |some m=>(match h.DP kt m with
  |some (_,es)=>(match Ar k es with
   |some v=>(match M4 T v with|some x=>some ((true,x),h)|none=>none)
   |none=>some ((false,z),h))
  |none=>none)
def FM (kt:μ)(m:ν)(k v:ο):M Unit:=λh=>
 match m with
 |none=>none
 |some m=>(match h.DP kt m with
  |some (c,es)=>some ((),h.oQ m ⟨kt,(match iG k es with|some _=>c|none=>c+1),rM k v c es⟩)
  |none=>none)
def yI (kt:μ)(T:Ty)(z:T.den)(m:ν)(k:ο):M (T.den×Nat):=λh=>
 match m with
 |none=>none
 |some m=>(match h.DP kt m with
  |some (c,es)=>(match iG k es with
   |some e=>(match M4 T e.val with|some x=>some ((x,e.born),h)|none=>none)
   |none=>some ((z,c),h.oQ m ⟨kt,c+1,rM k (EG T z) c es⟩))
  |none=>none)
def yJ (m:ν)(st:Int)(v:ο):M Unit:=λh=>
 match m with
 |none=>none
 |some m=>(match h.jW m with
  |some x=>(match decide (0<=st),JR st.toNat v x.es with
   |true,some es=>some ((),h.oQ m ⟨x.kt,x.clock,es⟩)
   |_,_=>none)
  |none=>none)
def M6 (m:ν):M Nat:=λh=>
 match m with
 |none=>some (0,h)
 |some m=>(match h.jW m with
  |some x=>some (x.es.length,h)
  |none=>none)
def JS (d s:Sl)(sz:Nat):M Nat:=λh=>
 match aW h s.a (Nat.min s.len d.len*sz) with
 |some []=>some (Nat.min s.len d.len,h)
 |some cs=>(match d.a with
  |none=>none
  |some a=>(match rE a cs h with
   |some (_,h')=>some (Nat.min s.len d.len,h')
   |none=>none))
 |none=>none
def nnF (x:ο):M Unit:=λh=>
 match x with
 |.func (.func _) _ _=>some ((),h)
 |_=>none
def rN (g:FuncId)(x:ο):Bool:=
 match x with
 |.func (.func f) first _=>Nat.beq f g&&first.toList.isEmpty
 |_=>false
def KZ (x:ο):δ:=
 match x with
 |.func _ _ caps=>caps.toList
 |_=>[]
def qq cs (x:ο):M (aY cs):=λh=>
 match xX cs (KZ x) with
 |some c=>some (c,h)
 |none=>none
def Uh:δ->δ->Bool
 |[],[]=>true
 |.pointer (some ⟨a,b,none⟩)::r,.pointer (some ⟨c,d,none⟩)::s=>Nat.beq a c&&Nat.beq b d&&Uh r s
 |_,_=>false
def RN:∀{x y},Uh x y=true->x=y:=by
 intro x
 induction x with
 |nil=>intro y h;cases y<;>first|rfl|cases h
 |cons v r ih=>
  intro y h;cases y with
  |nil=>unfold Uh at h;simp at h
  |cons w s=>
   unfold Uh at h;split at h
   .simp_all
   .rename_i e1 e2;cases e1;cases e2;simp only[abi] at h;rw[IT h.1.1,IT h.1.2,ih h.2]
   .cases h
def ags (x y:ο):Bool:=
 match x,y with
 |.int k a,.int k' b=>PZ k k'&&decide (a=b)
 |.bool a,.bool b=>a==b
 |.string a,.string b=>mQ a b
 |.pointer none,.pointer none=>true
 |.pointer (some ⟨a,b,none⟩),.pointer (some ⟨c,d,none⟩)=>Nat.beq a c&&Nat.beq b d
 |.slice none a b,.slice none c d=>Nat.beq a c&&Nat.beq b d
 |.slice (some ⟨a,b,none⟩) m n,.slice (some ⟨c,d,none⟩) m' n'=>Nat.beq a c&&Nat.beq b d&&(Nat.beq m m'&&Nat.beq n n')
 |.map none,.map none=>true
 |.map (some a),.map (some b)=>Nat.beq a b
 |.func (.func f) a c,.func (.func g) b d=>Nat.beq f g&&(Uh a.toList b.toList&&Uh c.toList d.toList)
 |_,_=>false
def abP:δ->δ->Bool
 |[],[]=>true
 |x::xs,y::ys=>ags x y&&abP xs ys
 |_,_=>false
def abQ {x y}(h:ags x y=true):x=y:=by
 unfold ags at h;split at h
 .rename_i k a k' b;simp at h;obtain⟨h1,rfl⟩:=h;cases k<;>cases k'<;>first|rfl|cases h1
 .rw[eq_of_beq h]
 .rename_i a b;obtain⟨⟨a⟩⟩:=a;obtain⟨⟨b⟩⟩:=b;have h:eqL a b=true:=h;rw[KY.1 h]
 .rfl
 .simp_all
 .simp_all
 .simp_all
 .rfl
 .simp_all
 .rename_i f a c g b d;simp only[abi] at h;rw[IT h.1,Array.toList_inj.1 (RN h.2.1),Array.toList_inj.1 (RN h.2.2)]
 .cases h
theorem RP:∀{x y},abP x y=true->x=y
 |[],[],_=>rfl
 |[],_::_,h=>by cases h
 |_::_,[],h=>by cases h
 |x::xs,y::ys,h=>by
  simp[abP,abi] at h;rw[abQ h.1,RP h.2]
def gW (h h':aj)(b:Addr):Prop:=
 match h.get b.block,h'.get b.block with
 |some (.cells c g base e),some (.cells c' g' base' e')=>g'=g/\base'=base/\e'=e/\c'.length=c.length/\c'.drop b.off=c.drop b.off
 |x,y=>y=x
def eqC (h h':aj)(b:Addr):Bool:=
 match h.get b.block,h'.get b.block with
 |some (.cells c g base e),some (.cells c' g' base' e')=>Nat.beq g' g&&Nat.beq base' base&&Nat.beq e' e&&Nat.beq c'.length c.length&&abP (c'.drop b.off) (c.drop b.off)
 |none,none=>true
 |_,_=>false
def agt {h h'}{b}(he:eqC h h' b=true):gW h h' b:=by
 unfold eqC at he;unfold gW;split at he
 .rename_i c g base e c' g' base' e' h1 h2;rw[h1,h2];simp only[abi] at he
  grind [Nat.eq_of_beq_eq_true,RP]
 .grind
 .cases he
def aeO h h' b:Decidable (gW h h' b):=
 match hb:eqC h h' b with
 |true=>isTrue (agt hb)
 |false=>h.dec (gW h h' b)
def sameAt (h h':aj):List θ->Bool
 |[]=>true
 |none::r=>sameAt h h' r
 |some b::r=>(match aeO h h' b with
  |isTrue _=>sameAt h h' r
  |isFalse _=>false)
def uC {α}(as:List θ)(m:M α):M α:=λh=>
 match m h with
 |some (x,h')=>(match sameAt h h' as with
  |true=>some (x,h')
  |false=>none)
 |none=>none
inductive Act:Type 1 where
 |val (v:ο)
 |ask (α:Type) (m:M α) (k:α->Act)
 |none
def Act.run {R}:Act->(ο->M R)->M R
 |.val v,K=>K v
 |.ask _ m k,K=>sh m λx=>(k x).run K
 |.none,_=>AS
def Act.exec:Act->aj->Option (ο×aj)
 |.val v,h=>Option.some (v,h)
 |.ask _ m k,h=>match m h with
  |Option.some (x,h')=>(k x).exec h'
  |Option.none=>Option.none
 |.none,_=>Option.none
def La:TypeDesc->Option uR
 |.bool=>some .bool
 |.int k=>some (.int k)
 |.string=>some .str
 |.pointer _=>some .ptr
 |.slice _=>some .sl
 |.map _ _=>some .mp
 |.float .f64=>some .f64
 |.unsafePointer=>some .ptr
 |.struct _ | .array _ _ | .tuple _ | .named _ _ | .invalid=>none
 |_=>some .raw
def bU (P:Program)(t:μ):ν:=
 match P.info? t with
 |some i=>some i.size
 |none=>none
def Hg {α:Type}:List (Option (List α))->Option (List α)
 |[]=>some []
 |some l::r=>(match Hg r with|some m=>some (l++m)|none=>none)
 |none::_=>none
def leaves (P:Program):Nat->μ->Option (List uR)
 |0,_=>none
 |n+1,t=>
  match P.underlying t with
  |some (.struct fs)=>Hg (fs.toList.map λf=>leaves P n f.type)
  |some (.array len e)=>Hg (List.replicate len (leaves P n e))
  |some d=>(match La d with|some l=>some [l] | none=>none)
  |none=>none
def As:TypeDesc->Bool
 |.struct _ | .array _ _=>true
 |_=>false
def akG (P:Program)(t:μ):Option Ty:=
 match P.underlying t with
 |some d=>(match As d with
  |true=>(match leaves P 12 t with|some ls=>some (.agg ls)|none=>none)
  |false=>(match La d with|some l=>some (.one l)|none=>none))
 |none=>none
def vt (P:Program)(t:μ):Option uR:=
 match P.underlying t,bU P t with
 |some (.int k),some 1=>some (.int k)
 |some .bool,some 1=>some .bool
 |some .string,some 1=>some .str
 |_,_=>none
def Hh (P:Program):List Field->Nat->Option (List uR)
 |[],_=>some []
 |f :: fs, o => (match f.name == "_", Nat.beq f.offset o, vt P f.type, Hh P fs (o+1) with
  |false,true,some l,some ls=>some (l::ls)
  |_,_,_,_=>none)
def M7 (P:Program)(t:μ):Option Ty:=
 match P.underlying t with
 |some (.struct fs)=>(match P.stoodInHeld t,Hh P fs.toList 0 with
  |false,some ls=>some (.agg ls)
  |_,_=>none)
 |some (.array n e)=>(match vt P e with
  |some l=>some (.agg (List.replicate n l))
  |none=>none)
 |_=>(match vt P t with|some l=>some (.one l)|none=>none)
def ju (l:uR)(v:ο):Bool:=
 match l,v with
 |.int k,.int k' _=>PZ k k'
 |.bool,.bool _=>true
 |.str,.string _=>true
 |_,_=>false
def fR:List uR->δ->Bool
 |[],[]=>true
 |l::ls,v::vs=>ju l v&&fR ls vs
 |_,_=>false
def Ui (T:Ty)(v:ο):Bool:=
 match T,v with
 |.one l,v=>ju l v
 |.agg ls,.agg cs=>fR ls cs.toList
 |_,_=>false
def qs (P:Program)(t:μ)(v:ο):Bool:=
 match M7 P t with
 |some K=>Ui K v
 |none=>false
def DQ (a:Addr):List uR->Nat->δ->Act
 |[],_,acc=>.val (.agg acc.reverse.toArray)
 |l::ls,i,acc=>.ask l.den (eU l (a.plus i)) λx=>DQ a ls (i+1) (M0 l x::acc)
def bK ls (a:Addr):M (cF ls):=λh=>
 match aW h (some a) ls.length with
 |some vs=>(match Cw ls vs with|some x=>some (x,h)|none=>none)
 |none=>none
def Jd (P:Program)(t:μ)(a:Addr):Act:=
 match P.underlying t,bU P t with
 |some d,some n=>
  (match As d with
  |true=>(match leaves P 12 t with
   |some ls=>(match Nat.beq ls.length n with|true=>.ask (cF ls) (bK ls a) λx=>.val (.agg (Jg ls x).toArray)|false=>.none)
   |none=>.none)
  |false=>(match La d with
   |some l=>.ask l.den (eU l a) λx=>.val (M0 l x)
   |none=>.none))
 |_,_=>.none
def zeroOf (P:Program)(t:μ):Option ο:=
 match P.info? t with
 |some i=>(match i.zero with
  |some v=>(match v.cells.toList.all dL&&Nat.beq v.cells.size i.size with|true=>some v|false=>none)
  |none=>none)
 |none=>none
def GO (P:Program)(op:BinOp)(t:μ)(v:ο):Act:=
 match op,P.underlying t with
 |.eql,some (.interface _)=>.ask Bool (kL v) λb=>.val (.bool b)
 |.neq,some (.interface _)=>.ask Bool (kL v) λb=>.val (.bool (!b))
 |_,_=>.none
def M8 (op:BinOp)(k:IntKind)(a:Int)(k':IntKind)(b:Int):Act:=
 match op with
 |.shl=>.ask Unit (pI (decide (0<=b))) λ_=>.val (.int k (k.wrap (a*2^(min b.toNat k.bits))))
 |.shr=>.ask Unit (pI (decide (0<=b))) λ_=>.val (.int k (a.fdiv (2^(min b.toNat k.bits))))
 |op=>(match PZ k k' with
  |false=>.none
  |true=>(match op with
   |.add=>.val (.int k (k.wrap (a+b)))
   |.sub=>.val (.int k (k.wrap (a-b)))
   |.mul=>.val (.int k (k.wrap (a*b)))
   |.quo=>.ask Unit (pI (decide (b≠0))) λ_=>.val (.int k (k.wrap (a.tdiv b)))
   |.rem=>.ask Unit (pI (decide (b≠0))) λ_=>.val (.int k (a.tmod b))
   |.and=>.val (.int k (k.wrap (BitVec.ofInt k.bits a&&&BitVec.ofInt k.bits b).toNat))
   |.or=>.val (.int k (k.wrap (BitVec.ofInt k.bits a|||BitVec.ofInt k.bits b).toNat))
   |.xor=>.val (.int k (k.wrap (BitVec.ofInt k.bits a^^^BitVec.ofInt k.bits b).toNat))
   |.andNot=>.val (.int k (k.wrap (BitVec.ofInt k.bits a&&&~~~BitVec.ofInt k.bits b).toNat))
   |.eql=>.val (.bool (decide (a=b)))
   |.neq=>.val (.bool (!decide (a=b)))
   |.lss=>.val (.bool (decide (a<b)))
   |.leq=>.val (.bool (decide (a<=b)))
   |.gtr=>.val (.bool (decide (b<a)))
   |.geq=>.val (.bool (decide (b<=a)))
   |_=>.none))
def M9 (op:BinOp)(a b:ζ):Act:=
 match op with
 |.add=>.ask ζ (kK a b) λs=>.val (.string s)
 |.eql=>.val (.bool (mQ a b))
 |.neq=>.val (.bool (!mQ a b))
 |.lss=>.val (.bool (ltS a b))
 |.leq=>.val (.bool (ltS a b||mQ a b))
 |.gtr=>.val (.bool (!(ltS a b||mQ a b)))
 |.geq=>.val (.bool (!ltS a b))
 |_=>.none
def zK (op:BinOp)(b:Bool):Act:=
 match op with
 |.eql=>.val (.bool b)
 |.neq=>.val (.bool (!b))
 |_=>.none
def eq1 (P:Program)(t:μ)(x y:ο):Option Bool:=
 match x,y with
 |.int k a,.int k' b=>(match P.underlying t with
  |some (.int _)=>(match PZ k k' with|true=>some (decide (a=b))|false=>none)
  |_=>none)
 |.bool a,.bool b=>(match P.underlying t with|some .bool=>some (a==b)|_=>none)
 |.string a,.string b=>(match P.underlying t with|some .string=>some (mQ a b)|_=>none)
 |_,_=>none
def Nc (P:Program):List Field->Nat->δ->δ->Option Bool
 |[],_,xs,ys=>(match xs,ys with | [],[]=>some true|_,_=>none)
 |f::fs,o,xs,ys=>(match xs,ys with
  |x :: xs, y :: ys => (match f.name == "_", Nat.beq f.offset o with
   |false,true=>(match eq1 P f.type x y with
    |some a=>(match Nc P fs (o+1) xs ys with|some b=>some (a&&b)|none=>none)
    |none=>none)
   |_,_=>none)
  |_,_=>none)
def Jh (o:ν):M Nat:=λh=>match o with
 |some r=>some (r,h)
 |none=>none
def akI (a b:Nat):M Nat:=Jh (FloatKind.f64.format.add a b)
def akJ (a b:Nat):M Nat:=Jh (FloatKind.f64.format.sub a b)
def Nd (a b:Nat):M Nat:=Jh (FloatKind.f64.format.mul a b)
def akK (a b:Nat):M Nat:=Jh (FloatKind.f64.format.div a b)
def zL (a b:Nat):Bool:=FloatKind.f64.format.order a b==some .eq
def Xg (a b:Nat):Bool:=FloatKind.f64.format.order a b==some .lt
def P0 (a b:Nat):Bool:=FloatKind.f64.format.order a b==some .gt
def Xh (n:Int):Nat:=FloatKind.f64.nearest n
def agu (b:Nat):Nat:=Op.negFloat .f64 b
def Nf (op:BinOp)(a b:Nat):Act:=
 match op with
 |.add=>.ask Nat (akI a b) λr=>.val (.float .f64 r)
 |.sub=>.ask Nat (akJ a b) λr=>.val (.float .f64 r)
 |.mul=>.ask Nat (Nd a b) λr=>.val (.float .f64 r)
 |.quo=>.ask Nat (akK a b) λr=>.val (.float .f64 r)
 |.eql=>.val (.bool (zL a b))
 |.neq=>.val (.bool (!zL a b))
 |.lss=>.val (.bool (Xg a b))
 |.leq=>.val (.bool (Xg a b||zL a b))
 |.gtr=>.val (.bool (P0 a b))
 |.geq=>.val (.bool (P0 a b||zL a b))
 |_=>.none
def Xi (P:Program)(op:BinOp)(t:μ)(x y:ο):Act:=
 match x,y with
 |.int k a,.int k' b=>M8 op k a k' b
 |.string a,.string b=>M9 op a b
 |.float .f64 a,.float .f64 b=>Nf op a b
 |.bool a,.bool b=>(match P.underlying t with|some .bool=>zK op (a==b)|_=>.none)
 |.slice a _ _,.slice none _ _=>(match P.underlying t with|some (.slice _)=>zK op a.isNone|_=>.none)
 |.pointer a,.pointer none=>(match P.underlying t with|some (.pointer _)=>zK op a.isNone|_=>.none)
 |.map a,.map none=>(match P.underlying t with|some (.map _ _)=>zK op a.isNone|_=>.none)
 |.agg xs,.agg ys=>(match P.underlying t,P.stoodInHeld t,P.eqGuardType P.depth t with
  |some (.struct fs),false,false=>(match Nc P fs.toList 0 xs.toList ys.toList with|some b=>zK op b|none=>.none)
  |_,_,_=>.none)
 |_,_=>.none
def Xj (P:Program)(op:BinOp)(t:μ)(x y:ο):Act:=
 match y with
 |.nilIface=>GO P op t x
 |y=>Xi P op t x y
def aun (op:UnOp)(x:ο):Act:=
 match op,x with
 |.neg,.int k n=>.val (.int k (k.wrap (0-n)))
 |.not,.bool b=>.val (.bool (!b))
 |.neg,.float .f64 b=>.val (.float .f64 (agu b))
 |_,_=>.none
def inB (a:Addr):M Addr:=λh=>
 match h.get a.block with
 |some (.cells c _ _ _)=>if a.off<c.length then some (a,h) else none
 |_=>none
def Xk:List (Nat×Nat×Nat×Nat):=[]
def akM (u e n o:Nat):Bool:=Xk.any λx=>Nat.beq x.2.2.2 u&&Nat.beq x.1 e&&Nat.ble x.2.1 n&&Nat.beq x.2.2.1 o
def aeP (P:Program)(u:Nat):Bool:=Xk.all λx=>!(Nat.beq x.2.2.2 u)||(Nat.beq (P.cellsOf x.1) x.2.1&&rowAt P (sameLayout P P.depth · u) P.depth x.1 1 x.2.2.1 1)
def atB (u:μ)(k:Nat)(a:Addr):M Addr:=λh=>
 match h.get a.block with
 |some (.cells c g _ e)=>if g=a.block+1/\((k<=c.length/\e=u/\a.off=0)\/akM u e c.length a.off=true) then some (a,h) else none
 |_=>none
def aj.shut (h:aj)(g:Nat):aj:={ h with get:=λj=>match h.get j with
 |some (.cells c' g' base' e')=>cond (Nat.beq g' g) none (some (.cells c' g' base' e'))
 |o=>o }
def abR (e:μ)(p:θ)(n:Int):M ζ:=λh=>
 match p with
 |none=>if n=0 then some (ofBytes [],h) else none
 |some a=>(match h.get a.block,aW h (some a) n.toNat with
  |some (.cells _ g _ e'),some cs=>if 0<n/\n<=1073741824/\g≠0/\e'=e then (match bytesOf cs with|some l=>some (ofBytes l,h.shut g)|none=>none) else none
  |_,_=>none)
def FN (p:θ)(n:Nat):M θ:=λh=>
 match p with
 |none=>some (none,h)
 |some a=>if n≠0 then some (some a,h) else none
def Ng (P:Program)(src dst:μ)(x:ο):Act:=
 match P.underlying src,P.underlying dst,x with
 |some (.pointer t),some .unsafePointer,.pointer p=>(match bU P t with
  |some (_+1)=>.ask Addr (nn p) λa=>.ask Addr (inB a) λa=>.val (.pointer (some a))
  |_=>.none)
 |some .unsafePointer,some (.pointer u),.pointer p=>(match bU P u with
  |some (k+1)=>(match Nat.beq (P.cellsOf u) (k+1)&&rowAt P (sameLayout P P.depth · u) P.depth u 1 0 1&&aeP P u with
   |true=>.ask Addr (nn p) λa=>.ask Addr (atB u (k+1) a) λa=>.val (.pointer (some a))
   |false=>.none)
  |_=>.none)
 |some (.int _),some (.int k),.int _ n=>.val (.int k (k.wrap n))
 |some (.int _),some (.float .f64),.int _ n=>.val (.float .f64 (Xh n))
 |some .string,some (.slice e),.string s=>(match P.underlying e,bU P e with
  |some (.int .u8),some 1=>.ask Sl (Hf e s) λr=>.val (.slice r.a r.len r.cap)
  |_,_=>.none)
 |some (.slice e),some .string,.slice a n c=>(match P.underlying e with
  |some (.int .u8)=>.ask ζ (strOf ⟨a,n,c⟩) λs=>.val (.string s)
  |_=>.none)
 |_,_,_=>.none
def partsOf (E:Env):List (Nat×Operand)->Option (List (Nat×ο))
 |[]=>some []
 |(i,x)::r=>match E.ev x,partsOf E r with
  |some v,some vs=>some ((i,v)::vs)
  |_,_=>none
def At (place:Nat->Option (Nat×Nat))(cells:δ):List (Nat×ο)->Option δ
 |[]=>some cells
 |(i,v)::rest=>
  match place i with
  |none=>none
  |some (off,size)=>
   match Nat.beq v.cells.size size&&Nat.ble (off+v.cells.size) cells.length with
   |true=>At place (aU cells off v.cells.toList) rest
   |false=>none
def placesOf (P:Program):List Field->Option (List (Nat×Nat))
 |[]=>some []
 |f::r=>match bU P f.type,placesOf P r with
  |some n,some l=>some ((f.offset,n)::l)
  |_,_=>none
def Lb (P:Program)(t:μ)(parts:List (Nat×ο)):Act:=
 match P.underlying t,zeroOf P t with
 |some (.struct fs),some z=>(match placesOf P fs.toList with
  |some pl=>(match At (λi=>pl[i]?) z.cells.toList parts with
   |some cs=>.val (.agg cs.toArray)
   |none=>.none)
  |none=>.none)
 |some (.array _ e),some z=>(match bU P e with
  |some n=>(match At (λi=>some (i*n,n)) z.cells.toList parts with
   |some cs=>.val (.agg cs.toArray)
   |none=>.none)
  |none=>.none)
 |_,_=>.none
def uD (P:Program)(nm:ν)(t:μ)(len:Nat)(parts:List (Nat×ο)):Act:=
 match P.underlying t with
 |some (.slice e)=>(match bU P e,zeroOf P e with
  |some n,some z=>(match Nat.ble (len*n) 16777216,At (λi=>some (i*n,n)) (List.replicate len z.cells.toList).flatten parts with
   |true,some cs=>.ask Nat (iB nm e cs) λb=>.val (.slice (some ⟨b,0,none⟩) len (len+1))
   |_,_=>.none)
  |_,_=>.none)
 |_=>.none
def Au (v:ο)(k:Addr->Act):Act:=
 match v with
 |.pointer (some a)=>k a
 |_=>.none
def Gf (E:Env):Option Operand->Option (Option ο)
 |some x=>(match E.ev x with|some v=>some (some v)|none=>none)
 |none=>some none
def Hi (P:Program)(t:μ)(x:ο)(lo hi mx:Option ο):Act:=
 match P.underlying t,x,mx with
 |some .string,.string s,none=>(match lo,hi with
  |none,none=>.ask ζ (iF s 0 s.size) λr=>.val (.string r)
  |some (.int _ l),none=>.ask ζ (iF s l s.size) λr=>.val (.string r)
  |none,some (.int _ h)=>.ask ζ (iF s 0 h) λr=>.val (.string r)
  |some (.int _ l),some (.int _ h)=>.ask ζ (iF s l h) λr=>.val (.string r)
  |_,_=>.none)
 |some (.slice e),.slice a n c,none=>(match bU P e with
  |some z=>(match lo,hi with
   |none,none=>.ask Sl (mY ⟨a,n,c⟩ 0 n e z) λr=>.val (.slice r.a r.len r.cap)
   |some (.int _ l),none=>.ask Sl (mY ⟨a,n,c⟩ l n e z) λr=>.val (.slice r.a r.len r.cap)
   |none,some (.int _ h)=>.ask Sl (mY ⟨a,n,c⟩ 0 h e z) λr=>.val (.slice r.a r.len r.cap)
   |some (.int _ l),some (.int _ h)=>.ask Sl (mY ⟨a,n,c⟩ l h e z) λr=>.val (.slice r.a r.len r.cap)
   |_,_=>.none)
  |none=>.none)
 |some (.array len e),.pointer (some a),none=>(match bU P e with
  |some z=>(match lo,hi with
   |none,none=>.ask Sl (ow a len 0 len z) λr=>.val (.slice r.a r.len r.cap)
   |some (.int _ l),none=>.ask Sl (ow a len l len z) λr=>.val (.slice r.a r.len r.cap)
   |none,some (.int _ h)=>.ask Sl (ow a len 0 h z) λr=>.val (.slice r.a r.len r.cap)
   |some (.int _ l),some (.int _ h)=>.ask Sl (ow a len l h z) λr=>.val (.slice r.a r.len r.cap)
   |_,_=>.none)
  |none=>.none)
 |_,_,_=>.none
def rO (P:Program)(strict:Bool)(b:Builtin)(ts:List μ)(vs:δ):Act:=
 match b,ts,vs with
 |.len,t::_,[.string s]=>(match P.underlying t with|some .string=>.val (.int .i64 s.size)|_=>.none)
 |.len,t::_,[.slice _ n _]=>(match P.underlying t with|some (.slice _)=>.val (.int .i64 n)|_=>.none)
 |.copy,[t,t'],[.slice a n c,.slice a' n' c']=>(match P.underlying t,P.underlying t' with
  |some (.slice e),some (.slice _)=>(match bU P e with
   |some z=>.ask Nat (JS ⟨a,n,c⟩ ⟨a',n',c'⟩ z) λk=>.val (.int .i64 k)
   |none=>.none)
  |_,_=>.none)
 |.min,_,[.int k x,.int k' y]=>(match PZ k k' with|true=>.val (.int k (if y<x then y else x))|false=>.none)
 |.max,_,[.int k x,.int k' y]=>(match PZ k k' with|true=>.val (.int k (if x<y then y else x))|false=>.none)
 |.append,[t,t'],[.slice a n c,.slice a' n' c']=>(match P.underlying t,P.underlying t' with
  |some (.slice e),some (.slice e')=>(match bU P e,zeroOf P e,bU P e' with
   |some z,some _,some z'=>(match Nat.beq z z'&&Nat.ble ((match P.info? e with|some i=>i.bytes|none=>0)) 4096 with
    |true=>.ask δ (M5 ⟨a',n',c'⟩ z) λcs=>.ask Sl (app strict ⟨a,n,c⟩ z e n' cs) λr=>.val (.slice r.a r.len r.cap)
    |false=>.none)
   |_,_,_=>.none)
  |_,_=>.none)
 |.append,[t,t'],[.slice a n c,.string s]=>(match P.underlying t,P.underlying t' with
  |some (.slice e),some .string=>(match P.underlying e,zeroOf P e,bU P e with
   |some (.int .u8),some _,some 1=>(match Nat.ble ((match P.info? e with|some i=>i.bytes|none=>0)) 4096 with
    |true=>.ask Sl (app strict ⟨a,n,c⟩ 1 e s.size (bI s)) λr=>.val (.slice r.a r.len r.cap)
    |false=>.none)
   |_,_,_=>.none)
  |_,_=>.none)
 |.unsafeSliceData,_,[.slice a n _]=>.ask θ (FN a n) λp=>.val (.pointer p)
 |.unsafeString,t::_,[.pointer p,.int .i64 n]=>(match P.underlying t with
  |some (.pointer e)=>(match Nat.beq (P.cellsOf e) 1 with
   |true=>.ask ζ (abR e p n) λs=>.val (.string s)
   |false=>.none)
  |_=>.none)
 |_,_,_=>.none
def eqP (a b:θ):M Bool:=λh=>match a,b with
 |some a,some b=>(match Nat.beq a.block b.block&&Nat.beq a.off b.off with|true=>some (true,h)|false=>none)
 |_,_=>none
def akN:Operand->ο->ο->Option (θ×θ)
 |.const _,_,_=>none
 |_,.pointer a,.pointer b=>some (a,b)
 |_,_,_=>none
def Xl (y:Operand)(u:ο):Bool:=
 match u with
 |.nilIface=>(match y with | .const _=>true|_=>false)
 |_=>true
def xY (P:Program)(nm:ν)(E:Env)(o:Oper):Act:=
 match o.op with
 |.move x | .assign x=>(match E.ev x with|some v=>.val v|none=>.none)
 |.alloc t=>(match zeroOf P t with
  |some z=>.ask Nat (iB nm t z.cells.toList) λb=>.val (.pointer (some ⟨b,0,none⟩))
  |none=>.none)
 |.box t x=>(match E.ev x with
  |some v=>.ask Nat (iB nm t v.cells.toList) λb=>.val (.pointer (some ⟨b,0,none⟩))
  |none=>.none)
 |.build t parts=>(match partsOf E parts.toList with|some vs=>Lb P t vs|none=>.none)
 |.buildSlice t len parts=>(match partsOf E parts.toList with|some vs=>uD P nm t len vs|none=>.none)
 |.load t x=>(match E.ev x with|some v=>Au v λa=>Jd P t a|none=>.none)
 |.store t x y=>(match E.ev x,E.ev y,bU P t with
  |some v,some u,some n=>Au v λa=>(match Nat.beq u.cells.size n with
   |true=>.ask Unit (rE a u.cells.toList) λ_=>.val undef
   |false=>.none)
  |_,_,_=>.none)
 |.nilCheck x=>(match P.underlying o.type with
  |some (.func _ _ _)=>(match E.ev x with
   |some v=>.ask Unit (nnF v) λ_=>.val v
   |none=>.none)
  |_=>(match E.ev x with
   |some (.pointer p)=>.ask Addr (nn p) λa=>.val (.pointer (some a))
   |_=>.none))
 |.binOp op t x y _=>(match E.ev x,E.ev y with
  |some v,some u=>(match Xl y u with
   |true=>(match akN y v u with
    |some (a,b)=>(match P.underlying t with
     |some (.pointer e)=>(match bU P e with|some _=>.ask Bool (eqP a b) λr=>zK op r|none=>.none)
     |_=>.none)
    |none=>Xj P op t v u)
   |false=>.none)
  |_,_=>.none)
 |.unOp op _ x=>(match E.ev x with|some v=>aun op v|none=>.none)
 |.convert s d x=>(match E.ev x with|some v=>Ng P s d v|none=>.none)
 |.makeInterface t x=>(match E.ev x,P.underlying t with
  |some _,some (.interface _)=>.none
  |some v,some _=>.val (.iface t v)
  |_,_=>.none)
 |.makeFunc fn fs cs=>(match E.PQ fs.toList,E.PQ cs.toList with
  |some f,some c=>.val (.func fn f.toArray c.toArray)
  |_,_=>.none)
 |.makeSlice t l c=>(match P.underlying t,E.ev l,E.ev c with
  |some (.slice e),some (.int _ n),some (.int _ m)=>(match zeroOf P e,Nat.ble ((match P.info? e with|some i=>i.bytes|none=>0)) 4096 with
   |some z,true=>.ask Sl (Ap nm e z.cells.toList n m) λr=>.val (.slice r.a r.len r.cap)
   |_,_=>.none)
  |_,_,_=>.none)
 |.slice t x lo hi mx=>(match E.ev x,Gf E lo,Gf E hi,Gf E mx with
  |some v,some l,some h,some m=>Hi P t v l h m
  |_,_,_,_=>.none)
 |.fieldAddr s x f=>(match P.underlying s,E.ev x with
  |some (.struct fs),some v=>(match fs[f]? with
   |some fd=>(match bU P fd.type with
    |some n=>(match Nat.beq n 0 with
     |true=>.none
     |false=>Au v λa=>.val (.pointer (some (a.plus fd.offset))))
    |none=>.none)
   |none=>.none)
  |_,_=>.none)
 |.field s x f=>(match P.underlying s,E.ev x with
  |some (.struct fs),some (.agg cs)=>(match fs[f]? with
   |some fd=>(match P.underlying fd.type,bU P fd.type with
    |some d,some n=>(match As d with
     |true=>.val (.agg ((cs.toList.drop fd.offset).take n).toArray)
     |false=>(match cs.toList[fd.offset]? with|some v=>.val v|none=>.none))
    |_,_=>.none)
   |none=>.none)
  |_,_=>.none)
 |.indexAddr t x i=>(match P.underlying t,E.ev x,E.ev i with
  |some (.slice e),some (.slice a n c),some (.int _ j)=>(match bU P e with
   |some z=>.ask Addr (mc ⟨a,n,c⟩ j z) λr=>.val (.pointer (some r))
   |none=>.none)
  |some (.array n e),some (.pointer (some a)),some (.int _ j)=>(match bU P e with
   |some z=>.ask Unit (pI (decide (0<=j/\j<(n:Int)))) λ_=>.val (.pointer (some (a.plus (j.toNat*z))))
   |none=>.none)
  |_,_,_=>.none)
 |.index t x i=>(match P.underlying t,E.ev x,E.ev i with
  |some .string,some (.string s),some (.int _ j)=>.ask UInt8 (kE s j) λb=>.val (.int .u8 b.toNat)
  |some (.array n e),some (.agg cs),some (.int _ j)=>(match P.underlying e,bU P e with
   |some d,some 1=>(match As d,La d with
    |false,some l=>.ask l.den (KW l n cs.toList j) λx=>.val (M0 l x)
    |_,_=>.none)
   |_,_=>.none)
  |_,_,_=>.none)
 |.makeMap t r=>(match P.underlying t,Gf E r with
  |some (.map k _),some none=>(match M7 P k with|some _=>(match nm with|none=>.ask Nat (DO k) λm=>.val (.map (some m))|some b=>.ask Nat (xd b k) λm=>.val (.map (some m)))|none=>.none)
  |some (.map k _),some (some (.int _ _))=>(match M7 P k with|some _=>(match nm with|none=>.ask Nat (DO k) λm=>.val (.map (some m))|some b=>.ask Nat (xd b k) λm=>.val (.map (some m)))|none=>.none)
  |_,_=>.none)
 |.lookup t x i ok=>(match P.underlying t,E.ev x,E.ev i with
  |some (.map k e),some (.map m),some kv=>(match qs P k kv,akG P e,zeroOf P e with
   |true,some T,some zv=>(match M4 T zv with
    |some z=>.ask (Bool×T.den) (zJ k T z m kv) λr=>.val (match ok with|true=>.tuple #[EG T r.2,.bool r.1] | false=>EG T r.2)
    |none=>.none)
   |_,_,_=>.none)
  |_,_,_=>.none)
 |.mapEntry t x i=>(match P.underlying t,E.ev x,E.ev i with
  |some (.map k e),some (.map m),some kv=>(match qs P k kv,akG P e,zeroOf P e with
   |true,some T,some zv=>(match M4 T zv with
    |some z=>.ask (T.den×Nat) (yI k T z m kv) λr=>.val (.tuple #[EG T r.1,.int .i64 r.2])
    |none=>.none)
   |_,_,_=>.none)
  |_,_,_=>.none)
 |.entryStore _ x i y=>(match E.ev x,E.ev i,E.ev y with
  |some (.map m),some (.int _ st),some v=>.ask Unit (yJ m st v) λ_=>.val undef
  |_,_,_=>.none)
 |.mapUpdate t x i y | .insert t x i y=>(match P.underlying t,E.ev x,E.ev i,E.ev y with
  |some (.map k _),some (.map m),some kv,some v=>(match qs P k kv with
   |true=>.ask Unit (FM k m kv v) λ_=>.val undef
   |false=>.none)
  |_,_,_,_=>.none)
 |.extract x i=>(match E.ev x with
  |some (.tuple vs)=>(match vs.toList[i]? with|some v=>.val v|none=>.none)
  |_=>.none)
 |.call c=>(match c.callee,E.PQ c.args.toList with
  |.builtin b,some vs=>rO P nm.isSome b c.argTypes.toList vs
  |_,_=>.none)
 |_=>.none
abbrev Path:=η
def child:Code->Nat->Code
 |.seq a _,0=>a
 |.seq _ b,_=>b
 |.cond _ a _,0=>a
 |.cond _ _ b,_=>b
 |.block _ c,_=>c
 |.loop c,_=>c
 |.scope c,_=>c
 |c,_=>c
def gp (c:Code):Path->Code
 |[]=>c
 |i::p=>child (gp c p) i
inductive DR where
 |code (p:Path)
 |au (id:Nat)
 |scp (p:Path)
inductive nP where
 |normal
 |exit (id:Nat)
 |ret
def eqE:nP->nP->Bool
 |.normal,.normal=>true
 |.exit a,.exit b=>Nat.beq a b
 |.ret,.ret=>true
 |_,_=>false
def vZ:Path->Path->Bool
 |[],[]=>true
 |a::p,b::q=>Nat.beq a b&&vZ p q
 |_,_=>false
def eqItems:List DR->List DR->Bool
 |[],[]=>true
 |.code p::k,.code q::l=>vZ p q&&eqItems k l
 |.au a::k,.au b::l=>Nat.beq a b&&eqItems k l
 |.scp p::k,.scp q::l=>vZ p q&&eqItems k l
 |_,_=>false
structure yK:Type 1 where
 α:Type
 m:M α
 pk:α->ο
inductive xe:Type 1 where
 |one (α:Type) (m:M α) (e:nP) (out:α->Env)
 |two (α β:Type) (m:M (α⊕β)) (e:nP) (out:α->Env) (e':nP) (out':β->Env)
 |none
structure Cz:Type 1 where
 st:FuncId->δ->Option yK
 dy:Nat->ο->δ->Option yK
 amu:Nat->Bool
 mo:FuncId->Bool
structure Nh (R:Type) where
 call:Cz
 loop:Path->Env->xe
 join:Path->Option (List DR×(Env->Option (M R)))
 draw:Nat->Option (List (Nat×η))
def tu (id:Nat):List DR->Option (List DR)
 |.au id'::k=>(match Nat.beq id' id with|true=>some k|false=>tu id k)
 |_::k=>tu id k
 |[]=>none
def Env.uE (E:Env)(c:Operand)(b:Bool):Env:=
 match c with
 |.tmp t=>E.set t (.bool b)
 |_=>E
def dU {α β R:Type}(f:α->M R)(g:β->M R):α⊕β->M R
 |.inl x=>f x
 |.inr y=>g y
def callee (E:Env)(c:Call):Option (FuncId×δ):=
 match c.callee,E.PQ c.args.toList with
 |.value f,some vs=>(match E.ev f with
  |some (.func (.func g) first captured)=>some (g,first.toList++vs++captured.toList)
  |_=>none)
 |_,_=>none
def uS (C:Cz)(c:Call):ν:=
 match c.callee with
 |.value (.tmp t)=>(match C.amu t with|true=>some t|false=>none)
 |_=>none
def vu (E:Env)(t:Nat)(c:Call):Option (ο×δ):=
 match E t,E.PQ c.args.toList with
 |some x,some vs=>some (x,vs)
 |_,_=>none
def isBuiltin:Call->Bool:=λc=>match c.callee with
 |.builtin _=>true
 |_=>false
def xz {R}(b:Bool)(x y:M R):M R:=if b=true then x else y
abbrev Wr:=Nat×Option η
def EH (W:Wr)(d:ν):Bool:=
 match d with
 |none=>true
 |some i=>Nat.blt i W.1&&(match W.2 with
  |some l=>l.any (Nat.beq i)
  |none=>true)
abbrev fT:=Nat->Option (Nat×δ)
def fT.emp:fT:=λ_=>none
def Env.del (E:Env)(d:ν):Env:=
 match d with
 |some i=>λj=>cond (Nat.beq j i) none (E j)
 |none=>E
def fT.del (L:fT)(d:ν):fT:=
 match d with
 |some i=>λj=>cond (Nat.beq j i) none (L j)
 |none=>L
def fT.put (L:fT)(d:ν)(x:Nat×δ):fT:=
 match d with
 |some i=>λj=>cond (Nat.beq j i) (some x) (L j)
 |none=>L
def P1 (ops:Array Oper)(t:Nat):Bool:=ops.toList.any λo=>match o.op with
 |.call c=>(match c.callee,c.args.toList with
  |.builtin .append,[_,.tmp u]=>Nat.beq u t
  |_,_=>false)
 |_=>false
def DT (P:Program)(t:μ)(len:Nat)(parts:List (Nat×ο)):Option δ:=
 match P.underlying t with
 |some (.slice e)=>(match bU P e,zeroOf P e with
  |some n,some z=>(match Nat.ble (len*n) 16777216,At (λi=>some (i*n,n)) (List.replicate len z.cells.toList).flatten parts with
   |true,some cs=>(match cs.all fC with|true=>some cs|false=>none)
   |_,_=>none)
  |_,_=>none)
 |_=>none
def v7 (L:fT)(c:Call):Option (Nat×δ):=
 match c.callee,c.args.toList with
 |.builtin .append,[_,.tmp t]=>L t
 |_,_=>none
def rP (P:Program)(strict:Bool)(E:Env)(c:Call)(n:Nat)(cs:δ):Act:=
 match c.argTypes.toList,c.args.toList with
 |[t,t'],[s,_]=>(match E.ev s,P.underlying t,P.underlying t' with
  |some (.slice a m k),some (.slice e),some (.slice _)=>(match bU P e,zeroOf P e with
   |some z,some _=>(match Nat.ble ((match P.info? e with|some i=>i.bytes|none=>0)) 4096 with
    |true=>.ask Sl (app strict ⟨a,m,k⟩ z e n cs) λr=>.val (.slice r.a r.len r.cap)
    |false=>.none)
   |_,_=>.none)
  |_,_,_=>.none)
 |_,_=>.none
def zM (P:Program)(ops:Array Oper)(E:Env)(o:Oper):Option (Nat×δ):=
 match o.op,o.dst with
 |.buildSlice t len parts,some d=>(match P1 ops d with
  |true=>(match partsOf E parts.toList with
   |some vs=>(match DT P t len vs with|some cs=>some (len,cs)|none=>none)
   |none=>none)
  |false=>none)
 |_,_=>none
def tA (cks:List θ):Act->Act
 |.ask α m k=>(match cks with
  |[]=>.ask α m k
  |cks=>.ask α (uC cks m) k)
 |A=>A
def wrapM {α}(cks:List θ)(m:M α):M α:=
 match cks with
 |[]=>m
 |cks=>uC cks m
def Av (l:η)(i:Nat):Bool:=l.any (Nat.beq i)
def BT (ops:Array Oper)(o:Oper):Bool:=
 match o.op with
 |.call c=>(match c.callee with
  |.builtin .append=>(match o.dst with
   |some d=>ops.toList.any λp=>(match p.op with
    |.call c=>!isBuiltin c&&Av (p.op.operands.toList.filterMap λ| .tmp t=>some t|_=>none) d
    |_=>false)
   |none=>false)
  |_=>false)
 |_=>false
def DU (ops:Array Oper)(o:Oper):Bool:=
 match o.op with
 |.call c=>(match c.callee,c.args.toList with
  |.builtin .append,.tmp d::_=>ops.toList.any λp=>(match p.op,p.dst with
   |.buildSlice _ _ _,some e=>Nat.beq d e
   |_,_=>false)
  |_,_=>false)
 |_=>false
def zT (b:Bool)(E:Env)(c:Call)(A:Act):Act:=
 match b with
 |false=>A
 |true=>(match c.args.toList with
  |s::_=>(match E.ev s with
   |some (.slice _ _ k)=>(match Nat.beq k 0 with|true=>.none|false=>A)
   |_=>.none)
  |[]=>.none)
theorem EI {b}{E}{c}{A}{h}{r}(e:(zT b E c A).exec h=some r):zT b E c A=A:=by
 unfold zT at *
 repeat' (first|rfl|(cases e;done)|split at e)
def byB {α:Type 1}(b:Bool)(f:Bool->α):α:=
 match b with
 |true=>f true
 |false=>f false
theorem P2 {α}{b}{f:Bool->α}:byB b f=f b:=by cases b<;>rfl
inductive Cls where
 |sil|ro|mro|alloc|add|mka|eff
def CA:Bool->Cls
 |true=>.eff
 |false=>.add
def cls (P:Program)(ops:Array Oper)(o:Oper):Cls:=
 match o.op with
 |.move _ | .assign _ | .pick _ _ _ | .build _ _ | .nilCheck _ | .binOp _ _ _ _ _ | .unOp _ _ _ | .makeInterface _ _ | .makeFunc _ _ _ | .fieldAddr _ _ _ | .field _ _ _ | .indexAddr _ _ _ | .index _ _ _ | .extract _ _=>.sil
 |.load _ _=>.ro
 |.slice t _ _ _ _=>(match P.underlying t with|some .string=>.sil|some (.slice _)=>.ro|some (.array _ _)=>.sil|_=>.eff)
 |.convert s d _=>(match P.underlying s,P.underlying d with
  |some (.slice _),some .string=>.ro
  |some (.int _),some _=>.sil
  |some .string,some .string=>.sil
  |_,_=>.eff)
 |.buildSlice _ _ _=>(match o.dst with
  |some d=>(match P1 ops d with|true=>.sil|false=>.alloc)
  |none=>.eff)
 |.alloc _ | .box _ _ | .makeSlice _ _ _=>.alloc
 |.lookup _ _ _ _=>.mro
 |.makeMap _ _=>.mka
 |.call c=>(match c.callee with
  |.builtin .append=>CA (BT ops o)
  |.builtin .len=>(match c.argTypes.toList with
   |t::_=>(match P.underlying t with|some (.map _ _)=>.mro|_=>.sil)
   |[]=>.sil)
  |.builtin .min | .builtin .max | .builtin .unsafeSliceData=>.sil
  |_=>.eff)
 |_=>.eff
def zU (o:Oper):Bool:=
 match o.op with
 |.store _ _ _=>true
 |_=>false
def Xm:Cls->Bool
 |.alloc=>true
 |_=>false
def Gg (P:Program)(ops:Array Oper)(nb:ν)(cs:η):η:=
 match nb with
 |none=>[]
 |some b=>(cs.filter λi=>match ops[i]? with
  |some o=>Xm (cls P ops o)
  |none=>false).map (b+·)
def okK (h:aj)(a:Addr)(ks:η):Bool:=
 match h.get a.block with
 |some (.cells _ g _ _)=>ks.all λk=>!Nat.beq a.block k&&!Nat.beq g (k+1)
 |_=>false
def Hj {α}(ks:η)(a:Addr)(m:M α):M α:=λh=>match okK h a ks with
 |true=>m h
 |false=>none
def Ni (ks:η)(a:Addr):Act->Act
 |.ask α m k=>.ask α (Hj ks a m) k
 |A=>A
def xZ {R}(P:Program)(C:Cz)(W:Wr)(nm:ν)(cks:List θ)(ks:η)(ops:Array Oper)(E:Env)(L:fT)(o:Oper)(K:Env->fT->M R):M R:=
 match EH W o.dst with
 |false=>AS
 |true=>
 match o.op with
 |.pick c a b=>(match E.ev c with
  |some (.bool t)=>
   xz t (match (E.uE c true).ev a with|some v=>K ((E.uE c true).put o.dst v) (L.del o.dst)|none=>AS)
    (match (E.uE c false).ev b with|some v=>K ((E.uE c false).put o.dst v) (L.del o.dst)|none=>AS)
  |_=>AS)
 |.call c=>(match isBuiltin c with
  |true=>(match v7 L c with
   |some (n,cs)=>(byB (nm.isSome&&!BT ops o) λb=>tA cks (zT (DU ops o) E c (rP P b E c n cs))).run λv=>K (E.put o.dst v) (L.del o.dst)
   |none=>(match BT ops o with
    |true=>AS
    |false=>(tA cks (zT (DU ops o) E c (xY P nm E o))).run λv=>K (E.put o.dst v) (L.del o.dst)))
  |false=>(match uS C c with
   |some t=>(match vu E t c with
    |some (x,vs)=>(match C.dy t x vs with
     |some ca=>sh (wrapM cks ca.m) λx=>K (E.put o.dst (ca.pk x)) (L.del o.dst)
     |none=>AS)
    |none=>AS)
   |none=>(match callee E c with
    |some (f,vs)=>(match C.st f vs with
     |some ca=>sh (wrapM cks ca.m) λx=>K (E.put o.dst (ca.pk x)) (L.del o.dst)
     |none=>AS)
    |none=>AS)))
 |.store _ x _=>(match ks with
  |[]=>(tA cks (xY P nm E o)).run λv=>K (E.put o.dst v) (L.del o.dst)
  |ks=>(match E.ev x with
   |some (.pointer (some a))=>(Ni ks a (tA cks (xY P nm E o))).run λv=>K (E.put o.dst v) (L.del o.dst)
   |_=>AS))
 |.buildSlice _ _ _=>(match zM P ops E o with
  |some x=>K (E.del o.dst) (L.put o.dst x)
  |none=>(tA cks (xY P nm E o)).run λv=>K (E.put o.dst v) (L.del o.dst))
 |_=>(tA cks (xY P nm E o)).run λv=>K (E.put o.dst v) (L.del o.dst)
def mf (E:Env)(o:Oper):θ:=
 match o.op with
 |.load _ x=>(match E.ev x with|some (.pointer p)=>p|_=>none)
 |.slice _ x _ _ _=>(match E.ev x with|some (.slice a _ _)=>a|_=>none)
 |.convert _ _ x=>(match E.ev x with|some (.slice a _ _)=>a|_=>none)
 |_=>none
abbrev akO:=Nat->θ
def jv {R}(P:Program)(C:Cz)(W:Wr)(nb:ν)(ops:Array Oper):List (Nat×η)->Env->fT->akO->(Env->M R)->M R
 |[],E,_,_,K=>K E
 |(i,cs)::rest,E,L,A,K=>
  match ops[i]? with
  |none=>AS
  |some o=>
   match o.guard with
   |none=>xZ P C W (nb.map (·+i)) (cs.map A) (Gg P ops nb cs) ops E L o λE' L'=>jv P C W nb ops rest E' L' (λj=>cond (Nat.beq j i) (mf E o) (A j)) K
   |some (j,want)=>(match (ops[j]?).bind (·.dst) with
    |some t=>(match E t with
     |some (.bool b)=>
      (match want with
      |true=>xz b (xZ P C W (nb.map (·+i)) (cs.map A) (Gg P ops nb cs) ops (E.set t (.bool true)) L o λE' L'=>jv P C W nb ops rest E' L' (λj=>cond (Nat.beq j i) (mf E o) (A j)) K)
       (match EH W o.dst with
       |true=>jv P C W nb ops rest ((E.set t (.bool false)).put o.dst undef) (L.del o.dst) A K
       |false=>AS)
      |false=>xz b (match EH W o.dst with
       |true=>jv P C W nb ops rest ((E.set t (.bool true)).put o.dst undef) (L.del o.dst) A K
       |false=>AS)
       (xZ P C W (nb.map (·+i)) (cs.map A) (Gg P ops nb cs) ops (E.set t (.bool false)) L o λE' L'=>jv P C W nb ops rest E' L' (λj=>cond (Nat.beq j i) (mf E o) (A j)) K))
     |some (.tuple _)=>(match EH W o.dst with
      |true=>jv P C W nb ops rest (E.put o.dst undef) (L.del o.dst) A K
      |false=>AS)
     |_=>AS)
    |none=>AS)
def eK (ops:Array Oper)(o:Oper):η:=
 (o.op.operands.toList.filterMap λ| .tmp t=>some t|_=>none)++(match o.guard with
  |some (j,_)=>(match (ops[j]?).bind (·.dst) with|some t=>[t] | none=>[])
  |none=>[])
def apart (ops:Array Oper)(o p:Oper):Bool:=
 (match o.dst with|some d=>!Av (eK ops p) d|none=>true)&&(match p.dst with|some d=>!Av (eK ops o) d|none=>true) &&
 (match o.dst,p.dst with|some d,some e=>!Nat.beq d e|_,_=>true)
def Aw (ops:Array Oper)(p:Oper):Bool:=
 match p.op with
 |.store _ _ _=>true
 |.call c=>!isBuiltin c||BT ops p
 |_=>false
def CB (mo:FuncId->Bool)(p:Oper):Bool:=
 match p.op with
 |.call c=>(match c.callee with
  |.value (.func f)=>mo f
  |_=>false)
 |_=>false
def Nj (P:Program)(mo:FuncId->Bool)(ops:Array Oper)(o p:Oper)(ck:Bool):Bool:=
 apart ops o p&&(match cls P ops o,cls P ops p with
  |.sil,_|_,.sil | .ro,.ro | .ro,.alloc | .ro,.add | .alloc,.alloc=>true
  |.ro,.mro | .mro,.ro | .mro,.mro | .mro,.alloc | .mro,.add | .alloc,.mro | .add,.mro=>true
  |.ro,.eff=>ck&&Aw ops p
  |.alloc,.eff=>ck&&zU p
  |.ro,.mka | .mka,.ro | .mka,.alloc | .alloc,.mka | .mro,.mka=>true
  |.mka,.eff | .mro,.eff=>CB mo p
  |.add,.alloc=>DU ops o
  |_,_=>false)
def ya (e:Edge):Bool:=match e.ground with
 |.textOnly _ | .gcOnly _=>false
 |_=>true
def Xn:η->η->η
 |[],a=>a
 |x::l,a=>Xn l (cond (Av a x) a (x::a))
def um (ops:List Oper):List η:=
 ops.foldl (λacc o=>acc++[Xn ((o.after.toList.filter ya).flatMap λe=>e.on::acc.getD e.on []) []]) []
def Lc (P:Program)(mo:FuncId->Bool)(ops:Array Oper)(pr:List η)(i j:Nat)(cj:η):Bool:=
 Av (pr.getD j []) i||(match ops[i]?,ops[j]? with
  |some o,some p=>Nj P mo ops o p (Av cj i)
  |_,_=>false)
def GP (P:Program)(mo:FuncId->Bool)(ops:Array Oper)(pr:List η)(ks:η):List (Nat×η)->Bool
 |[]=>true
 |(i,_)::r=>(r.all λ(j,cj)=>Lc P mo ops pr i j cj||Av ks j)&&GP P mo ops pr ks r
def xf (ops:Array Oper)(k:Nat):ν:=match ops[k]? with
 |some o=>(match o.op,o.guard with
  |.alloc _,none=>o.dst
  |_,_=>none)
 |none=>none
def xA (P:Program)(mo:FuncId->Bool)(ops:Array Oper)(pr:List η):η->List (Nat×η)->List (Nat×Nat×η)
 |_,[]=>[]
 |pre,(j,cj)::r=>(match xf ops j with
  |some d=>(match pre.filter λi=>!Lc P mo ops pr i j cj with
   |[]=>xA P mo ops pr (j::pre) r
   |l=>(j,d,l)::xA P mo ops pr (j::pre) r)
  |none=>xA P mo ops pr (j::pre) r)
def agv (ops:Array Oper)(pr:List η)(bad:η)(k d:Nat):Bool:=ops.toList.zipIdx.all λ(o,b)=>
 (!Av (eK ops o) d||Av (pr.getD b []) k)&&(Nat.beq b k||(match o.dst with|some e=>!Nat.beq e d|none=>true))&&(!Av (pr.getD b []) k||bad.all (Av (pr.getD b [])))
def Xo (P:Program)(mo:FuncId->Bool)(ops:Array Oper)(l:List (Nat×η))(pr:List η):Bool:=
 (λt:List (Nat×Nat×η)=>(λ(ks bad:η)=>GP P mo ops pr ks l&&bad.all (λi=>!Av ks i)&&t.all λ(k,d,_)=>agv ops pr bad k d) (t.map (·.1)) (t.flatMap (·.2.2))) (xA P mo ops pr [] l)
def P3 (P:Program)(mo:FuncId->Bool)(ops:Array Oper)(l:List (Nat×η)):Bool:=
 P.follows .mixedOrders&&(l.map (·.1)).isPerm (List.range ops.size) &&
 (ops.toList.zipIdx.all λ(o,i)=>o.after.toList.all λe=>!ya e||Nat.blt e.on i) &&
 Xo P mo ops l (um ops.toList)
def Xp (P:Program)(ops:Array Oper):Bool:=ops.toList.any λo=>match cls P ops o with
 |.alloc | .mka=>true
 |_=>false
def den {R}(P:Program)(body:Code)(T:Nh R)(W:Wr)(fin:nP->Env->M R):Nat->Bool->List DR->Env->M R
 |0,_,_,_=>AS
 |_+1,_,[],E=>fin .normal E
 |n+1,_,.au _::k,E=>den P body T W fin n true k E
 |n+1,_,.scp _::k,E=>den P body T W fin n true k E
 |n+1,j,.code p::k,E=>
  match (match j with|true=>T.join p|false=>none) with
  |some (k',J)=>(match eqItems k k' with
   |true=>(match J E with|some m=>m|none=>AS)
   |false=>AS)
  |none=>
   match gp body p with
   |.skip=>den P body T W fin n true k E
   |.label _=>den P body T W fin n true k E
   |.seq _ _=>den P body T W fin n true (.code (0::p)::.code (1::p)::k) E
   |.cond c _ _=>(match E.ev c with
    |some (.bool b)=>xz b (den P body T W fin n true (.code (0::p)::k) (E.uE c true))
     (den P body T W fin n true (.code (1::p)::k) (E.uE c false))
    |_=>AS)
   |.block id _=>den P body T W fin n true (.code (0::p)::.au id::k) E
   |.scope _=>den P body T W fin n true (.code (0::p)::.scp (0::p)::k) E
   |.loop _=>(match T.loop p E with
    |.one _ m e out=>sh m λx=>(match e with
     |.normal=>AS
     |.ret=>fin .ret (out x)
     |.exit id=>(match tu id k with
      |some k'=>den P body T W fin n true k' (out x)
      |none=>fin (.exit id) (out x)))
    |.two _ _ m e out e' out'=>sh m (dU
     (λx=>(match e with
      |.normal=>AS
      |.ret=>fin .ret (out x)
      |.exit id=>(match tu id k with
       |some k'=>den P body T W fin n true k' (out x)
       |none=>fin (.exit id) (out x))))
     (λx=>(match e' with
      |.normal=>AS
      |.ret=>fin .ret (out' x)
      |.exit id=>(match tu id k with
       |some k'=>den P body T W fin n true k' (out' x)
       |none=>fin (.exit id) (out' x)))))
    |.none=>AS)
   |.exit id=>(match tu id k with
    |some k'=>den P body T W fin n true k' E
    |none=>fin (.exit id) E)
   |.ret=>fin .ret E
   |.region id ops draw=>(match draw with
    |true=>(match T.draw id with
     |some l=>(match P3 P T.call.mo ops l with
      |true=>(match Xp P ops with
       |true=>sh (eA ops.size) λnb=>jv P T.call W (some nb) ops l E fT.emp (λ_=>none) λE'=>den P body T W fin n true k E'
       |false=>jv P T.call W (some 0) ops l E fT.emp (λ_=>none) λE'=>den P body T W fin n true k E')
      |false=>AS)
     |none=>AS)
    |false=>jv P T.call W none ops ((List.range ops.size).map λi=>(i,[])) E fT.emp (λ_=>none) λE'=>den P body T W fin n true k E')
   |_=>AS
def mg (P:Program):List ResultVar->Env->δ->(δ->Act)->Act
 |[],_,acc,K=>K acc.reverse
 |.tmp t::r,E,acc,K=>(match E t with|some v=>mg P r E (v::acc) K|none=>.none)
 |.cell a t::r,E,acc,K=>(match E a with
  |some (.pointer (some x))=>(match Jd P t x with
   |.val v=>mg P r E (v::acc) K
   |.ask α m k=>.ask α m λx=>resBind (k x) λv=>mg P r E (v::acc) K
   |.none=>.none)
  |_=>.none)
where
 resBind:Act->(ο->Act)->Act
  |.val v,K=>K v
  |.ask α m k,K=>.ask α m λx=>resBind (k x) K
  |.none,_=>.none
def wa (f:Func):Code:=match f.body with
 |some c=>c
 |none=>.skip
def abS ts (v:ο):M (aY ts):=
 match unR ts v with
 |some r=>AI r
 |none=>AS
def Xq (P:Program)(f:Func) ts:nP->Env->M (aY ts):=λe E=>
 match e with
 |.exit _=>AS
 |_=>(mg P f.results.toList E [] λvs=>.val (iK vs)).run (abS ts)
def Nk ls ms (id:Nat)(next:aY (lH ls)->M (aY (lH ms))):nP->Env->M (aY (lH ms)):=λe E=>
 match e with
 |.normal=>(match s6 E ls with
  |some vs=>(match xX (lH ls) vs with|some x=>next x|none=>AS)
  |none=>AS)
 |.exit id'=>(match Nat.beq id id',s6 E ms with
  |true,some vs=>(match xX (lH ms) vs with|some x=>AI x|none=>AS)
  |_,_=>AS)
 |.ret=>AS
def Xr ls ms rs (id:Nat)(e2:nP)(next:aY (lH ls)->M (aY (lH ms)⊕aY (lH rs))) :
  nP->Env->M (aY (lH ms)⊕aY (lH rs)):=λe E=>
 match e with
 |.normal=>(match s6 E ls with
  |some vs=>(match xX (lH ls) vs with|some x=>next x|none=>AS)
  |none=>AS)
 |e=>(match eqE e (.exit id) with
  |true=>(match s6 E ms with
   |some vs=>(match xX (lH ms) vs with|some x=>AI (.inl x)|none=>AS)
   |none=>AS)
  |false=>(match eqE e e2 with
   |true=>(match s6 E rs with
    |some vs=>(match xX (lH rs) vs with|some x=>AI (.inr x)|none=>AS)
    |none=>AS)
   |false=>AS))
def RQ ls rs (next:aY (lH ls)->M (aY (lH rs))):nP->Env->M (aY (lH rs)):=λe E=>
 match e with
 |.normal=>(match s6 E ls with
  |some vs=>(match xX (lH ls) vs with|some x=>next x|none=>AS)
  |none=>AS)
 |.exit _=>AS
 |.ret=>(match s6 E rs with
  |some vs=>(match xX (lH rs) vs with|some x=>AI x|none=>AS)
  |none=>AS)
structure dV where
 id:FuncId
 as:List Ty
 rs:List Ty
 m:aY as->M (aY rs)
def Nl (l:List dV):FuncId->δ->Option yK:=λf vs=>
 match l with
 |[]=>none
 |e::r=>match Nat.beq f e.id with
  |true=>(match xX e.as vs with
   |some x=>some ⟨aY e.rs,e.m x,λy=>iK (fS e.rs y)⟩
   |none=>none)
  |false=>Nl r f vs
structure rF where
 slot:Nat
 as:List Ty
 rs:List Ty
 m:ο->aY as->M (aY rs)
def RR (l:List rF):Nat->ο->δ->Option yK:=λt x vs=>
 match l with
 |[]=>none
 |e::r=>match Nat.beq t e.slot with
  |true=>(match xX e.as vs with
   |some a=>some ⟨aY e.rs,e.m x a,λy=>iK (fS e.rs y)⟩
   |none=>none)
  |false=>RR r t x vs
def aeR (l:List rF)(t:Nat):Bool:=
 match l with
 |[]=>false
 |e::r=>Nat.beq t e.slot||aeR r t
def Nn (l:List dV)(d:List rF)(ms:List FuncId:=[]):Cz:=⟨Nl l,RR d,aeR d,λf=>ms.any (Nat.beq f)⟩
structure DTg (as rs:List Ty) where
 id:FuncId
 cs:List Ty
 m:aY as->aY cs->M (aY rs)
def dsp {as rs}:List (DTg as rs)->ο->aY as->M (aY rs)
 |[],_,_=>AS
 |[e],x,a=>xz (rN e.id x) (sh (qq e.cs x) λc=>e.m a c) AS
 |e::f::r,x,a=>xz (rN e.id x) (sh (qq e.cs x) λc=>e.m a c) (dsp (f::r) x a)
structure Np where
 p:Path
 ls:List (Nat×Ty)
 act:aY (lH ls)->xe
def Hk (l:List Np):Path->Env->xe:=λp E=>
 match l with
 |[]=>.none
 |e::r=>match vZ p e.p with
  |true=>(match s6 E e.ls with
   |some vs=>(match xX (lH e.ls) vs with
    |some x=>e.act x
    |none=>.none)
   |none=>.none)
  |false=>Hk r p E
def akQ (E:Env)(ws:η):Env:=λj=>cond (ws.any (Nat.beq j)) none (E j)
def Xs ls ms (ws:η)(x:aY (lH ls))(y:aY (lH ms)):Env:=abN (akQ (yG ls (fS (lH ls) x)) ws) ms (fS (lH ms) y)
def aeS ls ms (ws:η)(id:Nat)(m:aY (lH ls)->M (aY (lH ms)))(x:aY (lH ls)):xe:=.one (aY (lH ms)) (m x) (.exit id) (Xs ls ms ws x)
def aeT ls rs (ws:η)(m:aY (lH ls)->M (aY (lH rs)))(x:aY (lH ls)):xe:=.one (aY (lH rs)) (m x) .ret (Xs ls rs ws x)
def aeU ls ms rs (ws:η)(id:Nat)(e2:nP)(m:aY (lH ls)->M (aY (lH ms)⊕aY (lH rs)))(x:aY (lH ls)):xe:=
 .two (aY (lH ms)) (aY (lH rs)) (m x) (.exit id) (Xs ls ms ws x) e2 (Xs ls rs ws x)
def Hl (W:Wr)(nt:Nat)(ws:η):Bool:=Nat.beq W.1 nt&&(match W.2 with
 |some l=>ws.all λi=>l.any (Nat.beq i)
 |none=>true)
structure iU (R:Type) where
 p:Path
 k:List DR
 ls:List (Nat×Ty)
 m:aY (lH ls)->M R
def goJ {R} ls (m:aY (lH ls)->M R)(E:Env):Option (M R):=
 match s6 E ls with
 |some vs=>(match xX (lH ls) vs with
  |some x=>some (m x)
  |none=>none)
 |none=>none
def JT {R}(l:List (iU R)):Path->Option (List DR×(Env->Option (M R))):=λp=>
 match l with
 |[]=>none
 |e::r=>match vZ p e.p with
  |true=>some (e.k,goJ e.ls e.m)
  |false=>JT r p
end Go.Ago
