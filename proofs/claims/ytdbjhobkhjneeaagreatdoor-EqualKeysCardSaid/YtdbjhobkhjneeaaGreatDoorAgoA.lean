
import Derived.Laws.Cells
import Derived.Laws.Strings
import Derived.KernelRfl
set_option linter.all false
namespace Go.Ago
abbrev AT:=@if_neg
abbrev By:=@if_pos
abbrev BY:=@List.mem_cons_of_mem
abbrev IN:=@List.mem_of_getElem?
abbrev IS:=@List.mem_cons_self
abbrev IT:=@Nat.eq_of_beq_eq_true
abbrev OF:=@Int.toNat_natCast
abbrev aao:=@Nat.le_refl
abbrev aaq:=@Bool.and_eq_true
abbrev aaH:=@List.length_cons
abbrev aa9:=@List.getElem?_eq_getElem
abbrev abb:=@decide_eq_true_eq
abbrev abi:=@List.getElem?_map
abbrev abm:=@List.cons_append
abbrev abn:=@List.drop_eq_nil_of_le
abbrev abo:=@Option.some.injEq
abbrev abp:=@List.append_assoc
abbrev abq:=@List.mem_append_right
abbrev abr:=@List.nil_append
abbrev abt:=@Nat.le_trans
abbrev abu:=@Option.some.inj
abbrev abv:=@List.map_cons
abbrev abw:=@List.length_append
abbrev abx:=@List.mem_append_left
abbrev abz:=@List.flatMap_cons
abbrev abP:=@List.cons.injEq
abbrev adr:=@List.length_nil
abbrev adz:=@Classical.byContradiction
abbrev adD:=@Bool.false_eq_true
abbrev adR:=@List.length_map
abbrev adU:=@Nat.mul_one
abbrev adW:=@if_false
abbrev adY:=@List.eq_nil_of_length_eq_zero
abbrev aeb:=@Nat.zero_add
abbrev aed:=@Array.getElem?_toList
abbrev aep:=@Nat.mul_le_mul_right
abbrev aeq:=@Option.map_some
abbrev aer:=@List.mem_append
abbrev aes:=@Nat.le_of_ble_eq_true
abbrev aeA:=@List.length_replicate
abbrev aeD:=@List.append_nil
abbrev aeN:=@Nat.add_mul
abbrev afQ:=@List.mem_singleton
abbrev af3:=@List.getD_eq_getElem?_getD
abbrev af4:=@Int.tdiv_eq_ediv_of_nonneg
abbrev af5:=@not_true_eq_false
abbrev af6:=@Int.le_refl
abbrev af7:=@Nat.lt_succ_self
abbrev agi:=@List.eq_of_mem_replicate
abbrev agl:=@List.getElem?_eq_none
abbrev agq:=@List.getElem?_append_right
abbrev agE:=@List.map_append
abbrev agG:=@List.take_of_length_le
abbrev agI:=@List.getElem?_eq_some_iff
abbrev aiP:=@Array.getElem?_eq_getElem
abbrev aiU:=@List.drop_eq_getElem_cons
abbrev aiX:=@List.Sublist.refl
abbrev ajh:=@List.perm_append_comm
abbrev ajq:=@List.length_set
abbrev ajr:=@List.getElem?_drop
abbrev ajt:=@List.all_eq_true
abbrev ajC:=@Array.ext'
abbrev ajM:=@List.length_take
abbrev ajN:=@if_true
abbrev akc:=@List.drop_zero
abbrev akd:=@List.nodup_append
abbrev ake:=@List.count_cons
abbrev akf:=@ByteArray.size_append
abbrev akg:=@Nat.beq_refl
abbrev akh:=@List.nodup_range
abbrev aki:=@List.set_cons_zero
abbrev akj:=@BitVec.toNat_ofInt
abbrev akk:=@Int.eq_ofNat_of_zero_le
abbrev akl:=@true_and
abbrev akm:=@of_decide_eq_true
abbrev akn:=@congrArg
abbrev ako:=@List.count_append
abbrev akp:=@Array.getD_eq_getD_getElem?
abbrev akq:=@List.replicate_succ
abbrev aks:=@Array.toList_append
abbrev aku:=@Nat.zero_le
abbrev aky:=@Nat.lt_of_lt_of_le
abbrev akC:=@List.set_append_right
abbrev akL:=@List.Perm.append_left
abbrev akN:=@ByteArray.data_append
abbrev akW:=@List.sublist_append_right
abbrev ak2:=@Nat.le_succ
abbrev ak3:=@List.mem_cons
abbrev ak6:=@List.Sublist.append
abbrev ak7:=@List.getElem_mem
abbrev ak8:=@ByteArray.data_extract
abbrev alb:=@Nat.add_zero
abbrev alf:=@List.map_map
abbrev alm:=@List.set_cons_succ
abbrev alo:=@List.map_replicate
abbrev alp:=@List.perm_append_comm_assoc
abbrev alv:=@Bool.or_eq_true
abbrev aly:=@Prod.mk.injEq
abbrev alR:=@List.ext_getElem?
abbrev alT:=@cond_false
abbrev alW:=@List.mem_or_eq_of_mem_set
abbrev alX:=@List.getElem?_append_left
abbrev alY:=@List.drop_drop
abbrev alZ:=@Nat.le_add_right
abbrev al0:=@List.sublist_append_left
abbrev al1:=@Option.bind_some
abbrev al2:=@Nat.sub_self
abbrev al3:=@List.not_mem_nil
abbrev al4:=@List.mem_map_of_mem
abbrev al5:=@List.flatMap_append
abbrev al6:=@List.getElem?_cons_succ
abbrev al7:=@Classical.axiomOfChoice
abbrev al8:=@ByteArray.ext
abbrev al9:=@List.filter_append
abbrev ama:=@List.pairwise_cons
abbrev amb:=@Nat.lt_of_le_of_lt
abbrev amc:=@List.sublist_cons_self
abbrev amd:=@List.Perm.append_right
abbrev ame:=@List.getLast?_eq_some_getLast
abbrev amf:=@Bool.not_eq_true'
abbrev amg:=@List.getElem?_toArray
abbrev ami:=@Nat.mul_le_mul
abbrev amj:=@Int.le_trans
abbrev amm:=@Array.getElem?_setIfInBounds
abbrev amr:=@Nat.le_of_lt
abbrev amt:=@List.length_singleton
abbrev amy:=@Nat.mod_lt
abbrev amz:=@List.length_drop
abbrev amA:=@List.take_length
abbrev amB:=@List.replicate_succ'
abbrev amC:=@Nat.shiftLeft_eq
abbrev amD:=@List.perm_middle
abbrev amF:=@Nat.add_assoc
abbrev amH:=@List.cons.inj
abbrev amI:=@Nat.one_mul
abbrev amJ:=@List.filter_sublist
abbrev amK:=@List.length_reverse
abbrev amM:=@Nat.mul_le_mul_left
abbrev amP:=@List.map_congr_left
abbrev amQ:=@List.getElem?_take
abbrev amR:=@List.ne_nil_of_mem
abbrev amW:=@List.Pairwise.imp_of_mem
abbrev amX:=@List.size_toArray
abbrev am1:=@List.take_add_one
abbrev am2:=@List.set_eq_take_append_cons_drop
abbrev am3:=@List.head?_eq_getElem?
abbrev am4:=@ByteArray.append_assoc
abbrev am5:=@Bool.true_and
abbrev am6:=@List.all_cons
abbrev am7:=@List.range'_succ
abbrev am8:=@List.countP_cons
abbrev am9:=@List.take_append_drop
abbrev ana:=@Array.mem_of_getElem?
abbrev anb:=@UInt8.toNat_inj
abbrev ane:=@Bool.eq_iff_iff
abbrev anf:=@Array.toArray_toList
abbrev ang:=@List.mem_filter
abbrev anh:=@List.nodup_cons
abbrev ani:=@List.map_set
abbrev anj:=@Nat.and_two_pow_sub_one_eq_mod
abbrev ank:=@List.count_le_length
abbrev anl:=@List.forall_mem_cons
abbrev anm:=@Nat.div_add_mod
abbrev ann:=@Nat.mul_comm
abbrev ano:=@Nat.shiftLeft_add_eq_or_of_lt
abbrev anp:=@List.nodup_nil
abbrev anq:=@List.dropLast_concat_getLast
abbrev anr:=@List.countP_eq_length_filter
abbrev ans:=@Array.ext_getElem?
abbrev ant:=@Int.natCast_nonneg
abbrev anu:=@Nat.mul_lt_mul_of_pos_right
abbrev anv:=@Bool.not_true
abbrev anw:=@Int.fdiv_eq_ediv_of_nonneg
abbrev anx:=@List.flatten_cons
abbrev anz:=@Nat.lt_trichotomy
abbrev anA:=@List.Pairwise.map
abbrev anB:=@List.getLast?_eq_getElem?
abbrev anD:=@Array.mem_append
abbrev anE:=@Nat.add_comm
abbrev anF:=@BitVec.toNat_and
abbrev anG:=@or_false
abbrev anI:=@List.set_set
abbrev anJ:=@Nat.add_lt_add_iff_right
abbrev anK:=@List.flatMap_map
abbrev anL:=@List.flatMap_nil
abbrev anM:=@List.cons_ne_nil
abbrev anN:=@Option.bind_eq_some_iff
abbrev anO:=@List.append_cancel_left
abbrev anP:=@Nat.min_eq_left
abbrev anQ:=@decide_eq_false
abbrev anR:=@List.range_succ_eq_map
abbrev anS:=@List.dropWhile_sublist
abbrev anT:=@List.mem_iff_getElem?
abbrev anU:=@List.modify_zero_cons
abbrev anV:=@List.mem_range
abbrev anW:=@Bool.false_and
abbrev anX:=@List.singleton_append
abbrev anY:=@List.take_succ
abbrev anZ:=@decide_eq_true
abbrev an0:=@List.countP_le_length
abbrev an1:=@UInt8.lt_iff_toNat_lt
abbrev an2:=@List.getElem?_append
abbrev an3:=@List.getElem?_modify
abbrev an4:=@List.set_append_left
abbrev an5:=@List.getElem?_set_ne
abbrev an6:=@Decidable.of_not_not
abbrev an7:=@Nat.div_lt_of_lt_mul
abbrev an8:=@Option.some_beq_some
abbrev an9:=@List.sum_cons
abbrev aog:=@Int.le_of_lt
open Go
abbrev δ:=List Value
abbrev ε:=List Int
abbrev ζ:=ByteArray
abbrev η:=List Nat
abbrev θ:=Option Addr
abbrev μ:=TypeId
abbrev ν:=Option Nat
abbrev ξ:=Array Value
abbrev ο:=Value
abbrev Env:=Nat->Option ο
def Env.set (E:Env)(i:Nat)(v:ο):Env:=λj=>cond (Nat.beq j i) (some v) (E j)
def Env.put (E:Env)(d:ν)(v:ο):Env:=
 match d with
 |some i=>E.set i v
 |none=>E
def Env.emp:Env:=λ_=>none
def dQ:ο->Bool
 |.bool _ | .int _ _ | .float _ _ | .complex _ _ _ | .string _ | .nilFunc | .nilIface | .pointer none | .map none | .chan none | .slice none _ _=>true
 |_=>false
def flat:ο->Bool
 |.agg cs=>cs.toList.all dQ
 |.tuple vs=>vs.toList.isEmpty
 |.iface _ v=>dQ v
 |v=>dQ v
def Env.ev (E:Env):Operand->Option ο
 |.tmp t=>E t
 |.const v=>match flat v with|true=>some v|false=>none
 |.global _=>none
 |.func f=>some (.func (.func f) #[] #[])
def Env.Pt (E:Env):List Operand->Option δ
 |[]=>some []
 |x::xs=>match E.ev x,E.Pt xs with
  |some v,some vs=>some (v::vs)
  |_,_=>none
def Ro:IntKind->Nat
 |.i8=>0 | .i16=>1 | .i32=>2 | .i64=>3 | .u8=>4 | .u16=>5 | .u32=>6 | .u64=>7
def Pz (a b:IntKind):Bool:=Nat.beq (Ro a) (Ro b)
inductive KE where
 |cells (c:δ) (iL base:Nat) (elem:μ)
 |map (es:List (ο×ο))
 |iter (s:ζ) (pos:Nat)
structure F8 where
 key:ο
 val:ο
 born:Nat
structure akr where
 kt:μ
 clock:Nat
 es:List F8
structure aj where
 jW:Nat->Option akr
 get:Nat->Option KE
 next:Nat
 ot:Nat->Nat
 used:Nat->Bool
 dec:∀p:Prop,Decidable p
abbrev M (α:Type):=aj->Option (α×aj)
def sh {α β}(m:M α)(f:α->M β):M β:=λh=>
 match m h with
 |some (a,h')=>f a h'
 |none=>none
def AI {α}(a:α):M α:=λh=>some (a,h)
def AS {α}:M α:=λ_=>none
structure Sl where
 a:θ
 len:Nat
 cap:Nat
inductive uN where
 |int (k:IntKind)|bool|str|ptr|ak|sl|mp|raw|f64
@[reducible] def uN.den:uN->Type
 |.int _=>Int
 |.bool=>Bool
 |.str=>ζ
 |.ptr=>θ
 |.ak=>Addr
 |.sl=>Sl
 |.mp=>ν
 |.raw=>ο
 |.f64=>Nat
def MJ:(l:uN)->l.den->ο
 |.int k,n=>.int k n
 |.bool,b=>.bool b
 |.str,s=>.string s
 |.ptr,p=>.pointer p
 |.ak,p=>.pointer (some p)
 |.sl,s=>.slice s.a s.len s.cap
 |.mp,r=>.map r
 |.raw,v=>v
 |.f64,n=>.float .f64 n
def Cq:(l:uN)->ο->Option l.den
 |.int .i8,.int .i8 n | .int .i16,.int .i16 n | .int .i32,.int .i32 n | .int .i64,.int .i64 n=>some n
 |.int .u8,.int .u8 n | .int .u16,.int .u16 n | .int .u32,.int .u32 n | .int .u64,.int .u64 n=>some n
 |.bool,.bool b=>some b
 |.str,.string s=>some s
 |.ptr,.pointer p=>some p
 |.ak,.pointer (some p)=>some p
 |.sl,.slice a n c=>some ⟨a,n,c⟩
 |.mp,.map r=>some r
 |.raw,v=>some v
 |.f64,.float .f64 n=>some n
 |_,_=>none
@[reducible] def eC:List uN->Type
 |[]=>Unit
 |[l]=>l.den
 |l::ls=>l.den×eC ls
def I6:(ls:List uN)->eC ls->δ
 |[],_=>[]
 |[l],x=>[MJ l x]
 |l::l'::ls,x=>MJ l x.1::I6 (l'::ls) x.2
def Cr:(ls:List uN)->δ->Option (eC ls)
 |[],[]=>some ()
 |[l],[v]=>Cq l v
 |l::l'::ls,v::vs=>match Cq l v,Cr (l'::ls) vs with
  |some x,some y=>some (x,y)
  |_,_=>none
 |_,_=>none
inductive Ty where
 |one (l:uN)
 |agg (ls:List uN)
@[reducible] def Ty.den:Ty->Type
 |.one l=>l.den
 |.agg ls=>eC ls
def EA:(t:Ty)->t.den->ο
 |.one l,x=>MJ l x
 |.agg ls,x=>.agg (I6 ls x).toArray
def MK:(t:Ty)->ο->Option t.den
 |.one l,v=>Cq l v
 |.agg ls,.agg cs=>Cr ls cs.toList
 |_,_=>none
@[reducible] def bf:List Ty->Type
 |[]=>Unit
 |[t]=>t.den
 |t::ts=>t.den×bf ts
def fW:(ts:List Ty)->bf ts->δ
 |[],_=>[]
 |[t],x=>[EA t x]
 |t::t'::ts,x=>EA t x.1::fW (t'::ts) x.2
def xR:(ts:List Ty)->δ->Option (bf ts)
 |[],[]=>some ()
 |[t],[v]=>MK t v
 |t::t'::ts,v::vs=>match MK t v,xR (t'::ts) vs with
  |some x,some y=>some (x,y)
  |_,_=>none
 |_,_=>none
def iK (vs:δ):ο:=
 match vs with
 |[v]=>v
 |vs=>.tuple vs.toArray
def unR ts (v:ο):Option (bf ts):=
 match ts with
 |[t]=>MK t v
 |ts=>match v with
  |.tuple vs=>xR ts vs.toList
  |_=>none
def sV (E:Env):List (Nat×Ty)->Option δ
 |[]=>some []
 |(i,_)::r=>match E i,sV E r with
  |some v,some vs=>some (v::vs)
  |_,_=>none
def yC:List (Nat×Ty)->δ->Env
 |(i,_)::r,v::vs=>(yC r vs).set i v
 |_,_=>Env.emp
def aby (E:Env):List (Nat×Ty)->δ->Env
 |(i,_)::r,v::vs=>(aby E r vs).set i v
 |_,_=>E
def lD:List (Nat×Ty)->List Ty
 |[]=>[]
 |(_,t)::r=>t::lD r
def aj.cell (h:aj)(a:Addr):Option ο:=
 match h.get a.block with
 |some (.cells c _ _ _)=>c[a.off]?
 |_=>none
def _root_.Go.Addr.plus (a:Addr)(n:Nat):Addr:=⟨a.block,a.off+n,none⟩
def e9 (l:uN)(a:Addr):M l.den:=λh=>
 match h.cell a with
 |some v=>(match Cq l v with|some x=>some (x,h)|none=>none)
 |none=>none
def idO (o:Option KE):Option KE:=match o with
 |some b=>some b
 |none=>none
@[simp] theorem yD o:idO o=o:=by cases o<;>rfl
def aj.di (h:aj)(nm next':Nat)(elem:μ)(cs:δ):aj:=
 { h with
  get:=λj=>cond (Nat.beq j nm) (some (.cells cs (nm+1) 0 elem)) (idO (h.get j))
  next:=next'
  ot:=λg=>cond (Nat.beq g (nm+1)) cs.length (h.ot g)
  used:=λj=>cond (Nat.beq j nm) true (h.used j) }
def aj.new (h:aj)(elem:μ)(cs:δ):aj:=h.di h.next (h.next+1) elem cs
def fE:ο->Bool
 |.agg _ | .tuple _=>false
 |_=>true
def iR (nm:ν)(elem:μ)(cs:δ):M Nat:=λh=>
 if cs.all fE=true then (match nm with
  |none=>some (h.next,h.new elem cs)
  |some k=>if h.used k=false/\k<h.next/\(h.get k).isNone=true then some (k,h.di k h.next elem cs) else none) else none
def eE (n:Nat):M Nat:=λh=>some (h.next,{ h with next:=h.next+n })
def aV (c:δ)(o:Nat)(vs:δ):δ:=c.take o++vs++c.drop (o+vs.length)
def aj.vN (h:aj)(b:Nat)(c:δ)(g base:Nat)(elem:μ):aj:=
 { h with get:=λj=>cond (Nat.beq j b) (some (.cells c g base elem)) (match h.get j with
   |some (.cells c' g' base' elem')=>cond (Nat.beq g' g) none (some (.cells c' g' base' elem'))
   |o=>o) }
def sU (a:Addr)(vs:δ):M Unit:=λh=>
 match h.get a.block with
 |some (.cells c g base elem)=>
  if g≠0/\a.off+vs.length<=c.length/\vs.all fE=true then some ((),h.vN a.block (aV c a.off vs) g base elem) else none
 |_=>none
def pB (b:Bool):M Unit:=λh=>match b with
 |true=>some ((),h)
 |false=>none
def nn (p:θ):M Addr:=λh=>match p with
 |some a=>some (a,h)
 |none=>none
def aX (h:aj)(a:θ)(n:Nat):Option δ:=
 match a with
 |none=>if n=0 then some [] else none
 |some a=>match h.get a.block with
  |some (.cells c _ _ _)=>if a.off+n<=c.length then some ((c.drop a.off).take n) else none
  |_=>none
def MM (s:Sl)(sz:Nat):M δ:=λh=>
 match s.len with
 |0=>some ([],h)
 |n+1=>match aX h s.a ((n+1)*sz) with
  |some cs=>some (cs,h)
  |none=>none
def cQ:Nat:=1073741824
def vo (strict:Bool)(s:Sl)(sz:Nat)(elem:μ)(n:Nat)(new:δ):M Sl:=λh=>
 if n=0 then (match s.a with
  |none=>if s.len=0/\s.cap=0/\new=[] then some (s,h) else none
  |some _=>if new=[] then some (s,h) else none) else
 if ¬(s.len+n<=cQ/\new.length=n*sz) then none else
 match s.a with
 |none=>if s.len=0/\s.cap=0 then some (⟨some ⟨h.next,0,none⟩,n,0⟩,h.new elem new) else none
 |some a=>
  match aX h (some a) (s.len*sz),h.get a.block with
  |some mN,some (.cells c g base e)=>
   if s.cap≠0/\s.len+n<s.cap then
    if g≠0/\a.off+(s.len*sz+new.length)<=c.length/\strict=false then
     some (⟨some a,s.len+n,s.cap⟩,h.vN a.block (aV c (a.off+s.len*sz) new) g base e) else none
   else if s.cap≠0 then some (⟨some ⟨h.next,0,none⟩,s.len+n,0⟩,h.new elem (mN++new))
   else if g≠0/\e=elem then
    let tipNow:=base+a.off+s.len*sz
    let ar:KE:=.cells (mN++new) g (base+a.off) elem
    if h.ot g=tipNow then
     some (⟨some ⟨h.next,0,none⟩,s.len+n,0⟩,
      { h with
       get:=λj=>cond (Nat.beq j h.next) (some ar) (idO (h.get j))
       next:=h.next+1
       ot:=λg'=>cond (Nat.beq g' g) (tipNow+new.length) (h.ot g')
       used:=λj=>cond (Nat.beq j h.next) true (h.used j) })
    else if strict=false then
     some (⟨some ⟨h.next,0,none⟩,s.len+n,0⟩,
      { h with
       get:=λj=>cond (Nat.beq j h.next) (some ar) (match h.get j with
        |some (.cells c' g' base' elem')=>cond (Nat.beq g' g&&Nat.blt tipNow (base'+c'.length)) none (some (.cells c' g' base' elem'))
        |o=>o)
       next:=h.next+1
       ot:=λg'=>cond (Nat.beq g' g) (tipNow+new.length) (h.ot g')
       used:=λj=>cond (Nat.beq j h.next) true (h.used j) })
    else none
   else none
  |_,_=>none
def app (strict:Bool)(s:Sl)(sz:Nat)(elem:μ)(n:Nat)(new:δ):M Sl:=λh=>
 match strict&&(h.get h.next).isSome with
 |true=>none
 |false=>vo strict s sz elem n new h
def mT (s:Sl)(i:Int)(sz:Nat):M Addr:=λh=>
 match s.a with
 |some a=>if 0<=i/\i<s.len then some (a.plus (i.toNat*sz),h) else none
 |none=>none
def kF (s:ζ)(i:Int):M UInt8:=λh=>
 match (if 0<=i then s[i.toNat]? else none) with
 |some b=>some (b,h)
 |none=>none
def KG (l:uN)(n:Nat)(cs:δ)(j:Int):M l.den:=λh=>
 if 0<=j/\j<(n:Int) then (match cs[j.toNat]? with
  |some v=>(match Cq l v with|some x=>some (x,h)|none=>none)
  |none=>none) else none
def exS (s:ζ)(a b:Nat):ζ:=⟨⟨(s.data.toList.drop a).take (b-a)⟩⟩
theorem Cs s a b:exS s a b=s.extract a b:=by
 have h:(s.extract a b).data.toList=(s.data.toList.drop a).take (b-a):=by simp_all
 unfold exS;rw[<-h]
def iE (s:ζ)(lo hi:Int):M ζ:=λh=>
 if 0<=lo/\lo<=hi/\hi<=s.size then some (exS s lo.toNat hi.toNat,h) else none
def p8 (h:aj)(s:Sl)(e:μ):Bool:=
 match s.a with
 |none=>Nat.beq s.len 0&&Nat.beq s.cap 0
 |some a=>match h.get a.block with
  |some (.cells _ g _ e')=>Nat.beq g 0||Nat.beq e' e
  |_=>false
def mU (s:Sl)(lo hi:Int)(e:μ)(sz:Nat):M Sl:=λh=>
 if 0<=lo/\lo<=hi/\hi<=s.len/\p8 h s e=true then
  some (⟨s.a.map (·.plus (lo.toNat*sz)),hi.toNat-lo.toNat,s.cap-(if s.cap=0 then 0 else lo.toNat)⟩,h) else none
def oq (a:Addr)(len:Nat)(lo hi:Int)(sz:Nat):M Sl:=λh=>
 if 0<=lo/\lo<=hi/\hi<=(len:Int) then some (⟨some (a.plus (lo.toNat*sz)),hi.toNat-lo.toNat,len-lo.toNat+1⟩,h) else none
def kK (x y:ζ):M ζ:=λh=>
 if x.size+y.size<=cQ then some (x++y,h) else none
def An (nm:ν)(elem:μ)(zero:δ)(l c:Int):M Sl:=λh=>
 if 0<=l/\l<=c/\c<=cQ then (match iR nm elem (List.replicate c.toNat zero).flatten h with
  |some (b,h')=>some (⟨some ⟨b,0,none⟩,l.toNat,c.toNat+1⟩,h')
  |none=>none) else none
def bytesOf (vs:δ):Option (List UInt8):=
 match vs with
 |[]=>some []
 |.int .u8 n::r=>match bytesOf r with
  |some l=>some (UInt8.ofNat n.toNat::l)
  |none=>none
 |_=>none
def ofBytes (l:List UInt8):ζ:=⟨l.toArray⟩
def bK (s:ζ):δ:=s.data.toList.map λb=>.int .u8 b.toNat
def strOf (s:Sl):M ζ:=λh=>
 match aX h s.a s.len with
 |some cs=>(match bytesOf cs with|some l=>some (ofBytes l,h)|none=>none)
 |none=>none
def G7 (elem:μ)(s:ζ):M Sl:=λh=>
 if s.size<=cQ then some (⟨some ⟨h.next,0,none⟩,s.size,0⟩,h.new elem (bK s)) else none
def kL:ο->M Bool:=λv h=>match v with
 |.nilIface=>some (true,h)
 |.iface _ _=>some (false,h)
 |_=>none
def eqL:List UInt8->List UInt8->Bool
 |[],[]=>true
 |x::xs,y::ys=>Nat.beq x.toNat y.toNat&&eqL xs ys
 |_,_=>false
def mM (x y:ζ):Bool:=eqL x.data.toList y.data.toList
def KH:∀{l l'},eqL l l'=true↔l=l'
 |[],[]=>by simp[eqL]
 |[],_::_=>by simp[eqL]
 |_::_,[]=>by simp[eqL]
 |x::l,y::l'=>by
  simp[eqL,aaq,KH,Nat.beq_eq,anb,abP]
theorem qC x y:mM x y=(x.toList==y.toList):=by
 rw[ByteArray.toList_eq,ByteArray.toList_eq,ane,beq_iff_eq];exact KH
def ltS (x y:ζ):Bool:=Op.bytesLess x.toList y.toList
def DC (x y:ο):Bool:=
 match x,y with
 |.int k a,.int k' b=>Pz k k'&&decide (a=b)
 |.bool a,.bool b=>a==b
 |.string a,.string b=>mM a b
 |_,_=>false
def Ao:δ->δ->Bool
 |[],[]=>true
 |x::xs,y::ys=>DC x y&&Ao xs ys
 |_,_=>false
def Cg (x y:ο):Bool:=
 match x,y with
 |.agg xs,.agg ys=>Ao xs.toList ys.toList
 |x,y=>DC x y
def iF (k:ο):List F8->Option F8
 |[]=>none
 |e::r=>match Cg k e.key with
  |true=>some e
  |false=>iF k r
def Ap (k:ο)(es:List F8):Option ο:=(iF k es).map (·.val)
def rB (k v:ο)(c:Nat):List F8->List F8
 |[]=>[⟨k,v,c⟩]
 |e::r=>match Cg k e.key with
  |true=>⟨k,v,e.born⟩::r
  |false=>e::rB k v c r
def JG (b:Nat)(v:ο):List F8->Option (List F8)
 |[]=>none
 |e::r=>match Nat.beq e.born b with
  |true=>some (⟨e.key,v,e.born⟩::r)
  |false=>(match JG b v r with|some l=>some (e::l)|none=>none)
def aj.oM (h:aj)(m:Nat)(x:akr):aj:=
 { h with jW:=λj=>cond (Nat.beq j m) (some x) (h.jW j) }
def DE (kt:μ):M Nat:=λh=>some (h.next,{ h.oM h.next ⟨kt,0,[]⟩ with next:=h.next+1,used:=λj=>cond (Nat.beq j h.next) true (h.used j) })
def aj.I3 (h:aj)(k:Nat)(kt:μ):aj:={ h.oM k ⟨kt,0,[]⟩ with used:=λj=>cond (Nat.beq j k) true (h.used j) }
def aj.fresh (h:aj)(k:Nat):Prop:=h.used k=false/\k<h.next/\h.jW k=none/\h.get k=none
def w7 (k:Nat)(kt:μ):M Nat:=λh=>if h.used k=false/\k<h.next/\(h.jW k).isNone=true/\(h.get k).isNone=true then some (k,h.I3 k kt) else none
def amh {α}(m:M α):Prop:=∀(h:aj) (k:Nat) (kt:μ) (x:α) (h2:aj),h.fresh k->m (h.I3 k kt)=some (x,h2)->∃h1,m h=some (x,h1)/\h1.fresh k/\h2=h1.I3 k kt
def MoM {α}(m:M α):Prop:=amh m/\∀h x h1,m h=some (x,h1)->h1.jW=h.jW
def aj.DG (h:aj)(kt:μ)(m:Nat):Option (Nat×List F8):=
 match h.jW m with
 |some x=>(match Nat.beq x.kt kt with|true=>some (x.clock,x.es)|false=>none)
 |none=>none
def zF (kt:μ)(T:Ty)(z:T.den)(m:ν)(k:ο):M (Bool×T.den):=λh=>
 match m with
 |none=>some ((false,z),h)
 |some m=>(match h.DG kt m with
  |some (_,es)=>(match Ap k es with
   |some v=>(match MK T v with|some x=>some ((true,x),h)|none=>none)
   |none=>some ((false,z),h))
  |none=>none)
def FG (kt:μ)(m:ν)(k v:ο):M Unit:=λh=>
 match m with
 |none=>none
 |some m=>(match h.DG kt m with
  |some (c,es)=>some ((),h.oM m ⟨kt,(match iF k es with|some _=>c|none=>c+1),rB k v c es⟩)
  |none=>none)
def yE (kt:μ)(T:Ty)(z:T.den)(m:ν)(k:ο):M (T.den×Nat):=λh=>
 match m with
 |none=>none
 |some m=>(match h.DG kt m with
  |some (c,es)=>(match iF k es with
   |some e=>(match MK T e.val with|some x=>some ((x,e.born),h)|none=>none)
   |none=>some ((z,c),h.oM m ⟨kt,c+1,rB k (EA T z) c es⟩))
  |none=>none)
def yF (m:ν)(st:Int)(v:ο):M Unit:=λh=>
 match m with
 |none=>none
 |some m=>(match h.jW m with
  |some x=>(match decide (0<=st),JG st.toNat v x.es with
   |true,some es=>some ((),h.oM m ⟨x.kt,x.clock,es⟩)
   |_,_=>none)
  |none=>none)
def MN (m:ν):M Nat:=λh=>
 match m with
 |none=>some (0,h)
 |some m=>(match h.jW m with
  |some x=>some (x.es.length,h)
  |none=>none)
def JH (d s:Sl)(sz:Nat):M Nat:=λh=>
 match aX h s.a (Nat.min s.len d.len*sz) with
 |some []=>some (Nat.min s.len d.len,h)
 |some cs=>(match d.a with
  |none=>none
  |some a=>(match sU a cs h with
   |some (_,h')=>some (Nat.min s.len d.len,h')
   |none=>none))
 |none=>none
def nnF (x:ο):M Unit:=λh=>
 match x with
 |.func (.func _) _ _=>some ((),h)
 |_=>none
def rC (g:FuncId)(x:ο):Bool:=
 match x with
 |.func (.func f) first _=>Nat.beq f g&&first.toList.isEmpty
 |_=>false
def KI (x:ο):δ:=
 match x with
 |.func _ _ caps=>caps.toList
 |_=>[]
def qj cs (x:ο):M (bf cs):=λh=>
 match xR cs (KI x) with
 |some c=>some (c,h)
 |none=>none
def TN:δ->δ->Bool
 |[],[]=>true
 |.pointer (some ⟨a,b,none⟩)::r,.pointer (some ⟨c,d,none⟩)::s=>Nat.beq a c&&Nat.beq b d&&TN r s
 |_,_=>false
def Rp:∀{x y},TN x y=true->x=y:=by
 intro x
 induction x with
 |nil=>intro y h;cases y<;>first|rfl|cases h
 |cons v r ih=>
  intro y h;cases y with
  |nil=>unfold TN at h;simp at h
  |cons w s=>
   unfold TN at h;split at h
   .simp_all
   .rename_i e1 e2;cases e1;cases e2;simp only[aaq] at h;rw[IT h.1.1,IT h.1.2,ih h.2]
   .cases h
def agd (x y:ο):Bool:=
 match x,y with
 |.int k a,.int k' b=>Pz k k'&&decide (a=b)
 |.bool a,.bool b=>a==b
 |.string a,.string b=>mM a b
 |.pointer none,.pointer none=>true
 |.pointer (some ⟨a,b,none⟩),.pointer (some ⟨c,d,none⟩)=>Nat.beq a c&&Nat.beq b d
 |.slice none a b,.slice none c d=>Nat.beq a c&&Nat.beq b d
 |.slice (some ⟨a,b,none⟩) m n,.slice (some ⟨c,d,none⟩) m' n'=>Nat.beq a c&&Nat.beq b d&&(Nat.beq m m'&&Nat.beq n n')
 |.map none,.map none=>true
 |.map (some a),.map (some b)=>Nat.beq a b
 |.func (.func f) a c,.func (.func g) b d=>Nat.beq f g&&(TN a.toList b.toList&&TN c.toList d.toList)
 |_,_=>false
def abA:δ->δ->Bool
 |[],[]=>true
 |x::xs,y::ys=>agd x y&&abA xs ys
 |_,_=>false
def abB {x y}(h:agd x y=true):x=y:=by
 unfold agd at h;split at h
 .rename_i k a k' b;simp at h;obtain⟨h1,rfl⟩:=h;cases k<;>cases k'<;>first|rfl|cases h1
 .rw[eq_of_beq h]
 .rename_i a b;obtain⟨⟨a⟩⟩:=a;obtain⟨⟨b⟩⟩:=b;have h:eqL a b=true:=h;rw[KH.1 h]
 .rfl
 .simp_all
 .simp_all
 .simp_all
 .rfl
 .simp_all
 .rename_i f a c g b d;simp only[aaq] at h;rw[IT h.1,Array.toList_inj.1 (Rp h.2.1),Array.toList_inj.1 (Rp h.2.2)]
 .cases h
theorem Rq:∀{x y},abA x y=true->x=y
 |[],[],_=>rfl
 |[],_::_,h=>by cases h
 |_::_,[],h=>by cases h
 |x::xs,y::ys,h=>by
  simp[abA,aaq] at h;rw[abB h.1,Rq h.2]
def gX (h h':aj)(b:Addr):Prop:=
 match h.get b.block,h'.get b.block with
 |some (.cells c g base e),some (.cells c' g' base' e')=>g'=g/\base'=base/\e'=e/\c'.length=c.length/\c'.drop b.off=c.drop b.off
 |x,y=>y=x
def eqC (h h':aj)(b:Addr):Bool:=
 match h.get b.block,h'.get b.block with
 |some (.cells c g base e),some (.cells c' g' base' e')=>Nat.beq g' g&&Nat.beq base' base&&Nat.beq e' e&&Nat.beq c'.length c.length&&abA (c'.drop b.off) (c.drop b.off)
 |none,none=>true
 |_,_=>false
def age {h h'}{b}(he:eqC h h' b=true):gX h h' b:=by
 unfold eqC at he;unfold gX;split at he
 .rename_i c g base e c' g' base' e' h1 h2;rw[h1,h2];simp only[aaq] at he
  grind [Nat.eq_of_beq_eq_true,Rq]
 .grind
 .cases he
def aeB h h' b:Decidable (gX h h' b):=
 match hb:eqC h h' b with
 |true=>isTrue (age hb)
 |false=>h.dec (gX h h' b)
def sameAt (h h':aj):List θ->Bool
 |[]=>true
 |none::r=>sameAt h h' r
 |some b::r=>(match aeB h h' b with
  |isTrue _=>sameAt h h' r
  |isFalse _=>false)
def uw {α}(as:List θ)(m:M α):M α:=λh=>
 match m h with
 |some (x,h')=>(match sameAt h h' as with
  |true=>some (x,h')
  |false=>none)
 |none=>none
inductive Act:Type 1 where
 |val (v:ο)
 |ask (α:Type) (m:M α) (k:α->Act)
 |none
def Act.run {R}:Act->(ο->M R)->M R
 |.val v,K=>K v
 |.ask _ m k,K=>sh m λx=>(k x).run K
 |.none,_=>AS
def Act.exec:Act->aj->Option (ο×aj)
 |.val v,h=>Option.some (v,h)
 |.ask _ m k,h=>match m h with
  |Option.some (x,h')=>(k x).exec h'
  |Option.none=>Option.none
 |.none,_=>Option.none
def KJ:TypeDesc->Option uN
 |.bool=>some .bool
 |.int k=>some (.int k)
 |.string=>some .str
 |.pointer _=>some .ptr
 |.slice _=>some .sl
 |.map _ _=>some .mp
 |.float .f64=>some .f64
 |.unsafePointer=>some .ptr
 |.struct _ | .array _ _ | .tuple _ | .named _ _ | .invalid=>none
 |_=>some .raw
def bW (P:Program)(t:μ):ν:=
 match P.info? t with
 |some i=>some i.size
 |none=>none
def G8 {α:Type}:List (Option (List α))->Option (List α)
 |[]=>some []
 |some l::r=>(match G8 r with|some m=>some (l++m)|none=>none)
 |none::_=>none
def leaves (P:Program):Nat->μ->Option (List uN)
 |0,_=>none
 |n+1,t=>
  match P.underlying t with
  |some (.struct fs)=>G8 (fs.toList.map λf=>leaves P n f.type)
  |some (.array len e)=>G8 (List.replicate len (leaves P n e))
  |some d=>(match KJ d with|some l=>some [l] | none=>none)
  |none=>none
def Aq:TypeDesc->Bool
 |.struct _ | .array _ _=>true
 |_=>false
def akt (P:Program)(t:μ):Option Ty:=
 match P.underlying t with
 |some d=>(match Aq d with
  |true=>(match leaves P 12 t with|some ls=>some (.agg ls)|none=>none)
  |false=>(match KJ d with|some l=>some (.one l)|none=>none))
 |none=>none
def vp (P:Program)(t:μ):Option uN:=
 match P.underlying t,bW P t with
 |some (.int k),some 1=>some (.int k)
 |some .bool,some 1=>some .bool
 |some .string,some 1=>some .str
 |_,_=>none
def G9 (P:Program):List Field->Nat->Option (List uN)
 |[],_=>some []
 |f :: fs, o => (match f.name == "_", Nat.beq f.offset o, vp P f.type, G9 P fs (o+1) with
  |false,true,some l,some ls=>some (l::ls)
  |_,_,_,_=>none)
def MO (P:Program)(t:μ):Option Ty:=
 match P.underlying t with
 |some (.struct fs)=>(match P.stoodInHeld t,G9 P fs.toList 0 with
  |false,some ls=>some (.agg ls)
  |_,_=>none)
 |some (.array n e)=>(match vp P e with
  |some l=>some (.agg (List.replicate n l))
  |none=>none)
 |_=>(match vp P t with|some l=>some (.one l)|none=>none)
def jv (l:uN)(v:ο):Bool:=
 match l,v with
 |.int k,.int k' _=>Pz k k'
 |.bool,.bool _=>true
 |.str,.string _=>true
 |_,_=>false
def fU:List uN->δ->Bool
 |[],[]=>true
 |l::ls,v::vs=>jv l v&&fU ls vs
 |_,_=>false
def TO (T:Ty)(v:ο):Bool:=
 match T,v with
 |.one l,v=>jv l v
 |.agg ls,.agg cs=>fU ls cs.toList
 |_,_=>false
def qk (P:Program)(t:μ)(v:ο):Bool:=
 match MO P t with
 |some K=>TO K v
 |none=>false
def DH (a:Addr):List uN->Nat->δ->Act
 |[],_,acc=>.val (.agg acc.reverse.toArray)
 |l::ls,i,acc=>.ask l.den (e9 l (a.plus i)) λx=>DH a ls (i+1) (MJ l x::acc)
def bY ls (a:Addr):M (eC ls):=λh=>
 match aX h (some a) ls.length with
 |some vs=>(match Cr ls vs with|some x=>some (x,h)|none=>none)
 |none=>none
def I4 (P:Program)(t:μ)(a:Addr):Act:=
 match P.underlying t,bW P t with
 |some d,some n=>
  (match Aq d with
  |true=>(match leaves P 12 t with
   |some ls=>(match Nat.beq ls.length n with|true=>.ask (eC ls) (bY ls a) λx=>.val (.agg (I6 ls x).toArray)|false=>.none)
   |none=>.none)
  |false=>(match KJ d with
   |some l=>.ask l.den (e9 l a) λx=>.val (MJ l x)
   |none=>.none))
 |_,_=>.none
def zeroOf (P:Program)(t:μ):Option ο:=
 match P.info? t with
 |some i=>(match i.zero with
  |some v=>(match v.cells.toList.all dQ&&Nat.beq v.cells.size i.size with|true=>some v|false=>none)
  |none=>none)
 |none=>none
def GH (P:Program)(op:BinOp)(t:μ)(v:ο):Act:=
 match op,P.underlying t with
 |.eql,some (.interface _)=>.ask Bool (kL v) λb=>.val (.bool b)
 |.neq,some (.interface _)=>.ask Bool (kL v) λb=>.val (.bool (!b))
 |_,_=>.none
def MP (op:BinOp)(k:IntKind)(a:Int)(k':IntKind)(b:Int):Act:=
 match op with
 |.shl=>.ask Unit (pB (decide (0<=b))) λ_=>.val (.int k (k.wrap (a*2^(min b.toNat k.bits))))
 |.shr=>.ask Unit (pB (decide (0<=b))) λ_=>.val (.int k (a.fdiv (2^(min b.toNat k.bits))))
 |op=>(match Pz k k' with
  |false=>.none
  |true=>(match op with
   |.add=>.val (.int k (k.wrap (a+b)))
   |.sub=>.val (.int k (k.wrap (a-b)))
   |.mul=>.val (.int k (k.wrap (a*b)))
   |.quo=>.ask Unit (pB (decide (b≠0))) λ_=>.val (.int k (k.wrap (a.tdiv b)))
   |.rem=>.ask Unit (pB (decide (b≠0))) λ_=>.val (.int k (a.tmod b))
   |.and=>.val (.int k (k.wrap (BitVec.ofInt k.bits a&&&BitVec.ofInt k.bits b).toNat))
   |.or=>.val (.int k (k.wrap (BitVec.ofInt k.bits a|||BitVec.ofInt k.bits b).toNat))
   |.xor=>.val (.int k (k.wrap (BitVec.ofInt k.bits a^^^BitVec.ofInt k.bits b).toNat))
   |.andNot=>.val (.int k (k.wrap (BitVec.ofInt k.bits a&&&~~~BitVec.ofInt k.bits b).toNat))
   |.eql=>.val (.bool (decide (a=b)))
   |.neq=>.val (.bool (!decide (a=b)))
   |.lss=>.val (.bool (decide (a<b)))
   |.leq=>.val (.bool (decide (a<=b)))
   |.gtr=>.val (.bool (decide (b<a)))
   |.geq=>.val (.bool (decide (b<=a)))
   |_=>.none))
def MQ (op:BinOp)(a b:ζ):Act:=
 match op with
 |.add=>.ask ζ (kK a b) λs=>.val (.string s)
 |.eql=>.val (.bool (mM a b))
 |.neq=>.val (.bool (!mM a b))
 |.lss=>.val (.bool (ltS a b))
 |.leq=>.val (.bool (ltS a b||mM a b))
 |.gtr=>.val (.bool (!(ltS a b||mM a b)))
 |.geq=>.val (.bool (!ltS a b))
 |_=>.none
def zG (op:BinOp)(b:Bool):Act:=
 match op with
 |.eql=>.val (.bool b)
 |.neq=>.val (.bool (!b))
 |_=>.none
def eq1 (P:Program)(t:μ)(x y:ο):Option Bool:=
 match x,y with
 |.int k a,.int k' b=>(match P.underlying t with
  |some (.int _)=>(match Pz k k' with|true=>some (decide (a=b))|false=>none)
  |_=>none)
 |.bool a,.bool b=>(match P.underlying t with|some .bool=>some (a==b)|_=>none)
 |.string a,.string b=>(match P.underlying t with|some .string=>some (mM a b)|_=>none)
 |_,_=>none
def MR (P:Program):List Field->Nat->δ->δ->Option Bool
 |[],_,xs,ys=>(match xs,ys with | [],[]=>some true|_,_=>none)
 |f::fs,o,xs,ys=>(match xs,ys with
  |x :: xs, y :: ys => (match f.name == "_", Nat.beq f.offset o with
   |false,true=>(match eq1 P f.type x y with
    |some a=>(match MR P fs (o+1) xs ys with|some b=>some (a&&b)|none=>none)
    |none=>none)
   |_,_=>none)
  |_,_=>none)
def I7 (o:ν):M Nat:=λh=>match o with
 |some r=>some (r,h)
 |none=>none
def akv (a b:Nat):M Nat:=I7 (FloatKind.f64.format.add a b)
def akw (a b:Nat):M Nat:=I7 (FloatKind.f64.format.sub a b)
def MS (a b:Nat):M Nat:=I7 (FloatKind.f64.format.mul a b)
def akx (a b:Nat):M Nat:=I7 (FloatKind.f64.format.div a b)
def zH (a b:Nat):Bool:=FloatKind.f64.format.order a b==some .eq
def WN (a b:Nat):Bool:=FloatKind.f64.format.order a b==some .lt
def PB (a b:Nat):Bool:=FloatKind.f64.format.order a b==some .gt
def WO (n:Int):Nat:=FloatKind.f64.nearest n
def agf (b:Nat):Nat:=Op.negFloat .f64 b
def MT (op:BinOp)(a b:Nat):Act:=
 match op with
 |.add=>.ask Nat (akv a b) λr=>.val (.float .f64 r)
 |.sub=>.ask Nat (akw a b) λr=>.val (.float .f64 r)
 |.mul=>.ask Nat (MS a b) λr=>.val (.float .f64 r)
 |.quo=>.ask Nat (akx a b) λr=>.val (.float .f64 r)
 |.eql=>.val (.bool (zH a b))
 |.neq=>.val (.bool (!zH a b))
 |.lss=>.val (.bool (WN a b))
 |.leq=>.val (.bool (WN a b||zH a b))
 |.gtr=>.val (.bool (PB a b))
 |.geq=>.val (.bool (PB a b||zH a b))
 |_=>.none
def WQ (P:Program)(op:BinOp)(t:μ)(x y:ο):Act:=
 match x,y with
 |.int k a,.int k' b=>MP op k a k' b
 |.string a,.string b=>MQ op a b
 |.float .f64 a,.float .f64 b=>MT op a b
 |.bool a,.bool b=>(match P.underlying t with|some .bool=>zG op (a==b)|_=>.none)
 |.slice a _ _,.slice none _ _=>(match P.underlying t with|some (.slice _)=>zG op a.isNone|_=>.none)
 |.pointer a,.pointer none=>(match P.underlying t with|some (.pointer _)=>zG op a.isNone|_=>.none)
 |.map a,.map none=>(match P.underlying t with|some (.map _ _)=>zG op a.isNone|_=>.none)
 |.agg xs,.agg ys=>(match P.underlying t,P.stoodInHeld t,P.eqGuardType P.depth t with
  |some (.struct fs),false,false=>(match MR P fs.toList 0 xs.toList ys.toList with|some b=>zG op b|none=>.none)
  |_,_,_=>.none)
 |_,_=>.none
def WR (P:Program)(op:BinOp)(t:μ)(x y:ο):Act:=
 match y with
 |.nilIface=>GH P op t x
 |y=>WQ P op t x y
def aun (op:UnOp)(x:ο):Act:=
 match op,x with
 |.neg,.int k n=>.val (.int k (k.wrap (0-n)))
 |.not,.bool b=>.val (.bool (!b))
 |.neg,.float .f64 b=>.val (.float .f64 (agf b))
 |_,_=>.none
def inB (a:Addr):M Addr:=λh=>
 match h.get a.block with
 |some (.cells c _ _ _)=>if a.off<c.length then some (a,h) else none
 |_=>none
def WS:List (Nat×Nat×Nat×Nat):=[]
def akz (u e n o:Nat):Bool:=WS.any λx=>Nat.beq x.2.2.2 u&&Nat.beq x.1 e&&Nat.ble x.2.1 n&&Nat.beq x.2.2.1 o
def aeC (P:Program)(u:Nat):Bool:=WS.all λx=>!(Nat.beq x.2.2.2 u)||(Nat.beq (P.cellsOf x.1) x.2.1&&rowAt P (sameLayout P P.depth · u) P.depth x.1 1 x.2.2.1 1)
def atB (u:μ)(k:Nat)(a:Addr):M Addr:=λh=>
 match h.get a.block with
 |some (.cells c g _ e)=>if g=a.block+1/\((k<=c.length/\e=u/\a.off=0)\/akz u e c.length a.off=true) then some (a,h) else none
 |_=>none
def aj.shut (h:aj)(g:Nat):aj:={ h with get:=λj=>match h.get j with
 |some (.cells c' g' base' e')=>cond (Nat.beq g' g) none (some (.cells c' g' base' e'))
 |o=>o }
def abC (e:μ)(p:θ)(n:Int):M ζ:=λh=>
 match p with
 |none=>if n=0 then some (ofBytes [],h) else none
 |some a=>(match h.get a.block,aX h (some a) n.toNat with
  |some (.cells _ g _ e'),some cs=>if 0<n/\n<=1073741824/\g≠0/\e'=e then (match bytesOf cs with|some l=>some (ofBytes l,h.shut g)|none=>none) else none
  |_,_=>none)
def FH (p:θ)(n:Nat):M θ:=λh=>
 match p with
 |none=>some (none,h)
 |some a=>if n≠0 then some (some a,h) else none
def MU (P:Program)(src dst:μ)(x:ο):Act:=
 match P.underlying src,P.underlying dst,x with
 |some (.pointer t),some .unsafePointer,.pointer p=>(match bW P t with
  |some (_+1)=>.ask Addr (nn p) λa=>.ask Addr (inB a) λa=>.val (.pointer (some a))
  |_=>.none)
 |some .unsafePointer,some (.pointer u),.pointer p=>(match bW P u with
  |some (k+1)=>(match Nat.beq (P.cellsOf u) (k+1)&&rowAt P (sameLayout P P.depth · u) P.depth u 1 0 1&&aeC P u with
   |true=>.ask Addr (nn p) λa=>.ask Addr (atB u (k+1) a) λa=>.val (.pointer (some a))
   |false=>.none)
  |_=>.none)
 |some (.int _),some (.int k),.int _ n=>.val (.int k (k.wrap n))
 |some (.int _),some (.float .f64),.int _ n=>.val (.float .f64 (WO n))
 |some .string,some (.slice e),.string s=>(match P.underlying e,bW P e with
  |some (.int .u8),some 1=>.ask Sl (G7 e s) λr=>.val (.slice r.a r.len r.cap)
  |_,_=>.none)
 |some (.slice e),some .string,.slice a n c=>(match P.underlying e with
  |some (.int .u8)=>.ask ζ (strOf ⟨a,n,c⟩) λs=>.val (.string s)
  |_=>.none)
 |_,_,_=>.none
def partsOf (E:Env):List (Nat×Operand)->Option (List (Nat×ο))
 |[]=>some []
 |(i,x)::r=>match E.ev x,partsOf E r with
  |some v,some vs=>some ((i,v)::vs)
  |_,_=>none
def Ar (place:Nat->Option (Nat×Nat))(cells:δ):List (Nat×ο)->Option δ
 |[]=>some cells
 |(i,v)::rest=>
  match place i with
  |none=>none
  |some (off,size)=>
   match Nat.beq v.cells.size size&&Nat.ble (off+v.cells.size) cells.length with
   |true=>Ar place (aV cells off v.cells.toList) rest
   |false=>none
def placesOf (P:Program):List Field->Option (List (Nat×Nat))
 |[]=>some []
 |f::r=>match bW P f.type,placesOf P r with
  |some n,some l=>some ((f.offset,n)::l)
  |_,_=>none
def KK (P:Program)(t:μ)(parts:List (Nat×ο)):Act:=
 match P.underlying t,zeroOf P t with
 |some (.struct fs),some z=>(match placesOf P fs.toList with
  |some pl=>(match Ar (λi=>pl[i]?) z.cells.toList parts with
   |some cs=>.val (.agg cs.toArray)
   |none=>.none)
  |none=>.none)
 |some (.array _ e),some z=>(match bW P e with
  |some n=>(match Ar (λi=>some (i*n,n)) z.cells.toList parts with
   |some cs=>.val (.agg cs.toArray)
   |none=>.none)
  |none=>.none)
 |_,_=>.none
def ux (P:Program)(nm:ν)(t:μ)(len:Nat)(parts:List (Nat×ο)):Act:=
 match P.underlying t with
 |some (.slice e)=>(match bW P e,zeroOf P e with
  |some n,some z=>(match Nat.ble (len*n) 16777216,Ar (λi=>some (i*n,n)) (List.replicate len z.cells.toList).flatten parts with
   |true,some cs=>.ask Nat (iR nm e cs) λb=>.val (.slice (some ⟨b,0,none⟩) len (len+1))
   |_,_=>.none)
  |_,_=>.none)
 |_=>.none
def As (v:ο)(k:Addr->Act):Act:=
 match v with
 |.pointer (some a)=>k a
 |_=>.none
def F9 (E:Env):Option Operand->Option (Option ο)
 |some x=>(match E.ev x with|some v=>some (some v)|none=>none)
 |none=>some none
def Ha (P:Program)(t:μ)(x:ο)(lo hi mx:Option ο):Act:=
 match P.underlying t,x,mx with
 |some .string,.string s,none=>(match lo,hi with
  |none,none=>.ask ζ (iE s 0 s.size) λr=>.val (.string r)
  |some (.int _ l),none=>.ask ζ (iE s l s.size) λr=>.val (.string r)
  |none,some (.int _ h)=>.ask ζ (iE s 0 h) λr=>.val (.string r)
  |some (.int _ l),some (.int _ h)=>.ask ζ (iE s l h) λr=>.val (.string r)
  |_,_=>.none)
 |some (.slice e),.slice a n c,none=>(match bW P e with
  |some z=>(match lo,hi with
   |none,none=>.ask Sl (mU ⟨a,n,c⟩ 0 n e z) λr=>.val (.slice r.a r.len r.cap)
   |some (.int _ l),none=>.ask Sl (mU ⟨a,n,c⟩ l n e z) λr=>.val (.slice r.a r.len r.cap)
   |none,some (.int _ h)=>.ask Sl (mU ⟨a,n,c⟩ 0 h e z) λr=>.val (.slice r.a r.len r.cap)
   |some (.int _ l),some (.int _ h)=>.ask Sl (mU ⟨a,n,c⟩ l h e z) λr=>.val (.slice r.a r.len r.cap)
   |_,_=>.none)
  |none=>.none)
 |some (.array len e),.pointer (some a),none=>(match bW P e with
  |some z=>(match lo,hi with
   |none,none=>.ask Sl (oq a len 0 len z) λr=>.val (.slice r.a r.len r.cap)
   |some (.int _ l),none=>.ask Sl (oq a len l len z) λr=>.val (.slice r.a r.len r.cap)
   |none,some (.int _ h)=>.ask Sl (oq a len 0 h z) λr=>.val (.slice r.a r.len r.cap)
   |some (.int _ l),some (.int _ h)=>.ask Sl (oq a len l h z) λr=>.val (.slice r.a r.len r.cap)
   |_,_=>.none)
  |none=>.none)
 |_,_,_=>.none
def rD (P:Program)(strict:Bool)(b:Builtin)(ts:List μ)(vs:δ):Act:=
 match b,ts,vs with
 |.len,t::_,[.string s]=>(match P.underlying t with|some .string=>.val (.int .i64 s.size)|_=>.none)
 |.len,t::_,[.slice _ n _]=>(match P.underlying t with|some (.slice _)=>.val (.int .i64 n)|_=>.none)
 |.copy,[t,t'],[.slice a n c,.slice a' n' c']=>(match P.underlying t,P.underlying t' with
  |some (.slice e),some (.slice _)=>(match bW P e with
   |some z=>.ask Nat (JH ⟨a,n,c⟩ ⟨a',n',c'⟩ z) λk=>.val (.int .i64 k)
   |none=>.none)
  |_,_=>.none)
 |.min,_,[.int k x,.int k' y]=>(match Pz k k' with|true=>.val (.int k (if y<x then y else x))|false=>.none)
 |.max,_,[.int k x,.int k' y]=>(match Pz k k' with|true=>.val (.int k (if x<y then y else x))|false=>.none)
 |.append,[t,t'],[.slice a n c,.slice a' n' c']=>(match P.underlying t,P.underlying t' with
  |some (.slice e),some (.slice e')=>(match bW P e,zeroOf P e,bW P e' with
   |some z,some _,some z'=>(match Nat.beq z z'&&Nat.ble ((match P.info? e with|some i=>i.bytes|none=>0)) 4096 with
    |true=>.ask δ (MM ⟨a',n',c'⟩ z) λcs=>.ask Sl (app strict ⟨a,n,c⟩ z e n' cs) λr=>.val (.slice r.a r.len r.cap)
    |false=>.none)
   |_,_,_=>.none)
  |_,_=>.none)
 |.append,[t,t'],[.slice a n c,.string s]=>(match P.underlying t,P.underlying t' with
  |some (.slice e),some .string=>(match P.underlying e,zeroOf P e,bW P e with
   |some (.int .u8),some _,some 1=>(match Nat.ble ((match P.info? e with|some i=>i.bytes|none=>0)) 4096 with
    |true=>.ask Sl (app strict ⟨a,n,c⟩ 1 e s.size (bK s)) λr=>.val (.slice r.a r.len r.cap)
    |false=>.none)
   |_,_,_=>.none)
  |_,_=>.none)
 |.unsafeSliceData,_,[.slice a n _]=>.ask θ (FH a n) λp=>.val (.pointer p)
 |.unsafeString,t::_,[.pointer p,.int .i64 n]=>(match P.underlying t with
  |some (.pointer e)=>(match Nat.beq (P.cellsOf e) 1 with
   |true=>.ask ζ (abC e p n) λs=>.val (.string s)
   |false=>.none)
  |_=>.none)
 |_,_,_=>.none
def eqP (a b:θ):M Bool:=λh=>match a,b with
 |some a,some b=>(match Nat.beq a.block b.block&&Nat.beq a.off b.off with|true=>some (true,h)|false=>none)
 |_,_=>none
def akA:Operand->ο->ο->Option (θ×θ)
 |.const _,_,_=>none
 |_,.pointer a,.pointer b=>some (a,b)
 |_,_,_=>none
def WT (y:Operand)(u:ο):Bool:=
 match u with
 |.nilIface=>(match y with | .const _=>true|_=>false)
 |_=>true
def xS (P:Program)(nm:ν)(E:Env)(o:Oper):Act:=
 match o.op with
 |.move x | .assign x=>(match E.ev x with|some v=>.val v|none=>.none)
 |.alloc t=>(match zeroOf P t with
  |some z=>.ask Nat (iR nm t z.cells.toList) λb=>.val (.pointer (some ⟨b,0,none⟩))
  |none=>.none)
 |.box t x=>(match E.ev x with
  |some v=>.ask Nat (iR nm t v.cells.toList) λb=>.val (.pointer (some ⟨b,0,none⟩))
  |none=>.none)
 |.build t parts=>(match partsOf E parts.toList with|some vs=>KK P t vs|none=>.none)
 |.buildSlice t len parts=>(match partsOf E parts.toList with|some vs=>ux P nm t len vs|none=>.none)
 |.load t x=>(match E.ev x with|some v=>As v λa=>I4 P t a|none=>.none)
 |.store t x y=>(match E.ev x,E.ev y,bW P t with
  |some v,some u,some n=>As v λa=>(match Nat.beq u.cells.size n with
   |true=>.ask Unit (sU a u.cells.toList) λ_=>.val undef
   |false=>.none)
  |_,_,_=>.none)
 |.nilCheck x=>(match P.underlying o.type with
  |some (.func _ _ _)=>(match E.ev x with
   |some v=>.ask Unit (nnF v) λ_=>.val v
   |none=>.none)
  |_=>(match E.ev x with
   |some (.pointer p)=>.ask Addr (nn p) λa=>.val (.pointer (some a))
   |_=>.none))
 |.binOp op t x y _=>(match E.ev x,E.ev y with
  |some v,some u=>(match WT y u with
   |true=>(match akA y v u with
    |some (a,b)=>(match P.underlying t with
     |some (.pointer e)=>(match bW P e with|some _=>.ask Bool (eqP a b) λr=>zG op r|none=>.none)
     |_=>.none)
    |none=>WR P op t v u)
   |false=>.none)
  |_,_=>.none)
 |.unOp op _ x=>(match E.ev x with|some v=>aun op v|none=>.none)
 |.convert s d x=>(match E.ev x with|some v=>MU P s d v|none=>.none)
 |.makeInterface t x=>(match E.ev x,P.underlying t with
  |some _,some (.interface _)=>.none
  |some v,some _=>.val (.iface t v)
  |_,_=>.none)
 |.makeFunc fn fs cs=>(match E.Pt fs.toList,E.Pt cs.toList with
  |some f,some c=>.val (.func fn f.toArray c.toArray)
  |_,_=>.none)
 |.makeSlice t l c=>(match P.underlying t,E.ev l,E.ev c with
  |some (.slice e),some (.int _ n),some (.int _ m)=>(match zeroOf P e,Nat.ble ((match P.info? e with|some i=>i.bytes|none=>0)) 4096 with
   |some z,true=>.ask Sl (An nm e z.cells.toList n m) λr=>.val (.slice r.a r.len r.cap)
   |_,_=>.none)
  |_,_,_=>.none)
 |.slice t x lo hi mx=>(match E.ev x,F9 E lo,F9 E hi,F9 E mx with
  |some v,some l,some h,some m=>Ha P t v l h m
  |_,_,_,_=>.none)
 |.fieldAddr s x f=>(match P.underlying s,E.ev x with
  |some (.struct fs),some v=>(match fs[f]? with
   |some fd=>(match bW P fd.type with
    |some n=>(match Nat.beq n 0 with
     |true=>.none
     |false=>As v λa=>.val (.pointer (some (a.plus fd.offset))))
    |none=>.none)
   |none=>.none)
  |_,_=>.none)
 |.field s x f=>(match P.underlying s,E.ev x with
  |some (.struct fs),some (.agg cs)=>(match fs[f]? with
   |some fd=>(match P.underlying fd.type,bW P fd.type with
    |some d,some n=>(match Aq d with
     |true=>.val (.agg ((cs.toList.drop fd.offset).take n).toArray)
     |false=>(match cs.toList[fd.offset]? with|some v=>.val v|none=>.none))
    |_,_=>.none)
   |none=>.none)
  |_,_=>.none)
 |.indexAddr t x i=>(match P.underlying t,E.ev x,E.ev i with
  |some (.slice e),some (.slice a n c),some (.int _ j)=>(match bW P e with
   |some z=>.ask Addr (mT ⟨a,n,c⟩ j z) λr=>.val (.pointer (some r))
   |none=>.none)
  |some (.array n e),some (.pointer (some a)),some (.int _ j)=>(match bW P e with
   |some z=>.ask Unit (pB (decide (0<=j/\j<(n:Int)))) λ_=>.val (.pointer (some (a.plus (j.toNat*z))))
   |none=>.none)
  |_,_,_=>.none)
 |.index t x i=>(match P.underlying t,E.ev x,E.ev i with
  |some .string,some (.string s),some (.int _ j)=>.ask UInt8 (kF s j) λb=>.val (.int .u8 b.toNat)
  |some (.array n e),some (.agg cs),some (.int _ j)=>(match P.underlying e,bW P e with
   |some d,some 1=>(match Aq d,KJ d with
    |false,some l=>.ask l.den (KG l n cs.toList j) λx=>.val (MJ l x)
    |_,_=>.none)
   |_,_=>.none)
  |_,_,_=>.none)
 |.makeMap t r=>(match P.underlying t,F9 E r with
  |some (.map k _),some none=>(match MO P k with|some _=>(match nm with|none=>.ask Nat (DE k) λm=>.val (.map (some m))|some b=>.ask Nat (w7 b k) λm=>.val (.map (some m)))|none=>.none)
  |some (.map k _),some (some (.int _ _))=>(match MO P k with|some _=>(match nm with|none=>.ask Nat (DE k) λm=>.val (.map (some m))|some b=>.ask Nat (w7 b k) λm=>.val (.map (some m)))|none=>.none)
  |_,_=>.none)
 |.lookup t x i ok=>(match P.underlying t,E.ev x,E.ev i with
  |some (.map k e),some (.map m),some kv=>(match qk P k kv,akt P e,zeroOf P e with
   |true,some T,some zv=>(match MK T zv with
    |some z=>.ask (Bool×T.den) (zF k T z m kv) λr=>.val (match ok with|true=>.tuple #[EA T r.2,.bool r.1] | false=>EA T r.2)
    |none=>.none)
   |_,_,_=>.none)
  |_,_,_=>.none)
 |.mapEntry t x i=>(match P.underlying t,E.ev x,E.ev i with
  |some (.map k e),some (.map m),some kv=>(match qk P k kv,akt P e,zeroOf P e with
   |true,some T,some zv=>(match MK T zv with
    |some z=>.ask (T.den×Nat) (yE k T z m kv) λr=>.val (.tuple #[EA T r.1,.int .i64 r.2])
    |none=>.none)
   |_,_,_=>.none)
  |_,_,_=>.none)
 |.entryStore _ x i y=>(match E.ev x,E.ev i,E.ev y with
  |some (.map m),some (.int _ st),some v=>.ask Unit (yF m st v) λ_=>.val undef
  |_,_,_=>.none)
 |.mapUpdate t x i y | .insert t x i y=>(match P.underlying t,E.ev x,E.ev i,E.ev y with
  |some (.map k _),some (.map m),some kv,some v=>(match qk P k kv with
   |true=>.ask Unit (FG k m kv v) λ_=>.val undef
   |false=>.none)
  |_,_,_,_=>.none)
 |.extract x i=>(match E.ev x with
  |some (.tuple vs)=>(match vs.toList[i]? with|some v=>.val v|none=>.none)
  |_=>.none)
 |.call c=>(match c.callee,E.Pt c.args.toList with
  |.builtin b,some vs=>rD P nm.isSome b c.argTypes.toList vs
  |_,_=>.none)
 |_=>.none
abbrev Path:=η
def child:Code->Nat->Code
 |.seq a _,0=>a
 |.seq _ b,_=>b
 |.cond _ a _,0=>a
 |.cond _ _ b,_=>b
 |.block _ c,_=>c
 |.loop c,_=>c
 |.scope c,_=>c
 |c,_=>c
def gw (c:Code):Path->Code
 |[]=>c
 |i::p=>child (gw c p) i
inductive DI where
 |code (p:Path)
 |ar (id:Nat)
 |scp (p:Path)
inductive nJ where
 |normal
 |exit (id:Nat)
 |ret
def eqE:nJ->nJ->Bool
 |.normal,.normal=>true
 |.exit a,.exit b=>Nat.beq a b
 |.ret,.ret=>true
 |_,_=>false
def vW:Path->Path->Bool
 |[],[]=>true
 |a::p,b::q=>Nat.beq a b&&vW p q
 |_,_=>false
def eqItems:List DI->List DI->Bool
 |[],[]=>true
 |.code p::k,.code q::l=>vW p q&&eqItems k l
 |.ar a::k,.ar b::l=>Nat.beq a b&&eqItems k l
 |.scp p::k,.scp q::l=>vW p q&&eqItems k l
 |_,_=>false
structure yG:Type 1 where
 α:Type
 m:M α
 pk:α->ο
inductive w8:Type 1 where
 |one (α:Type) (m:M α) (e:nJ) (out:α->Env)
 |two (α β:Type) (m:M (α⊕β)) (e:nJ) (out:α->Env) (e':nJ) (out':β->Env)
 |none
structure Ct:Type 1 where
 st:FuncId->δ->Option yG
 dy:Nat->ο->δ->Option yG
 amk:Nat->Bool
 mo:FuncId->Bool
structure MV (R:Type) where
 call:Ct
 loop:Path->Env->w8
 join:Path->Option (List DI×(Env->Option (M R)))
 draw:Nat->Option (List (Nat×η))
def tf (id:Nat):List DI->Option (List DI)
 |.ar id'::k=>(match Nat.beq id' id with|true=>some k|false=>tf id k)
 |_::k=>tf id k
 |[]=>none
def Env.uy (E:Env)(c:Operand)(b:Bool):Env:=
 match c with
 |.tmp t=>E.set t (.bool b)
 |_=>E
def dX {α β R:Type}(f:α->M R)(g:β->M R):α⊕β->M R
 |.inl x=>f x
 |.inr y=>g y
def callee (E:Env)(c:Call):Option (FuncId×δ):=
 match c.callee,E.Pt c.args.toList with
 |.value f,some vs=>(match E.ev f with
  |some (.func (.func g) first captured)=>some (g,first.toList++vs++captured.toList)
  |_=>none)
 |_,_=>none
def uO (C:Ct)(c:Call):ν:=
 match c.callee with
 |.value (.tmp t)=>(match C.amk t with|true=>some t|false=>none)
 |_=>none
def vq (E:Env)(t:Nat)(c:Call):Option (ο×δ):=
 match E t,E.Pt c.args.toList with
 |some x,some vs=>some (x,vs)
 |_,_=>none
def isBuiltin:Call->Bool:=λc=>match c.callee with
 |.builtin _=>true
 |_=>false
def xt {R}(b:Bool)(x y:M R):M R:=if b=true then x else y
abbrev Wr:=Nat×Option η
def EB (W:Wr)(d:ν):Bool:=
 match d with
 |none=>true
 |some i=>Nat.blt i W.1&&(match W.2 with
  |some l=>l.any (Nat.beq i)
  |none=>true)
abbrev fX:=Nat->Option (Nat×δ)
def fX.emp:fX:=λ_=>none
def Env.del (E:Env)(d:ν):Env:=
 match d with
 |some i=>λj=>cond (Nat.beq j i) none (E j)
 |none=>E
def fX.del (L:fX)(d:ν):fX:=
 match d with
 |some i=>λj=>cond (Nat.beq j i) none (L j)
 |none=>L
def fX.put (L:fX)(d:ν)(x:Nat×δ):fX:=
 match d with
 |some i=>λj=>cond (Nat.beq j i) (some x) (L j)
 |none=>L
def PC (ops:Array Oper)(t:Nat):Bool:=ops.toList.any λo=>match o.op with
 |.call c=>(match c.callee,c.args.toList with
  |.builtin .append,[_,.tmp u]=>Nat.beq u t
  |_,_=>false)
 |_=>false
def DJ (P:Program)(t:μ)(len:Nat)(parts:List (Nat×ο)):Option δ:=
 match P.underlying t with
 |some (.slice e)=>(match bW P e,zeroOf P e with
  |some n,some z=>(match Nat.ble (len*n) 16777216,Ar (λi=>some (i*n,n)) (List.replicate len z.cells.toList).flatten parts with
   |true,some cs=>(match cs.all fE with|true=>some cs|false=>none)
   |_,_=>none)
  |_,_=>none)
 |_=>none
def vX (L:fX)(c:Call):Option (Nat×δ):=
 match c.callee,c.args.toList with
 |.builtin .append,[_,.tmp t]=>L t
 |_,_=>none
def rE (P:Program)(strict:Bool)(E:Env)(c:Call)(n:Nat)(cs:δ):Act:=
 match c.argTypes.toList,c.args.toList with
 |[t,t'],[s,_]=>(match E.ev s,P.underlying t,P.underlying t' with
  |some (.slice a m k),some (.slice e),some (.slice _)=>(match bW P e,zeroOf P e with
   |some z,some _=>(match Nat.ble ((match P.info? e with|some i=>i.bytes|none=>0)) 4096 with
    |true=>.ask Sl (app strict ⟨a,m,k⟩ z e n cs) λr=>.val (.slice r.a r.len r.cap)
    |false=>.none)
   |_,_=>.none)
  |_,_,_=>.none)
 |_,_=>.none
def zI (P:Program)(ops:Array Oper)(E:Env)(o:Oper):Option (Nat×δ):=
 match o.op,o.dst with
 |.buildSlice t len parts,some d=>(match PC ops d with
  |true=>(match partsOf E parts.toList with
   |some vs=>(match DJ P t len vs with|some cs=>some (len,cs)|none=>none)
   |none=>none)
  |false=>none)
 |_,_=>none
def th (cks:List θ):Act->Act
 |.ask α m k=>(match cks with
  |[]=>.ask α m k
  |cks=>.ask α (uw cks m) k)
 |A=>A
def wrapM {α}(cks:List θ)(m:M α):M α:=
 match cks with
 |[]=>m
 |cks=>uw cks m
def At (l:η)(i:Nat):Bool:=l.any (Nat.beq i)
def BN (ops:Array Oper)(o:Oper):Bool:=
 match o.op with
 |.call c=>(match c.callee with
  |.builtin .append=>(match o.dst with
   |some d=>ops.toList.any λp=>(match p.op with
    |.call c=>!isBuiltin c&&At (p.op.operands.toList.filterMap λ| .tmp t=>some t|_=>none) d
    |_=>false)
   |none=>false)
  |_=>false)
 |_=>false
def DK (ops:Array Oper)(o:Oper):Bool:=
 match o.op with
 |.call c=>(match c.callee,c.args.toList with
  |.builtin .append,.tmp d::_=>ops.toList.any λp=>(match p.op,p.dst with
   |.buildSlice _ _ _,some e=>Nat.beq d e
   |_,_=>false)
  |_,_=>false)
 |_=>false
def zQ (b:Bool)(E:Env)(c:Call)(A:Act):Act:=
 match b with
 |false=>A
 |true=>(match c.args.toList with
  |s::_=>(match E.ev s with
   |some (.slice _ _ k)=>(match Nat.beq k 0 with|true=>.none|false=>A)
   |_=>.none)
  |[]=>.none)
theorem EC {b}{E}{c}{A}{h}{r}(e:(zQ b E c A).exec h=some r):zQ b E c A=A:=by
 unfold zQ at *
 repeat' (first|rfl|(cases e;done)|split at e)
def byB {α:Type 1}(b:Bool)(f:Bool->α):α:=
 match b with
 |true=>f true
 |false=>f false
theorem PD {α}{b}{f:Bool->α}:byB b f=f b:=by cases b<;>rfl
inductive Cls where
 |sil|ro|mro|alloc|add|mka|eff
def Cu:Bool->Cls
 |true=>.eff
 |false=>.add
def cls (P:Program)(ops:Array Oper)(o:Oper):Cls:=
 match o.op with
 |.move _ | .assign _ | .pick _ _ _ | .build _ _ | .nilCheck _ | .binOp _ _ _ _ _ | .unOp _ _ _ | .makeInterface _ _ | .makeFunc _ _ _ | .fieldAddr _ _ _ | .field _ _ _ | .indexAddr _ _ _ | .index _ _ _ | .extract _ _=>.sil
 |.load _ _=>.ro
 |.slice t _ _ _ _=>(match P.underlying t with|some .string=>.sil|some (.slice _)=>.ro|some (.array _ _)=>.sil|_=>.eff)
 |.convert s d _=>(match P.underlying s,P.underlying d with
  |some (.slice _),some .string=>.ro
  |some (.int _),some _=>.sil
  |some .string,some .string=>.sil
  |_,_=>.eff)
 |.buildSlice _ _ _=>(match o.dst with
  |some d=>(match PC ops d with|true=>.sil|false=>.alloc)
  |none=>.eff)
 |.alloc _ | .box _ _ | .makeSlice _ _ _=>.alloc
 |.lookup _ _ _ _=>.mro
 |.makeMap _ _=>.mka
 |.call c=>(match c.callee with
  |.builtin .append=>Cu (BN ops o)
  |.builtin .len=>(match c.argTypes.toList with
   |t::_=>(match P.underlying t with|some (.map _ _)=>.mro|_=>.sil)
   |[]=>.sil)
  |.builtin .min | .builtin .max | .builtin .unsafeSliceData=>.sil
  |_=>.eff)
 |_=>.eff
def zR (o:Oper):Bool:=
 match o.op with
 |.store _ _ _=>true
 |_=>false
def WU:Cls->Bool
 |.alloc=>true
 |_=>false
def Ga (P:Program)(ops:Array Oper)(nb:ν)(cs:η):η:=
 match nb with
 |none=>[]
 |some b=>(cs.filter λi=>match ops[i]? with
  |some o=>WU (cls P ops o)
  |none=>false).map (b+·)
def okK (h:aj)(a:Addr)(ks:η):Bool:=
 match h.get a.block with
 |some (.cells _ g _ _)=>ks.all λk=>!Nat.beq a.block k&&!Nat.beq g (k+1)
 |_=>false
def Hb {α}(ks:η)(a:Addr)(m:M α):M α:=λh=>match okK h a ks with
 |true=>m h
 |false=>none
def MW (ks:η)(a:Addr):Act->Act
 |.ask α m k=>.ask α (Hb ks a m) k
 |A=>A
def xU {R}(P:Program)(C:Ct)(W:Wr)(nm:ν)(cks:List θ)(ks:η)(ops:Array Oper)(E:Env)(L:fX)(o:Oper)(K:Env->fX->M R):M R:=
 match EB W o.dst with
 |false=>AS
 |true=>
 match o.op with
 |.pick c a b=>(match E.ev c with
  |some (.bool t)=>
   xt t (match (E.uy c true).ev a with|some v=>K ((E.uy c true).put o.dst v) (L.del o.dst)|none=>AS)
    (match (E.uy c false).ev b with|some v=>K ((E.uy c false).put o.dst v) (L.del o.dst)|none=>AS)
  |_=>AS)
 |.call c=>(match isBuiltin c with
  |true=>(match vX L c with
   |some (n,cs)=>(byB (nm.isSome&&!BN ops o) λb=>th cks (zQ (DK ops o) E c (rE P b E c n cs))).run λv=>K (E.put o.dst v) (L.del o.dst)
   |none=>(match BN ops o with
    |true=>AS
    |false=>(th cks (zQ (DK ops o) E c (xS P nm E o))).run λv=>K (E.put o.dst v) (L.del o.dst)))
  |false=>(match uO C c with
   |some t=>(match vq E t c with
    |some (x,vs)=>(match C.dy t x vs with
     |some ca=>sh (wrapM cks ca.m) λx=>K (E.put o.dst (ca.pk x)) (L.del o.dst)
     |none=>AS)
    |none=>AS)
   |none=>(match callee E c with
    |some (f,vs)=>(match C.st f vs with
     |some ca=>sh (wrapM cks ca.m) λx=>K (E.put o.dst (ca.pk x)) (L.del o.dst)
     |none=>AS)
    |none=>AS)))
 |.store _ x _=>(match ks with
  |[]=>(th cks (xS P nm E o)).run λv=>K (E.put o.dst v) (L.del o.dst)
  |ks=>(match E.ev x with
   |some (.pointer (some a))=>(MW ks a (th cks (xS P nm E o))).run λv=>K (E.put o.dst v) (L.del o.dst)
   |_=>AS))
 |.buildSlice _ _ _=>(match zI P ops E o with
  |some x=>K (E.del o.dst) (L.put o.dst x)
  |none=>(th cks (xS P nm E o)).run λv=>K (E.put o.dst v) (L.del o.dst))
 |_=>(th cks (xS P nm E o)).run λv=>K (E.put o.dst v) (L.del o.dst)
def lX (E:Env)(o:Oper):θ:=
 match o.op with
 |.load _ x=>(match E.ev x with|some (.pointer p)=>p|_=>none)
 |.slice _ x _ _ _=>(match E.ev x with|some (.slice a _ _)=>a|_=>none)
 |.convert _ _ x=>(match E.ev x with|some (.slice a _ _)=>a|_=>none)
 |_=>none
abbrev akB:=Nat->θ
def jx {R}(P:Program)(C:Ct)(W:Wr)(nb:ν)(ops:Array Oper):List (Nat×η)->Env->fX->akB->(Env->M R)->M R
 |[],E,_,_,K=>K E
 |(i,cs)::rest,E,L,A,K=>
  match ops[i]? with
  |none=>AS
  |some o=>
   match o.guard with
   |none=>xU P C W (nb.map (·+i)) (cs.map A) (Ga P ops nb cs) ops E L o λE' L'=>jx P C W nb ops rest E' L' (λj=>cond (Nat.beq j i) (lX E o) (A j)) K
   |some (j,want)=>(match (ops[j]?).bind (·.dst) with
    |some t=>(match E t with
     |some (.bool b)=>
      (match want with
      |true=>xt b (xU P C W (nb.map (·+i)) (cs.map A) (Ga P ops nb cs) ops (E.set t (.bool true)) L o λE' L'=>jx P C W nb ops rest E' L' (λj=>cond (Nat.beq j i) (lX E o) (A j)) K)
       (match EB W o.dst with
       |true=>jx P C W nb ops rest ((E.set t (.bool false)).put o.dst undef) (L.del o.dst) A K
       |false=>AS)
      |false=>xt b (match EB W o.dst with
       |true=>jx P C W nb ops rest ((E.set t (.bool true)).put o.dst undef) (L.del o.dst) A K
       |false=>AS)
       (xU P C W (nb.map (·+i)) (cs.map A) (Ga P ops nb cs) ops (E.set t (.bool false)) L o λE' L'=>jx P C W nb ops rest E' L' (λj=>cond (Nat.beq j i) (lX E o) (A j)) K))
     |some (.tuple _)=>(match EB W o.dst with
      |true=>jx P C W nb ops rest (E.put o.dst undef) (L.del o.dst) A K
      |false=>AS)
     |_=>AS)
    |none=>AS)
def eO (ops:Array Oper)(o:Oper):η:=
 (o.op.operands.toList.filterMap λ| .tmp t=>some t|_=>none)++(match o.guard with
  |some (j,_)=>(match (ops[j]?).bind (·.dst) with|some t=>[t] | none=>[])
  |none=>[])
def apart (ops:Array Oper)(o p:Oper):Bool:=
 (match o.dst with|some d=>!At (eO ops p) d|none=>true)&&(match p.dst with|some d=>!At (eO ops o) d|none=>true) &&
 (match o.dst,p.dst with|some d,some e=>!Nat.beq d e|_,_=>true)
def Au (ops:Array Oper)(p:Oper):Bool:=
 match p.op with
 |.store _ _ _=>true
 |.call c=>!isBuiltin c||BN ops p
 |_=>false
def Cv (mo:FuncId->Bool)(p:Oper):Bool:=
 match p.op with
 |.call c=>(match c.callee with
  |.value (.func f)=>mo f
  |_=>false)
 |_=>false
def MX (P:Program)(mo:FuncId->Bool)(ops:Array Oper)(o p:Oper)(ck:Bool):Bool:=
 apart ops o p&&(match cls P ops o,cls P ops p with
  |.sil,_|_,.sil | .ro,.ro | .ro,.alloc | .ro,.add | .alloc,.alloc=>true
  |.ro,.mro | .mro,.ro | .mro,.mro | .mro,.alloc | .mro,.add | .alloc,.mro | .add,.mro=>true
  |.ro,.eff=>ck&&Au ops p
  |.alloc,.eff=>ck&&zR p
  |.ro,.mka | .mka,.ro | .mka,.alloc | .alloc,.mka | .mro,.mka=>true
  |.mka,.eff | .mro,.eff=>Cv mo p
  |.add,.alloc=>DK ops o
  |_,_=>false)
def xV (e:Edge):Bool:=match e.ground with
 |.textOnly _ | .gcOnly _=>false
 |_=>true
def WV:η->η->η
 |[],a=>a
 |x::l,a=>WV l (cond (At a x) a (x::a))
def uf (ops:List Oper):List η:=
 ops.foldl (λacc o=>acc++[WV ((o.after.toList.filter xV).flatMap λe=>e.on::acc.getD e.on []) []]) []
def KM (P:Program)(mo:FuncId->Bool)(ops:Array Oper)(pr:List η)(i j:Nat)(cj:η):Bool:=
 At (pr.getD j []) i||(match ops[i]?,ops[j]? with
  |some o,some p=>MX P mo ops o p (At cj i)
  |_,_=>false)
def GI (P:Program)(mo:FuncId->Bool)(ops:Array Oper)(pr:List η)(ks:η):List (Nat×η)->Bool
 |[]=>true
 |(i,_)::r=>(r.all λ(j,cj)=>KM P mo ops pr i j cj||At ks j)&&GI P mo ops pr ks r
def w9 (ops:Array Oper)(k:Nat):ν:=match ops[k]? with
 |some o=>(match o.op,o.guard with
  |.alloc _,none=>o.dst
  |_,_=>none)
 |none=>none
def xu (P:Program)(mo:FuncId->Bool)(ops:Array Oper)(pr:List η):η->List (Nat×η)->List (Nat×Nat×η)
 |_,[]=>[]
 |pre,(j,cj)::r=>(match w9 ops j with
  |some d=>(match pre.filter λi=>!KM P mo ops pr i j cj with
   |[]=>xu P mo ops pr (j::pre) r
   |l=>(j,d,l)::xu P mo ops pr (j::pre) r)
  |none=>xu P mo ops pr (j::pre) r)
def agh (ops:Array Oper)(pr:List η)(bad:η)(k d:Nat):Bool:=ops.toList.zipIdx.all λ(o,b)=>
 (!At (eO ops o) d||At (pr.getD b []) k)&&(Nat.beq b k||(match o.dst with|some e=>!Nat.beq e d|none=>true))&&(!At (pr.getD b []) k||bad.all (At (pr.getD b [])))
def WW (P:Program)(mo:FuncId->Bool)(ops:Array Oper)(l:List (Nat×η))(pr:List η):Bool:=
 (λt:List (Nat×Nat×η)=>(λ(ks bad:η)=>GI P mo ops pr ks l&&bad.all (λi=>!At ks i)&&t.all λ(k,d,_)=>agh ops pr bad k d) (t.map (·.1)) (t.flatMap (·.2.2))) (xu P mo ops pr [] l)
def PE (P:Program)(mo:FuncId->Bool)(ops:Array Oper)(l:List (Nat×η)):Bool:=
 P.follows .mixedOrders&&(l.map (·.1)).isPerm (List.range ops.size) &&
 (ops.toList.zipIdx.all λ(o,i)=>o.after.toList.all λe=>!xV e||Nat.blt e.on i) &&
 WW P mo ops l (uf ops.toList)
def WX (P:Program)(ops:Array Oper):Bool:=ops.toList.any λo=>match cls P ops o with
 |.alloc | .mka=>true
 |_=>false
def den {R}(P:Program)(body:Code)(T:MV R)(W:Wr)(fin:nJ->Env->M R):Nat->Bool->List DI->Env->M R
 |0,_,_,_=>AS
 |_+1,_,[],E=>fin .normal E
 |n+1,_,.ar _::k,E=>den P body T W fin n true k E
 |n+1,_,.scp _::k,E=>den P body T W fin n true k E
 |n+1,j,.code p::k,E=>
  match (match j with|true=>T.join p|false=>none) with
  |some (k',J)=>(match eqItems k k' with
   |true=>(match J E with|some m=>m|none=>AS)
   |false=>AS)
  |none=>
   match gw body p with
   |.skip=>den P body T W fin n true k E
   |.label _=>den P body T W fin n true k E
   |.seq _ _=>den P body T W fin n true (.code (0::p)::.code (1::p)::k) E
   |.cond c _ _=>(match E.ev c with
    |some (.bool b)=>xt b (den P body T W fin n true (.code (0::p)::k) (E.uy c true))
     (den P body T W fin n true (.code (1::p)::k) (E.uy c false))
    |_=>AS)
   |.block id _=>den P body T W fin n true (.code (0::p)::.ar id::k) E
   |.scope _=>den P body T W fin n true (.code (0::p)::.scp (0::p)::k) E
   |.loop _=>(match T.loop p E with
    |.one _ m e out=>sh m λx=>(match e with
     |.normal=>AS
     |.ret=>fin .ret (out x)
     |.exit id=>(match tf id k with
      |some k'=>den P body T W fin n true k' (out x)
      |none=>fin (.exit id) (out x)))
    |.two _ _ m e out e' out'=>sh m (dX
     (λx=>(match e with
      |.normal=>AS
      |.ret=>fin .ret (out x)
      |.exit id=>(match tf id k with
       |some k'=>den P body T W fin n true k' (out x)
       |none=>fin (.exit id) (out x))))
     (λx=>(match e' with
      |.normal=>AS
      |.ret=>fin .ret (out' x)
      |.exit id=>(match tf id k with
       |some k'=>den P body T W fin n true k' (out' x)
       |none=>fin (.exit id) (out' x)))))
    |.none=>AS)
   |.exit id=>(match tf id k with
    |some k'=>den P body T W fin n true k' E
    |none=>fin (.exit id) E)
   |.ret=>fin .ret E
   |.region id ops draw=>(match draw with
    |true=>(match T.draw id with
     |some l=>(match PE P T.call.mo ops l with
      |true=>(match WX P ops with
       |true=>sh (eE ops.size) λnb=>jx P T.call W (some nb) ops l E fX.emp (λ_=>none) λE'=>den P body T W fin n true k E'
       |false=>jx P T.call W (some 0) ops l E fX.emp (λ_=>none) λE'=>den P body T W fin n true k E')
      |false=>AS)
     |none=>AS)
    |false=>jx P T.call W none ops ((List.range ops.size).map λi=>(i,[])) E fX.emp (λ_=>none) λE'=>den P body T W fin n true k E')
   |_=>AS
def lY (P:Program):List ResultVar->Env->δ->(δ->Act)->Act
 |[],_,acc,K=>K acc.reverse
 |.tmp t::r,E,acc,K=>(match E t with|some v=>lY P r E (v::acc) K|none=>.none)
 |.cell a t::r,E,acc,K=>(match E a with
  |some (.pointer (some x))=>(match I4 P t x with
   |.val v=>lY P r E (v::acc) K
   |.ask α m k=>.ask α m λx=>resBind (k x) λv=>lY P r E (v::acc) K
   |.none=>.none)
  |_=>.none)
where
 resBind:Act->(ο->Act)->Act
  |.val v,K=>K v
  |.ask α m k,K=>.ask α m λx=>resBind (k x) K
  |.none,_=>.none
def vY (f:Func):Code:=match f.body with
 |some c=>c
 |none=>.skip
def abD ts (v:ο):M (bf ts):=
 match unR ts v with
 |some r=>AI r
 |none=>AS
def WY (P:Program)(f:Func) ts:nJ->Env->M (bf ts):=λe E=>
 match e with
 |.exit _=>AS
 |_=>(lY P f.results.toList E [] λvs=>.val (iK vs)).run (abD ts)
def MY ls ms (id:Nat)(next:bf (lD ls)->M (bf (lD ms))):nJ->Env->M (bf (lD ms)):=λe E=>
 match e with
 |.normal=>(match sV E ls with
  |some vs=>(match xR (lD ls) vs with|some x=>next x|none=>AS)
  |none=>AS)
 |.exit id'=>(match Nat.beq id id',sV E ms with
  |true,some vs=>(match xR (lD ms) vs with|some x=>AI x|none=>AS)
  |_,_=>AS)
 |.ret=>AS
def WZ ls ms rs (id:Nat)(e2:nJ)(next:bf (lD ls)->M (bf (lD ms)⊕bf (lD rs))) :
  nJ->Env->M (bf (lD ms)⊕bf (lD rs)):=λe E=>
 match e with
 |.normal=>(match sV E ls with
  |some vs=>(match xR (lD ls) vs with|some x=>next x|none=>AS)
  |none=>AS)
 |e=>(match eqE e (.exit id) with
  |true=>(match sV E ms with
   |some vs=>(match xR (lD ms) vs with|some x=>AI (.inl x)|none=>AS)
   |none=>AS)
  |false=>(match eqE e e2 with
   |true=>(match sV E rs with
    |some vs=>(match xR (lD rs) vs with|some x=>AI (.inr x)|none=>AS)
    |none=>AS)
   |false=>AS))
def Rr ls rs (next:bf (lD ls)->M (bf (lD rs))):nJ->Env->M (bf (lD rs)):=λe E=>
 match e with
 |.normal=>(match sV E ls with
  |some vs=>(match xR (lD ls) vs with|some x=>next x|none=>AS)
  |none=>AS)
 |.exit _=>AS
 |.ret=>(match sV E rs with
  |some vs=>(match xR (lD rs) vs with|some x=>AI x|none=>AS)
  |none=>AS)
structure dZ where
 id:FuncId
 as:List Ty
 rs:List Ty
 m:bf as->M (bf rs)
def M0 (l:List dZ):FuncId->δ->Option yG:=λf vs=>
 match l with
 |[]=>none
 |e::r=>match Nat.beq f e.id with
  |true=>(match xR e.as vs with
   |some x=>some ⟨bf e.rs,e.m x,λy=>iK (fW e.rs y)⟩
   |none=>none)
  |false=>M0 r f vs
structure ru where
 slot:Nat
 as:List Ty
 rs:List Ty
 m:ο->bf as->M (bf rs)
def Rt (l:List ru):Nat->ο->δ->Option yG:=λt x vs=>
 match l with
 |[]=>none
 |e::r=>match Nat.beq t e.slot with
  |true=>(match xR e.as vs with
   |some a=>some ⟨bf e.rs,e.m x a,λy=>iK (fW e.rs y)⟩
   |none=>none)
  |false=>Rt r t x vs
def aeE (l:List ru)(t:Nat):Bool:=
 match l with
 |[]=>false
 |e::r=>Nat.beq t e.slot||aeE r t
def M4 (l:List dZ)(d:List ru)(ms:List FuncId:=[]):Ct:=⟨M0 l,Rt d,aeE d,λf=>ms.any (Nat.beq f)⟩
structure DTg (as rs:List Ty) where
 id:FuncId
 cs:List Ty
 m:bf as->bf cs->M (bf rs)
def dsp {as rs}:List (DTg as rs)->ο->bf as->M (bf rs)
 |[],_,_=>AS
 |[e],x,a=>xt (rC e.id x) (sh (qj e.cs x) λc=>e.m a c) AS
 |e::f::r,x,a=>xt (rC e.id x) (sh (qj e.cs x) λc=>e.m a c) (dsp (f::r) x a)
structure M5 where
 p:Path
 ls:List (Nat×Ty)
 act:bf (lD ls)->w8
def Hc (l:List M5):Path->Env->w8:=λp E=>
 match l with
 |[]=>.none
 |e::r=>match vW p e.p with
  |true=>(match sV E e.ls with
   |some vs=>(match xR (lD e.ls) vs with
    |some x=>e.act x
    |none=>.none)
   |none=>.none)
  |false=>Hc r p E
def akD (E:Env)(ws:η):Env:=λj=>cond (ws.any (Nat.beq j)) none (E j)
def W1 ls ms (ws:η)(x:bf (lD ls))(y:bf (lD ms)):Env:=aby (akD (yC ls (fW (lD ls) x)) ws) ms (fW (lD ms) y)
def aeF ls ms (ws:η)(id:Nat)(m:bf (lD ls)->M (bf (lD ms)))(x:bf (lD ls)):w8:=.one (bf (lD ms)) (m x) (.exit id) (W1 ls ms ws x)
def aeG ls rs (ws:η)(m:bf (lD ls)->M (bf (lD rs)))(x:bf (lD ls)):w8:=.one (bf (lD rs)) (m x) .ret (W1 ls rs ws x)
def aeH ls ms rs (ws:η)(id:Nat)(e2:nJ)(m:bf (lD ls)->M (bf (lD ms)⊕bf (lD rs)))(x:bf (lD ls)):w8:=
 .two (bf (lD ms)) (bf (lD rs)) (m x) (.exit id) (W1 ls ms ws x) e2 (W1 ls rs ws x)
def Hd (W:Wr)(nt:Nat)(ws:η):Bool:=Nat.beq W.1 nt&&(match W.2 with
 |some l=>ws.all λi=>l.any (Nat.beq i)
 |none=>true)
structure iV (R:Type) where
 p:Path
 k:List DI
 ls:List (Nat×Ty)
 m:bf (lD ls)->M R
def goJ {R} ls (m:bf (lD ls)->M R)(E:Env):Option (M R):=
 match sV E ls with
 |some vs=>(match xR (lD ls) vs with
  |some x=>some (m x)
  |none=>none)
 |none=>none
def JI {R}(l:List (iV R)):Path->Option (List DI×(Env->Option (M R))):=λp=>
 match l with
 |[]=>none
 |e::r=>match vW p e.p with
  |true=>some (e.k,goJ e.ls e.m)
  |false=>JI r p
end Go.Ago
