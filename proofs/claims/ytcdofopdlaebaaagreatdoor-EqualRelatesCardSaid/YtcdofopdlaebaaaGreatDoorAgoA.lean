
import Derived.Laws.Cells
import Derived.KernelRfl
set_option linter.all false
namespace Go.Ago
abbrev AT:=@List.mem_cons_of_mem
abbrev By:=@List.mem_cons_self
abbrev BY:=@Nat.eq_of_beq_eq_true
abbrev IN:=@List.mem_of_getElem?
abbrev IS:=@Int.toNat_natCast
abbrev IT:=@Bool.and_eq_true
abbrev OF:=@List.length_cons
abbrev aar:=@Nat.lt_succ_self
abbrev aaJ:=@List.getElem?_eq_getElem
abbrev aaM:=@Option.some.injEq
abbrev aaQ:=@List.length_append
abbrev aaR:=@Nat.le_refl
abbrev aaS:=@List.drop_eq_nil_of_le
abbrev aaW:=@List.getElem?_map
abbrev aa0:=@List.length_nil
abbrev aa1:=@Bool.false_eq_true
abbrev aa5:=@List.mem_append_right
abbrev abi:=@Option.some.inj
abbrev abn:=@List.eq_nil_of_length_eq_zero
abbrev abp:=@List.append_assoc
abbrev abQ:=@List.mem_append_left
abbrev abU:=@Nat.le_trans
abbrev abX:=@Nat.lt_succ_of_lt
abbrev acq:=@Nat.mul_one
abbrev acJ:=@List.cons_append
abbrev acP:=@List.getD_eq_getElem?_getD
abbrev acQ:=@Array.getElem?_toList
abbrev adf:=@List.length_replicate
abbrev adq:=@List.length_map
abbrev adr:=@Nat.zero_add
abbrev adt:=@List.eq_of_mem_replicate
abbrev adv:=@Nat.add_mul
abbrev adw:=@List.length_take
abbrev adx:=@List.all_eq_true
abbrev ady:=@List.getElem?_drop
abbrev adz:=@Nat.mul_le_mul_right
abbrev adA:=@Nat.le_of_ble_eq_true
abbrev adB:=@List.Sublist.refl
abbrev adC:=@List.flatMap_cons
abbrev adD:=@Array.getElem?_setIfInBounds
abbrev adE:=@List.map_cons
abbrev adF:=@Int.tdiv_eq_ediv_of_nonneg
abbrev adG:=@List.append_nil
abbrev adH:=@Array.getElem?_eq_getElem
abbrev adI:=@Array.ext'
abbrev adK:=@Array.getD_eq_getD_getElem?
abbrev adO:=@Option.map_some
abbrev ad6:=@List.nil_append
abbrev ad8:=@List.getElem?_eq_none
abbrev aed:=@Int.eq_ofNat_of_zero_le
abbrev aee:=@List.drop_eq_getElem_cons
abbrev aef:=@List.mem_or_eq_of_mem_set
abbrev aeg:=@List.set_cons_zero
abbrev aeh:=@List.drop_zero
abbrev aei:=@List.mem_cons
abbrev ael:=@List.not_mem_nil
abbrev aez:=@Prod.mk.injEq
abbrev aeA:=@List.getElem?_take
abbrev aeD:=@Option.bind_some
abbrev aeI:=@List.take_of_length_le
abbrev aeN:=@List.sublist_append_right
abbrev aeO:=@List.replicate_succ
abbrev aeP:=@Nat.beq_refl
abbrev aeQ:=@List.Sublist.append
abbrev aeV:=@List.set_append_right
abbrev aeW:=@List.perm_append_comm
abbrev aeZ:=@List.getElem?_append
abbrev ae8:=@List.length_set
abbrev afj:=@Array.getElem?_push
abbrev afk:=@List.sublist_cons_self
abbrev afl:=@List.getElem_mem
abbrev afm:=@Nat.lt_of_lt_of_le
abbrev afn:=@List.map_replicate
abbrev afo:=@ByteArray.size_append
abbrev afp:=@Classical.byContradiction
abbrev afq:=@List.getElem?_append_left
abbrev afr:=@Nat.le_succ
abbrev afs:=@Nat.add_zero
abbrev aft:=@Nat.sub_self
abbrev afu:=@Nat.lt_trans
abbrev afv:=@Nat.not_lt_zero
abbrev afw:=@List.map_append
abbrev afx:=@List.count_cons
abbrev afy:=@List.count_append
abbrev afz:=@List.getElem?_cons_succ
abbrev afA:=@Array.mem_append
abbrev afB:=@Nat.one_mul
abbrev afC:=@List.mem_singleton
abbrev afD:=@List.set_cons_succ
abbrev afE:=@List.perm_append_comm_assoc
abbrev afF:=@List.getElem?_toArray
abbrev afG:=@Array.mem_of_getElem?
abbrev afH:=@List.length_singleton
abbrev afI:=@Array.toArray_toList
abbrev afJ:=@List.set_eq_take_append_cons_drop
abbrev afK:=@List.drop_drop
abbrev afL:=@List.mem_flatten
abbrev afM:=@Nat.le_of_lt
abbrev afN:=@List.flatten_replicate_singleton
abbrev afO:=@List.countP_cons
abbrev afP:=@Array.toList_append
abbrev afQ:=@List.flatMap_append
abbrev afR:=@Bool.or_eq_true
abbrev afS:=@Bool.not_eq_true'
abbrev afT:=@List.size_toArray
abbrev afU:=@Array.getElem?_modify
abbrev afV:=@Nat.mul_le_mul
abbrev afW:=@Int.le_trans
abbrev afX:=@List.map_set
abbrev afY:=@List.Perm.append_left
abbrev af2:=@List.nodup_range
abbrev af5:=@List.length_drop
abbrev af8:=@List.take_length
abbrev agb:=@List.replicate_succ'
abbrev agc:=@List.perm_middle
abbrev agd:=@Nat.le_add_right
abbrev age:=@Nat.add_assoc
abbrev agf:=@Bool.true_and
abbrev agh:=@Bool.not_true
abbrev agi:=@List.all_cons
abbrev agj:=@List.getElem?_append_right
abbrev agk:=@Int.tmod_eq_emod_of_nonneg
abbrev agl:=@List.cons.inj
abbrev agm:=@List.length_reverse
abbrev agn:=@List.getElem?_range
abbrev ago:=@Nat.mul_le_mul_left
abbrev agp:=@Nat.min_eq_left
abbrev agq:=@Array.ext_getElem?
abbrev agr:=@List.map_map
abbrev ags:=@Nat.lt_of_le_of_lt
abbrev agt:=@List.flatten_cons
abbrev agu:=@List.ext_getElem?
abbrev agv:=@List.getElem?_set
abbrev agw:=@List.take_add_one
abbrev agx:=@Nat.zero_le
abbrev agy:=@List.Perm.append_right
abbrev agz:=@List.head?_eq_getElem?
abbrev agA:=@Option.getD_some
abbrev agB:=@List.range'_succ
abbrev agC:=@List.take_append_drop
abbrev agD:=@ByteArray.data_append
abbrev agE:=@Array.mem_toList_iff
abbrev agF:=@List.getElem?_set_ne
abbrev agG:=@Int.toNat_of_nonneg
abbrev agH:=@List.mem_zipIdx_iff_getElem?
abbrev agI:=@List.dropLast_concat_getLast
abbrev agJ:=@Int.le_refl
abbrev agK:=@Nat.eq_zero_or_pos
abbrev agL:=@Int.natCast_nonneg
abbrev agM:=@BitVec.toNat_ofInt
abbrev agO:=@Array.toList_setIfInBounds
abbrev agP:=@Bool.false_or
abbrev agQ:=@Bool.or_false
abbrev agR:=@List.perm_ext_iff_of_nodup
abbrev agS:=@Int.fdiv_eq_ediv_of_nonneg
abbrev agT:=@Nat.mod_lt
abbrev agU:=@Nat.le_of_not_lt
abbrev agV:=@List.sublist_append_left
abbrev agW:=@List.Sublist.append_left
abbrev agX:=@Option.bind_eq_some_iff
abbrev agY:=@Classical.axiomOfChoice
abbrev agZ:=@Nat.add_sub_cancel_left
abbrev ag0:=@List.forIn_cons
abbrev ag1:=@Array.getElem?_eq_none
abbrev ag2:=@List.getElem?_set_self
abbrev ag3:=@List.modify_zero_cons
abbrev ag4:=@List.mapM_cons
abbrev ag5:=@Bool.not_false
abbrev ag6:=@Bool.false_and
abbrev ag7:=@List.singleton_append
abbrev ag8:=@List.take_succ
abbrev ag9:=@List.getElem?_modify
abbrev aha:=@List.set_append_left
abbrev ahb:=@List.count_le_length
abbrev ahc:=@Decidable.of_not_not
abbrev ahd:=@List.any_cons
abbrev ahj:=@Bool.true_or
abbrev ahk:=@Nat.add_comm
open Go
abbrev Env:=Nat->Option Value
def Env.set (E:Env)(i:Nat)(v:Value):Env:=λj=>cond (Nat.beq j i) (some v) (E j)
def Env.put (E:Env)(d:Option Nat)(v:Value):Env:=
 match d with
 |some i=>E.set i v
 |none=>E
def Env.emp:Env:=λ_=>none
def cX:Value->Bool
 |.bool _ | .int _ _ | .float _ _ | .complex _ _ _ | .string _ | .nilFunc | .nilIface | .pointer none | .map none | .chan none | .slice none _ _=>true
 |_=>false
def flat:Value->Bool
 |.agg cs=>cs.toList.all cX
 |.tuple vs=>vs.toList.isEmpty
 |.iface _ v=>cX v
 |v=>cX v
def Env.ev (E:Env):Operand->Option Value
 |.tmp t=>E t
 |.const v=>match flat v with|true=>some v|false=>none
 |.global _=>none
 |.func f=>some (.func (.func f) #[] #[])
def Env.JP (E:Env):List Operand->Option (List Value)
 |[]=>some []
 |x::xs=>match E.ev x,E.JP xs with
  |some v,some vs=>some (v::vs)
  |_,_=>none
def OJ:IntKind->Nat
 |.i8=>0 | .i16=>1 | .i32=>2 | .i64=>3 | .u8=>4 | .u16=>5 | .u32=>6 | .u64=>7
def OL (a b:IntKind):Bool:=Nat.beq (OJ a) (OJ b)
inductive FO where
 |cells (c:List Value) (dW base:Nat) (elem:TypeId)
 |map (es:List (Value×Value))
 |iter (s:ByteArray) (pos:Nat)
structure nh where
 key:Value
 val:Value
 born:Nat
structure Xh where
 kt:TypeId
 clock:Nat
 es:List nh
structure af where
 jf:Nat->Option Xh
 get:Nat->Option FO
 next:Nat
 oi:Nat->Nat
 used:Nat->Bool
 dec:∀p:Prop,Decidable p
abbrev M (α:Type):=af->Option (α×af)
def sh {α β:Type}(m:M α)(f:α->M β):M β:=λh=>
 match m h with
 |some (a,h')=>f a h'
 |none=>none
def AI {α:Type}(a:α):M α:=λh=>some (a,h)
def AS {α:Type}:M α:=λ_=>none
structure Sl where
 a:Option Addr
 len:Nat
 cap:Nat
inductive eF where
 |int (k:IntKind)|bool|str|ptr|ak|sl|mp|raw|f64
@[reducible] def eF.den:eF->Type
 |.int _=>Int
 |.bool=>Bool
 |.str=>ByteArray
 |.ptr=>Option Addr
 |.ak=>Addr
 |.sl=>Sl
 |.mp=>Option Nat
 |.raw=>Value
 |.f64=>Nat
def FP:(l:eF)->l.den->Value
 |.int k,n=>.int k n
 |.bool,b=>.bool b
 |.str,s=>.string s
 |.ptr,p=>.pointer p
 |.ak,p=>.pointer (some p)
 |.sl,s=>.slice s.a s.len s.cap
 |.mp,r=>.map r
 |.raw,v=>v
 |.f64,n=>.float .f64 n
def yI:(l:eF)->Value->Option l.den
 |.int .i8,.int .i8 n | .int .i16,.int .i16 n | .int .i32,.int .i32 n | .int .i64,.int .i64 n=>some n
 |.int .u8,.int .u8 n | .int .u16,.int .u16 n | .int .u32,.int .u32 n | .int .u64,.int .u64 n=>some n
 |.bool,.bool b=>some b
 |.str,.string s=>some s
 |.ptr,.pointer p=>some p
 |.ak,.pointer (some p)=>some p
 |.sl,.slice a n c=>some ⟨a,n,c⟩
 |.mp,.map r=>some r
 |.raw,v=>some v
 |.f64,.float .f64 n=>some n
 |_,_=>none
@[reducible] def bN:List eF->Type
 |[]=>Unit
 |[l]=>l.den
 |l::ls=>l.den×bN ls
def FQ:(ls:List eF)->bN ls->List Value
 |[],_=>[]
 |[l],x=>[FP l x]
 |l::l'::ls,x=>FP l x.1::FQ (l'::ls) x.2
def vF:(ls:List eF)->List Value->Option (bN ls)
 |[],[]=>some ()
 |[l],[v]=>yI l v
 |l::l'::ls,v::vs=>match yI l v,vF (l'::ls) vs with
  |some x,some y=>some (x,y)
  |_,_=>none
 |_,_=>none
inductive Ty where
 |one (l:eF)
 |agg (ls:List eF)
@[reducible] def Ty.den:Ty->Type
 |.one l=>l.den
 |.agg ls=>bN ls
def Cg:(t:Ty)->t.den->Value
 |.one l,x=>FP l x
 |.agg ls,x=>.agg (FQ ls x).toArray
def JQ:(t:Ty)->Value->Option t.den
 |.one l,v=>yI l v
 |.agg ls,.agg cs=>vF ls cs.toList
 |_,_=>none
@[reducible] def aM:List Ty->Type
 |[]=>Unit
 |[t]=>t.den
 |t::ts=>t.den×aM ts
def fb:(ts:List Ty)->aM ts->List Value
 |[],_=>[]
 |[t],x=>[Cg t x]
 |t::t'::ts,x=>Cg t x.1::fb (t'::ts) x.2
def uO:(ts:List Ty)->List Value->Option (aM ts)
 |[],[]=>some ()
 |[t],[v]=>JQ t v
 |t::t'::ts,v::vs=>match JQ t v,uO (t'::ts) vs with
  |some x,some y=>some (x,y)
  |_,_=>none
 |_,_=>none
def fW (vs:List Value):Value:=
 match vs with
 |[v]=>v
 |vs=>.tuple vs.toArray
def unR (ts:List Ty)(v:Value):Option (aM ts):=
 match ts with
 |[t]=>JQ t v
 |ts=>match v with
  |.tuple vs=>uO ts vs.toList
  |_=>none
def qv (E:Env):List (Nat×Ty)->Option (List Value)
 |[]=>some []
 |(i,_)::r=>match E i,qv E r with
  |some v,some vs=>some (v::vs)
  |_,_=>none
def sr:List (Nat×Ty)->List Value->Env
 |(i,_)::r,v::vs=>(sr r vs).set i v
 |_,_=>Env.emp
def Xi (E:Env):List (Nat×Ty)->List Value->Env
 |(i,_)::r,v::vs=>(Xi E r vs).set i v
 |_,_=>E
def gD:List (Nat×Ty)->List Ty
 |[]=>[]
 |(_,t)::r=>t::gD r
def af.cell (h:af)(a:Addr):Option Value:=
 match h.get a.block with
 |some (.cells c _ _ _)=>c[a.off]?
 |_=>none
def _root_.Go.Addr.plus (a:Addr)(n:Nat):Addr:=⟨a.block,a.off+n,none⟩
def aq (l:eF)(a:Addr):M l.den:=λh=>
 match h.cell a with
 |some v=>(match yI l v with|some x=>some (x,h)|none=>none)
 |none=>none
def af.dQ (h:af)(nm next':Nat)(elem:TypeId)(cs:List Value):af:=
 { h with
  get:=λj=>cond (Nat.beq j nm) (some (.cells cs (nm+1) 0 elem)) (h.get j)
  next:=next'
  oi:=λg=>cond (Nat.beq g (nm+1)) cs.length (h.oi g)
  used:=λj=>cond (Nat.beq j nm) true (h.used j) }
def af.new (h:af)(elem:TypeId)(cs:List Value):af:=h.dQ h.next (h.next+1) elem cs
def eQ:Value->Bool
 |.agg _ | .tuple _=>false
 |_=>true
def aO (nm:Option Nat)(elem:TypeId)(cs:List Value):M Nat:=λh=>
 if cs.all eQ=true then (match nm with
  |none=>some (h.next,h.new elem cs)
  |some k=>if h.used k=false/\k<h.next/\(h.get k).isNone=true then some (k,h.dQ k h.next elem cs) else none) else none
def eS (n:Nat):M Nat:=λh=>some (h.next,{ h with next:=h.next+n })
def aY (c:List Value)(o:Nat)(vs:List Value):List Value:=c.take o++vs++c.drop (o+vs.length)
def af.rC (h:af)(b:Nat)(c:List Value)(g base:Nat)(elem:TypeId):af:=
 { h with get:=λj=>cond (Nat.beq j b) (some (.cells c g base elem)) (match h.get j with
   |some (.cells c' g' base' elem')=>cond (Nat.beq g' g) none (some (.cells c' g' base' elem'))
   |o=>o) }
def bG (a:Addr)(vs:List Value):M Unit:=λh=>
 match h.get a.block with
 |some (.cells c g base elem)=>
  if g≠0/\a.off+vs.length<=c.length/\vs.all eQ=true then some ((),h.rC a.block (aY c a.off vs) g base elem) else none
 |_=>none
def kC (b:Bool):M Unit:=λh=>match b with
 |true=>some ((),h)
 |false=>none
def nn (p:Option Addr):M Addr:=λh=>match p with
 |some a=>some (a,h)
 |none=>none
def aX (h:af)(a:Option Addr)(n:Nat):Option (List Value):=
 match a with
 |none=>if n=0 then some [] else none
 |some a=>match h.get a.block with
  |some (.cells c _ _ _)=>if a.off+n<=c.length then some ((c.drop a.off).take n) else none
  |_=>none
def Mg (s:Sl)(sz:Nat):M (List Value):=λh=>
 match aX h s.a (s.len*sz) with
 |some cs=>some (cs,h)
 |none=>none
def cK:Nat:=1073741824
def tB (strict:Bool)(s:Sl)(sz:Nat)(elem:TypeId)(n:Nat)(new:List Value):M Sl:=λh=>
 if n=0 then (match s.a with
  |none=>if s.len=0/\s.cap=0/\new=[] then some (s,h) else none
  |some _=>if new=[] then some (s,h) else none) else
 if ¬(s.len+n<=cK/\new.length=n*sz) then none else
 match s.a with
 |none=>if s.len=0/\s.cap=0 then some (⟨some ⟨h.next,0,none⟩,n,0⟩,h.new elem new) else none
 |some a=>
  match aX h (some a) (s.len*sz),h.get a.block with
  |some nr,some (.cells c g base e)=>
   if s.cap≠0/\s.len+n<s.cap then
    if g≠0/\a.off+(s.len*sz+new.length)<=c.length/\strict=false then
     some (⟨some a,s.len+n,s.cap⟩,h.rC a.block (aY c (a.off+s.len*sz) new) g base e) else none
   else if s.cap≠0 then some (⟨some ⟨h.next,0,none⟩,s.len+n,0⟩,h.new elem (nr++new))
   else if g≠0/\e=elem then
    let tipNow:=base+a.off+s.len*sz
    let ar:FO:=.cells (nr++new) g (base+a.off) elem
    if h.oi g=tipNow then
     some (⟨some ⟨h.next,0,none⟩,s.len+n,0⟩,
      { h with
       get:=λj=>cond (Nat.beq j h.next) (some ar) (h.get j)
       next:=h.next+1
       oi:=λg'=>cond (Nat.beq g' g) (tipNow+new.length) (h.oi g')
       used:=λj=>cond (Nat.beq j h.next) true (h.used j) })
    else if strict=false then
     some (⟨some ⟨h.next,0,none⟩,s.len+n,0⟩,
      { h with
       get:=λj=>cond (Nat.beq j h.next) (some ar) (match h.get j with
        |some (.cells c' g' base' elem')=>cond (Nat.beq g' g&&Nat.blt tipNow (base'+c'.length)) none (some (.cells c' g' base' elem'))
        |o=>o)
       next:=h.next+1
       oi:=λg'=>cond (Nat.beq g' g) (tipNow+new.length) (h.oi g')
       used:=λj=>cond (Nat.beq j h.next) true (h.used j) })
    else none
   else none
  |_,_=>none
def app (strict:Bool)(s:Sl)(sz:Nat)(elem:TypeId)(n:Nat)(new:List Value):M Sl:=λh=>
 match strict&&(h.get h.next).isSome with
 |true=>none
 |false=>tB strict s sz elem n new h
def av (s:Sl)(i:Int)(sz:Nat):M Addr:=λh=>
 match s.a with
 |some a=>if 0<=i/\i<s.len then some (a.plus (i.toNat*sz),h) else none
 |none=>none
def jd (s:ByteArray)(i:Int):M UInt8:=λh=>
 match (if 0<=i then s[i.toNat]? else none) with
 |some b=>some (b,h)
 |none=>none
def Hg (l:eF)(n:Nat)(cs:List Value)(j:Int):M l.den:=λh=>
 if 0<=j/\j<(n:Int) then (match cs[j.toNat]? with
  |some v=>(match yI l v with|some x=>some (x,h)|none=>none)
  |none=>none) else none
def iL (s:ByteArray)(lo hi:Int):M ByteArray:=λh=>
 if 0<=lo/\lo<=hi/\hi<=s.size then some (s.extract lo.toNat hi.toNat,h) else none
def np (h:af)(s:Sl)(e:TypeId):Bool:=
 match s.a with
 |none=>Nat.beq s.len 0&&Nat.beq s.cap 0
 |some a=>match h.get a.block with
  |some (.cells _ g _ e')=>Nat.beq g 0||Nat.beq e' e
  |_=>false
def kJ (s:Sl)(lo hi:Int)(e:TypeId)(sz:Nat):M Sl:=λh=>
 if 0<=lo/\lo<=hi/\hi<=s.len/\np h s e=true then
  some (⟨s.a.map (·.plus (lo.toNat*sz)),hi.toNat-lo.toNat,s.cap-(if s.cap=0 then 0 else lo.toNat)⟩,h) else none
def mH (a:Addr)(len:Nat)(lo hi:Int)(sz:Nat):M Sl:=λh=>
 if 0<=lo/\lo<=hi/\hi<=(len:Int) then some (⟨some (a.plus (lo.toNat*sz)),hi.toNat-lo.toNat,len-lo.toNat+1⟩,h) else none
def ux (s:Sl)(lo hi mx:Int)(e:TypeId)(sz:Nat):M Sl:=λh=>
 if 0<=lo/\lo<=hi/\hi<=mx/\mx<=s.len/\s.a.isSome/\np h s e=true then
  some (⟨s.a.map (·.plus (lo.toNat*sz)),hi.toNat-lo.toNat,mx.toNat-lo.toNat+1⟩,h) else none
def kF (x y:ByteArray):M ByteArray:=λh=>
 if x.size+y.size<=cK then some (x++y,h) else none
def vc (nm:Option Nat)(elem:TypeId)(zero:List Value)(l c:Int):M Sl:=λh=>
 if 0<=l/\l<=c/\c<=cK then (match aO nm elem (List.replicate c.toNat zero).flatten h with
  |some (b,h')=>some (⟨some ⟨b,0,none⟩,l.toNat,c.toNat+1⟩,h')
  |none=>none) else none
def bytesOf (vs:List Value):Option (List UInt8):=
 match vs with
 |[]=>some []
 |.int .u8 n::r=>match bytesOf r with
  |some l=>some (UInt8.ofNat n.toNat::l)
  |none=>none
 |_=>none
def ofBytes (l:List UInt8):ByteArray:=⟨l.toArray⟩
def bR (s:ByteArray):List Value:=s.data.toList.map λb=>.int .u8 b.toNat
def strOf (s:Sl):M ByteArray:=λh=>
 match aX h s.a s.len with
 |some cs=>(match bytesOf cs with|some l=>some (ofBytes l,h)|none=>none)
 |none=>none
def D9 (elem:TypeId)(s:ByteArray):M Sl:=λh=>
 if s.size<=cK then some (⟨some ⟨h.next,0,none⟩,s.size,0⟩,h.new elem (bR s)) else none
def kc:Value->M Bool:=λv h=>match v with
 |.nilIface=>some (true,h)
 |.iface _ _=>some (false,h)
 |_=>none
def mI (x y:ByteArray):Bool:=x.toList==y.toList
def Xj (x y:ByteArray):Bool:=Op.bytesLess x.toList y.toList
def As (x y:Value):Bool:=
 match x,y with
 |.int k a,.int k' b=>OL k k'&&decide (a=b)
 |.bool a,.bool b=>a==b
 |.string a,.string b=>mI a b
 |_,_=>false
def xi:List Value->List Value->Bool
 |[],[]=>true
 |x::xs,y::ys=>As x y&&xi xs ys
 |_,_=>false
def vG (x y:Value):Bool:=
 match x,y with
 |.agg xs,.agg ys=>xi xs.toList ys.toList
 |x,y=>As x y
def fY (k:Value):List nh->Option nh
 |[]=>none
 |e::r=>match vG k e.key with
  |true=>some e
  |false=>fY k r
def wM (k:Value)(es:List nh):Option Value:=(fY k es).map (·.val)
def px (k v:Value)(c:Nat):List nh->List nh
 |[]=>[⟨k,v,c⟩]
 |e::r=>match vG k e.key with
  |true=>⟨k,v,e.born⟩::r
  |false=>e::px k v c r
def QB (k:Value):List nh->List nh
 |[]=>[]
 |e::r=>match vG k e.key with
  |true=>r
  |false=>e::QB k r
def Gz (b:Nat)(v:Value):List nh->Option (List nh)
 |[]=>none
 |e::r=>match Nat.beq e.born b with
  |true=>some (⟨e.key,v,e.born⟩::r)
  |false=>(match Gz b v r with|some l=>some (e::l)|none=>none)
def af.mJ (h:af)(m:Nat)(x:Xh):af:=
 { h with jf:=λj=>cond (Nat.beq j m) (some x) (h.jf j) }
def At (kt:TypeId):M Nat:=λh=>some (h.next,{ h.mJ h.next ⟨kt,0,[]⟩ with next:=h.next+1,used:=λj=>cond (Nat.beq j h.next) true (h.used j) })
def af.Mj (h:af)(k:Nat)(kt:TypeId):af:={ h.mJ k ⟨kt,0,[]⟩ with used:=λj=>cond (Nat.beq j k) true (h.used j) }
def uy (k:Nat)(kt:TypeId):M Nat:=λh=>if h.used k=false/\k<h.next then some (k,h.Mj k kt) else none
def FT {α:Type}(m:M α):Prop:=∀(h:af) (k:Nat) (kt:TypeId) (x:α) (h2:af),h.used k=false->k<h.next->m (h.Mj k kt)=some (x,h2)->∃h1,m h=some (x,h1)/\h1.used k=false/\k<h1.next/\h2=h1.Mj k kt
def af.uz (h:af)(kt:TypeId)(m:Nat):Option (Nat×List nh):=
 match h.jf m with
 |some x=>(match Nat.beq x.kt kt with|true=>some (x.clock,x.es)|false=>none)
 |none=>none
def wN (kt:TypeId)(T:Ty)(z:T.den)(m:Option Nat)(k:Value):M (Bool×T.den):=λh=>
 match m with
 |none=>some ((false,z),h)
 |some m=>(match h.uz kt m with
  |some (_,es)=>(match wM k es with
   |some v=>(match JQ T v with|some x=>some ((true,x),h)|none=>none)
   |none=>some ((false,z),h))
  |none=>none)
def Ch (kt:TypeId)(m:Option Nat)(k v:Value):M Unit:=λh=>
 match m with
 |none=>none
 |some m=>(match h.uz kt m with
  |some (c,es)=>some ((),h.mJ m ⟨kt,(match fY k es with|some _=>c|none=>c+1),px k v c es⟩)
  |none=>none)
def vH (kt:TypeId)(T:Ty)(z:T.den)(m:Option Nat)(k:Value):M (T.den×Nat):=λh=>
 match m with
 |none=>none
 |some m=>(match h.uz kt m with
  |some (c,es)=>(match fY k es with
   |some e=>(match JQ T e.val with|some x=>some ((x,e.born),h)|none=>none)
   |none=>some ((z,c),h.mJ m ⟨kt,c+1,px k (Cg T z) c es⟩))
  |none=>none)
def vI (m:Option Nat)(st:Int)(v:Value):M Unit:=λh=>
 match m with
 |none=>none
 |some m=>(match h.jf m with
  |some x=>(match decide (0<=st),Gz st.toNat v x.es with
   |true,some es=>some ((),h.mJ m ⟨x.kt,x.clock,es⟩)
   |_,_=>none)
  |none=>none)
def Te (kt:TypeId)(m:Option Nat)(k:Value):M Unit:=λh=>
 match m with
 |none=>some ((),h)
 |some m=>(match h.uz kt m with
  |some (c,es)=>some ((),h.mJ m ⟨kt,c,QB k es⟩)
  |none=>none)
def Ci (m:Option Nat):M Nat:=λh=>
 match m with
 |none=>some (0,h)
 |some m=>(match h.jf m with
  |some x=>some (x.es.length,h)
  |none=>none)
def wO (d s:Sl)(sz:Nat):M Nat:=λh=>
 match aX h s.a (Nat.min s.len d.len*sz) with
 |some []=>some (Nat.min s.len d.len,h)
 |some cs=>(match d.a with
  |none=>none
  |some a=>(match bG a cs h with
   |some (_,h')=>some (Nat.min s.len d.len,h')
   |none=>none))
 |none=>none
def nnF (x:Value):M Unit:=λh=>
 match x with
 |.func (.func _) _ _=>some ((),h)
 |_=>none
def qw (g:FuncId)(x:Value):Bool:=
 match x with
 |.func (.func f) first _=>Nat.beq f g&&first.toList.isEmpty
 |_=>false
def Hh (x:Value):List Value:=
 match x with
 |.func _ _ caps=>caps.toList
 |_=>[]
def oX (cs:List Ty)(x:Value):M (aM cs):=λh=>
 match uO cs (Hh x) with
 |some c=>some (c,h)
 |none=>none
def sameAt (h h':af):List (Option Addr)->Bool
 |[]=>true
 |none::r=>sameAt h h' r
 |some b::r=>(match h.dec (h.get b.block=h'.get b.block) with
  |isTrue _=>sameAt h h' r
  |isFalse _=>false)
def kG {α:Type}(as:List (Option Addr))(m:M α):M α:=λh=>
 match m h with
 |some (x,h')=>(match sameAt h h' as with
  |true=>some (x,h')
  |false=>none)
 |none=>none
def BP {α:Type}(k:Nat)(m:M α)(h:af)(x:α)(h1:af):Prop:=∀(h0:af) t cs,h0.used k=false->k<h0.next->h0.get k=none->h=h0.dQ k h0.next t cs ->
 ∃h3,m h0=some (x,h3)/\h3.used k=false/\k<h3.next/\h3.get k=none/\h1=h3.dQ k h3.next t cs
def Bm {α:Type}(k:Nat)(m:M α):M α:=λh=>match m h with
 |some (x,h1)=>(match h.dec (BP k m h x h1) with
  |.isTrue _=>some (x,h1)
  |.isFalse _=>none)
 |none=>none
inductive Act:Type 1 where
 |val (v:Value)
 |ask (α:Type) (m:M α) (k:α->Act)
 |none
def Act.run {R:Type}:Act->(Value->M R)->M R
 |.val v,K=>K v
 |.ask _ m k,K=>sh m λx=>(k x).run K
 |.none,_=>AS
def Act.exec:Act->af->Option (Value×af)
 |.val v,h=>Option.some (v,h)
 |.ask _ m k,h=>match m h with
  |Option.some (x,h')=>(k x).exec h'
  |Option.none=>Option.none
 |.none,_=>Option.none
def Hi:TypeDesc->Option eF
 |.bool=>some .bool
 |.int k=>some (.int k)
 |.string=>some .str
 |.pointer _=>some .ptr
 |.slice _=>some .sl
 |.map _ _=>some .mp
 |.float .f64=>some .f64
 |.unsafePointer=>some .ptr
 |.struct _ | .array _ _ | .tuple _ | .named _ _ | .invalid=>none
 |_=>some .raw
def bS (P:Program)(t:TypeId):Option Nat:=
 match P.info? t with
 |some i=>some i.size
 |none=>none
def Ea {α:Type}:List (Option (List α))->Option (List α)
 |[]=>some []
 |some l::r=>(match Ea r with|some m=>some (l++m)|none=>none)
 |none::_=>none
def leaves (P:Program):Nat->TypeId->Option (List eF)
 |0,_=>none
 |n+1,t=>
  match P.underlying t with
  |some (.struct fs)=>Ea (fs.toList.map λf=>leaves P n f.type)
  |some (.array len e)=>Ea (List.replicate len (leaves P n e))
  |some d=>(match Hi d with|some l=>some [l] | none=>none)
  |none=>none
def xj:TypeDesc->Bool
 |.struct _ | .array _ _=>true
 |_=>false
def adJ (P:Program)(t:TypeId):Option Ty:=
 match P.underlying t with
 |some d=>(match xj d with
  |true=>(match leaves P 12 t with|some ls=>some (.agg ls)|none=>none)
  |false=>(match Hi d with|some l=>some (.one l)|none=>none))
 |none=>none
def sU (P:Program)(t:TypeId):Option eF:=
 match P.underlying t,bS P t with
 |some (.int k),some 1=>some (.int k)
 |some .bool,some 1=>some .bool
 |some .string,some 1=>some .str
 |_,_=>none
def Eb (P:Program):List Field->Nat->Option (List eF)
 |[],_=>some []
 |f :: fs, o => (match f.name == "_", Nat.beq f.offset o, sU P f.type, Eb P fs (o+1) with
  |false,true,some l,some ls=>some (l::ls)
  |_,_,_,_=>none)
def JR (P:Program)(t:TypeId):Option Ty:=
 match P.underlying t with
 |some (.struct fs)=>(match P.stoodInHeld t,Eb P fs.toList 0 with
  |false,some ls=>some (.agg ls)
  |_,_=>none)
 |some (.array n e)=>(match sU P e with
  |some l=>some (.agg (List.replicate n l))
  |none=>none)
 |_=>(match sU P t with|some l=>some (.one l)|none=>none)
def ie (l:eF)(v:Value):Bool:=
 match l,v with
 |.int k,.int k' _=>OL k k'
 |.bool,.bool _=>true
 |.str,.string _=>true
 |_,_=>false
def fD:List eF->List Value->Bool
 |[],[]=>true
 |l::ls,v::vs=>ie l v&&fD ls vs
 |_,_=>false
def QC (T:Ty)(v:Value):Bool:=
 match T,v with
 |.one l,v=>ie l v
 |.agg ls,.agg cs=>fD ls cs.toList
 |_,_=>false
def nq (P:Program)(t:TypeId)(v:Value):Bool:=
 match JR P t with
 |some K=>QC K v
 |none=>false
def y9 (a:Addr):List eF->Nat->List Value->Act
 |[],_,acc=>.val (.agg acc.reverse.toArray)
 |l::ls,i,acc=>.ask l.den (aq l (a.plus i)) λx=>y9 a ls (i+1) (FP l x::acc)
def aI (ls:List eF)(a:Addr):M (bN ls):=λh=>
 match aX h (some a) ls.length with
 |some vs=>(match vF ls vs with|some x=>some (x,h)|none=>none)
 |none=>none
def FM (P:Program)(t:TypeId)(a:Addr):Act:=
 match P.underlying t,bS P t with
 |some d,some n=>
  (match xj d with
  |true=>(match leaves P 12 t with
   |some ls=>(match Nat.beq ls.length n with|true=>.ask (bN ls) (aI ls a) λx=>.val (.agg (FQ ls x).toArray)|false=>.none)
   |none=>.none)
  |false=>(match Hi d with
   |some l=>.ask l.den (aq l a) λx=>.val (FP l x)
   |none=>.none))
 |_,_=>.none
def zeroOf (P:Program)(t:TypeId):Option Value:=
 match P.info? t with
 |some i=>(match i.zero with
  |some v=>(match v.cells.toList.all cX&&Nat.beq v.cells.size i.size with|true=>some v|false=>none)
  |none=>none)
 |none=>none
def Dk (P:Program)(op:BinOp)(t:TypeId)(v:Value):Act:=
 match op,P.underlying t with
 |.eql,some (.interface _)=>.ask Bool (kc v) λb=>.val (.bool b)
 |.neq,some (.interface _)=>.ask Bool (kc v) λb=>.val (.bool (!b))
 |_,_=>.none
def JS (op:BinOp)(k:IntKind)(a:Int)(k':IntKind)(b:Int):Act:=
 match op with
 |.shl=>.ask Unit (kC (decide (0<=b))) λ_=>.val (.int k (k.wrap (a*2^(min b.toNat k.bits))))
 |.shr=>.ask Unit (kC (decide (0<=b))) λ_=>.val (.int k (a.fdiv (2^(min b.toNat k.bits))))
 |op=>(match OL k k' with
  |false=>.none
  |true=>(match op with
   |.add=>.val (.int k (k.wrap (a+b)))
   |.sub=>.val (.int k (k.wrap (a-b)))
   |.mul=>.val (.int k (k.wrap (a*b)))
   |.quo=>.ask Unit (kC (decide (b≠0))) λ_=>.val (.int k (k.wrap (a.tdiv b)))
   |.rem=>.ask Unit (kC (decide (b≠0))) λ_=>.val (.int k (a.tmod b))
   |.and=>.val (.int k (k.wrap (BitVec.ofInt k.bits a&&&BitVec.ofInt k.bits b).toNat))
   |.or=>.val (.int k (k.wrap (BitVec.ofInt k.bits a|||BitVec.ofInt k.bits b).toNat))
   |.xor=>.val (.int k (k.wrap (BitVec.ofInt k.bits a^^^BitVec.ofInt k.bits b).toNat))
   |.andNot=>.val (.int k (k.wrap (BitVec.ofInt k.bits a&&&~~~BitVec.ofInt k.bits b).toNat))
   |.eql=>.val (.bool (decide (a=b)))
   |.neq=>.val (.bool (!decide (a=b)))
   |.lss=>.val (.bool (decide (a<b)))
   |.leq=>.val (.bool (decide (a<=b)))
   |.gtr=>.val (.bool (decide (b<a)))
   |.geq=>.val (.bool (decide (b<=a)))
   |_=>.none))
def JT (op:BinOp)(a b:ByteArray):Act:=
 match op with
 |.add=>.ask ByteArray (kF a b) λs=>.val (.string s)
 |.eql=>.val (.bool (mI a b))
 |.neq=>.val (.bool (!mI a b))
 |.lss=>.val (.bool (Xj a b))
 |.leq=>.val (.bool (Xj a b||mI a b))
 |.gtr=>.val (.bool (!(Xj a b||mI a b)))
 |.geq=>.val (.bool (!Xj a b))
 |_=>.none
def wP (op:BinOp)(b:Bool):Act:=
 match op with
 |.eql=>.val (.bool b)
 |.neq=>.val (.bool (!b))
 |_=>.none
def eq1 (P:Program)(t:TypeId)(x y:Value):Option Bool:=
 match x,y with
 |.int k a,.int k' b=>(match P.underlying t with
  |some (.int _)=>(match OL k k' with|true=>some (decide (a=b))|false=>none)
  |_=>none)
 |.bool a,.bool b=>(match P.underlying t with|some .bool=>some (a==b)|_=>none)
 |.string a,.string b=>(match P.underlying t with|some .string=>some (mI a b)|_=>none)
 |_,_=>none
def JU (P:Program):List Field->Nat->List Value->List Value->Option Bool
 |[],_,xs,ys=>(match xs,ys with | [],[]=>some true|_,_=>none)
 |f::fs,o,xs,ys=>(match xs,ys with
  |x :: xs, y :: ys => (match f.name == "_", Nat.beq f.offset o with
   |false,true=>(match eq1 P f.type x y with
    |some a=>(match JU P fs (o+1) xs ys with|some b=>some (a&&b)|none=>none)
    |none=>none)
   |_,_=>none)
  |_,_=>none)
def Au (o:Option Nat):M Nat:=λh=>match o with
 |some r=>some (r,h)
 |none=>none
def adL (a b:Nat):M Nat:=Au (FloatKind.f64.format.add a b)
def adM (a b:Nat):M Nat:=Au (FloatKind.f64.format.sub a b)
def JV (a b:Nat):M Nat:=Au (FloatKind.f64.format.mul a b)
def adN (a b:Nat):M Nat:=Au (FloatKind.f64.format.div a b)
def FU (a b:Nat):Bool:=FloatKind.f64.format.order a b==some .eq
def Xk (a b:Nat):Bool:=FloatKind.f64.format.order a b==some .lt
def Xa (a b:Nat):Bool:=FloatKind.f64.format.order a b==some .gt
def Tf (n:Int):Nat:=FloatKind.f64.nearest n
def aaZ (b:Nat):Nat:=Op.negFloat .f64 b
def JW (op:BinOp)(a b:Nat):Act:=
 match op with
 |.add=>.ask Nat (adL a b) λr=>.val (.float .f64 r)
 |.sub=>.ask Nat (adM a b) λr=>.val (.float .f64 r)
 |.mul=>.ask Nat (JV a b) λr=>.val (.float .f64 r)
 |.quo=>.ask Nat (adN a b) λr=>.val (.float .f64 r)
 |.eql=>.val (.bool (FU a b))
 |.neq=>.val (.bool (!FU a b))
 |.lss=>.val (.bool (Xk a b))
 |.leq=>.val (.bool (Xk a b||FU a b))
 |.gtr=>.val (.bool (Xa a b))
 |.geq=>.val (.bool (Xa a b||FU a b))
 |_=>.none
def Tg (P:Program)(op:BinOp)(t:TypeId)(x y:Value):Act:=
 match x,y with
 |.int k a,.int k' b=>JS op k a k' b
 |.string a,.string b=>JT op a b
 |.float .f64 a,.float .f64 b=>JW op a b
 |.bool a,.bool b=>(match P.underlying t with|some .bool=>wP op (a==b)|_=>.none)
 |.slice a _ _,.slice none _ _=>(match P.underlying t with|some (.slice _)=>wP op a.isNone|_=>.none)
 |.pointer a,.pointer none=>(match P.underlying t with|some (.pointer _)=>wP op a.isNone|_=>.none)
 |.map a,.map none=>(match P.underlying t with|some (.map _ _)=>wP op a.isNone|_=>.none)
 |.agg xs,.agg ys=>(match P.underlying t,P.stoodInHeld t,P.eqGuardType P.depth t with
  |some (.struct fs),false,false=>(match JU P fs.toList 0 xs.toList ys.toList with|some b=>wP op b|none=>.none)
  |_,_,_=>.none)
 |_,_=>.none
def Th (P:Program)(op:BinOp)(t:TypeId)(x y:Value):Act:=
 match y with
 |.nilIface=>Dk P op t x
 |y=>Tg P op t x y
def aun (op:UnOp)(x:Value):Act:=
 match op,x with
 |.neg,.int k n=>.val (.int k (k.wrap (0-n)))
 |.not,.bool b=>.val (.bool (!b))
 |.neg,.float .f64 b=>.val (.float .f64 (aaZ b))
 |_,_=>.none
def inB (a:Addr):M Addr:=λh=>
 match h.get a.block with
 |some (.cells c _ _ _)=>if a.off<c.length then some (a,h) else none
 |_=>none
def atB (u:TypeId)(k:Nat)(a:Addr):M Addr:=λh=>
 match h.get a.block with
 |some (.cells c g _ e)=>if g=a.block+1/\k<=c.length/\e=u/\a.off=0 then some (a,h) else none
 |_=>none
def af.shut (h:af)(g:Nat):af:={ h with get:=λj=>match h.get j with
 |some (.cells c' g' base' e')=>cond (Nat.beq g' g) none (some (.cells c' g' base' e'))
 |o=>o }
def Xl (e:TypeId)(p:Option Addr)(n:Int):M ByteArray:=λh=>
 match p with
 |none=>if n=0 then some (ofBytes [],h) else none
 |some a=>(match h.get a.block,aX h (some a) n.toNat with
  |some (.cells _ g _ e'),some cs=>if 0<n/\n<=1073741824/\g≠0/\e'=e then (match bytesOf cs with|some l=>some (ofBytes l,h.shut g)|none=>none) else none
  |_,_=>none)
def Cj (p:Option Addr)(n:Nat):M (Option Addr):=λh=>
 match p with
 |none=>some (none,h)
 |some a=>if n≠0 then some (some a,h) else none
def JX (P:Program)(src dst:TypeId)(x:Value):Act:=
 match P.underlying src,P.underlying dst,x with
 |some (.pointer t),some .unsafePointer,.pointer p=>(match bS P t with
  |some (_+1)=>.ask Addr (nn p) λa=>.ask Addr (inB a) λa=>.val (.pointer (some a))
  |_=>.none)
 |some .unsafePointer,some (.pointer u),.pointer p=>(match bS P u with
  |some (k+1)=>(match Nat.beq (P.cellsOf u) (k+1)&&rowAt P (sameLayout P P.depth · u) P.depth u 1 0 1 with
   |true=>.ask Addr (nn p) λa=>.ask Addr (atB u (k+1) a) λa=>.val (.pointer (some a))
   |false=>.none)
  |_=>.none)
 |some (.int _),some (.int k),.int _ n=>.val (.int k (k.wrap n))
 |some .string,some .string,.string s=>.val (.string s)
 |some (.int _),some (.float .f64),.int _ n=>.val (.float .f64 (Tf n))
 |some (.int _),some .string,.int _ n=>.val (.string (Utf8.encode n))
 |some .string,some (.slice e),.string s=>(match P.underlying e,bS P e with
  |some (.int .u8),some 1=>.ask Sl (D9 e s) λr=>.val (.slice r.a r.len r.cap)
  |_,_=>.none)
 |some (.slice e),some .string,.slice a n c=>(match P.underlying e with
  |some (.int .u8)=>.ask ByteArray (strOf ⟨a,n,c⟩) λs=>.val (.string s)
  |_=>.none)
 |_,_,_=>.none
def partsOf (E:Env):List (Nat×Operand)->Option (List (Nat×Value))
 |[]=>some []
 |(i,x)::r=>match E.ev x,partsOf E r with
  |some v,some vs=>some ((i,v)::vs)
  |_,_=>none
def xk (place:Nat->Option (Nat×Nat))(cells:List Value):List (Nat×Value)->Option (List Value)
 |[]=>some cells
 |(i,v)::rest=>
  match place i with
  |none=>none
  |some (off,size)=>
   match Nat.beq v.cells.size size&&Nat.ble (off+v.cells.size) cells.length with
   |true=>xk place (aY cells off v.cells.toList) rest
   |false=>none
def placesOf (P:Program):List Field->Option (List (Nat×Nat))
 |[]=>some []
 |f::r=>match bS P f.type,placesOf P r with
  |some n,some l=>some ((f.offset,n)::l)
  |_,_=>none
def Hj (P:Program)(t:TypeId)(parts:List (Nat×Value)):Act:=
 match P.underlying t,zeroOf P t with
 |some (.struct fs),some z=>(match placesOf P fs.toList with
  |some pl=>(match xk (λi=>pl[i]?) z.cells.toList parts with
   |some cs=>.val (.agg cs.toArray)
   |none=>.none)
  |none=>.none)
 |some (.array _ e),some z=>(match bS P e with
  |some n=>(match xk (λi=>some (i*n,n)) z.cells.toList parts with
   |some cs=>.val (.agg cs.toArray)
   |none=>.none)
  |none=>.none)
 |_,_=>.none
def rQ (P:Program)(nm:Option Nat)(t:TypeId)(len:Nat)(parts:List (Nat×Value)):Act:=
 match P.underlying t with
 |some (.slice e)=>(match bS P e,zeroOf P e with
  |some n,some z=>(match Nat.ble (len*n) 16777216,xk (λi=>some (i*n,n)) (List.replicate len z.cells.toList).flatten parts with
   |true,some cs=>.ask Nat (aO nm e cs) λb=>.val (.slice (some ⟨b,0,none⟩) len (len+1))
   |_,_=>.none)
  |_,_=>.none)
 |_=>.none
def xl (v:Value)(k:Addr->Act):Act:=
 match v with
 |.pointer (some a)=>k a
 |_=>.none
def CK (E:Env):Option Operand->Option (Option Value)
 |some x=>(match E.ev x with|some v=>some (some v)|none=>none)
 |none=>some none
def Ec (P:Program)(t:TypeId)(x:Value)(lo hi mx:Option Value):Act:=
 match P.underlying t,x,mx with
 |some .string,.string s,none=>(match lo,hi with
  |none,none=>.ask ByteArray (iL s 0 s.size) λr=>.val (.string r)
  |some (.int _ l),none=>.ask ByteArray (iL s l s.size) λr=>.val (.string r)
  |none,some (.int _ h)=>.ask ByteArray (iL s 0 h) λr=>.val (.string r)
  |some (.int _ l),some (.int _ h)=>.ask ByteArray (iL s l h) λr=>.val (.string r)
  |_,_=>.none)
 |some (.slice e),.slice a n c,none=>(match bS P e with
  |some z=>(match lo,hi with
   |none,none=>.ask Sl (kJ ⟨a,n,c⟩ 0 n e z) λr=>.val (.slice r.a r.len r.cap)
   |some (.int _ l),none=>.ask Sl (kJ ⟨a,n,c⟩ l n e z) λr=>.val (.slice r.a r.len r.cap)
   |none,some (.int _ h)=>.ask Sl (kJ ⟨a,n,c⟩ 0 h e z) λr=>.val (.slice r.a r.len r.cap)
   |some (.int _ l),some (.int _ h)=>.ask Sl (kJ ⟨a,n,c⟩ l h e z) λr=>.val (.slice r.a r.len r.cap)
   |_,_=>.none)
  |none=>.none)
 |some (.array len e),.pointer (some a),none=>(match bS P e with
  |some z=>(match lo,hi with
   |none,none=>.ask Sl (mH a len 0 len z) λr=>.val (.slice r.a r.len r.cap)
   |some (.int _ l),none=>.ask Sl (mH a len l len z) λr=>.val (.slice r.a r.len r.cap)
   |none,some (.int _ h)=>.ask Sl (mH a len 0 h z) λr=>.val (.slice r.a r.len r.cap)
   |some (.int _ l),some (.int _ h)=>.ask Sl (mH a len l h z) λr=>.val (.slice r.a r.len r.cap)
   |_,_=>.none)
  |none=>.none)
 |some (.slice e),.slice a n c,some (.int _ m)=>(match bS P e with
  |some z=>(match lo,hi with
   |none,some (.int _ h)=>.ask Sl (ux ⟨a,n,c⟩ 0 h m e z) λr=>.val (.slice r.a r.len r.cap)
   |some (.int _ l),some (.int _ h)=>.ask Sl (ux ⟨a,n,c⟩ l h m e z) λr=>.val (.slice r.a r.len r.cap)
   |_,_=>.none)
  |none=>.none)
 |_,_,_=>.none
def tC (P:Program)(strict:Bool)(b:Builtin)(ts:List TypeId)(vs:List Value):Act:=
 match b,ts,vs with
 |.len,t::_,[.string s]=>(match P.underlying t with|some .string=>.val (.int .i64 s.size)|_=>.none)
 |.len,t::_,[.slice _ n _]=>(match P.underlying t with|some (.slice _)=>.val (.int .i64 n)|_=>.none)
 |.len,t::_,[.map m]=>(match P.underlying t with|some (.map _ _)=>.ask Nat (Ci m) λn=>.val (.int .i64 n)|_=>.none)
 |.delete,t::_,[.map m,k]=>(match P.underlying t with
  |some (.map kt _)=>(match nq P kt k with|true=>.ask Unit (Te kt m k) λ_=>.val (.tuple #[])|false=>.none)
  |_=>.none)
 |.copy,[t,t'],[.slice a n c,.slice a' n' c']=>(match P.underlying t,P.underlying t' with
  |some (.slice e),some (.slice _)=>(match bS P e with
   |some z=>.ask Nat (wO ⟨a,n,c⟩ ⟨a',n',c'⟩ z) λk=>.val (.int .i64 k)
   |none=>.none)
  |_,_=>.none)
 |.min,_,[.int k x,.int k' y]=>(match OL k k' with|true=>.val (.int k (if y<x then y else x))|false=>.none)
 |.max,_,[.int k x,.int k' y]=>(match OL k k' with|true=>.val (.int k (if x<y then y else x))|false=>.none)
 |.append,[t,t'],[.slice a n c,.slice a' n' c']=>(match P.underlying t,P.underlying t' with
  |some (.slice e),some (.slice e')=>(match bS P e,zeroOf P e,bS P e' with
   |some z,some _,some z'=>(match Nat.beq z z'&&Nat.ble ((match P.info? e with|some i=>i.bytes|none=>0)) 4096 with
    |true=>.ask (List Value) (Mg ⟨a',n',c'⟩ z) λcs=>.ask Sl (app strict ⟨a,n,c⟩ z e n' cs) λr=>.val (.slice r.a r.len r.cap)
    |false=>.none)
   |_,_,_=>.none)
  |_,_=>.none)
 |.append,[t,t'],[.slice a n c,.string s]=>(match P.underlying t,P.underlying t' with
  |some (.slice e),some .string=>(match P.underlying e,zeroOf P e,bS P e with
   |some (.int .u8),some _,some 1=>(match Nat.ble ((match P.info? e with|some i=>i.bytes|none=>0)) 4096 with
    |true=>.ask Sl (app strict ⟨a,n,c⟩ 1 e s.size (bR s)) λr=>.val (.slice r.a r.len r.cap)
    |false=>.none)
   |_,_,_=>.none)
  |_,_=>.none)
 |.unsafeSliceData,_,[.slice a n _]=>.ask (Option Addr) (Cj a n) λp=>.val (.pointer p)
 |.unsafeString,t::_,[.pointer p,.int .i64 n]=>(match P.underlying t with
  |some (.pointer e)=>(match Nat.beq (P.cellsOf e) 1 with
   |true=>.ask ByteArray (Xl e p n) λs=>.val (.string s)
   |false=>.none)
  |_=>.none)
 |_,_,_=>.none
def Xb (a b:Option Addr):M Bool:=λh=>match a,b with
 |some a,some b=>(match Nat.beq a.block b.block&&Nat.beq a.off b.off with|true=>some (true,h)|false=>none)
 |_,_=>none
def adP:Operand->Value->Value->Option (Option Addr×Option Addr)
 |.const _,_,_=>none
 |_,.pointer a,.pointer b=>some (a,b)
 |_,_,_=>none
def Ti (y:Operand)(u:Value):Bool:=
 match u with
 |.nilIface=>(match y with | .const _=>true|_=>false)
 |_=>true
def wQ (P:Program)(nm:Option Nat)(E:Env)(o:Oper):Act:=
 match o.op with
 |.move x | .assign x=>(match E.ev x with|some v=>.val v|none=>.none)
 |.alloc t=>(match zeroOf P t with
  |some z=>.ask Nat (aO nm t z.cells.toList) λb=>.val (.pointer (some ⟨b,0,none⟩))
  |none=>.none)
 |.box t x=>(match E.ev x with
  |some v=>.ask Nat (aO nm t v.cells.toList) λb=>.val (.pointer (some ⟨b,0,none⟩))
  |none=>.none)
 |.build t parts=>(match partsOf E parts.toList with|some vs=>Hj P t vs|none=>.none)
 |.buildSlice t len parts=>(match partsOf E parts.toList with|some vs=>rQ P nm t len vs|none=>.none)
 |.load t x=>(match E.ev x with|some v=>xl v λa=>FM P t a|none=>.none)
 |.store t x y=>(match E.ev x,E.ev y,bS P t with
  |some v,some u,some n=>xl v λa=>(match Nat.beq u.cells.size n with
   |true=>.ask Unit (bG a u.cells.toList) λ_=>.val undef
   |false=>.none)
  |_,_,_=>.none)
 |.nilCheck x=>(match P.underlying o.type with
  |some (.func _ _ _)=>(match E.ev x with
   |some v=>.ask Unit (nnF v) λ_=>.val v
   |none=>.none)
  |_=>(match E.ev x with
   |some (.pointer p)=>.ask Addr (nn p) λa=>.val (.pointer (some a))
   |_=>.none))
 |.binOp op t x y _=>(match E.ev x,E.ev y with
  |some v,some u=>(match Ti y u with
   |true=>(match adP y v u with
    |some (a,b)=>(match P.underlying t with
     |some (.pointer e)=>(match bS P e with|some _=>.ask Bool (Xb a b) λr=>wP op r|none=>.none)
     |_=>.none)
    |none=>Th P op t v u)
   |false=>.none)
  |_,_=>.none)
 |.unOp op _ x=>(match E.ev x with|some v=>aun op v|none=>.none)
 |.convert s d x=>(match E.ev x with|some v=>JX P s d v|none=>.none)
 |.makeInterface t x=>(match E.ev x,P.underlying t with
  |some _,some (.interface _)=>.none
  |some v,some _=>.val (.iface t v)
  |_,_=>.none)
 |.makeFunc fn fs cs=>(match E.JP fs.toList,E.JP cs.toList with
  |some f,some c=>.val (.func fn f.toArray c.toArray)
  |_,_=>.none)
 |.makeSlice t l c=>(match P.underlying t,E.ev l,E.ev c with
  |some (.slice e),some (.int _ n),some (.int _ m)=>(match zeroOf P e,Nat.ble ((match P.info? e with|some i=>i.bytes|none=>0)) 4096 with
   |some z,true=>.ask Sl (vc nm e z.cells.toList n m) λr=>.val (.slice r.a r.len r.cap)
   |_,_=>.none)
  |_,_,_=>.none)
 |.slice t x lo hi mx=>(match E.ev x,CK E lo,CK E hi,CK E mx with
  |some v,some l,some h,some m=>Ec P t v l h m
  |_,_,_,_=>.none)
 |.fieldAddr s x f=>(match P.underlying s,E.ev x with
  |some (.struct fs),some v=>(match fs[f]? with
   |some fd=>(match bS P fd.type with
    |some n=>(match Nat.beq n 0 with
     |true=>.none
     |false=>xl v λa=>.val (.pointer (some (a.plus fd.offset))))
    |none=>.none)
   |none=>.none)
  |_,_=>.none)
 |.field s x f=>(match P.underlying s,E.ev x with
  |some (.struct fs),some (.agg cs)=>(match fs[f]? with
   |some fd=>(match P.underlying fd.type,bS P fd.type with
    |some d,some n=>(match xj d with
     |true=>.val (.agg ((cs.toList.drop fd.offset).take n).toArray)
     |false=>(match cs.toList[fd.offset]? with|some v=>.val v|none=>.none))
    |_,_=>.none)
   |none=>.none)
  |_,_=>.none)
 |.indexAddr t x i=>(match P.underlying t,E.ev x,E.ev i with
  |some (.slice e),some (.slice a n c),some (.int _ j)=>(match bS P e with
   |some z=>.ask Addr (av ⟨a,n,c⟩ j z) λr=>.val (.pointer (some r))
   |none=>.none)
  |some (.array n e),some (.pointer (some a)),some (.int _ j)=>(match bS P e with
   |some z=>.ask Unit (kC (decide (0<=j/\j<(n:Int)))) λ_=>.val (.pointer (some (a.plus (j.toNat*z))))
   |none=>.none)
  |_,_,_=>.none)
 |.index t x i=>(match P.underlying t,E.ev x,E.ev i with
  |some .string,some (.string s),some (.int _ j)=>.ask UInt8 (jd s j) λb=>.val (.int .u8 b.toNat)
  |some (.array n e),some (.agg cs),some (.int _ j)=>(match P.underlying e,bS P e with
   |some d,some 1=>(match xj d,Hi d with
    |false,some l=>.ask l.den (Hg l n cs.toList j) λx=>.val (FP l x)
    |_,_=>.none)
   |_,_=>.none)
  |_,_,_=>.none)
 |.makeMap t r=>(match P.underlying t,CK E r with
  |some (.map k _),some none=>(match JR P k with|some _=>(match nm with|none=>.ask Nat (At k) λm=>.val (.map (some m))|some b=>.ask Nat (uy b k) λm=>.val (.map (some m)))|none=>.none)
  |some (.map k _),some (some (.int _ _))=>(match JR P k with|some _=>(match nm with|none=>.ask Nat (At k) λm=>.val (.map (some m))|some b=>.ask Nat (uy b k) λm=>.val (.map (some m)))|none=>.none)
  |_,_=>.none)
 |.lookup t x i ok=>(match P.underlying t,E.ev x,E.ev i with
  |some (.map k e),some (.map m),some kv=>(match nq P k kv,adJ P e,zeroOf P e with
   |true,some T,some zv=>(match JQ T zv with
    |some z=>.ask (Bool×T.den) (wN k T z m kv) λr=>.val (match ok with|true=>.tuple #[Cg T r.2,.bool r.1] | false=>Cg T r.2)
    |none=>.none)
   |_,_,_=>.none)
  |_,_,_=>.none)
 |.mapEntry t x i=>(match P.underlying t,E.ev x,E.ev i with
  |some (.map k e),some (.map m),some kv=>(match nq P k kv,adJ P e,zeroOf P e with
   |true,some T,some zv=>(match JQ T zv with
    |some z=>.ask (T.den×Nat) (vH k T z m kv) λr=>.val (.tuple #[Cg T r.1,.int .i64 r.2])
    |none=>.none)
   |_,_,_=>.none)
  |_,_,_=>.none)
 |.entryStore _ x i y=>(match E.ev x,E.ev i,E.ev y with
  |some (.map m),some (.int _ st),some v=>.ask Unit (vI m st v) λ_=>.val undef
  |_,_,_=>.none)
 |.mapUpdate t x i y | .insert t x i y=>(match P.underlying t,E.ev x,E.ev i,E.ev y with
  |some (.map k _),some (.map m),some kv,some v=>(match nq P k kv with
   |true=>.ask Unit (Ch k m kv v) λ_=>.val undef
   |false=>.none)
  |_,_,_,_=>.none)
 |.extract x i=>(match E.ev x with
  |some (.tuple vs)=>(match vs.toList[i]? with|some v=>.val v|none=>.none)
  |_=>.none)
 |.call c=>(match c.callee,E.JP c.args.toList with
  |.builtin b,some vs=>tC P nm.isSome b c.argTypes.toList vs
  |_,_=>.none)
 |_=>.none
abbrev Path:=List Nat
def child:Code->Nat->Code
 |.seq a _,0=>a
 |.seq _ b,_=>b
 |.cond _ a _,0=>a
 |.cond _ _ b,_=>b
 |.block _ c,_=>c
 |.loop c,_=>c
 |.scope c,_=>c
 |c,_=>c
def cC (c:Code):Path->Code
 |[]=>c
 |i::p=>child (cC c p) i
inductive tD where
 |code (p:Path)
 |ar (id:Nat)
 |scp (p:Path)
inductive gh where
 |normal
 |exit (id:Nat)
 |ret
def Zw:gh->gh->Bool
 |.normal,.normal=>true
 |.exit a,.exit b=>Nat.beq a b
 |.ret,.ret=>true
 |_,_=>false
def tE:Path->Path->Bool
 |[],[]=>true
 |a::p,b::q=>Nat.beq a b&&tE p q
 |_,_=>false
def eqItems:List tD->List tD->Bool
 |[],[]=>true
 |.code p::k,.code q::l=>tE p q&&eqItems k l
 |.ar a::k,.ar b::l=>Nat.beq a b&&eqItems k l
 |.scp p::k,.scp q::l=>tE p q&&eqItems k l
 |_,_=>false
structure oK:Type 1 where
 α:Type
 m:M α
 pk:α->Value
structure Tj:Type 1 where
 α:Type
 m:M (α⊕Value)
 pk:α->Value
inductive vJ:Type 1 where
 |one (α:Type) (m:M α) (e:gh) (out:α->Env)
 |two (α β:Type) (m:M (α⊕β)) (e:gh) (out:α->Env) (e':gh) (out':β->Env)
 |adR (α:Type) (m:M (α⊕Value)) (e:gh) (out:α->Env)
 |adS (α β:Type) (m:M ((α⊕β)⊕Value)) (e:gh) (out:α->Env) (e':gh) (out':β->Env)
 |none
structure fB:Type 1 where
 st:FuncId->List Value->Option oK
 dy:Nat->Value->List Value->Option oK
 aa2:Nat->Bool
 mo:FuncId->Bool
 sp:FuncId->List Value->Option Tj
 JN:FuncId->Bool
structure JY (R:Type) where
 call:fB
 loop:Path->Env->vJ
 join:Path->Option (List tD×(Env->Option (M R)))
 draw:Nat->Option (List (Nat×List Nat))
 fj:Value->M R
def oz (id:Nat):List tD->Option (List tD)
 |.ar id'::k=>(match Nat.beq id' id with|true=>some k|false=>oz id k)
 |_::k=>oz id k
 |[]=>none
def Env.pA (E:Env)(c:Operand)(b:Bool):Env:=
 match c with
 |.tmp t=>E.set t (.bool b)
 |_=>E
def cw {α β R:Type}(f:α->M R)(g:β->M R):α⊕β->M R
 |.inl x=>f x
 |.inr y=>g y
def callee (E:Env)(c:Call):Option (FuncId×List Value):=
 match c.callee,E.JP c.args.toList with
 |.value f,some vs=>(match E.ev f with
  |some (.func (.func g) first captured)=>some (g,first.toList++vs++captured.toList)
  |_=>none)
 |_,_=>none
def jD (C:fB)(c:Call):Option Nat:=
 match c.callee with
 |.value (.tmp t)=>(match C.aa2 t with|true=>some t|false=>none)
 |_=>none
def rD (E:Env)(t:Nat)(c:Call):Option (Value×List Value):=
 match E t,E.JP c.args.toList with
 |some x,some vs=>some (x,vs)
 |_,_=>none
def isBuiltin:Call->Bool:=λc=>match c.callee with
 |.builtin _=>true
 |_=>false
def lG {R:Type}(b:Bool)(x y:M R):M R:=if b=true then x else y
abbrev Wr:=Nat×Option (List Nat)
def yJ (W:Wr)(d:Option Nat):Bool:=
 match d with
 |none=>true
 |some i=>Nat.blt i W.1&&(match W.2 with
  |some l=>l.any (Nat.beq i)
  |none=>true)
abbrev cP:=Nat->Option (Nat×List Value)
def cP.emp:cP:=λ_=>none
def Env.del (E:Env)(d:Option Nat):Env:=
 match d with
 |some i=>λj=>cond (Nat.beq j i) none (E j)
 |none=>E
def cP.del (L:cP)(d:Option Nat):cP:=
 match d with
 |some i=>λj=>cond (Nat.beq j i) none (L j)
 |none=>L
def cP.put (L:cP)(d:Option Nat)(x:Nat×List Value):cP:=
 match d with
 |some i=>λj=>cond (Nat.beq j i) (some x) (L j)
 |none=>L
def Mk (ops:Array Oper)(t:Nat):Bool:=ops.toList.any λo=>match o.op with
 |.call c=>(match c.callee,c.args.toList with
  |.builtin .append,[_,.tmp u]=>Nat.beq u t
  |_,_=>false)
 |_=>false
def Av (P:Program)(t:TypeId)(len:Nat)(parts:List (Nat×Value)):Option (List Value):=
 match P.underlying t with
 |some (.slice e)=>(match bS P e,zeroOf P e with
  |some n,some z=>(match Nat.ble (len*n) 16777216,xk (λi=>some (i*n,n)) (List.replicate len z.cells.toList).flatten parts with
   |true,some cs=>(match cs.all eQ with|true=>some cs|false=>none)
   |_,_=>none)
  |_,_=>none)
 |_=>none
def su (L:cP)(c:Call):Option (Nat×List Value):=
 match c.callee,c.args.toList with
 |.builtin .append,[_,.tmp t]=>L t
 |_,_=>none
def sv (P:Program)(strict:Bool)(E:Env)(c:Call)(n:Nat)(cs:List Value):Act:=
 match c.argTypes.toList,c.args.toList with
 |[t,t'],[s,_]=>(match E.ev s,P.underlying t,P.underlying t' with
  |some (.slice a m k),some (.slice e),some (.slice _)=>(match bS P e,zeroOf P e with
   |some z,some _=>(match Nat.ble ((match P.info? e with|some i=>i.bytes|none=>0)) 4096 with
    |true=>.ask Sl (app strict ⟨a,m,k⟩ z e n cs) λr=>.val (.slice r.a r.len r.cap)
    |false=>.none)
   |_,_=>.none)
  |_,_,_=>.none)
 |_,_=>.none
def vf (P:Program)(ops:Array Oper)(E:Env)(o:Oper):Option (Nat×List Value):=
 match o.op,o.dst with
 |.buildSlice t len parts,some d=>(match Mk ops d with
  |true=>(match partsOf E parts.toList with
   |some vs=>(match Av P t len vs with|some cs=>some (len,cs)|none=>none)
   |none=>none)
  |false=>none)
 |_,_=>none
def qI (cks:List (Option Addr)):Act->Act
 |.ask α m k=>(match cks with
  |[]=>.ask α m k
  |cks=>.ask α (kG cks m) k)
 |A=>A
def wrapM {α:Type}(cks:List (Option Addr))(m:M α):M α:=
 match cks with
 |[]=>m
 |cks=>kG cks m
def Hk (l:List Nat)(i:Nat):Bool:=l.any (Nat.beq i)
def yK (ops:Array Oper)(o:Oper):Bool:=
 match o.op with
 |.call c=>(match c.callee with
  |.builtin .append=>(match o.dst with
   |some d=>ops.toList.any λp=>(match p.op with
    |.call c=>!isBuiltin c&&Hk (p.op.operands.toList.filterMap λ| .tmp t=>some t|_=>none) d
    |_=>false)
   |none=>false)
  |_=>false)
 |_=>false
def byB {α:Type 1}(b:Bool)(f:Bool->α):α:=
 match b with
 |true=>f true
 |false=>f false
theorem Ml {α:Type 1}{b:Bool}{f:Bool->α}:byB b f=f b:=by cases b<;>rfl
inductive Cls where
 |sil|ro|mro|alloc|add|mka|eff
def zq:Bool->Cls
 |true=>.eff
 |false=>.add
def cls (P:Program)(ops:Array Oper)(o:Oper):Cls:=
 match o.op with
 |.move _ | .assign _ | .pick _ _ _ | .build _ _ | .nilCheck _ | .binOp _ _ _ _ _ | .unOp _ _ _ | .makeInterface _ _ | .makeFunc _ _ _ | .fieldAddr _ _ _ | .field _ _ _ | .indexAddr _ _ _ | .index _ _ _ | .extract _ _=>.sil
 |.load _ _=>.ro
 |.slice t _ _ _ _=>(match P.underlying t with|some .string=>.sil|some (.slice _)=>.ro|some (.array _ _)=>.sil|_=>.eff)
 |.convert s d _=>(match P.underlying s,P.underlying d with
  |some (.slice _),some .string=>.ro
  |some (.int _),some _=>.sil
  |some .string,some .string=>.sil
  |_,_=>.eff)
 |.buildSlice _ _ _=>(match o.dst with
  |some d=>(match Mk ops d with|true=>.sil|false=>.alloc)
  |none=>.eff)
 |.alloc _ | .box _ _ | .makeSlice _ _ _=>.alloc
 |.lookup _ _ _ _=>.mro
 |.makeMap _ _=>.mka
 |.call c=>(match c.callee with
  |.builtin .append=>zq (yK ops o)
  |.builtin .len=>(match c.argTypes.toList with
   |t::_=>(match P.underlying t with|some (.map _ _)=>.mro|_=>.sil)
   |[]=>.sil)
  |.builtin .min | .builtin .max | .builtin .unsafeSliceData=>.sil
  |_=>.eff)
 |_=>.eff
def vg (o:Oper):Bool:=
 match o.op with
 |.store _ _ _=>true
 |_=>false
def xm:Cls->Bool
 |.alloc=>true
 |_=>false
def wV (P:Program)(ops:Array Oper)(nb:Option Nat)(cs:List Nat):List Nat:=
 match nb with
 |none=>[]
 |some b=>(cs.filter λi=>match ops[i]? with
  |some o=>xm (cls P ops o)
  |none=>false).map (b+·)
def okK (h:af)(a:Addr)(ks:List Nat):Bool:=
 match h.get a.block with
 |some (.cells _ g _ _)=>ks.all λk=>!Nat.beq a.block k&&!Nat.beq g (k+1)
 |_=>false
def Ed {α:Type}(ks:List Nat)(a:Addr)(m:M α):M α:=λh=>match okK h a ks with
 |true=>m h
 |false=>none
def JZ (ks:List Nat)(a:Addr):Act->Act
 |.ask α m k=>.ask α (Ed ks a m) k
 |A=>A
def kD {R:Type}(P:Program)(C:fB)(W:Wr)(nm:Option Nat)(cks:List (Option Addr))(ks:List Nat)(ops:Array Oper)(E:Env)(L:cP)(o:Oper)(K:Env->cP->M R):M R:=
 match yJ W o.dst with
 |false=>AS
 |true=>
 match o.op with
 |.pick c a b=>(match E.ev c with
  |some (.bool t)=>
   lG t (match (E.pA c true).ev a with|some v=>K ((E.pA c true).put o.dst v) (L.del o.dst)|none=>AS)
    (match (E.pA c false).ev b with|some v=>K ((E.pA c false).put o.dst v) (L.del o.dst)|none=>AS)
  |_=>AS)
 |.call c=>(match isBuiltin c with
  |true=>(match su L c with
   |some (n,cs)=>(byB (nm.isSome&&!yK ops o) λb=>qI cks (sv P b E c n cs)).run λv=>K (E.put o.dst v) (L.del o.dst)
   |none=>(match yK ops o with
    |true=>AS
    |false=>(qI cks (wQ P nm E o)).run λv=>K (E.put o.dst v) (L.del o.dst)))
  |false=>(match jD C c with
   |some t=>(match rD E t c with
    |some (x,vs)=>(match C.dy t x vs with
     |some ca=>sh (wrapM cks ca.m) λx=>K (E.put o.dst (ca.pk x)) (L.del o.dst)
     |none=>AS)
    |none=>AS)
   |none=>(match callee E c with
    |some (f,vs)=>(match C.st f vs with
     |some ca=>sh (wrapM cks ca.m) λx=>K (E.put o.dst (ca.pk x)) (L.del o.dst)
     |none=>AS)
    |none=>AS)))
 |.store _ x _=>(match ks with
  |[]=>(qI cks (wQ P nm E o)).run λv=>K (E.put o.dst v) (L.del o.dst)
  |ks=>(match E.ev x with
   |some (.pointer (some a))=>(JZ ks a (qI cks (wQ P nm E o))).run λv=>K (E.put o.dst v) (L.del o.dst)
   |_=>AS))
 |.buildSlice _ _ _=>(match vf P ops E o with
  |some x=>K (E.del o.dst) (L.put o.dst x)
  |none=>(qI cks (wQ P nm E o)).run λv=>K (E.put o.dst v) (L.del o.dst))
 |_=>(qI cks (wQ P nm E o)).run λv=>K (E.put o.dst v) (L.del o.dst)
def je (E:Env)(o:Oper):Option Addr:=
 match o.op with
 |.load _ x=>(match E.ev x with|some (.pointer p)=>p|_=>none)
 |.slice _ x _ _ _=>(match E.ev x with|some (.slice a _ _)=>a|_=>none)
 |.convert _ _ x=>(match E.ev x with|some (.slice a _ _)=>a|_=>none)
 |_=>none
abbrev J3:=Nat->Option Addr
def dS {R:Type}(P:Program)(C:fB)(W:Wr)(nb:Option Nat)(ops:Array Oper):List (Nat×List Nat)->Env->cP->J3->(Env->M R)->M R
 |[],E,_,_,K=>K E
 |(i,cs)::rest,E,L,A,K=>
  match ops[i]? with
  |none=>AS
  |some o=>
   match o.guard with
   |none=>kD P C W (nb.map (·+i)) (cs.map A) (wV P ops nb cs) ops E L o λE' L'=>dS P C W nb ops rest E' L' (λj=>cond (Nat.beq j i) (je E o) (A j)) K
   |some (j,want)=>(match (ops[j]?).bind (·.dst) with
    |some t=>(match E t with
     |some (.bool b)=>
      (match want with
      |true=>lG b (kD P C W (nb.map (·+i)) (cs.map A) (wV P ops nb cs) ops (E.set t (.bool true)) L o λE' L'=>dS P C W nb ops rest E' L' (λj=>cond (Nat.beq j i) (je E o) (A j)) K)
       (match yJ W o.dst with
       |true=>dS P C W nb ops rest ((E.set t (.bool false)).put o.dst undef) (L.del o.dst) A K
       |false=>AS)
      |false=>lG b (match yJ W o.dst with
       |true=>dS P C W nb ops rest ((E.set t (.bool true)).put o.dst undef) (L.del o.dst) A K
       |false=>AS)
       (kD P C W (nb.map (·+i)) (cs.map A) (wV P ops nb cs) ops (E.set t (.bool false)) L o λE' L'=>dS P C W nb ops rest E' L' (λj=>cond (Nat.beq j i) (je E o) (A j)) K))
     |some (.tuple _)=>(match yJ W o.dst with
      |true=>dS P C W nb ops rest (E.put o.dst undef) (L.del o.dst) A K
      |false=>AS)
     |_=>AS)
    |none=>AS)
def zr (o:Oper):Option Operand:=
 match o.op with
 |.panic x=>some x
 |.call c=>(match c.callee,c.args.toList with
  |.builtin .panic,[x]=>some x
  |_,_=>none)
 |_=>none
def dA (C:fB)(o:Oper):Bool:=
 match o.op with
 |.call c=>(match c.callee with
  |.value (.func f)=>C.JN f
  |_=>false)
 |_=>false
def rE (C:fB)(E:Env)(o:Oper):Option Tj:=
 match dA C o with
 |true=>(match o.op with
  |.call c=>(match callee E c with
   |some (f,vs)=>C.sp f vs
   |none=>none)
  |_=>none)
 |false=>none
def tF {R:Type}(P:Program)(C:fB)(W:Wr)(nm:Option Nat)(ops:Array Oper)(E:Env)(L:cP)(o:Oper)(fj:Value->M R)(K:Env->cP->M R):M R:=
 match zr o with
 |some x=>(match E.ev x with
  |some (.iface t v)=>fj (.iface t v)
  |_=>AS)
 |none=>(match rE C E o with
  |some ca=>(match yJ W o.dst with
   |true=>sh ca.m (cw (λx=>K (E.put o.dst (ca.pk x)) (L.del o.dst)) fj)
   |false=>AS)
  |none=>kD P C W nm [] [] ops E L o K)
def gH {R:Type}(P:Program)(C:fB)(W:Wr)(nb:Option Nat)(ops:Array Oper)(fj:Value->M R):List Nat->Env->cP->(Env->M R)->M R
 |[],E,_,K=>K E
 |i::rest,E,L,K=>
  match ops[i]? with
  |none=>AS
  |some o=>
   match o.guard with
   |none=>tF P C W (nb.map (·+i)) ops E L o fj λE' L'=>gH P C W nb ops fj rest E' L' K
   |some (j,want)=>(match (ops[j]?).bind (·.dst) with
    |some t=>(match E t with
     |some (.bool b)=>
      (match want with
      |true=>lG b (tF P C W (nb.map (·+i)) ops (E.set t (.bool true)) L o fj λE' L'=>gH P C W nb ops fj rest E' L' K)
       (match yJ W o.dst with
       |true=>gH P C W nb ops fj rest ((E.set t (.bool false)).put o.dst undef) (L.del o.dst) K
       |false=>AS)
      |false=>lG b (match yJ W o.dst with
       |true=>gH P C W nb ops fj rest ((E.set t (.bool true)).put o.dst undef) (L.del o.dst) K
       |false=>AS)
       (tF P C W (nb.map (·+i)) ops (E.set t (.bool false)) L o fj λE' L'=>gH P C W nb ops fj rest E' L' K))
     |some (.tuple _)=>(match yJ W o.dst with
      |true=>gH P C W nb ops fj rest (E.put o.dst undef) (L.del o.dst) K
      |false=>AS)
     |_=>AS)
    |none=>AS)
def iM (ops:Array Oper)(o:Oper):List Nat:=
 (o.op.operands.toList.filterMap λ| .tmp t=>some t|_=>none)++(match o.guard with
  |some (j,_)=>(match (ops[j]?).bind (·.dst) with|some t=>[t] | none=>[])
  |none=>[])
def apart (ops:Array Oper)(o p:Oper):Bool:=
 (match o.dst with|some d=>!Hk (iM ops p) d|none=>true)&&(match p.dst with|some d=>!Hk (iM ops o) d|none=>true) &&
 (match o.dst,p.dst with|some d,some e=>!Nat.beq d e|_,_=>true)
def xo (ops:Array Oper)(p:Oper):Bool:=
 match p.op with
 |.store _ _ _=>true
 |.call c=>!isBuiltin c||yK ops p
 |_=>false
def Ee (mo:FuncId->Bool)(p:Oper):Bool:=
 match p.op with
 |.call c=>(match c.callee with
  |.value (.func f)=>mo f
  |_=>false)
 |_=>false
def sS (p:Oper):Option FuncId:=
 match p.op with
 |.call c=>(match c.callee with
  |.value (.func f)=>some f
  |_=>none)
 |_=>none
def Dl (P:Program)(ops:Array Oper)(i:Nat):Bool:=
 match ops[i]? with
 |some o=>xm (cls P ops o)
 |none=>false
def bOf (P:Program)(ops:Array Oper)(f:FuncId):List (Nat×List Nat)→Option Nat
 | []=>none
 | (j,cs)::r=>(match (match ops[j]? with
   | some p=>(match sS p with
    | some g=>(match Nat.beq g f with | true=>cs.find? (Dl P ops) | false=>none)
    | none=>none)
   | none=>none) with
  | some i=>some i
  | none=>bOf P ops f r)
def bOK (P:Program)(C:fB)(ops:Array Oper)(l:List (Nat×List Nat)):Bool:=
 l.all λ(j,cs)=>(match ops[j]? with
  |some p=>(match sS p with
   |some f=>cs.all λi=>!Dl P ops i||(!C.JN f&&(match bOf P ops f l with|some i'=>Nat.beq i i' | none=>false))
   |none=>true)
  |none=>true)
def fB.kG (C:fB)(P:Program)(nb:Nat)(ops:Array Oper)(l:List (Nat×List Nat)):fB:={ C with
 st:=λf vs=>(match bOf P ops f l with
  |none=>C.st f vs
  |some i=>(match C.st f vs with
   |some ca=>some ⟨ca.α,Bm (nb+i) ca.m,ca.pk⟩
   |none=>none))
 mo:=λf=>C.mo f&&(bOf P ops f l).isNone }
def J4 (P:Program)(mo:FuncId->Bool)(ops:Array Oper)(o p:Oper)(ck:Bool):Bool:=
 apart ops o p&&(match cls P ops o,cls P ops p with
  |.sil,_|_,.sil | .ro,.ro | .ro,.alloc | .ro,.add | .alloc,.alloc=>true
  |.ro,.mro | .mro,.ro | .mro,.mro | .mro,.alloc | .mro,.add | .alloc,.mro | .add,.mro=>true
  |.ro,.eff=>ck&&xo ops p
  |.alloc,.eff=>ck&&(vg p||(sS p).isSome)
  |.ro,.mka | .mka,.ro=>true
  |.mka,.eff=>Ee mo p
  |_,_=>false)
def tG (e:Edge):Bool:=match e.ground with
 |.textOnly _ | .gcOnly _=>false
 |_=>true
def Dm (ops:List Oper):List (List Nat):=
 ops.foldl (λacc o=>acc++[(o.after.toList.filter tG).flatMap λe=>e.on::acc.getD e.on []]) []
def sV (P:Program)(mo:FuncId→Bool)(ops:Array Oper)(pr:List (List Nat)):List (Nat×List Nat)→Bool
 | []=>true
 | (i,_)::r=>(r.all fun (j,cj)=>Hk (pr.getD j []) i || (match ops[i]?,ops[j]? with
  | some o,some p=>J4 P mo ops o p (Hk cj i)
  | _,_=>false)) && sV P mo ops pr r
def Ef (P:Program)(mo:FuncId->Bool)(ops:Array Oper)(l:List (Nat×List Nat)):Bool:=
 P.follows .mixedOrders&&(l.map (·.1)).isPerm (List.range ops.size) &&
 (ops.toList.zipIdx.all λ(o,i)=>o.after.toList.all λe=>!tG e||Nat.blt e.on i) &&
 sV P mo ops (Dm ops.toList) l
def neutral:Cls->Bool
 |.sil | .ro | .mro=>true
 |_=>false
def Aw (P:Program)(C:fB)(ops:Array Oper)(pr:List (List Nat)):List Nat->List Nat->Bool
 |_,[]=>true
 |pre,i::post=>(match ops[i]? with
  |some o=>!dA C o||(post.all (λj=>Hk (pr.getD j []) i)&&pre.all λj=>(match ops[j]? with
    |some p=>neutral (cls P ops p)
    |none=>false))
  |none=>false)&&Aw P C ops pr (i::pre) post
def fB.QD (C:fB):FuncId->Bool:=λf=>C.mo f&&!C.JN f
def OM (P:Program)(C:fB)(ops:Array Oper)(l:List (Nat×List Nat)):Bool:=
 Ef P C.QD ops l&&Aw P C ops (Dm ops.toList) [] (l.map (·.1))&&ops.toList.all λo=>!dA C o||o.dst.isSome
def zt {R:Type}(P:Program)(C:fB)(W:Wr)(nm:Option Nat)(cks:List (Option Addr))(ks:List Nat)(ops:Array Oper)(E:Env)(L:cP)(o:Oper)(fj:Value->M R)(K:Env->cP->M R):M R:=
 match rE C E o with
 |some ca=>(match yJ W o.dst with
  |true=>sh (wrapM cks ca.m) (cw (λx=>K (E.put o.dst (ca.pk x)) (L.del o.dst)) fj)
  |false=>AS)
 |none=>kD P C W nm cks ks ops E L o K
def lM {R:Type}(P:Program)(C:fB)(W:Wr)(nb:Option Nat)(ops:Array Oper)(fj:Value->M R):List (Nat×List Nat)->Env->cP->J3->(Env->M R)->M R
 |[],E,_,_,K=>K E
 |(i,cs)::rest,E,L,A,K=>
  match ops[i]? with
  |none=>AS
  |some o=>
   match o.guard with
   |none=>zt P C W (nb.map (·+i)) (cs.map A) (wV P ops nb cs) ops E L o fj λE' L'=>lM P C W nb ops fj rest E' L' (λj=>cond (Nat.beq j i) (je E o) (A j)) K
   |some (j,want)=>(match (ops[j]?).bind (·.dst) with
    |some t=>(match E t with
     |some (.bool b)=>
      (match want with
      |true=>lG b (zt P C W (nb.map (·+i)) (cs.map A) (wV P ops nb cs) ops (E.set t (.bool true)) L o fj λE' L'=>lM P C W nb ops fj rest E' L' (λj=>cond (Nat.beq j i) (je E o) (A j)) K)
       (match yJ W o.dst with
       |true=>lM P C W nb ops fj rest ((E.set t (.bool false)).put o.dst undef) (L.del o.dst) A K
       |false=>AS)
      |false=>lG b (match yJ W o.dst with
       |true=>lM P C W nb ops fj rest ((E.set t (.bool true)).put o.dst undef) (L.del o.dst) A K
       |false=>AS)
       (zt P C W (nb.map (·+i)) (cs.map A) (wV P ops nb cs) ops (E.set t (.bool false)) L o fj λE' L'=>lM P C W nb ops fj rest E' L' (λj=>cond (Nat.beq j i) (je E o) (A j)) K))
     |some (.tuple _)=>(match yJ W o.dst with
      |true=>lM P C W nb ops fj rest (E.put o.dst undef) (L.del o.dst) A K
      |false=>AS)
     |_=>AS)
    |none=>AS)
def Tk (P:Program)(ops:Array Oper):Bool:=ops.toList.any λo=>match cls P ops o with
 |.alloc | .mka=>true
 |_=>false
def den {R:Type}(P:Program)(body:Code)(T:JY R)(W:Wr)(fin:gh->Env->M R):Nat->Bool->List tD->Env->M R
 |0,_,_,_=>AS
 |_+1,_,[],E=>fin .normal E
 |n+1,_,.ar _::k,E=>den P body T W fin n true k E
 |n+1,_,.scp _::k,E=>den P body T W fin n true k E
 |n+1,j,.code p::k,E=>
  match (match j with|true=>T.join p|false=>none) with
  |some (k',J)=>(match eqItems k k' with
   |true=>(match J E with|some m=>m|none=>AS)
   |false=>AS)
  |none=>
   match cC body p with
   |.skip=>den P body T W fin n true k E
   |.label _=>den P body T W fin n true k E
   |.seq _ _=>den P body T W fin n true (.code (0::p)::.code (1::p)::k) E
   |.cond c _ _=>(match E.ev c with
    |some (.bool b)=>lG b (den P body T W fin n true (.code (0::p)::k) (E.pA c true))
     (den P body T W fin n true (.code (1::p)::k) (E.pA c false))
    |_=>AS)
   |.block id _=>den P body T W fin n true (.code (0::p)::.ar id::k) E
   |.scope _=>den P body T W fin n true (.code (0::p)::.scp (0::p)::k) E
   |.loop _=>(match T.loop p E with
    |.one _ m e out=>sh m λx=>(match e with
     |.normal=>AS
     |.ret=>fin .ret (out x)
     |.exit id=>(match oz id k with
      |some k'=>den P body T W fin n true k' (out x)
      |none=>fin (.exit id) (out x)))
    |.two _ _ m e out e' out'=>sh m (cw
     (λx=>(match e with
      |.normal=>AS
      |.ret=>fin .ret (out x)
      |.exit id=>(match oz id k with
       |some k'=>den P body T W fin n true k' (out x)
       |none=>fin (.exit id) (out x))))
     (λx=>(match e' with
      |.normal=>AS
      |.ret=>fin .ret (out' x)
      |.exit id=>(match oz id k with
       |some k'=>den P body T W fin n true k' (out' x)
       |none=>fin (.exit id) (out' x)))))
    |.adR _ m e out=>sh m (cw (λx=>(match e with
     |.normal=>AS
     |.ret=>fin .ret (out x)
     |.exit id=>(match oz id k with
      |some k'=>den P body T W fin n true k' (out x)
      |none=>fin (.exit id) (out x)))) T.fj)
    |.adS _ _ m e out e' out'=>sh m (cw (cw
     (λx=>(match e with
      |.normal=>AS
      |.ret=>fin .ret (out x)
      |.exit id=>(match oz id k with
       |some k'=>den P body T W fin n true k' (out x)
       |none=>fin (.exit id) (out x))))
     (λx=>(match e' with
      |.normal=>AS
      |.ret=>fin .ret (out' x)
      |.exit id=>(match oz id k with
       |some k'=>den P body T W fin n true k' (out' x)
       |none=>fin (.exit id) (out' x))))) T.fj)
    |.none=>AS)
   |.exit id=>(match oz id k with
    |some k'=>den P body T W fin n true k' E
    |none=>fin (.exit id) E)
   |.ret=>fin .ret E
   |.region id ops draw=>(match draw with
    |true=>(match T.draw id with
     |some l=>(match OM P (T.call.kG P 0 ops l) ops l&&bOK P T.call ops l with
      |true=>(match Tk P ops with
       |true=>sh (eS ops.size) λnb=>lM P (T.call.kG P nb ops l) W (some nb) ops T.fj l E cP.emp (λ_=>none) λE'=>den P body T W fin n true k E'
       |false=>lM P (T.call.kG P 0 ops l) W (some 0) ops T.fj l E cP.emp (λ_=>none) λE'=>den P body T W fin n true k E')
      |false=>AS)
     |none=>AS)
    |false=>gH P T.call W none ops T.fj (List.range ops.size) E cP.emp λE'=>den P body T W fin n true k E')
   |_=>AS
def kK (P:Program):List ResultVar->Env->List Value->(List Value->Act)->Act
 |[],_,acc,K=>K acc.reverse
 |.tmp t::r,E,acc,K=>(match E t with|some v=>kK P r E (v::acc) K|none=>.none)
 |.cell a t::r,E,acc,K=>(match E a with
  |some (.pointer (some x))=>(match FM P t x with
   |.val v=>kK P r E (v::acc) K
   |.ask α m k=>.ask α m λx=>resBind (k x) λv=>kK P r E (v::acc) K
   |.none=>.none)
  |_=>.none)
where
 resBind:Act->(Value->Act)->Act
  |.val v,K=>K v
  |.ask α m k,K=>.ask α m λx=>resBind (k x) K
  |.none,_=>.none
def jE (f:Func):Code:=match f.body with
 |some c=>c
 |none=>.skip
def Xm (ts:List Ty)(v:Value):M (aM ts):=
 match unR ts v with
 |some r=>AI r
 |none=>AS
def Mn (P:Program)(f:Func)(ts:List Ty):gh->Env->M (aM ts):=λe E=>
 match e with
 |.exit _=>AS
 |_=>(kK P f.results.toList E [] λvs=>.val (fW vs)).run (Xm ts)
def Cm (ls ms:List (Nat×Ty))(id:Nat)(next:aM (gD ls)->M (aM (gD ms))):gh->Env->M (aM (gD ms)):=λe E=>
 match e with
 |.normal=>(match qv E ls with
  |some vs=>(match uO (gD ls) vs with|some x=>next x|none=>AS)
  |none=>AS)
 |.exit id'=>(match Nat.beq id id',qv E ms with
  |true,some vs=>(match uO (gD ms) vs with|some x=>AI x|none=>AS)
  |_,_=>AS)
 |.ret=>AS
def GF (ls ms rs:List (Nat×Ty))(id:Nat)(e2:gh)(next:aM (gD ls)->M (aM (gD ms)⊕aM (gD rs))) :
  gh->Env->M (aM (gD ms)⊕aM (gD rs)):=λe E=>
 match e with
 |.normal=>(match qv E ls with
  |some vs=>(match uO (gD ls) vs with|some x=>next x|none=>AS)
  |none=>AS)
 |e=>(match Zw e (.exit id) with
  |true=>(match qv E ms with
   |some vs=>(match uO (gD ms) vs with|some x=>AI (.inl x)|none=>AS)
   |none=>AS)
  |false=>(match Zw e e2 with
   |true=>(match qv E rs with
    |some vs=>(match uO (gD rs) vs with|some x=>AI (.inr x)|none=>AS)
    |none=>AS)
   |false=>AS))
def Eg (ls rs:List (Nat×Ty))(next:aM (gD ls)->M (aM (gD rs))):gh->Env->M (aM (gD rs)):=λe E=>
 match e with
 |.normal=>(match qv E ls with
  |some vs=>(match uO (gD ls) vs with|some x=>next x|none=>AS)
  |none=>AS)
 |.exit _=>AS
 |.ret=>(match qv E rs with
  |some vs=>(match uO (gD rs) vs with|some x=>AI x|none=>AS)
  |none=>AS)
structure bz where
 id:FuncId
 as:List Ty
 rs:List Ty
 m:aM as->M (aM rs)
def Cn (l:List bz):FuncId->List Value->Option oK:=λf vs=>
 match l with
 |[]=>none
 |e::r=>match Nat.beq f e.id with
  |true=>(match uO e.as vs with
   |some x=>some ⟨aM e.rs,e.m x,λy=>fW (fb e.rs y)⟩
   |none=>none)
  |false=>Cn r f vs
structure jx where
 slot:Nat
 as:List Ty
 rs:List Ty
 m:Value->aM as->M (aM rs)
def ON (l:List jx):Nat->Value->List Value->Option oK:=λt x vs=>
 match l with
 |[]=>none
 |e::r=>match Nat.beq t e.slot with
  |true=>(match uO e.as vs with
   |some a=>some ⟨aM e.rs,e.m x a,λy=>fW (fb e.rs y)⟩
   |none=>none)
  |false=>ON r t x vs
def Zx (l:List jx)(t:Nat):Bool:=
 match l with
 |[]=>false
 |e::r=>Nat.beq t e.slot||Zx r t
structure vK where
 id:FuncId
 as:List Ty
 rs:List Ty
 m:aM as->M (aM rs⊕Value)
def GG (l:List vK):FuncId->List Value->Option Tj:=λf vs=>
 match l with
 |[]=>none
 |e::r=>match Nat.beq f e.id with
  |true=>(match uO e.as vs with
   |some x=>some ⟨aM e.rs,e.m x,λy=>fW (fb e.rs y)⟩
   |none=>none)
  |false=>GG r f vs
def qJ (l:List bz)(d:List jx)(ms:List FuncId:=[])(ps:List vK:=[]):fB:=⟨Cn l,ON d,Zx d,λf=>ms.any (Nat.beq f),GG ps,λf=>ps.any λe=>Nat.beq f e.id⟩
structure Zy (as rs:List Ty) where
 id:FuncId
 cs:List Ty
 m:aM as->aM cs->M (aM rs)
def dsp {as rs:List Ty}:List (Zy as rs)->Value->aM as->M (aM rs)
 |[],_,_=>AS
 |[e],x,a=>lG (qw e.id x) (sh (oX e.cs x) λc=>e.m a c) AS
 |e::f::r,x,a=>lG (qw e.id x) (sh (oX e.cs x) λc=>e.m a c) (dsp (f::r) x a)
structure qx where
 p:Path
 ls:List (Nat×Ty)
 act:aM (gD ls)->vJ
def pg (l:List qx):Path->Env->vJ:=λp E=>
 match l with
 |[]=>.none
 |e::r=>match tE p e.p with
  |true=>(match qv E e.ls with
   |some vs=>(match uO (gD e.ls) vs with
    |some x=>e.act x
    |none=>.none)
   |none=>.none)
  |false=>pg r p E
def adQ (E:Env)(ws:List Nat):Env:=λj=>cond (ws.any (Nat.beq j)) none (E j)
def Tl (ls ms:List (Nat×Ty))(ws:List Nat)(x:aM (gD ls))(y:aM (gD ms)):Env:=Xi (adQ (sr ls (fb (gD ls) x)) ws) ms (fb (gD ms) y)
def Tm (ls ms:List (Nat×Ty))(ws:List Nat)(id:Nat)(m:aM (gD ls)->M (aM (gD ms)))(x:aM (gD ls)):vJ:=.one (aM (gD ms)) (m x) (.exit id) (Tl ls ms ws x)
def Tn (ls rs:List (Nat×Ty))(ws:List Nat)(m:aM (gD ls)->M (aM (gD rs)))(x:aM (gD ls)):vJ:=.one (aM (gD rs)) (m x) .ret (Tl ls rs ws x)
def To (ls ms rs:List (Nat×Ty))(ws:List Nat)(id:Nat)(e2:gh)(m:aM (gD ls)->M (aM (gD ms)⊕aM (gD rs)))(x:aM (gD ls)):vJ:=
 .two (aM (gD ms)) (aM (gD rs)) (m x) (.exit id) (Tl ls ms ws x) e2 (Tl ls rs ws x)
def Bn (W:Wr)(nt:Nat)(ws:List Nat):Bool:=Nat.beq W.1 nt&&(match W.2 with
 |some l=>ws.all λi=>l.any (Nat.beq i)
 |none=>true)
structure gj (R:Type) where
 p:Path
 k:List tD
 ls:List (Nat×Ty)
 m:aM (gD ls)->M R
def goJ {R:Type}(ls:List (Nat×Ty))(m:aM (gD ls)->M R)(E:Env):Option (M R):=
 match qv E ls with
 |some vs=>(match uO (gD ls) vs with
  |some x=>some (m x)
  |none=>none)
 |none=>none
def pB {R:Type}(l:List (gj R)):Path->Option (List tD×(Env->Option (M R))):=λp=>
 match l with
 |[]=>none
 |e::r=>match tE p e.p with
  |true=>some (e.k,goJ e.ls e.m)
  |false=>pB r p
end Go.Ago
