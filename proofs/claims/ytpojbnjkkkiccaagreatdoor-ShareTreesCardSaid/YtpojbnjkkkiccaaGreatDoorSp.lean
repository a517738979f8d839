
import Derived.Test.YtpojbnjkkkiccaaGreatDoorAgoP
import Derived.Test.YtpojbnjkkkiccaaGreatDoorShLib
set_option linter.all false
namespace Go.Sh
open Go Go.Ago Go.Proofs
structure aq where
 kind:Int
 text:ζ
 ord:Bool
 keys:ε
 items:ε
def aH.v (x:aH):aq:=⟨x.kind,x.text,x.ord,x.kl,x.il⟩
structure PV where
 pos:Nat
 nodes:List aq
 qJ:List HX
abbrev Rs (α:Type):=Except (Nat×Int) α
def aoe (L:List UInt8):List UInt8:=L.takeWhile pP
def Zy (s:ζ)(at':Nat):Rs (ζ×Nat):=
 let L:=s.data.toList
 let D:=aoe (L.drop at')
 if D.length=0 then .error (at',4)
 else if 1<D.length/\L[at']?=some 48 then .error (at',12)
 else match L[at'+D.length]? with
  |none=>.error (s.size,4)
  |some c=>if c=58 then (if s.size-(at'+D.length+1)<RN D then .error (s.size,4) else .ok (s.extract (at'+D.length+1) (at'+D.length+1+RN D),at'+D.length+1+RN D))
   else .error (at'+D.length,4)
def nC (s:ζ):Bool:=
 let L:=s.data.toList
 let T:=if 1<L.length/\L.head?=some 45 then L.tail else L
 decide (T.length≠0/\T.length<=400/\¬(T.head?=some 48/\1<L.length))&&T.all pP
def NA (p:PV)(x:aq)(frm d:Nat):Rs (Int×PV):=
 if 32<d then .error (frm,5) else if 4096<=p.nodes.length then .error (frm,7) else .ok (p.nodes.length,{ p with nodes:=p.nodes++[x] })
def amx (s:ζ)(p:PV)(d:Nat):Rs (Int×PV):=
 match (s.data.toList.drop p.pos).findIdx? (λb=>b==101) with
 |none=>.error (s.size,4)
 |some j=>
  if nC (s.extract (p.pos+1) (p.pos+j)) then NA { p with pos:=p.pos+j+1 } ⟨2,s.extract (p.pos+1) (p.pos+j),false,[],[]⟩ p.pos d
  else .error (p.pos,12)
def amy (s:ζ)(p:PV)(d:Nat):Rs (Int×PV):=
 match Zy s p.pos with
 |.error e=>.error e
 |.ok (t,a)=>NA { p with pos:=a } ⟨if u8 t then 5 else 6,t,false,[],[]⟩ p.pos d
structure SpF where
 V:HX->Nat->PV->Option (Rs (Int×PV))
 L:Int->Nat->Nat->Nat->PV->Option (Rs PV)
 D:Int->Nat->Nat->Nat->ζ->PV->Option (Rs PV)
def addItem (p:PV)(node:Int)(it:Int):PV:={ p with nodes:=p.nodes.modify node.toNat λx=>{ x with items:=x.items++[it] } }
def addEntry (p:PV)(node:Int)(key it:Int):PV:={ p with nodes:=p.nodes.modify node.toNat λx=>{ x with keys:=x.keys++[key],items:=x.items++[it] } }
def Zz (s:ζ)(G:SpF)(p:PV)(sp d:Nat)(kind:Int):Option (Rs (Int×PV)):=
 match NA p ⟨kind,ofBytes [],false,[],[]⟩ p.pos d with
 |.error e=>some (.error e)
 |.ok (n,p1)=>(match (if kind=9 then G.L n sp 0 d { p1 with pos:=p1.pos+1 } else G.D n sp 0 d (ofBytes []) { p1 with pos:=p1.pos+1 }) with
  |none=>none
  |some (.error e)=>some (.error e)
  |some (.ok p2)=>some (.ok (n,p2)))
def aiv (s:ζ)(G:SpF)(p:PV)(sp d:Nat):Option (Rs (Int×PV)):=
 match s.data.toList[p.pos]? with
 |none=>some (.error (s.size,4))
 |some c=>if c=105 then some (amx s p d) else if c=108 then Zz s G p sp d 9 else if c=100 then Zz s G p sp d 10 else some (amy s p d)
def spV (s:ζ)(G:SpF)(sp:HX)(d:Nat)(p:PV):Option (Rs (Int×PV)):=
 if s.size<=p.pos then some (.error (s.size,4)) else
 match aiv s G { p with qJ:=p.qJ++[{ sp with frm:=p.pos,whole:=true }] } p.qJ.length d with
 |none=>none
 |some (.error e)=>some (.error e)
 |some (.ok (n,p2))=>some (.ok (n,{ p2 with qJ:=p2.qJ.modify p.qJ.length λx=>{ x with node:=n,«to»:=p2.pos } }))
def agv (parent:Int)(entry:Int)(kf kt:Int):HX:=⟨0,parent,entry,0,0,kf,kt,false,false⟩
def spL (s:ζ)(G:SpF)(node:Int)(sp k d:Nat)(p:PV):Option (Rs PV):=
 match s.data.toList[p.pos]? with
 |none=>some (.error (s.size,4))
 |some c=>if c=101 then some (.ok { p with pos:=p.pos+1 }) else
  (match G.V (agv sp k 0 0) (d+1) p with
  |none=>none
  |some (.error e)=>some (.error e)
  |some (.ok (it,p2))=>G.L node sp (k+1) d (addItem p2 node it))
def ltB (x y:ζ):Bool:=ltS x y||qk x y
def spD (s:ζ)(G:SpF)(node:Int)(sp k d:Nat)(last:ζ)(p:PV):Option (Rs PV):=
 match s.data.toList[p.pos]? with
 |none=>some (.error (s.size,4))
 |some c=>if c=101 then some (.ok { p with pos:=p.pos+1 }) else
  (match Zy s p.pos with
  |.error e=>some (.error e)
  |.ok (t,a)=>(match NA { p with pos:=a } ⟨5,t,false,[],[]⟩ p.pos (d+1) with
   |.error e=>some (.error e)
   |.ok (key,p1)=>
    if u8 t=false then some (.error (p.pos,11))
    else if 0<k/\ltB t last=true then some (.error (p.pos,16))
    else (match G.V (agv sp k p.pos a) (d+1) p1 with
     |none=>none
     |some (.error e)=>some (.error e)
     |some (.ok (it,p2))=>G.D node sp (k+1) d t (addEntry p2 node key it))))
def sp (s:ζ):Nat->SpF
 |0=>⟨λ_ _ _=>none,λ_ _ _ _ _=>none,λ_ _ _ _ _ _=>none⟩
 |m+1=>⟨spV s (sp s m),spL s (sp s m),spD s (sp s m)⟩
structure Inv (s:ζ) (p:PV):Prop where
 pos:p.pos<=s.size
 nodes:p.nodes.length<=4096
 qJ:p.qJ.length<=p.pos
 items:∀x∈p.nodes,x.items.length<=p.pos/\x.keys.length<=p.pos
structure Adv (s:ζ) (ex:Nat) (p p2:PV):Prop where
 inv:Inv s p2
 pre:∀i,i<p.nodes.length->i≠ex->p2.nodes[i]?=p.nodes[i]?
 pos:p.pos<p2.pos
 nodes:p.nodes.length<=p2.nodes.length
 qJ:p.qJ.length<=p2.qJ.length
theorem nD (s:ζ):s.data.toList.length=s.size:=rfl
def Adv.modify {s}{nd}{p p2}(ip:Inv s p)(a:∀ex,Adv s ex p p2)(hn:nd<p.nodes.length){f}(hf:∀x,(f x).items.length<=x.items.length+1/\(f x).keys.length<=x.keys.length+1) :
  Adv s nd p { p2 with nodes:=p2.nodes.modify nd f }:=by
 have ap:=(a 0).pos;refine⟨⟨(a 0).inv.pos,by simpa using (a 0).inv.nodes,(a 0).inv.qJ,λy hy=>?_⟩,λi hi hne=>?_,(a 0).pos,by simpa using (a 0).nodes,(a 0).qJ⟩
 .obtain⟨j,hj⟩:=List.mem_iff_getElem?.1 hy;simp only[apX] at hj;show y.items.length<=p2.pos/\y.keys.length<=p2.pos;cases hq:p2.nodes[j]? with
  |none=>rw[hq] at hj;cases hj
  |some z=>
   rw[hq] at hj;by_cases hj2:nd=j
   .subst hj2;simp at hj;rw[(a (nd+1)).pre nd hn (by omega)] at hq;have:=ip.items z (IN hq)
    grind
   .simp[hj2] at hj;subst hj;exact (a 0).inv.items _ (IN hq)
 .show (p2.nodes.modify nd f)[i]?=_;have hne':¬nd=i:=λe=>hne e.symm;rw[apX,(a (i+1)).pre i hi (by omega)]
  grind
structure ao6 (s:ζ) (G:SpF):Prop where
 V:∀sp d p n p2,Inv s p->G.V sp d p=some (.ok (n,p2))->(∀ex,Adv s ex p p2)/\p.qJ.length<p2.qJ.length
 L:∀(nd:Nat) sp k d p p2,Inv s p->nd<p.nodes.length->G.L nd sp k d p=some (.ok p2)->Adv s nd p p2
 D:∀(nd:Nat) sp k d last p p2,Inv s p->nd<p.nodes.length->G.D nd sp k d last p=some (.ok p2)->Adv s nd p p2
end Go.Sh
