
import Derived.Test.YthcljaholofonaaGreatDoorAgoP
import Derived.Test.YthcljaholofonaaGreatDoorShLib
set_option linter.all false
namespace Go.Sh
open Go Go.Ago Go.Proofs
structure ao where
 kind:Int
 text:ζ
 ord:Bool
 keys:ε
 items:ε
def bh.v (x:bh):ao:=⟨x.kind,x.text,x.ord,x.kl,x.il⟩
structure PV where
 pos:Nat
 nodes:List ao
 sy:List EI
abbrev Rs (α:Type):=Except (Nat×Int) α
def apQ (L:List UInt8):List UInt8:=L.takeWhile pD
def aaa (s:ζ)(at':Nat):Rs (ζ×Nat):=
 let L:=s.data.toList
 let D:=apQ (L.drop at')
 if D.length=0 then .error (at',4)
 else if 1<D.length/\L[at']?=some 48 then .error (at',12)
 else match L[at'+D.length]? with
  |none=>.error (s.size,4)
  |some c=>if c=58 then (if s.size-(at'+D.length+1)<R9 D then .error (s.size,4) else .ok (s.extract (at'+D.length+1) (at'+D.length+1+R9 D),at'+D.length+1+R9 D))
   else .error (at'+D.length,4)
def qe (s:ζ):Bool:=
 let L:=s.data.toList
 let T:=if 1<L.length/\L.head?=some 45 then L.tail else L
 decide (T.length≠0/\T.length<=400/\¬(T.head?=some 48/\1<L.length))&&T.all pD
def NN (p:PV)(x:ao)(frm d:Nat):Rs (Int×PV):=
 if 32<d then .error (frm,5) else if 4096<=p.nodes.length then .error (frm,7) else .ok (p.nodes.length,{ p with nodes:=p.nodes++[x] })
def aoe (s:ζ)(p:PV)(d:Nat):Rs (Int×PV):=
 match (s.data.toList.drop p.pos).findIdx? (λb=>b==101) with
 |none=>.error (s.size,4)
 |some j=>
  if qe (s.extract (p.pos+1) (p.pos+j)) then NN { p with pos:=p.pos+j+1 } ⟨2,s.extract (p.pos+1) (p.pos+j),false,[],[]⟩ p.pos d
  else .error (p.pos,12)
def aof (s:ζ)(p:PV)(d:Nat):Rs (Int×PV):=
 match aaa s p.pos with
 |.error e=>.error e
 |.ok (t,a)=>NN { p with pos:=a } ⟨if u8 t then 5 else 6,t,false,[],[]⟩ p.pos d
structure SpF where
 V:EI->Nat->PV->Option (Rs (Int×PV))
 L:Int->Nat->Nat->Nat->PV->Option (Rs PV)
 D:Int->Nat->Nat->Nat->ζ->PV->Option (Rs PV)
def addItem (p:PV)(node:Int)(it:Int):PV:={ p with nodes:=p.nodes.modify node.toNat λx=>{ x with items:=x.items++[it] } }
def addEntry (p:PV)(node:Int)(key it:Int):PV:={ p with nodes:=p.nodes.modify node.toNat λx=>{ x with keys:=x.keys++[key],items:=x.items++[it] } }
def aab (s:ζ)(G:SpF)(p:PV)(sp d:Nat)(kind:Int):Option (Rs (Int×PV)):=
 match NN p ⟨kind,ofBytes [],false,[],[]⟩ p.pos d with
 |.error e=>some (.error e)
 |.ok (n,p1)=>(match (if kind=9 then G.L n sp 0 d { p1 with pos:=p1.pos+1 } else G.D n sp 0 d (ofBytes []) { p1 with pos:=p1.pos+1 }) with
  |none=>none
  |some (.error e)=>some (.error e)
  |some (.ok p2)=>some (.ok (n,p2)))
def ajn (s:ζ)(G:SpF)(p:PV)(sp d:Nat):Option (Rs (Int×PV)):=
 match s.data.toList[p.pos]? with
 |none=>some (.error (s.size,4))
 |some c=>if c=105 then some (aoe s p d) else if c=108 then aab s G p sp d 9 else if c=100 then aab s G p sp d 10 else some (aof s p d)
def spV (s:ζ)(G:SpF)(sp:EI)(d:Nat)(p:PV):Option (Rs (Int×PV)):=
 if s.size<=p.pos then some (.error (s.size,4)) else
 match ajn s G { p with sy:=p.sy++[{ sp with frm:=p.pos,whole:=true }] } p.sy.length d with
 |none=>none
 |some (.error e)=>some (.error e)
 |some (.ok (n,p2))=>some (.ok (n,{ p2 with sy:=p2.sy.modify p.sy.length λx=>{ x with node:=n,«to»:=p2.pos } }))
def ahv (parent:Int)(entry:Int)(kf kt:Int):EI:=⟨0,parent,entry,0,0,kf,kt,false,false⟩
def spL (s:ζ)(G:SpF)(node:Int)(sp k d:Nat)(p:PV):Option (Rs PV):=
 match s.data.toList[p.pos]? with
 |none=>some (.error (s.size,4))
 |some c=>if c=101 then some (.ok { p with pos:=p.pos+1 }) else
  (match G.V (ahv sp k 0 0) (d+1) p with
  |none=>none
  |some (.error e)=>some (.error e)
  |some (.ok (it,p2))=>G.L node sp (k+1) d (addItem p2 node it))
def ltB (x y:ζ):Bool:=LC x y||oG x y
def spD (s:ζ)(G:SpF)(node:Int)(sp k d:Nat)(last:ζ)(p:PV):Option (Rs PV):=
 match s.data.toList[p.pos]? with
 |none=>some (.error (s.size,4))
 |some c=>if c=101 then some (.ok { p with pos:=p.pos+1 }) else
  (match aaa s p.pos with
  |.error e=>some (.error e)
  |.ok (t,a)=>(match NN { p with pos:=a } ⟨5,t,false,[],[]⟩ p.pos (d+1) with
   |.error e=>some (.error e)
   |.ok (key,p1)=>
    if u8 t=false then some (.error (p.pos,11))
    else if 0<k/\ltB t last=true then some (.error (p.pos,16))
    else (match G.V (ahv sp k p.pos a) (d+1) p1 with
     |none=>none
     |some (.error e)=>some (.error e)
     |some (.ok (it,p2))=>G.D node sp (k+1) d t (addEntry p2 node key it))))
def sp (s:ζ):Nat->SpF
 |0=>⟨λ_ _ _=>none,λ_ _ _ _ _=>none,λ_ _ _ _ _ _=>none⟩
 |m+1=>⟨spV s (sp s m),spL s (sp s m),spD s (sp s m)⟩
structure Inv (s:ζ) (p:PV):Prop where
 pos:p.pos<=s.size
 nodes:p.nodes.length<=4096
 sy:p.sy.length<=p.pos
 items:∀x∈p.nodes,x.items.length<=p.pos/\x.keys.length<=p.pos
structure Adv (s:ζ) (ex:Nat) (p p2:PV):Prop where
 inv:Inv s p2
 pre:∀i,i<p.nodes.length->i≠ex->p2.nodes[i]?=p.nodes[i]?
 pos:p.pos<p2.pos
 nodes:p.nodes.length<=p2.nodes.length
 sy:p.sy.length<=p2.sy.length
theorem nB (s:ζ):s.data.toList.length=s.size:=rfl
def Adv.modify {s}{nd}{p p2}(ip:Inv s p)(a:∀ex,Adv s ex p p2)(hn:nd<p.nodes.length){f}(hf:∀x,(f x).items.length<=x.items.length+1/\(f x).keys.length<=x.keys.length+1) :
  Adv s nd p { p2 with nodes:=p2.nodes.modify nd f }:=by
 have ap:=(a 0).pos;refine⟨⟨(a 0).inv.pos,by simpa using (a 0).inv.nodes,(a 0).inv.sy,λy hy=>?_⟩,λi hi hne=>?_,(a 0).pos,by simpa using (a 0).nodes,(a 0).sy⟩
 .obtain⟨j,hj⟩:=List.mem_iff_getElem?.1 hy;simp only[arj] at hj;show y.items.length<=p2.pos/\y.keys.length<=p2.pos;cases hq:p2.nodes[j]? with
  |none=>rw[hq] at hj;cases hj
  |some z=>
   rw[hq] at hj;by_cases hj2:nd=j
   .subst hj2;simp at hj;rw[(a (nd+1)).pre nd hn (by omega)] at hq;have:=ip.items z (BY hq)
    grind
   .simp[hj2] at hj;subst hj;exact (a 0).inv.items _ (BY hq)
 .show (p2.nodes.modify nd f)[i]?=_;have hne':¬nd=i:=λe=>hne e.symm;rw[arj,(a (i+1)).pre i hi (by omega)]
  grind
structure aqH (s:ζ) (G:SpF):Prop where
 V:∀sp d p n p2,Inv s p->G.V sp d p=some (.ok (n,p2))->(∀ex,Adv s ex p p2)/\p.sy.length<p2.sy.length
 L:∀(nd:Nat) sp k d p p2,Inv s p->nd<p.nodes.length->G.L nd sp k d p=some (.ok p2)->Adv s nd p p2
 D:∀(nd:Nat) sp k d last p p2,Inv s p->nd<p.nodes.length->G.D nd sp k d last p=some (.ok p2)->Adv s nd p p2
end Go.Sh
