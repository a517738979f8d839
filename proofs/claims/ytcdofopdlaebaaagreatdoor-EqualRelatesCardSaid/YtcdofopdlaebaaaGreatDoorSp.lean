
import Derived.Test.YtcdofopdlaebaaaGreatDoorAgoP
import Derived.Test.YtcdofopdlaebaaaGreatDoorShLib
namespace Go.Sh
open Go Go.Ago Go.Proofs
structure an where
 kind:Int
 text:ByteArray
 ord:Bool
 keys:List Int
 items:List Int
def bC.v (x:bC):an:=⟨x.kind,x.text,x.ord,x.kl,x.il⟩
structure PV where
 pos:Nat
 nodes:List an
 hG:List zj
abbrev Rs (α:Type):=Except (Nat×Int) α
def aga (L:List UInt8):List UInt8:=L.takeWhile tO
def Uk (s:ByteArray)(at':Nat):Rs (ByteArray×Nat):=
 let L:=s.data.toList
 let D:=aga (L.drop at')
 if D.length=0 then .error (at',4)
 else if 1<D.length/\L[at']?=some 48 then .error (at',12)
 else match L[at'+D.length]? with
  |none=>.error (s.size,4)
  |some c=>if c=58 then (if s.size-(at'+D.length+1)<MX D then .error (s.size,4) else .ok (s.extract (at'+D.length+1) (at'+D.length+1+MX D),at'+D.length+1+MX D))
   else .error (at'+D.length,4)
def oh (s:ByteArray):Bool:=
 let L:=s.data.toList
 let T:=if 1<L.length/\L.head?=some 45 then L.tail else L
 decide (T.length≠0/\T.length<=400/\¬(T.head?=some 48/\1<L.length))&&T.all tO
def HZ (p:PV)(x:an)(frm d:Nat):Rs (Int×PV):=
 if 32<d then .error (frm,5) else if 4096<=p.nodes.length then .error (frm,7) else .ok (p.nodes.length,{ p with nodes:=p.nodes++[x] })
def aea (s:ByteArray)(p:PV)(d:Nat):Rs (Int×PV):=
 match (s.data.toList.drop p.pos).findIdx? (λb=>b==101) with
 |none=>.error (s.size,4)
 |some j=>
  if oh (s.extract (p.pos+1) (p.pos+j)) then HZ { p with pos:=p.pos+j+1 } ⟨2,s.extract (p.pos+1) (p.pos+j),false,[],[]⟩ p.pos d
  else .error (p.pos,12)
def aeb (s:ByteArray)(p:PV)(d:Nat):Rs (Int×PV):=
 match Uk s p.pos with
 |.error e=>.error e
 |.ok (t,a)=>HZ { p with pos:=a } ⟨if u8 t then 5 else 6,t,false,[],[]⟩ p.pos d
structure SpF where
 V:zj->Nat->PV->Option (Rs (Int×PV))
 L:Int->Nat->Nat->Nat->PV->Option (Rs PV)
 D:Int->Nat->Nat->Nat->ByteArray->PV->Option (Rs PV)
def addItem (p:PV)(node:Int)(it:Int):PV:={ p with nodes:=p.nodes.modify node.toNat λx=>{ x with items:=x.items++[it] } }
def addEntry (p:PV)(node:Int)(key it:Int):PV:={ p with nodes:=p.nodes.modify node.toNat λx=>{ x with keys:=x.keys++[key],items:=x.items++[it] } }
def Ul (s:ByteArray)(G:SpF)(p:PV)(sp d:Nat)(kind:Int):Option (Rs (Int×PV)):=
 match HZ p ⟨kind,ofBytes [],false,[],[]⟩ p.pos d with
 |.error e=>some (.error e)
 |.ok (n,p1)=>(match (if kind=9 then G.L n sp 0 d { p1 with pos:=p1.pos+1 } else G.D n sp 0 d (ofBytes []) { p1 with pos:=p1.pos+1 }) with
  |none=>none
  |some (.error e)=>some (.error e)
  |some (.ok p2)=>some (.ok (n,p2)))
def abq (s:ByteArray)(G:SpF)(p:PV)(sp d:Nat):Option (Rs (Int×PV)):=
 match s.data.toList[p.pos]? with
 |none=>some (.error (s.size,4))
 |some c=>if c=105 then some (aea s p d) else if c=108 then Ul s G p sp d 9 else if c=100 then Ul s G p sp d 10 else some (aeb s p d)
def spV (s:ByteArray)(G:SpF)(sp:zj)(d:Nat)(p:PV):Option (Rs (Int×PV)):=
 if s.size<=p.pos then some (.error (s.size,4)) else
 match abq s G { p with hG:=p.hG++[{ sp with frm:=p.pos,whole:=true }] } p.hG.length d with
 |none=>none
 |some (.error e)=>some (.error e)
 |some (.ok (n,p2))=>some (.ok (n,{ p2 with hG:=p2.hG.modify p.hG.length λx=>{ x with node:=n,«to»:=p2.pos } }))
def ZG (parent:Int)(entry:Int)(kf kt:Int):zj:=⟨0,parent,entry,0,0,kf,kt,false,false⟩
def spL (s:ByteArray)(G:SpF)(node:Int)(sp k d:Nat)(p:PV):Option (Rs PV):=
 match s.data.toList[p.pos]? with
 |none=>some (.error (s.size,4))
 |some c=>if c=101 then some (.ok { p with pos:=p.pos+1 }) else
  (match G.V (ZG sp k 0 0) (d+1) p with
  |none=>none
  |some (.error e)=>some (.error e)
  |some (.ok (it,p2))=>G.L node sp (k+1) d (addItem p2 node it))
def ltB (x y:ByteArray):Bool:=Xj x y||mI x y
def spD (s:ByteArray)(G:SpF)(node:Int)(sp k d:Nat)(last:ByteArray)(p:PV):Option (Rs PV):=
 match s.data.toList[p.pos]? with
 |none=>some (.error (s.size,4))
 |some c=>if c=101 then some (.ok { p with pos:=p.pos+1 }) else
  (match Uk s p.pos with
  |.error e=>some (.error e)
  |.ok (t,a)=>(match HZ { p with pos:=a } ⟨5,t,false,[],[]⟩ p.pos (d+1) with
   |.error e=>some (.error e)
   |.ok (key,p1)=>
    if u8 t=false then some (.error (p.pos,11))
    else if 0<k/\ltB t last=true then some (.error (p.pos,16))
    else (match G.V (ZG sp k p.pos a) (d+1) p1 with
     |none=>none
     |some (.error e)=>some (.error e)
     |some (.ok (it,p2))=>G.D node sp (k+1) d t (addEntry p2 node key it))))
def sp (s:ByteArray):Nat->SpF
 |0=>⟨λ_ _ _=>none,λ_ _ _ _ _=>none,λ_ _ _ _ _ _=>none⟩
 |m+1=>⟨spV s (sp s m),spL s (sp s m),spD s (sp s m)⟩
structure Inv (s:ByteArray) (p:PV):Prop where
 pos:p.pos<=s.size
 nodes:p.nodes.length<=4096
 hG:p.hG.length<=p.pos
 items:∀x∈p.nodes,x.items.length<=p.pos/\x.keys.length<=p.pos
structure SW (s:ByteArray) (ex:Nat) (p p2:PV):Prop where
 inv:Inv s p2
 pre:∀i,i<p.nodes.length->i≠ex->p2.nodes[i]?=p.nodes[i]?
 pos:p.pos<p2.pos
 nodes:p.nodes.length<=p2.nodes.length
 hG:p.hG.length<=p2.hG.length
theorem iU (s:ByteArray):s.data.toList.length=s.size:=rfl
theorem Inv.push {s:ByteArray}{p:PV}{x:an}{a:Nat}(i:Inv s p)(ha:p.pos<=a)(hs:a<=s.size)(hn:p.nodes.length<4096)(hx:x.items.length<=a/\x.keys.length<=a) :
  Inv s { p with pos:=a,nodes:=p.nodes++[x] }:=by
 refine⟨hs,by simp;omega,abU i.hG ha,λy hy=>?_⟩;rcases List.mem_append.1 hy with h1|h1
 .have:=i.items y h1;exact⟨by simp;omega,by simp;omega⟩
 .have:y=x:=by simpa using h1
  subst this;exact hx
theorem SW.trans {s:ByteArray}{ex:Nat}{p p1 p2:PV}(a:SW s ex p p1)(b:SW s ex p1 p2):SW s ex p p2:=
 ⟨b.inv,λi hi he=>by rw[b.pre i (afm hi a.nodes) he,a.pre i hi he],afu a.pos b.pos,abU a.nodes b.nodes,abU a.hG b.hG⟩
theorem SW.modify {s:ByteArray}{nd:Nat}{p p2:PV}(ip:Inv s p)(a:∀ex,SW s ex p p2)(hn:nd<p.nodes.length){f:an->an}(hf:∀x,(f x).items.length<=x.items.length+1/\(f x).keys.length<=x.keys.length+1) :
  SW s nd p { p2 with nodes:=p2.nodes.modify nd f }:=by
 have ap:=(a 0).pos;refine⟨⟨(a 0).inv.pos,by simpa using (a 0).inv.nodes,(a 0).inv.hG,λy hy=>?_⟩,λi hi hne=>?_,(a 0).pos,by simpa using (a 0).nodes,(a 0).hG⟩
 .obtain⟨j,hj⟩:=List.mem_iff_getElem?.1 hy;simp only[ag9] at hj;show y.items.length<=p2.pos/\y.keys.length<=p2.pos;cases hq:p2.nodes[j]? with
  |none=>rw[hq] at hj;cases hj
  |some z=>
   rw[hq] at hj;by_cases hj2:nd=j
   .subst hj2;simp at hj;rw[(a (nd+1)).pre nd hn (by omega)] at hq;have:=ip.items z (IN hq);have:=hf z;subst hj;omega
   .simp[hj2] at hj;subst hj;exact (a 0).inv.items _ (IN hq)
 .show (p2.nodes.modify nd f)[i]?=_;have hne':¬nd=i:=λe=>hne e.symm;rw[ag9,(a (i+1)).pre i hi (by omega)];cases p.nodes[i]?<;>simp[hne']
theorem SW.step {s:ByteArray}{ex:Nat}{p:PV}{a:Nat}{x:an}(i:Inv s p)(ha:p.pos<a)(hs:a<=s.size)(hn:p.nodes.length<4096)(hx:x.items.length<=a/\x.keys.length<=a) :
  SW s ex p { p with pos:=a,nodes:=p.nodes++[x] }:=
 ⟨i.push (afM ha) hs hn hx,λj hj _=>by show (p.nodes++[x])[j]?=_;rw[afq hj],ha,by simp,aaR _⟩
structure ahL (s:ByteArray) (G:SpF):Prop where
 V:∀sp d p n p2,Inv s p->G.V sp d p=some (.ok (n,p2))->(∀ex,SW s ex p p2)/\p.hG.length<p2.hG.length
 L:∀(nd:Nat) sp k d p p2,Inv s p->nd<p.nodes.length->G.L nd sp k d p=some (.ok p2)->SW s nd p p2
 D:∀(nd:Nat) sp k d last p p2,Inv s p->nd<p.nodes.length->G.D nd sp k d last p=some (.ok p2)->SW s nd p p2
end Go.Sh
