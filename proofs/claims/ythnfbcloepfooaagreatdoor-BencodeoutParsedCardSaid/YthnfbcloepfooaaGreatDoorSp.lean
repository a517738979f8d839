
import Derived.Test.YthnfbcloepfooaaGreatDoorAgoP
import Derived.Test.YthnfbcloepfooaaGreatDoorShLib
set_option linter.all false
namespace Go.Sh
open Go Go.Ago Go.Proofs
structure aq where
 kind:Int
 text:ζ
 ord:Bool
 keys:ε
 items:ε
def eo.v (x:eo):aq:=⟨x.kind,x.text,x.ord,x.kl,x.il⟩
structure PV where
 pos:Nat
 nodes:List aq
 au:List dB
abbrev Rs (α:Type):=Except (Nat×Int) α
def pE (L:List UInt8):List UInt8:=L.takeWhile ga
def tN (s:ζ)(at':Nat):Rs (ζ×Nat):=
 let L:=s.data.toList
 let D:=pE (L.drop at')
 if D.length=0 then .error (at',4)
 else if 1<D.length/\L[at']?=some 48 then .error (at',12)
 else match L[at'+D.length]? with
  |none=>.error (s.size,4)
  |some c=>if c=58 then (if s.size-(at'+D.length+1)<eC D then .error (s.size,4) else .ok (s.extract (at'+D.length+1) (at'+D.length+1+eC D),at'+D.length+1+eC D))
   else .error (at'+D.length,4)
def wu (s:ζ):Bool:=
 let L:=s.data.toList
 let T:=if 1<L.length/\L.head?=some 45 then L.tail else L
 decide (T.length≠0/\T.length<=400/\¬(T.head?=some 48/\1<L.length))&&T.all ga
def pF (p:PV)(x:aq)(xc d:Nat):Rs (Int×PV):=
 if 32<d then .error (xc,5) else if 4096<=p.nodes.length then .error (xc,7) else .ok (p.nodes.length,{ p with nodes:=p.nodes++[x] })
def Et (s:ζ)(p:PV)(d:Nat):Rs (Int×PV):=
 match (s.data.toList.drop p.pos).findIdx? (λb=>b==101) with
 |none=>.error (s.size,4)
 |some j=>
  if wu (s.extract (p.pos+1) (p.pos+j)) then pF { p with pos:=p.pos+j+1 } ⟨2,s.extract (p.pos+1) (p.pos+j),false,[],[]⟩ p.pos d
  else .error (p.pos,12)
def Eu (s:ζ)(p:PV)(d:Nat):Rs (Int×PV):=
 match tN s p.pos with
 |.error e=>.error e
 |.ok (t,a)=>pF { p with pos:=a } ⟨if u8 t then 5 else 6,t,false,[],[]⟩ p.pos d
structure Qo where
 V:dB->Nat->PV->Option (Rs (Int×PV))
 L:Int->Nat->Nat->Nat->PV->Option (Rs PV)
 D:Int->Nat->Nat->Nat->ζ->PV->Option (Rs PV)
def addItem (p:PV)(node:Int)(it:Int):PV:={ p with nodes:=p.nodes.modify node.toNat λx=>{ x with items:=x.items++[it] } }
def addEntry (p:PV)(node:Int)(key it:Int):PV:={ p with nodes:=p.nodes.modify node.toNat λx=>{ x with keys:=x.keys++[key],items:=x.items++[it] } }
def mu (s:ζ)(G:Qo)(p:PV)(sp d:Nat)(kind:Int):Option (Rs (Int×PV)):=
 match pF p ⟨kind,ofBytes [],false,[],[]⟩ p.pos d with
 |.error e=>some (.error e)
 |.ok (n,p1)=>(match (if kind=9 then G.L n sp 0 d { p1 with pos:=p1.pos+1 } else G.D n sp 0 d (ofBytes []) { p1 with pos:=p1.pos+1 }) with
  |none=>none
  |some (.error e)=>some (.error e)
  |some (.ok p2)=>some (.ok (n,p2)))
def rY (s:ζ)(G:Qo)(p:PV)(sp d:Nat):Option (Rs (Int×PV)):=
 match s.data.toList[p.pos]? with
 |none=>some (.error (s.size,4))
 |some c=>if c=105 then some (Et s p d) else if c=108 then mu s G p sp d 9 else if c=100 then mu s G p sp d 10 else some (Eu s p d)
def XU (s:ζ)(G:Qo)(sp:dB)(d:Nat)(p:PV):Option (Rs (Int×PV)):=
 if s.size<=p.pos then some (.error (s.size,4)) else
 match rY s G { p with au:=p.au++[{ sp with xc:=p.pos,whole:=true }] } p.au.length d with
 |none=>none
 |some (.error e)=>some (.error e)
 |some (.ok (n,p2))=>some (.ok (n,{ p2 with au:=p2.au.modify p.au.length λx=>{ x with node:=n,«to»:=p2.pos } }))
def qg (parent:Int)(entry:Int)(kf kt:Int):dB:=⟨0,parent,entry,0,0,kf,kt,false,false⟩
def XV (s:ζ)(G:Qo)(node:Int)(sp k d:Nat)(p:PV):Option (Rs PV):=
 match s.data.toList[p.pos]? with
 |none=>some (.error (s.size,4))
 |some c=>if c=101 then some (.ok { p with pos:=p.pos+1 }) else
  (match G.V (qg sp k 0 0) (d+1) p with
  |none=>none
  |some (.error e)=>some (.error e)
  |some (.ok (it,p2))=>G.L node sp (k+1) d (addItem p2 node it))
def Uw (x y:ζ):Bool:=zM x y||pj x y
def XW (s:ζ)(G:Qo)(node:Int)(sp k d:Nat)(last:ζ)(p:PV):Option (Rs PV):=
 match s.data.toList[p.pos]? with
 |none=>some (.error (s.size,4))
 |some c=>if c=101 then some (.ok { p with pos:=p.pos+1 }) else
  (match tN s p.pos with
  |.error e=>some (.error e)
  |.ok (t,a)=>(match pF { p with pos:=a } ⟨5,t,false,[],[]⟩ p.pos (d+1) with
   |.error e=>some (.error e)
   |.ok (key,p1)=>
    if u8 t=false then some (.error (p.pos,11))
    else if 0<k/\Uw t last=true then some (.error (p.pos,16))
    else (match G.V (qg sp k p.pos a) (d+1) p1 with
     |none=>none
     |some (.error e)=>some (.error e)
     |some (.ok (it,p2))=>G.D node sp (k+1) d t (addEntry p2 node key it))))
def sp (s:ζ):Nat->Qo
 |0=>⟨λ_ _ _=>none,λ_ _ _ _ _=>none,λ_ _ _ _ _ _=>none⟩
 |m+1=>⟨XU s (sp s m),XV s (sp s m),XW s (sp s m)⟩
structure Inv (s:ζ) (p:PV):Prop where
 pos:p.pos<=s.size
 nodes:p.nodes.length<=4096
 au:p.au.length<=p.pos
 items:∀x∈p.nodes,x.items.length<=p.pos/\x.keys.length<=p.pos
structure wv (s:ζ) (ex:Nat) (p p2:PV):Prop where
 inv:Inv s p2
 pre:∀i,i<p.nodes.length->i≠ex->p2.nodes[i]?=p.nodes[i]?
 pos:p.pos<p2.pos
 nodes:p.nodes.length<=p2.nodes.length
 au:p.au.length<=p2.au.length
theorem bF (s:ζ):s.data.toList.length=s.size:=rfl
theorem yz {s:ζ}{i:Nat}{c:UInt8}(hc:s.data.toList[i]?=some c):i<s.size:=by
 have:=(List.getElem?_eq_some_iff.1 hc).1
 rwa [bF] at this
theorem xd {s:ζ}{a a2:Nat}{t:ζ}(ht:tN s a=.ok (t,a2)):a<a2/\a2<=s.size:=by
 unfold tN at ht;simp only at ht;split at ht
 .cases ht
 .split at ht
  .cases ht
  .split at ht
   .cases ht
   .rename_i c hc;split at ht
    .split at ht
     .cases ht
     .simp only[Except.ok.injEq,abm] at ht;have:=yz hc;omega
    .cases ht
theorem jq {p p2:PV}{x:aq}{f d:Nat}{n:Int}(hn:pF p x f d=.ok (n,p2)):n=p.nodes.length/\p2={ p with nodes:=p.nodes++[x] }/\p.nodes.length<4096/\d<=32:=by
 unfold pF at hn;split at hn
 .cases hn
 .split at hn
  .cases hn
  .cases hn;exact⟨rfl,rfl,by omega,by omega⟩
theorem Inv.push {s:ζ}{p:PV}{x:aq}{a:Nat}(i:Inv s p)(ha:p.pos<=a)(hs:a<=s.size)(hn:p.nodes.length<4096)(hx:x.items.length<=a/\x.keys.length<=a) :
  Inv s { p with pos:=a,nodes:=p.nodes++[x] }:=by
 refine⟨hs,by simp;omega,aaX i.au ha,λy hy=>?_⟩;rcases List.mem_append.1 hy with h1|h1
 .have:=i.items y h1;exact⟨by simp;omega,by simp;omega⟩
 .have:y=x:=by simpa using h1
  subst this;exact hx
theorem wv.trans {s:ζ}{ex:Nat}{p p1 p2:PV}(a:wv s ex p p1)(b:wv s ex p1 p2):wv s ex p p2:=
 ⟨b.inv,λi hi he=>by rw[b.pre i (aaC hi a.nodes) he,a.pre i hi he],abk a.pos b.pos,aaX a.nodes b.nodes,aaX a.au b.au⟩
theorem wv.modify {s:ζ}{nd:Nat}{p p2:PV}(ip:Inv s p)(a:∀ex,wv s ex p p2)(hn:nd<p.nodes.length){f:aq->aq}(hf:∀x,(f x).items.length<=x.items.length+1/\(f x).keys.length<=x.keys.length+1) :
  wv s nd p { p2 with nodes:=p2.nodes.modify nd f }:=by
 have ap:=(a 0).pos;refine⟨⟨(a 0).inv.pos,by simpa using (a 0).inv.nodes,(a 0).inv.au,λy hy=>?_⟩,λi hi hne=>?_,(a 0).pos,by simpa using (a 0).nodes,(a 0).au⟩
 .obtain⟨j,hj⟩:=List.mem_iff_getElem?.1 hy;simp only[ach] at hj;show y.items.length<=p2.pos/\y.keys.length<=p2.pos;cases hq:p2.nodes[j]? with
  |none=>rw[hq] at hj;cases hj
  |some z=>
   rw[hq] at hj;by_cases hj2:nd=j
   .subst hj2;simp at hj;rw[(a (nd+1)).pre nd hn (by omega)] at hq;have:=ip.items z (OF hq);have:=hf z;subst hj;omega
   .simp[hj2] at hj;subst hj;exact (a 0).inv.items _ (OF hq)
 .show (p2.nodes.modify nd f)[i]?=_;have hne':¬nd=i:=λe=>hne e.symm;rw[ach,(a (i+1)).pre i hi (by omega)];cases p.nodes[i]?<;>simp[hne']
theorem wv.step {s:ζ}{ex:Nat}{p:PV}{a:Nat}{x:aq}(i:Inv s p)(ha:p.pos<a)(hs:a<=s.size)(hn:p.nodes.length<4096)(hx:x.items.length<=a/\x.keys.length<=a) :
  wv s ex p { p with pos:=a,nodes:=p.nodes++[x] }:=
 ⟨i.push (abj ha) hs hn hx,λj hj _=>by show (p.nodes++[x])[j]?=_;rw[aau hj],ha,by simp,aai _⟩
theorem wv.span {s:ζ}{ex:Nat}{p p2:PV}{sp:dB}(a:wv s ex p p2){q2:PV}(h1:q2.pos=p2.pos)(h2:q2.nodes=p2.nodes)(h3:q2.au.length<=p2.pos)(h4:p.au.length<=q2.au.length):wv s ex p q2:=
 ⟨⟨by rw[h1];exact a.inv.pos,by rw[h2];exact a.inv.nodes,by rw[h1];exact h3,by rw[h1,h2];exact a.inv.items⟩,by rw[h2];exact a.pre,by rw[h1];exact a.pos,by rw[h2];exact a.nodes,h4⟩
theorem CN {L:List UInt8}{f:UInt8->Bool}{j:Nat}(h:L.findIdx? f=some j):j<L.length:=by
 rw[abl] at h;exact h.1
structure Ux (s:ζ) (G:Qo):Prop where
 V:∀sp d p n p2,Inv s p->G.V sp d p=some (.ok (n,p2))->(∀ex,wv s ex p p2)/\p.au.length<p2.au.length
 L:∀(nd:Nat) sp k d p p2,Inv s p->nd<p.nodes.length->G.L nd sp k d p=some (.ok p2)->wv s nd p p2
 D:∀(nd:Nat) sp k d last p p2,Inv s p->nd<p.nodes.length->G.D nd sp k d last p=some (.ok p2)->wv s nd p p2
theorem CO {s:ζ}{G:Qo}(g:Ux s G){p p2:PV}{x:dB}{sp d:Nat}{n:Int}(i:Inv s p)(hr:rY s G { p with au:=p.au++[x] } sp d=some (.ok (n,p2))) :
  (∀ex,wv s ex p p2)/\p.au.length<p2.au.length:=by
 have fin:∀{y:aq} {a:Nat},p.pos<a->a<=s.size->y.items=[]->y.keys=[]->pF { p with pos:=a,au:=p.au++[x] } y p.pos d=.ok (n,p2)->(∀ex,wv s ex p p2)/\p.au.length<p2.au.length:=by
  intro y a ha hs hy1 hy2 hn;obtain⟨rfl,rfl,h1,h2⟩:=jq hn;refine⟨λex=>?_,by simp⟩;refine wv.span (sp:=x) (wv.step (ex:=ex) i ha hs h1 (x:=y) (by simp[hy1,hy2])) rfl rfl ?_ (by simp);have:=i.au;simp;omega
 have opn:∀{kind:Int},s.data.toList[p.pos]?≠none->mu s G { p with au:=p.au++[x] } sp d kind=some (.ok (n,p2))->(∀ex,wv s ex p p2)/\p.au.length<p2.au.length:=by
  intro kind hc ho;have hlt:p.pos<s.size:=by
   cases hq:s.data.toList[p.pos]? with
   |none=>exact absurd hq hc
   |some c=>exact yz hq
  unfold mu at ho;split at ho
  .cases ho
  .rename_i n1 p1 hn;obtain⟨rfl,rfl,h1,h2⟩:=jq hn;have i1:Inv s { p with pos:=p.pos+1,nodes:=p.nodes++[⟨kind,ofBytes [],false,[],[]⟩],au:=p.au++[x] }:=by
    have i0:=(Inv.push (x:=⟨kind,ofBytes [],false,[],[]⟩) (a:=p.pos+1) i (by omega) (by omega) h1 (by simp));exact⟨i0.pos,i0.nodes,by have:=i.au;simp;omega,i0.items⟩
   have a0:∀p3,wv s p.nodes.length { p with pos:=p.pos+1,nodes:=p.nodes++[⟨kind,ofBytes [],false,[],[]⟩],au:=p.au++[x] } p3->(∀ex,wv s ex p p3)/\p.au.length<p3.au.length:=by
    intro p3 a;have a1:=a.au;have a2:=a.nodes;have a3:=a.pos;simp at a1 a2 a3;refine⟨λex=>⟨a.inv,λj hj he=>?_,by omega,by omega,by omega⟩,by omega⟩;rw[a.pre j (by simp;omega) (by omega)];show (p.nodes++[_])[j]?=_;rw[aau hj]
   split at ho
   .cases ho
   .cases ho
   .rename_i p3 hl;cases ho;refine a0 _ ?_;split at hl
    .exact g.L p.nodes.length _ _ _ _ _ i1 (by simp) hl
    .exact g.D p.nodes.length _ _ _ _ _ _ i1 (by simp) hl
 unfold rY at hr;split at hr
 .cases hr
 .rename_i c hc;have hne:s.data.toList[p.pos]?≠none:=by
   have hc':s.data.toList[p.pos]?=some c:=hc;rw[hc'];simp
  split at hr
  .have hr:=aao hr;unfold Et at hr;split at hr
   .cases hr
   .rename_i j hj;split at hr
    .have:=CN hj;simp[bF] at this;exact fin (a:=p.pos+j+1) (by omega) (by omega) rfl rfl hr
    .cases hr
  .split at hr
   .exact opn hne hr
   .split at hr
    .exact opn hne hr
    .have hr:=aao hr;unfold Eu at hr;split at hr
     .cases hr
     .rename_i t a ht;obtain⟨h1,h2⟩:=xd ht;exact fin h1 h2 rfl rfl hr
theorem rh (s:ζ):∀m,Ux s (sp s m)
 |0=>⟨λ_ _ _ _ _ _ h=>by simp[sp] at h,λ_ _ _ _ _ _ _ _ h=>by simp[sp] at h,λ_ _ _ _ _ _ _ _ _ h=>by simp[sp] at h⟩
 |m+1=>by
  have g:=rh s m;refine⟨λsn d p n p2 i hr=>?_,λnd sn k d p p2 i hn hr=>?_,λnd sn k d last p p2 i hn hr=>?_⟩
  .simp only[sp,XU] at hr;split at hr
   .cases hr
   .split at hr
    .cases hr
    .cases hr
    .rename_i n1 p1 h1;cases hr;obtain⟨a,b⟩:=CO g i h1;exact⟨λex=>(a ex).span (sp:=sn) rfl rfl (by simpa using (a ex).inv.au) (by simpa using (a ex).au),by simpa using b⟩
  .simp only[sp,XV] at hr;split at hr
   .cases hr
   .rename_i c hc;have hlt:=yz hc;split at hr
    .cases hr;exact⟨⟨hlt,i.nodes,aaX i.au (aaU _),λx hx=>by have:=i.items x hx;exact⟨by simp;omega,by simp;omega⟩⟩,λ_ _ _=>rfl,aad _,aai _,aai _⟩
    .split at hr
     .cases hr
     .cases hr
     .rename_i it p1 h1;obtain⟨a,_⟩:=g.V _ _ _ _ _ i h1;have am:=wv.modify (f:=λx=>{ x with items:=x.items++[it] }) i a hn (by simp);exact am.trans (g.L nd _ _ _ _ _ am.inv (aaC hn am.nodes) hr)
  .simp only[sp,XW] at hr;split at hr
   .cases hr
   .rename_i c hc;have hlt:=yz hc;split at hr
    .cases hr;exact⟨⟨hlt,i.nodes,aaX i.au (aaU _),λx hx=>by have:=i.items x hx;exact⟨by simp;omega,by simp;omega⟩⟩,λ_ _ _=>rfl,aad _,aai _,aai _⟩
    .split at hr
     .cases hr
     .rename_i t a ht;obtain⟨e1,e2⟩:=xd ht;split at hr
      .cases hr
      .rename_i key p1 hk;obtain⟨rfl,rfl,h1,h2⟩:=jq hk;have a1:∀ex,wv s ex p { p with pos:=a,nodes:=p.nodes++[⟨5,t,false,[],[]⟩] }:=λex=>wv.step i e1 e2 h1 (by simp);split at hr
       .cases hr
       .split at hr
        .cases hr
        .split at hr
         .cases hr
         .cases hr
         .rename_i it p3 h3;obtain⟨a3,_⟩:=g.V _ _ _ _ _ (a1 0).inv h3;have am:=wv.modify (f:=λx=>{ x with keys:=x.keys++[(p.nodes.length:Int)],items:=x.items++[it] }) i (λex=>(a1 ex).trans (a3 ex)) hn (by simp);exact am.trans (g.D nd _ _ _ _ _ _ am.inv (aaC hn am.nodes) hr)
theorem CP {s:ζ}{p:PV}{x:dB}{kind:Int}(i:Inv s p)(hlt:p.pos<s.size)(h1:p.nodes.length<4096):Inv s { p with pos:=p.pos+1,nodes:=p.nodes++[⟨kind,ofBytes [],false,[],[]⟩],au:=p.au++[x] }:=by
 have i0:=(Inv.push (x:=⟨kind,ofBytes [],false,[],[]⟩) (a:=p.pos+1) i (by omega) (by omega) h1 (by simp));exact⟨i0.pos,i0.nodes,by have:=i.au;simp;omega,i0.items⟩
end Go.Sh
