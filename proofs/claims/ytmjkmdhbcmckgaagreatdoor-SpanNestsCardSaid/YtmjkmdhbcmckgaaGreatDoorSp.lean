
import Derived.Test.YtmjkmdhbcmckgaaGreatDoorAgoP
import Derived.Test.YtmjkmdhbcmckgaaGreatDoorShLib
set_option linter.all false
namespace Go.Sh
open Go Go.Ago Go.Proofs
structure NodeV where
 kind:Int
 text:ByteArray
 ord:Bool
 keys:List Int
 items:List Int
def NodeR.v (x:NodeR):NodeV:=⟨x.kind,x.text,x.ord,x.kl,x.il⟩
structure PV where
 pos:Nat
 nodes:List NodeV
 spans:List SpanV
abbrev Rs (α:Type):=Except (Nat×Int) α
def digs (L:List UInt8):List UInt8:=L.takeWhile isDig
def spText (s:ByteArray)(at':Nat):Rs (ByteArray×Nat) :=
 let L:=s.data.toList
 let D:=digs (L.drop at')
 if D.length=0 then .error (at',4)
 else if 1<D.length∧L[at']?=some 48 then .error (at',12)
 else match L[at'+D.length]? with
  | none=>.error (s.size,4)
  | some c=>if c=58 then (if s.size - (at'+D.length+1)<decVal D then .error (s.size,4) else .ok (s.extract (at'+D.length+1) (at'+D.length+1+decVal D),at'+D.length+1+decVal D))
   else .error (at'+D.length,4)
def intOK (s:ByteArray):Bool :=
 let L:=s.data.toList
 let T:=if 1<L.length∧L.head?=some 45 then L.tail else L
 decide (T.length≠0∧T.length≤400∧¬(T.head?=some 48∧1<L.length)) && T.all isDig
def spNode (p:PV)(x:NodeV)(frm d:Nat):Rs (Int×PV) :=
 if 32<d then .error (frm,5) else if 4096≤p.nodes.length then .error (frm,7) else .ok (p.nodes.length,{ p with nodes:=p.nodes++[x] })
def spInt (s:ByteArray)(p:PV)(d:Nat):Rs (Int×PV) :=
 match (s.data.toList.drop p.pos).findIdx? (fun b=>b == 101) with
 | none=>.error (s.size,4)
 | some j =>
  if intOK (s.extract (p.pos+1) (p.pos+j)) then spNode { p with pos:=p.pos+j+1 } ⟨2,s.extract (p.pos+1) (p.pos+j),false,[],[]⟩ p.pos d
  else .error (p.pos,12)
def spStr (s:ByteArray)(p:PV)(d:Nat):Rs (Int×PV) :=
 match spText s p.pos with
 | .error e=>.error e
 | .ok (t,a)=>spNode { p with pos:=a } ⟨if u8 t then 5 else 6,t,false,[],[]⟩ p.pos d
structure SpF where
 V:SpanV→Nat→PV→Option (Rs (Int×PV))
 L:Int→Nat→Nat→Nat→PV→Option (Rs PV)
 D:Int→Nat→Nat→Nat→ByteArray→PV→Option (Rs PV)
def addItem (p:PV)(node:Int)(it:Int):PV:={ p with nodes:=p.nodes.modify node.toNat fun x=>{ x with items:=x.items++[it] } }
def addEntry (p:PV)(node:Int)(key it:Int):PV:={ p with nodes:=p.nodes.modify node.toNat fun x=>{ x with keys:=x.keys++[key],items:=x.items++[it] } }
def spOpen (s:ByteArray)(G:SpF)(p:PV)(sp d:Nat)(kind:Int):Option (Rs (Int×PV)) :=
 match spNode p ⟨kind,ofBytes [],false,[],[]⟩ p.pos d with
 | .error e=>some (.error e)
 | .ok (n,p1)=>(match (if kind=9 then G.L n sp 0 d { p1 with pos:=p1.pos+1 } else G.D n sp 0 d (ofBytes []) { p1 with pos:=p1.pos+1 }) with
  | none=>none
  | some (.error e)=>some (.error e)
  | some (.ok p2)=>some (.ok (n,p2)))
def spRead (s:ByteArray)(G:SpF)(p:PV)(sp d:Nat):Option (Rs (Int×PV)) :=
 match s.data.toList[p.pos]? with
 | none=>some (.error (s.size,4))
 | some c=>if c=105 then some (spInt s p d) else if c=108 then spOpen s G p sp d 9 else if c=100 then spOpen s G p sp d 10 else some (spStr s p d)
def spV (s:ByteArray)(G:SpF)(sp:SpanV)(d:Nat)(p:PV):Option (Rs (Int×PV)) :=
 if s.size≤p.pos then some (.error (s.size,4)) else
 match spRead s G { p with spans:=p.spans++[{ sp with frm:=p.pos,whole:=true }] } p.spans.length d with
 | none=>none
 | some (.error e)=>some (.error e)
 | some (.ok (n,p2))=>some (.ok (n,{ p2 with spans:=p2.spans.modify p.spans.length fun x=>{ x with node:=n,«to»:=p2.pos } }))
def span0 (parent:Int)(entry:Int)(kf kt:Int):SpanV:=⟨0,parent,entry,0,0,kf,kt,false,false⟩
def spL (s:ByteArray)(G:SpF)(node:Int)(sp k d:Nat)(p:PV):Option (Rs PV) :=
 match s.data.toList[p.pos]? with
 | none=>some (.error (s.size,4))
 | some c=>if c=101 then some (.ok { p with pos:=p.pos+1 }) else
  (match G.V (span0 sp k 0 0) (d+1) p with
  | none=>none
  | some (.error e)=>some (.error e)
  | some (.ok (it,p2))=>G.L node sp (k+1) d (addItem p2 node it))
def ltB (x y:ByteArray):Bool:=ltS x y || eqS x y
def spD (s:ByteArray)(G:SpF)(node:Int)(sp k d:Nat)(last:ByteArray)(p:PV):Option (Rs PV) :=
 match s.data.toList[p.pos]? with
 | none=>some (.error (s.size,4))
 | some c=>if c=101 then some (.ok { p with pos:=p.pos+1 }) else
  (match spText s p.pos with
  | .error e=>some (.error e)
  | .ok (t,a)=>(match spNode { p with pos:=a } ⟨5,t,false,[],[]⟩ p.pos (d+1) with
   | .error e=>some (.error e)
   | .ok (key,p1) =>
    if u8 t=false then some (.error (p.pos,11))
    else if 0<k∧ltB t last=true then some (.error (p.pos,16))
    else (match G.V (span0 sp k p.pos a) (d+1) p1 with
     | none=>none
     | some (.error e)=>some (.error e)
     | some (.ok (it,p2))=>G.D node sp (k+1) d t (addEntry p2 node key it))))
def sp (s:ByteArray):Nat→SpF
 | 0=>⟨fun _ _ _=>none,fun _ _ _ _ _=>none,fun _ _ _ _ _ _=>none⟩
 | m+1=>⟨spV s (sp s m),spL s (sp s m),spD s (sp s m)⟩
structure Inv (s:ByteArray) (p:PV):Prop where
 pos:p.pos≤s.size
 nodes:p.nodes.length≤4096
 spans:p.spans.length≤p.pos
 items:∀ x ∈ p.nodes,x.items.length≤p.pos∧x.keys.length≤p.pos
structure Adv (s:ByteArray) (ex:Nat) (p p2:PV):Prop where
 inv:Inv s p2
 pre:∀ i,i<p.nodes.length→i≠ex→p2.nodes[i]?=p.nodes[i]?
 pos:p.pos<p2.pos
 nodes:p.nodes.length≤p2.nodes.length
 spans:p.spans.length≤p2.spans.length
theorem size_toList (s:ByteArray):s.data.toList.length=s.size:=rfl
theorem Inv.push {s:ByteArray}{p:PV}{x:NodeV}{a:Nat}(i:Inv s p)(ha:p.pos≤a)(hs:a≤s.size)(hn:p.nodes.length<4096)(hx:x.items.length≤a∧x.keys.length≤a) :
  Inv s { p with pos:=a,nodes:=p.nodes++[x] }:=by
 refine⟨hs,by simp;omega,Nat.le_trans i.spans ha,fun y hy=>?_⟩
 rcases List.mem_append.1 hy with h1 | h1
 ·have:=i.items y h1;exact⟨by simp;omega,by simp;omega⟩
 ·have:y=x:=by simpa using h1
  subst this;exact hx
theorem Adv.trans {s:ByteArray}{ex:Nat}{p p1 p2:PV}(a:Adv s ex p p1)(b:Adv s ex p1 p2):Adv s ex p p2 :=
 ⟨b.inv,fun i hi he=>by rw [b.pre i (Nat.lt_of_lt_of_le hi a.nodes) he,a.pre i hi he],Nat.lt_trans a.pos b.pos,Nat.le_trans a.nodes b.nodes,Nat.le_trans a.spans b.spans⟩
theorem Adv.modify {s:ByteArray}{nd:Nat}{p p2:PV}(ip:Inv s p)(a:∀ ex,Adv s ex p p2)(hn:nd<p.nodes.length){f:NodeV→NodeV}(hf:∀ x,(f x).items.length≤x.items.length+1∧(f x).keys.length≤x.keys.length+1) :
  Adv s nd p { p2 with nodes:=p2.nodes.modify nd f }:=by
 have ap:=(a 0).pos
 refine⟨⟨(a 0).inv.pos,by simpa using (a 0).inv.nodes,(a 0).inv.spans,fun y hy=>?_⟩,fun i hi hne=>?_,(a 0).pos,by simpa using (a 0).nodes,(a 0).spans⟩
 ·obtain⟨j,hj⟩:=List.mem_iff_getElem?.1 hy
  simp only [List.getElem?_modify] at hj
  show y.items.length≤p2.pos∧y.keys.length≤p2.pos
  cases hq:p2.nodes[j]? with
  | none=>rw [hq] at hj;cases hj
  | some z =>
   rw [hq] at hj
   by_cases hj2:nd=j
   ·subst hj2
    simp at hj
    rw [(a (nd+1)).pre nd hn (by omega)] at hq
    have:=ip.items z (List.mem_of_getElem? hq)
    have:=hf z
    subst hj
    omega
   ·simp [hj2] at hj
    subst hj
    exact (a 0).inv.items _ (List.mem_of_getElem? hq)
 ·show (p2.nodes.modify nd f)[i]?=_
  have hne':¬ nd=i:=fun e=>hne e.symm
  rw [List.getElem?_modify,(a (i+1)).pre i hi (by omega)]
  cases p.nodes[i]? <;> simp [hne']
theorem Adv.step {s:ByteArray}{ex:Nat}{p:PV}{a:Nat}{x:NodeV}(i:Inv s p)(ha:p.pos<a)(hs:a≤s.size)(hn:p.nodes.length<4096)(hx:x.items.length≤a∧x.keys.length≤a) :
  Adv s ex p { p with pos:=a,nodes:=p.nodes++[x] } :=
 ⟨i.push (Nat.le_of_lt ha) hs hn hx,fun j hj _=>by show (p.nodes++[x])[j]?=_;rw [List.getElem?_append_left hj],ha,by simp,Nat.le_refl _⟩
theorem Adv.span {s:ByteArray}{ex:Nat}{p p2:PV}{sp:SpanV}(a:Adv s ex p p2){q2:PV}(h1:q2.pos=p2.pos)(h2:q2.nodes=p2.nodes)(h3:q2.spans.length≤p2.pos)(h4:p.spans.length≤q2.spans.length):Adv s ex p q2 :=
 ⟨⟨by rw [h1];exact a.inv.pos,by rw [h2];exact a.inv.nodes,by rw [h1];exact h3,by rw [h1,h2];exact a.inv.items⟩,by rw [h2];exact a.pre,by rw [h1];exact a.pos,by rw [h2];exact a.nodes,h4⟩
structure GoodF (s:ByteArray) (G:SpF):Prop where
 V:∀ sp d p n p2,Inv s p→G.V sp d p=some (.ok (n,p2))→(∀ ex,Adv s ex p p2)∧p.spans.length<p2.spans.length
 L:∀ (nd:Nat) sp k d p p2,Inv s p→nd<p.nodes.length→G.L nd sp k d p=some (.ok p2)→Adv s nd p p2
 D:∀ (nd:Nat) sp k d last p p2,Inv s p→nd<p.nodes.length→G.D nd sp k d last p=some (.ok p2)→Adv s nd p p2
end Go.Sh
