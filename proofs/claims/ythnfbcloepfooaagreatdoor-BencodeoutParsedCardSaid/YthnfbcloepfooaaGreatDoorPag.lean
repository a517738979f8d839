
import Derived.Test.YthnfbcloepfooaaGreatDoorBi
import Derived.Test.YthnfbcloepfooaaGreatDoorPab
set_option linter.all false
namespace Go.Sh
open Go Go.Ago
variable {h h':af}{S S':dO}{n:Nat}
def vw (S':dO)(e:Nat×Int):Prop:=S'.off=e.1/\S'.err=e.2/\e.2≠0
def Xd (h:af)(S:dO)(p:PV)(r:Rs (ζ×Nat))(x:ζ×Bool)(h':af):Prop:=
 ∃S',St h' S'/\nu h S h' S'/\match r with
  |.ok (t,a)=>x=(t,true)/\Is S' { p with pos:=a }
  |.error e=>x.2=false/\vw S' e
theorem nN {S:dO}{a:Nat}{e:Int}(h0:S.err=0)(he:e≠0):vw (S.failed a e) (a,e):=by
 unfold dO.failed;rw[BY h0];exact⟨rfl,rfl,he⟩
def Dx (s:ζ)(a1:Nat)(D:List UInt8):Rs (ζ×Nat):=
 match s.data.toList[a1]? with
  |none=>.error (s.size,4)
  |some c=>if c=58 then (if s.size-(a1+1)<eC D then .error (s.size,4) else .ok (s.extract (a1+1) (a1+1+eC D),a1+1+eC D))
   else .error (a1,4)
theorem Is.at {S:dO}{p:PV}(is:Is S p)(a:Nat):Is (S.tK a) { p with pos:=a }:=⟨rfl,is.2⟩
theorem Sf (L:List UInt8):(pE L).all ga=true:=by
 induction L with
 |nil=>rfl
 |cons a L ih=>
  unfold pE at ih⊢;rw[abZ];split
  .rename_i h1;rw[abA,h1,ih];rfl
  .rfl
theorem T9 {n:Nat}{x:ζ}{h:af}{Q:Int×ξ->af->Prop}(hw:WF h)(h1:x.size≠0)(hs:x.size<=281474976710656)(h2:x.data.toList.all ga=true)
  (q1:eC x.data.toList<=9223372036854775807->Q ((eC x.data.toList:Int),.nilIface) h)
  (q2:∀t v h',9223372036854775807<eC x.data.toList->Fr (λ_=>False) h h'->Q (9223372036854775807,.iface t v) h'):Wp (strconv_Atoi n x) h Q:=by
 unfold strconv_Atoi;rw[BY ⟨⟨h1,hs⟩,h2⟩];split
 .rw[ah];exact q1 ‹_›
 .rw[ag];refine WA λh' f=>?_;rw[ah];exact q2 _ _ _ (by omega) (f hw)
theorem Bw {p:PV}{a v:Nat}(st:St h S)(is:Is S p)(hs:S.src.size<=65536)(hp:p.pos=a)(hv:a+v<=S.src.size) :
  Wp (iF n (some (aw S.b)) v) h λx h'=>x=(S.src.extract a (a+v),true)/\St h' (S.tK (a+v:Nat))/\nu h S h' (S.tK (a+v:Nat)):=by
 unfold iF;simp only[ag,aN,aR,aT,aW,bf,aE,ax,ah,aC,aab,Nat.reduceAdd,IN,exists_eq_left',IT,st.je,is.1,hp];refine st.setAt λh2 st2 f2=>?_;have e1:IntKind.i64.wrap ((a:Int)+v)=((a+v:Nat):Int):=by rw[Dc (by omega) (by omega)];simp
 rw[e1] at st2 f2;have e2:IntKind.i64.wrap (((a+v:Nat):Int)-v)=(a:Int):=by rw[Dc (by omega) (by omega)];omega
 have hb:(S.tK ((a+v:Nat):Int)).b=S.b:=rfl;have hsr:(S.tK ((a+v:Nat):Int)).src=S.src:=rfl;have hat:(S.tK ((a+v:Nat):Int)).at'=(a+v:Nat):=rfl;rw[<-hb];simp only[ag,aN,aR,aT,aW,bf,aE,ax,ah,aC,aab,Nat.reduceAdd,IN,exists_eq_left',IT,st2.eG,st2.je,st2.eF,st2.b7,st2.cC,hsr,hat,e2,aac];exact⟨by omega,by omega,by omega,trivial,st2,f2⟩
theorem Bx {p:PV}{a1:Nat}{x7:ζ}(st:St h S)(is:Is S p)(hs:S.src.size<=65536)(hp:p.pos=a1)(h1:x7.size≠0)(hs7:x7.size<=S.src.size)(h2:x7.data.toList.all ga=true) :
  Wp (ew n (some (aw S.b)) x7) h (Xd h S p (Dx S.src a1 x7.data.toList)):=by
 unfold ew Dx;have err0:=is.2.2.2;rw[ag];refine (oP st err0).mono λx h' hx=>?_;rw[is.1,hp] at hx;split at hx
 .rename_i hle;obtain⟨rfl,st1,f1⟩:=hx;rw[aa4 (by rw[bF];omega)];simp only[ag,aN,aR,aT,aW,bf,aE,ax,ah,aC,aab,Nat.reduceAdd,IN,exists_eq_left',IT,aaV,aav];exact⟨_,st1,f1,rfl,rfl,rfl,by simp⟩
 .rename_i hle;obtain⟨rfl,rfl⟩:=hx;have hlt:a1<S.src.data.toList.length:=by rw[bF];omega
  rw[bF] at hlt;have hc:S.src.data.toList[a1]?=some S.src.data.toList[a1]:=aak (by rwa [bF]);generalize S.src.data.toList[a1]=c at hc;rw[hc];simp only[ag,aN,aR,aT,aW,bf,aE,ax,ah,aC,aab,Nat.reduceAdd,IN,exists_eq_left',IT,st.eG,st.je,st.eF,st.b7,st.cC,is.1,hp,qM,hc,aac,aa9,aaY,aaW,aar,aag,abC,decide_eq_false_iff_not];have hcc:((c.toNat:Int)=58)↔c=58:=by
   rw[<-abM];simp;omega
  simp only[hcc];by_cases hc58:c=58
  .simp only[hc58,abP,aar,aav];simp only[ag,aN,aR,aT,aW,bf,aE,ax,ah,aC,aab,Nat.reduceAdd,IN,exists_eq_left',IT,st.eG,st.je,st.eF,st.b7,st.cC,is.1,hp];refine st.setAt λh2' st2 f2=>?_;have e1:IntKind.i64.wrap ((a1:Int)+1)=((a1+1:Nat):Int):=by rw[Dc (by omega) (by omega)];simp
   rw[e1] at st2 f2;have is2:=is.at (a1+1);have hb:(S.tK ((a1+1:Nat):Int)).b=S.b:=rfl;have hsr:(S.tK ((a1+1:Nat):Int)).src=S.src:=rfl;generalize S.tK ((a1+1:Nat):Int)=S2 at *
   rw[<-hb];refine T9 st2.wf h1 (by omega) h2 (λhv=>?_) (λt v h5 hv f5=>?_)
   .simp only[ag,aN,aR,aT,aW,bf,aE,ax,ah,aC,aab,Nat.reduceAdd,IN,exists_eq_left',IT,st2.eG,st2.je,st2.eF,st2.b7,st2.cC,Eo,aaY,reduceCtorEq,false_and,exists_false,ab9,exists_const,aaW,aar,aag,hsr,is2.1];have e2:IntKind.i64.wrap ((S.src.size:Int)-((a1+1:Nat):Int))=(S.src.size-(a1+1):Nat):=(by rw[Dc (by omega) (by omega)];omega);rw[e2];split
    .rename_i h5;rw[BY (by omega)];simp only[ag,aN,aR,aT,aW,bf,aE,ax,ah,aC,aab,Nat.reduceAdd,IN,exists_eq_left',IT,st2.eG,st2.je,st2.eF,st2.b7,st2.cC,hsr];refine (ey st2 _ _).mono λx h' hx=>?_;obtain⟨rfl,s3,f3⟩:=hx;exact⟨_,s3,f2.trans st.wf f3,rfl,nN (S:=S2) is2.2.2.2 (by simp)⟩
    .rename_i h5;rw[By (by omega)];refine (Bw (a:=a1+1) (v:=eC x7.data.toList) st2 is2 (by rw[hsr];exact hs) rfl (by rw[hsr];omega)).mono λx h' hx=>?_;obtain⟨rfl,s3,f3⟩:=hx;rw[hsr];exact⟨_,s3,f2.trans st.wf f3,rfl,is2.at _⟩
   .obtain⟨st3,f3⟩:=st2.pure f5;simp only[ag,aN,aR,aT,aW,bf,aE,ax,ah,aC,aab,Nat.reduceAdd,IN,exists_eq_left',IT,st3.eG,st3.je,st3.eF,st3.b7,st3.cC,Eo,reduceCtorEq,false_and,false_or,Value.iface.injEq,exists_eq_left',aaV,aav,hsr];rw[BY (by omega)];refine⟨t,v,⟨rfl,rfl⟩,?_⟩;refine (ey st3 _ _).mono λx h' hx=>?_;obtain⟨rfl,s3,f4⟩:=hx;exact⟨_,s3,(f2.trans st.wf f3).trans st.wf f4,rfl,nN (S:=S2) is2.2.2.2 (by simp)⟩
  .simp only[hc58,not_false_eq_true,aav,aar];simp only[ag,aN,aR,aT,aW,bf,aE,ax,ah,aC,aab,Nat.reduceAdd,IN,exists_eq_left',IT,st.eG,st.je,st.eF,st.b7,st.cC,is.1,hp];refine (ey st _ _).mono λx h' hx=>?_;obtain⟨rfl,s3,f3⟩:=hx;exact⟨_,s3,f3,rfl,nN (S:=S) err0 (by simp)⟩
theorem zI {p:PV}(st:St h S)(is:Is S p)(hs:S.src.size<=65536)(hp:p.pos<=S.src.size)(hn:S.src.size<n) :
  Wp (iq n (some (aw S.b))) h (Xd h S p (tN S.src p.pos)):=by
 generalize hsrc:S.src=s at *
 have err0:=is.2.2.2;unfold iq;simp only[ag,aN,aR,aT,aW,bf,aE,ax,ah,aC,aab,Nat.reduceAdd,IN,exists_eq_left',IT,st.je,is.1];refine (wM hs n h S p.pos _ hsrc st is.1 hp (by omega)).mono λ_ h1 hx=>?_;obtain⟨st1,f1⟩:=hx;have hle:=TD s.data.toList p.pos;rw[bF] at hle;generalize hD:pE (s.data.toList.drop p.pos)=D at *
 have hsrc1:(S.tK ((p.pos+D.length:Nat):Int)).src=s:=hsrc;have hat1:(S.tK ((p.pos+D.length:Nat):Int)).at'=(p.pos+D.length:Nat):=rfl;have herr1:(S.tK ((p.pos+D.length:Nat):Int)).err=0:=err0;have hb1:(S.tK ((p.pos+D.length:Nat):Int)).b=S.b:=rfl;have ms1:(S.tK ((p.pos+D.length:Nat):Int)).nodes.map eo.v=p.nodes:=is.2.1;have sp1:(S.tK ((p.pos+D.length:Nat):Int)).au=p.au:=is.2.2.1;generalize S.tK ((p.pos+D.length:Nat):Int)=S1 at *
 rw[<-hb1] at *
 simp only[ag,aN,aR,aT,aW,bf,aE,ax,ah,aC,aab,Nat.reduceAdd,IN,exists_eq_left',IT,st1.je,st1.eF,hsrc1,hat1];refine⟨by omega,by omega,by omega,?_⟩;have hx7:(s.extract (p.pos:Int).toNat ((p.pos+D.length:Nat):Int).toNat).data.toList=D:=by
  rw[zC,aac,aac,ab5,<-hD,Ey]
 generalize s.extract (p.pos:Int).toNat ((p.pos+D.length:Nat):Int).toNat=x7 at *
 have hsz:x7.size=D.length:=by rw[<-bF,hx7]
 have is1:Is S1 { p with pos:=p.pos+D.length }:=⟨hat1,ms1,sp1,herr1⟩;have spec:tN s p.pos=if D.length=0 then .error (p.pos,4) else if 1<D.length/\s.data.toList[p.pos]?=some 48 then .error (p.pos,12) else Dx s (p.pos+D.length) D:=by
  unfold tN Dx;simp only[hD];rfl
 rw[spec];clear spec;have fl:∀{e:Int},e≠0->∀{h2:af},St h2 (S1.failed p.pos e)->nu h1 S1 h2 (S1.failed p.pos e)->∃S',St h2 S'/\nu h S h2 S'/\vw S' (p.pos,e):=by
  intro e he h2 hh1 hh2;exact⟨_,hh1,f1.trans st.wf hh2,nN herr1 he⟩
 by_cases hD0:D.length=0
 .rw[BY hD0];have hD0':D=[]:=aap hD0;have he:pj x7 (ofBytes [])=true:=by rw[GY,hx7,hD0'];rfl
  simp only[he,aav];rw[ag];refine (oP st1 herr1).mono λx h2 hx=>?_;rw[hsrc1,hat1] at hx;split at hx
  .obtain⟨rfl,st2,f2⟩:=hx;simp only[ag,aN,aR,aT,aW,bf,aE,ax,ah,aC,aab,Nat.reduceAdd,IN,exists_eq_left',IT,aag,aar];refine⟨_,st2,f1.trans st.wf f2,rfl,?_⟩;refine⟨?_,rfl,by simp⟩;show (s.size:Int)=p.pos;omega
  .obtain⟨rfl,rfl⟩:=hx;simp only[ag,aN,aR,aT,aW,bf,aE,ax,ah,aC,aab,Nat.reduceAdd,IN,exists_eq_left',IT,aav];refine (ey st1 _ _).mono λx h2 hx=>?_;obtain⟨rfl,s3,f3⟩:=hx;obtain⟨S',a1,a2,a3⟩:=fl (by simp) s3 f3;exact⟨S',a1,a2,rfl,a3⟩
 .rw[By hD0];have he:pj x7 (ofBytes [])=false:=by
   cases hq:pj x7 (ofBytes []) with
   |false=>rfl
   |true=>rw[GY,hx7] at hq;rw[hq] at hD0;exact absurd rfl hD0
  simp only[he,aag,aar];have tail:Wp (ew n (some (aw S1.b)) x7) h1 (Xd h S p (Dx s (p.pos+D.length) D)):=by
   refine (Bx (a1:=p.pos+D.length) st1 is1 (by rw[hsrc1];exact hs) rfl (by omega) (by rw[hsrc1];omega) (by rw[hx7,<-hD];exact Sf _)).mono λx h2 hx=>?_;rw[hsrc1,hx7] at hx;obtain⟨S',a1,a2,a3⟩:=hx;exact⟨S',a1,f1.trans st.wf a2,a3⟩
  have hd0:s.data.toList[p.pos]?=D[0]?:=by
   rw[<-hD];have h1:(pE (s.data.toList.drop p.pos))[0]?=((s.data.toList.drop p.pos).take (pE (s.data.toList.drop p.pos)).length)[0]?:=by rw[Ey]
   rw[h1,ab3,BY (by rw[hD];omega),aaJ,aaG]
  by_cases h1l:1<D.length
  .have h1s:(1:Int)<(x7.size:Int):=by omega
   rw[BY h1s];have hc:D[0]?=some D[0]:=aak (by omega);generalize D[0]=c at hc;simp only[ag,aN,aR,aT,aW,bf,aE,ax,ah,aC,aab,Nat.reduceAdd,IN,exists_eq_left',IT,qM,hx7,Int.toNat_zero,hc,Int.le_refl,aaY];have hcc:((c.toNat:Int)=48)↔c=48:=by
    rw[<-abM];simp;omega
   by_cases hc48:c=48
   .rw[BY (hcc.2 hc48),BY ⟨h1l,by rw[hd0,hc,hc48]⟩];simp only[ag,aN,aR,aT,aW,bf,aE,ax,ah,aC,aab,Nat.reduceAdd,IN,exists_eq_left',IT];refine (ey st1 _ _).mono λx h2 hx=>?_;obtain⟨rfl,s3,f3⟩:=hx;obtain⟨S',a1,a2,a3⟩:=fl (by simp) s3 f3;exact⟨S',a1,a2,rfl,a3⟩
   .rw[By (λh=>hc48 (hcc.1 h)),By (λh=>hc48 (by have:=h.2;rw[hd0,hc] at this;exact aao this))];exact tail
  .have h1s:¬(1:Int)<(x7.size:Int):=by omega
   rw[By h1s,By (λh=>h1l h.1)];exact tail
end Go.Sh
namespace Go.Sh
open Go Go.Ago Go.Proofs
variable {h h':af}{S S':dO}{n:Nat}
theorem Dy {S1:dO}{h1:af}(hw:WF h)(f1:nu h S h1 S1){r:Rs (Int×PV)}{x:Int×Bool}{h':af}(hr:ud h1 S1 r x h'):ud h S r x h':=by
 obtain⟨S',a,b,c⟩:=hr;exact⟨S',a,f1.trans hw b,c⟩
theorem zJ (c:UInt8)(k:Nat)(hk:k<256):((c.toNat:Int)=k)↔c=UInt8.ofNat k:=by
 rw[<-abM,UInt8.toNat_ofNat',Nat.mod_eq_of_lt hk];omega
theorem wW (c:UInt8):∀(L:List UInt8),Lib.indexByte L c=match L.findIdx? (λb=>b==c) with|some i=>(i:Int)|none=>-1
 |[]=>rfl
 |b::L=>by
  have ih:=wW c L;rw[List.findIdx?_cons,Lib.indexByte,ih];cases hb:b==c with
  |true=>simp
  |false=>
   cases hq:L.findIdx? (λb=>b==c) with
   |none=>simp
   |some i=>
    have:((i:Int) == -1)=false:=(by simp);simp[this]
theorem Bz {p:PV}{d:Nat}{sp:Int}(st:St h S)(is:Is S p)(hs:S.src.size<=65536)(hn:S.src.size+1<n)(hc:S.src.data.toList[p.pos]?=some 105) :
  Wp (iE n (some (aw S.b)) d sp) h (ud h S (Et S.src p d)):=by
 unfold iE Et;have hlt:=yz hc;generalize hsrc:S.src=s at *
 have hl:s.data.toList.length=s.size:=bF s;simp only[ag,aN,aR,aT,aW,bf,aE,ax,ah,aC,aab,Nat.reduceAdd,IN,exists_eq_left',IT,st.eG,st.je,st.eF,st.b7,st.cC,is.1,hsrc,aac];refine⟨by omega,by omega,by omega,?_⟩;unfold strings_IndexByte;rw[show ((101:Int).toNat.toUInt8)=(101:UInt8) from rfl,wW,zC,aba (by simp[hl]),ah];cases hj:(s.data.toList.drop p.pos).findIdx? (λb=>b==101) with
 |none=>
  simp only[ag,aN,aR,aT,aW,bf,aE,ax,ah,aC,aab,Nat.reduceAdd,IN,exists_eq_left',IT,st.eG,st.je,st.eF,st.b7,st.cC,hsrc];rw[BY (by omega)];simp only[ag,aN,aR,aT,aW,bf,aE,ax,ah,aC,aab,Nat.reduceAdd,IN,exists_eq_left',IT,st.eG,st.je,st.eF,st.b7,st.cC,hsrc];refine (ey st _ _).mono λx h' hx=>?_;obtain⟨rfl,s3,f3⟩:=hx;exact⟨_,s3,f3,rfl,nN (S:=S) is.2.2.2 (by simp)⟩
 |some j=>
  have hj1:=CN hj;simp[hl] at hj1;have hj0:j≠0:=by
   intro e;subst e;rw[abl] at hj;obtain⟨h1,h2,_⟩:=hj;have h3:(s.data.toList.drop p.pos)[0]?=some 105:=by rw[aaJ];exact hc
   rw[aak h1] at h3;rw[aao h3] at h2;exact absurd h2 (by decide)
  simp only;rw[By (by omega)];have e1:IntKind.i64.wrap ((p.pos:Int)+1)=(p.pos+1:Nat):=by rw[Dc (by omega) (by omega)];simp
  have e2:IntKind.i64.wrap ((p.pos:Int)+j)=(p.pos+j:Nat):=by rw[Dc (by omega) (by omega)];simp
  have e3:IntKind.i64.wrap (((p.pos+j:Nat):Int)+1)=(p.pos+j+1:Nat):=by rw[Dc (by omega) (by omega)];simp
  simp only[ag,aN,aR,aT,aW,bf,aE,ax,ah,aC,aab,Nat.reduceAdd,IN,exists_eq_left',IT,st.eG,st.je,st.eF,st.b7,st.cC,hsrc,e1,e2,e3,aac];refine⟨by omega,by omega,by omega,?_⟩;refine st.setAt λh2 st2 f2=>?_;have is2:=is.at (p.pos+j+1);have hb:(S.tK ((p.pos+j+1:Nat):Int)).b=S.b:=rfl;have hsr:(S.tK ((p.pos+j+1:Nat):Int)).src=s:=hsrc;generalize S.tK ((p.pos+j+1:Nat):Int)=S2 at *
  rw[<-hb];have hsz:(s.extract (p.pos+1) (p.pos+j)).size<=s.size:=by
   rw[<-bF,zC,aaI,aaZ,hl];omega
  refine (uu (by omega) (by omega) st2.wf).mono λx h3 hx=>?_;obtain⟨rfl,f3⟩:=hx;obtain⟨st3,f3⟩:=st2.pure f3;cases hv:wu (s.extract (p.pos+1) (p.pos+j)) with
  |false=>
   simp only[aaV,aav,ag,aN,aR,aT,aW,bf,aE,ax,ah,aC,aab,Nat.reduceAdd,IN,exists_eq_left',IT,aag,aar];refine (ey st3 _ _).mono λx h' hx=>?_;obtain⟨rfl,s3,f4⟩:=hx;exact⟨_,s3,(f2.trans st.wf f3).trans st.wf f4,rfl,nN (S:=S2) is2.2.2.2 (by simp)⟩
  |true=>
   simp only[aaW,aav,ag,aN,aR,aT,aW,bf,aE,ax,ah,aC,aab,Nat.reduceAdd,IN,exists_eq_left',IT,aag,aar];exact (ml st3 is2 2 _ p.pos d).mono λx h' hx=>Dy st.wf (f2.trans st.wf f3) hx
theorem Jo {n:Nat}{s:ζ}{h:af}{Q:Int×Int->af->Prop}(hq:∀i e,(u8 s=true↔e=0)->(e=0\/e=11)->Q (i,e) h):Wp (fQ n s) h Q:=by
 unfold fQ;rw[ah];refine hq _ _ ?_ ?_
 .unfold u8;cases oh s (s.size+1) 0<;>simp[Er]
 .cases oh s (s.size+1) 0<;>simp[Er]
theorem Jp {p:PV}{d:Nat}{sp:Int}(st:St h S)(is:Is S p)(hs:S.src.size<=65536)(hn:S.src.size+1<n)(hp:p.pos<=S.src.size) :
  Wp (kY n (some (aw S.b)) d sp) h (ud h S (Eu S.src p d)):=by
 unfold kY Eu;simp only[ag,aN,aR,aT,aW,bf,aE,ax,ah,aC,aab,Nat.reduceAdd,IN,exists_eq_left',IT,st.eG,st.je,st.eF,st.b7,st.cC,is.1];refine (zI st is hs hp (by omega)).mono λx h1 hx=>?_;obtain⟨S1,st1,f1,hr⟩:=hx;split at hr
 .rename_i r t a ht;obtain⟨rfl,is1⟩:=hr;rw[ht];simp only[aaW,aag,aar,ag,aN,aR,aT,aW,bf,aE,ax,ah,aC,aab,Nat.reduceAdd,IN,exists_eq_left',IT];refine Jo λi e he _=>?_;have hb:=f1.b;rw[<-hb];by_cases hu:u8 t=true
  .have he:=he.1 hu;simp only[he,decide_true,aaW,aag,aar,hu,aav,ag,aN,aR,aT,aW,bf,aE,ax,ah,aC,aab,Nat.reduceAdd,IN,exists_eq_left',IT];exact (ml st1 is1 5 t p.pos d).mono λx h' hx=>Dy st.wf f1 hx
  .have he:¬e=0:=λe0=>hu (he.2 e0);simp only[he,decide_false,aaV,aav,hu,aar,ag,aN,aR,aT,aW,bf,aE,ax,ah,aC,aab,Nat.reduceAdd,IN,exists_eq_left',IT];exact (ml st1 is1 6 t p.pos d).mono λx h' hx=>Dy st.wf f1 hx
 .rename_i r e he;obtain⟨h1,h2⟩:=hr;rw[he];simp only[h1,aaV,aav,ag,aN,aR,aT,aW,bf,aE,ax,ah,aC,aab,Nat.reduceAdd,IN,exists_eq_left',IT];exact⟨S1,st1,f1,rfl,h2⟩
end Go.Sh
namespace Go.Sh
open Go Go.Ago
variable {h h':af}{S S':dO}{n:Nat}
abbrev ClV:=ak
def Sg (h:af)(S:dO)(r:Rs (Int×PV))(x:Int×Bool)(h':af):Prop:=
 ∃S',St h' S'/\nu h S h' S'/\match r with
  |.ok (n,p)=>x=(n,true)/\Is S' p
  |.error e=>vw S' e
theorem ud.Yl {r:Rs (Int×PV)}{x:Int×Bool}(hr:ud h S r x h'):Sg h S r x h':=by
 obtain⟨S',a,b,c⟩:=hr;refine⟨S',a,b,?_⟩;cases r with
 |ok q=>exact c
 |error e=>exact c.2
theorem Dz {α:Type}{L:List α}{i:Nat}{x:α}(hi:L[i]?=some x)(f:α->α):L.modify i f=L.set i (f x):=by
 apply ab6;intro j;rw[ach];by_cases hj:i=j
 .subst hj;rw[aaw (List.getElem?_eq_some_iff.1 hi).1,hi];simp
 .rw[aa1 hj];cases L[j]?<;>simp[hj]
theorem Si (G:ClV){i:Nat}{nn:Int}(st:St h S)(hi:i<S.au.length) :
  Wp (bQ G n (some (aw S.b)) i nn) h λx h'=>x=(nn,true)/\∃S',St h' S'/\nu h S h' S'/\S'=S.tM S.Ba S.sg (S.au.modify i λx=>{ x with node:=nn,«to»:=S.at' }):=by
 unfold bQ;have hx:S.au[i]?=some S.au[i]:=aak hi;generalize S.au[i]=y at hx;obtain⟨bn,base,ha,_,_⟩:=st.LA (by omega);have hlen:=st.rJ;simp only[ag,aN,aR,aT,aW,bf,aE,ax,ah,aC,aab,Nat.reduceAdd,IN,exists_eq_left',IT,st.eG,st.je,st.eF,st.b7,st.cC,sS,ha,exists_eq_left',aac];refine⟨by omega,by omega,?_⟩;refine st.LF (o:=0) (x':={ y with node:=nn }) ha hx (by omega) rfl rfl λh2 st2 f2=>?_;refine⟨by omega,by omega,?_⟩;refine St.LF (S:=S.tM S.Ba S.sg (S.au.set i { y with node:=nn })) (i:=i) (o:=4) (x:={ y with node:=nn }) (x':={ y with node:=nn,«to»:=S.at' }) st2 ha (aaw hi) (by omega) rfl rfl λh3 st3 f3=>?_;refine⟨by trivial,_,st3,f2.trans st.wf f3,?_⟩;simp only[dO.tM];rw[List.set_set,Dz hx]
theorem KO {G:ClV}{h0:af}{S0:dO}{i:Nat}{r:Rs (Int×PV)}{x:Int×Bool}(hw0:WF h0)(f0:nu h0 S0 h S)(hr:Sg h S r x h')(hi:∀nn p,r=.ok (nn,p)->i<p.au.length) :
  Wp (if (!x.2)=true then AS (0,false) else AI (nn (some (aw S0.b))) λx20=>AI (ar li (x20.plus 8)) λ(x21:Int)=>if (!decide (x21=0))=true then AS (0,false) else bQ G n (some (aw S0.b)) i x.1) h'
   (ud h0 S0 (match r with | .error e=>.error e | .ok (nn,p)=>.ok (nn,{ p with au:=p.au.modify i λx=>{ x with node:=nn,«to»:=p.pos } }))):=by
 obtain⟨S',st,f,hr⟩:=hr;have f1:=f0.trans hw0 f;have hb:=f1.b;rw[<-hb];cases r with
 |error e=>
  obtain⟨a1,a2,a3⟩:=hr;split
  .rw[ah];exact⟨S',st,f1,rfl,a1,a2,a3⟩
  .simp only[ag,aN,aR,aT,aW,bf,aE,ax,ah,aC,aab,Nat.reduceAdd,IN,exists_eq_left',IT,st.eG,st.je,st.eF,st.b7,st.cC];have:S'.err≠0:=by rw[a2];exact a3
   simp only[this,decide_false,aaV,aav,ag,aN,aR,aT,aW,bf,aE,ax,ah,aC,aab,Nat.reduceAdd,IN,exists_eq_left',IT];exact⟨S',st,f1,rfl,a1,a2,a3⟩
 |ok q=>
  obtain⟨nn,p⟩:=q;obtain⟨rfl,is⟩:=hr;simp only[ag,aN,aR,aT,aW,bf,aE,ax,ah,aC,aab,Nat.reduceAdd,IN,exists_eq_left',IT,st.eG,st.je,st.eF,st.b7,st.cC,aaW,aag,aar,is.2.2.2,decide_true];have hi:=hi nn p rfl;refine (Si G st (by rw[is.2.2.1];exact hi)).mono λx h2 hx=>?_;obtain⟨rfl,S2,st2,f2,rfl⟩:=hx;refine⟨_,st2,f1.trans hw0 f2,rfl,is.1,is.2.1,?_,is.2.2.2⟩;show S'.au.modify _ _=_;rw[is.1,is.2.2.1]
def dB.ZL (x:dB):Int×Int×Int×Int×Int×Int×Int×Bool×Bool:=(x.node,x.parent,x.entry,x.xc,x.to,x.kf,x.kt,x.alias,x.whole)
def BV (s:ζ)(m:Nat):Prop:=∀n,3*m+s.size+3<=n->∀h S p sn d r,St h S->S.src=s->Is S p->Inv s p->(sp s m).V sn d p=some r ->
 Wp (cT n (some (aw S.b)) sn.ZL d) h (ud h S r)
def ZM (h:af)(S:dO)(r:Rs PV)(x:Bool)(h':af):Prop:=∃S',St h' S'/\nu h S h' S'/\match r with
 |.ok p=>x=true/\S'.at'+1=p.pos/\Is (S'.tK p.pos) p
 |.error e=>vw S' e
def BL (s:ζ)(m:Nat):Prop:=∀n,3*m+s.size+3<=n->∀h S p (nd sp' k d:Nat) r,St h S->S.src=s->Is S p->Inv s p->nd<p.nodes.length->k<=p.pos->d<=32->(sp s m).L nd sp' k d p=some r ->
 Wp (bV n (some (aw S.b)) d sp' nd true k) h (ZM h S r)
def Ua (h:af)(S:dO)(r:Rs PV)(x:Bool⊕(Int×Bool))(h':af):Prop:=∃S',St h' S'/\nu h S h' S'/\match r with
 |.ok p=>x=.inl true/\S'.at'+1=p.pos/\Is (S'.tK p.pos) p
 |.error e=>vw S' e
def BD (s:ζ)(m:Nat):Prop:=∀n,3*m+s.size+3<=n->∀h S p (nd sp' k d:Nat) last r,St h S->S.src=s->Is S p->Inv s p->nd<p.nodes.length->k<=p.pos->d<=32->(sp s m).D nd sp' k d last p=some r ->
 Wp (bx n (some (aw S.b)) d sp' nd true last k) h (Ua h S r)
theorem vw.at {S:dO}{e:Nat×Int}{v:Int}(f:vw S e):vw (S.tK v) e:=f
theorem Ub {s:ζ}{m:Nat}(hs:s.size<=65536)(hL:BL s m){n:Nat}(hn:3*m+s.size+4<=n){h:af}{S:dO}{p:PV}{x:dB}{sp' d:Nat}{r:Rs (Int×PV)}(st:St h S)(hsrc:S.src=s)
  (is:Is S { p with au:=p.au++[x] }) (i:Inv s p) (hlt:p.pos<s.size) (hr:mu s (sp s m) { p with au:=p.au++[x] } sp' d 9=some r) :
  Wp (fM n (some (aw S.b)) d sp') h (Sg h S r):=by
 obtain⟨n,rfl⟩:∃k,n=k+1:=⟨n-1,by omega⟩;rw[tU];unfold lE;unfold mu at hr;simp only[ag,aN,aR,aT,aW,bf,aE,ax,ah,aC,aab,Nat.reduceAdd,IN,exists_eq_left',IT,st.eG,st.je,st.eF,st.b7,st.cC,is.1];refine (ml st is 9 (ofBytes []) p.pos d).mono λy h1 hy=>?_;obtain⟨S1,st1,f1,hy⟩:=hy;have hb1:=f1.b;rw[<-hb1];simp only[ag,aN,aR,aT,aW,bf,aE,ax,ah,aC,aab,Nat.reduceAdd,IN,exists_eq_left',IT,st1.eG,st1.je,st1.eF,st1.b7,st1.cC];refine st1.setAt λh2 st2 f2=>?_;cases hnode:pF { p with au:=p.au++[x] } ⟨9,ofBytes [],false,[],[]⟩ p.pos d with
 |error e=>
  rw[hnode] at hy hr;cases hr;obtain⟨hy1,hy2⟩:=hy;rw[hy1];show Wp (bV n (some (aw S1.b)) d sp' y.1 false 0) h2 _;obtain⟨n,rfl⟩:∃k,n=k+1:=⟨n-1,by omega⟩;rw[iI];unfold eN;have hb2:(S1.tK (IntKind.i64.wrap (S1.at'+1))).b=S1.b:=rfl;have hf2:vw (S1.tK (IntKind.i64.wrap (S1.at'+1))) e:=vw.at hy2;generalize S1.tK (IntKind.i64.wrap (S1.at'+1))=S2 at *
  rw[<-hb2];simp only[ag,aN,aR,aT,aW,bf,aE,ax,ah,aC,aab,Nat.reduceAdd,IN,exists_eq_left',IT,aag,aar,st2.eG,st2.je,st2.eF,st2.b7,st2.cC];refine st2.setAt λh3 st3 f3=>?_;exact⟨_,st3,(f1.trans st.wf f2).trans st.wf f3,vw.at hf2⟩
 |ok q=>
  obtain⟨nn,p1⟩:=q;rw[hnode] at hy hr;obtain⟨rfl,is1⟩:=hy;obtain⟨rfl,rfl,h4,h5⟩:=jq hnode;simp only[aav] at hr;have e1:IntKind.i64.wrap ((p.pos:Int)+1)=(p.pos+1:Nat):=by rw[Dc (by omega) (by omega)];simp
  have e0:S1.at'=(p.pos:Int):=is1.1;rw[e0,e1] at st2 f2;have is2:=is1.at (p.pos+1);have hb2:(S1.tK ((p.pos+1:Nat):Int)).b=S1.b:=rfl;have hs2:(S1.tK ((p.pos+1:Nat):Int)).src=s:=f1.src.trans hsrc;generalize S1.tK ((p.pos+1:Nat):Int)=S2 at *
  rw[<-hb2];have i2:=CP (x:=x) (kind:=9) i hlt h4;cases hl:(sp s m).L (p.nodes.length:Int) sp' 0 d { p with pos:=p.pos+1,nodes:=p.nodes++[⟨9,ofBytes [],false,[],[]⟩],au:=p.au++[x] } with
  |none=>erw [hl] at hr;cases hr
  |some q=>
   have hl':=hl
   erw [hl] at hr
   refine (hL n (by omega) h2 S2 _ p.nodes.length sp' 0 d q st2 hs2 is2 i2 (by simp) (by omega) (by omega) hl').mono λy h3 hy=>?_;obtain⟨S3,st3,f3,hy⟩:=hy;have f03:=(f1.trans st.wf f2).trans st.wf f3;have hb3:=f3.b;rw[<-hb3];simp only[ag,aN,aR,aT,aW,bf,aE,ax,ah,aC,aab,Nat.reduceAdd,IN,exists_eq_left',IT,st3.eG,st3.je,st3.eF,st3.b7,st3.cC];refine st3.setAt λh4' st4 f4=>?_;cases q with
   |error e=>
    cases hr;exact⟨_,st4,f03.trans st.wf f4,vw.at hy⟩
   |ok p2=>
    cases hr;obtain⟨rfl,hy1,hy2⟩:=hy;have hp2:p2.pos<=s.size:=((rh s m).L _ _ _ _ _ _ i2 (by simp) hl').inv.pos;have e2:IntKind.i64.wrap (S3.at'+1)=(p2.pos:Int):=(by rw[hy1,Dc (by omega) (by omega)]);rw[e2] at st4 f4;exact⟨_,st4,f03.trans st.wf f4,rfl,hy2⟩
theorem Uc {s:ζ}{m:Nat}(hs:s.size<=65536)(hD:BD s m){n:Nat}(hn:3*m+s.size+4<=n){h:af}{S:dO}{p:PV}{x:dB}{sp' d:Nat}{r:Rs (Int×PV)}(st:St h S)(hsrc:S.src=s)
  (is:Is S { p with au:=p.au++[x] }) (i:Inv s p) (hlt:p.pos<s.size) (hr:mu s (sp s m) { p with au:=p.au++[x] } sp' d 10=some r) :
  Wp (dJ n (some (aw S.b)) d sp') h (Sg h S r):=by
 obtain⟨n,rfl⟩:∃k,n=k+1:=⟨n-1,by omega⟩;rw[pQ];unfold iH;unfold mu at hr;simp only[ag,aN,aR,aT,aW,bf,aE,ax,ah,aC,aab,Nat.reduceAdd,IN,exists_eq_left',IT,st.eG,st.je,st.eF,st.b7,st.cC,is.1];refine (ml st is 10 (ofBytes []) p.pos d).mono λy h1 hy=>?_;obtain⟨S1,st1,f1,hy⟩:=hy;have hb1:=f1.b;rw[<-hb1];simp only[ag,aN,aR,aT,aW,bf,aE,ax,ah,aC,aab,Nat.reduceAdd,IN,exists_eq_left',IT,st1.eG,st1.je,st1.eF,st1.b7,st1.cC];refine st1.setAt λh2 st2 f2=>?_;cases hnode:pF { p with au:=p.au++[x] } ⟨10,ofBytes [],false,[],[]⟩ p.pos d with
 |error e=>
  rw[hnode] at hy hr;cases hr;obtain⟨hy1,hy2⟩:=hy;rw[hy1];show Wp (bx n (some (aw S1.b)) d sp' y.1 false (ofBytes []) 0) h2 _;obtain⟨n,rfl⟩:∃k,n=k+1:=⟨n-1,by omega⟩;rw[fu];unfold dz;have hb2:(S1.tK (IntKind.i64.wrap (S1.at'+1))).b=S1.b:=rfl;have hf2:vw (S1.tK (IntKind.i64.wrap (S1.at'+1))) e:=vw.at hy2;generalize S1.tK (IntKind.i64.wrap (S1.at'+1))=S2 at *
  rw[<-hb2];simp only[ag,aN,aR,aT,aW,bf,aE,ax,ah,aC,aab,Nat.reduceAdd,IN,exists_eq_left',IT,aag,aar,st2.eG,st2.je,st2.eF,st2.b7,st2.cC,cn];refine st2.setAt λh3 st3 f3=>?_;exact⟨_,st3,(f1.trans st.wf f2).trans st.wf f3,vw.at hf2⟩
 |ok q=>
  obtain⟨nn,p1⟩:=q;rw[hnode] at hy hr;obtain⟨rfl,is1⟩:=hy;obtain⟨rfl,rfl,h4,h5⟩:=jq hnode;simp only[show ¬((10:Int)=9) by decide,aar] at hr;have e1:IntKind.i64.wrap ((p.pos:Int)+1)=(p.pos+1:Nat):=by rw[Dc (by omega) (by omega)];simp
  have e0:S1.at'=(p.pos:Int):=is1.1;rw[e0,e1] at st2 f2;have is2:=is1.at (p.pos+1);have hb2:(S1.tK ((p.pos+1:Nat):Int)).b=S1.b:=rfl;have hs2:(S1.tK ((p.pos+1:Nat):Int)).src=s:=f1.src.trans hsrc;generalize S1.tK ((p.pos+1:Nat):Int)=S2 at *
  rw[<-hb2];have i2:=CP (x:=x) (kind:=10) i hlt h4;cases hl:(sp s m).D (p.nodes.length:Int) sp' 0 d (ofBytes []) { p with pos:=p.pos+1,nodes:=p.nodes++[⟨10,ofBytes [],false,[],[]⟩],au:=p.au++[x] } with
  |none=>erw [hl] at hr;cases hr
  |some q=>
   have hl':=hl
   erw [hl] at hr
   refine (hD n (by omega) h2 S2 _ p.nodes.length sp' 0 d (ofBytes []) q st2 hs2 is2 i2 (by simp) (by omega) (by omega) hl').mono λy h3 hy=>?_;obtain⟨S3,st3,f3,hy⟩:=hy;have f03:=(f1.trans st.wf f2).trans st.wf f3;have hb3:=f3.b;rw[<-hb3];cases q with
   |error e=>
    cases hr;cases y with
    |inl y=>
     simp only[ag,aN,aR,aT,aW,bf,aE,ax,ah,aC,aab,Nat.reduceAdd,IN,exists_eq_left',IT,st3.eG,st3.je,st3.eF,st3.b7,st3.cC,cn];refine st3.setAt λh4' st4 f4=>?_;exact⟨_,st4,f03.trans st.wf f4,vw.at hy⟩
    |inr y=>
     simp only[ag,aN,aR,aT,aW,bf,aE,ax,ah,aC,aab,Nat.reduceAdd,IN,exists_eq_left',IT,st3.eG,st3.je,st3.eF,st3.b7,st3.cC,cn];exact⟨_,st3,f03,hy⟩
   |ok p2=>
    cases hr;obtain⟨rfl,hy1,hy2⟩:=hy;simp only[ag,aN,aR,aT,aW,bf,aE,ax,ah,aC,aab,Nat.reduceAdd,IN,exists_eq_left',IT,st3.eG,st3.je,st3.eF,st3.b7,st3.cC,cn];refine st3.setAt λh4' st4 f4=>?_;have hp2:p2.pos<=s.size:=((rh s m).D _ _ _ _ _ _ _ i2 (by simp) hl').inv.pos;have e2:IntKind.i64.wrap (S3.at'+1)=(p2.pos:Int):=(by rw[hy1,Dc (by omega) (by omega)]);rw[e2] at st4 f4;exact⟨_,st4,f03.trans st.wf f4,rfl,hy2⟩
theorem KP {s:ζ}{m:Nat}(hs:s.size<=65536)(hL:BL s m)(hD:BD s m):BV s (m+1):=by
 intro n hn h S p sn d r st hsrc is i hr;obtain⟨n,rfl⟩:∃k,n=k+1:=⟨n-1,by omega⟩;rw[sJ];unfold kZ;rw[ag,yn];refine⟨rfl,?_⟩;simp only[sp,XU] at hr;show Wp _ (h.new fC sn.enc) _;obtain⟨st1,f1⟩:=nu.new st (e:=fC) (cs:=sn.enc);have l1:=LB.new (h:=h) (e:=fC) (cs:=sn.enc);have hx1:∀t,S.bG t<=h.next:=st.le
 generalize hb0:h.next=b0 at *
 generalize h.new fC sn.enc=h1 at *
 rw[ag];refine (oP st1 is.2.2.2).mono λx h2 hx=>?_;rw[hsrc,is.1] at hx;have hl:s.data.toList.length=s.size:=bF s;by_cases hle:s.size<=p.pos
 .rw[BY hle] at hr;cases hr;rw[BY (by omega)] at hx;obtain⟨rfl,st2,f2⟩:=hx;simp only[ag,aN,aR,aT,aW,bf,aE,ax,ah,aC,aab,Nat.reduceAdd,IN,exists_eq_left',IT,aaV,aav];exact⟨_,st2,f1.trans st.wf f2,rfl,rfl,rfl,by simp⟩
 .rw[By hle] at hr;rw[By (by omega)] at hx;obtain⟨rfl,rfl⟩:=hx;simp only[ag,aN,aR,aT,aW,bf,aE,ax,ah,aC,aab,Nat.reduceAdd,IN,exists_eq_left',IT,st1.eG,st1.je,st1.eF,st1.b7,st1.cC,aaW,aag,aar,is.1];have nofp:¬S.fp (b0+1):=by rintro⟨t,ht⟩;have:=hx1 t;omega
  refine l1.st st1.wf (by simp[dB.enc]) rfl λh3 l3 f3=>?_;have fx:∀t,S.bG t=b0+1->S.bG t=0:=λt ht=>absurd ⟨t,ht.symm⟩ nofp;have st3:St h3 S:=st1.fr f3 fx;refine l3.st st3.wf (by simp[dB.enc,bB]) rfl λh4 l4 f4=>?_;have st4:St h4 S:=st3.fr f4 fx;have f04:nu h S h4 S:=⟨rfl,(f1.fr.fresh st.wf f3 λg hg=>.inr (by omega)).fresh st.wf f4 λg hg=>.inr (by omega),λt=>.inr (.inl ⟨t,rfl⟩)⟩;simp only[ag,aN,aR,aT,aW,bf,aE,ax,ah,aC,aab,Nat.reduceAdd,IN,exists_eq_left',IT,st4.eG,st4.je,st4.eF,st4.b7,st4.cC];refine od.2 ⟨({ sn with xc:=p.pos,whole:=true }:dB).ZL,l4.jV (by simp[dB.enc,bB]) rfl,?_⟩;have hsp:S.au=p.au:=is.2.2.1;have isp:=i.au;have ip:=i.pos;refine St.Tp (x:={ sn with xc:=p.pos,whole:=true }) st4 (by rw[hsp];unfold cN;omega) λs' h5 hput=>?_;refine hput.mono λ_ h6 hx=>?_;obtain⟨g',_,st6,f6⟩:=hx;have f06:=f04.trans st.wf f6;have is6:Is (S.tM s' g' (S.au++[{ sn with xc:=p.pos,whole:=true }])) { p with au:=p.au++[{ sn with xc:=p.pos,whole:=true }] }:=⟨is.1,is.2.1,by show S.au++_=_;rw[hsp],is.2.2.2⟩;have hs6:(S.tM s' g' (S.au++[{ sn with xc:=p.pos,whole:=true }])).src=s:=hsrc;have hb6:=f06.b;generalize S.tM s' g' (S.au++[{ sn with xc:=p.pos,whole:=true }])=S6 at *
  have hlen:S.Ba.len=p.au.length:=by rw[st.rJ,hsp]
  rw[<-hb6];have hc:s.data.toList[p.pos]?=some s.data.toList[p.pos]:=aak (by omega);generalize s.data.toList[p.pos]=c at hc;have hat6:S6.at'=p.pos:=is6.1;simp only[ag,aN,aR,aT,aW,bf,aE,ax,ah,aC,aab,Nat.reduceAdd,IN,exists_eq_left',IT,st6.eG,st6.je,st6.eF,st6.b7,st6.cC,hs6,hat6,aac,qM,hc,aa9,aaY,hlen];have c1:((c.toNat:Int)=105)↔c=105:=zJ c 105 (by omega);have c2:((c.toNat:Int)=108)↔c=108:=zJ c 108 (by omega);have c3:((c.toNat:Int)=100)↔c=100:=zJ c 100 (by omega);have hadv:∀nn p2,rY s (sp s m) { p with au:=p.au++[{ sn with xc:=p.pos,whole:=true }] } p.au.length d=some (.ok (nn,p2))->p.au.length<p2.au.length:=λnn p2 h=>(CO (rh s m) i h).2;have fin:∀{rr:Rs (Int×PV)} {x:Int×Bool} {h7:af},rY s (sp s m) { p with au:=p.au++[{ sn with xc:=p.pos,whole:=true }] } p.au.length d=some rr->Sg h6 S6 rr x h7 ->
    Wp (if (!x.2)=true then AS (0,false) else AI (nn (some (aw S6.b))) λx20=>AI (ar li (x20.plus 8)) λ(x21:Int)=>if (!decide (x21=0))=true then AS (0,false) else bQ (ak.at n) n (some (aw S6.b)) (p.au.length:Nat) x.1) h7 (ud h S r):=by
   intro rr x h7 h8 h9;have:=KO (G:=ak.at n) (n:=n) (i:=p.au.length) st.wf f06 h9 (λnn p2 e=>hadv nn p2 (by rw[h8,e]));rw[<-hb6] at this;rw[h8] at hr;cases rr with
   |error e=>cases hr;exact this
   |ok q=>cases hr;exact this
  have hrd:rY s (sp s m) { p with au:=p.au++[{ sn with xc:=p.pos,whole:=true }] } p.au.length d=(if c=105 then some (Et s { p with au:=p.au++[{ sn with xc:=p.pos,whole:=true }] } d) else if c=108 then mu s (sp s m) { p with au:=p.au++[{ sn with xc:=p.pos,whole:=true }] } p.au.length d 9 else if c=100 then mu s (sp s m) { p with au:=p.au++[{ sn with xc:=p.pos,whole:=true }] } p.au.length d 10 else some (Eu s { p with au:=p.au++[{ sn with xc:=p.pos,whole:=true }] } d)):=by
   unfold rY;simp only[hc]
  by_cases k1:c=105
  .rw[BY (c1.2 k1),ag];rw[BY k1] at hrd;refine (Bz st6 is6 (by rw[hs6];exact hs) (by rw[hs6];omega) (by rw[hs6];show s.data.toList[p.pos]?=_;rw[hc,k1])).mono λx h7 hx=>fin hrd ?_;rw[hs6] at hx;exact hx.Yl
  .rw[By (λe=>k1 (c1.1 e))];rw[By k1] at hrd;by_cases k2:c=108
   .rw[BY (c2.2 k2),ag];rw[BY k2] at hrd;cases ho:mu s (sp s m) { p with au:=p.au++[{ sn with xc:=p.pos,whole:=true }] } p.au.length d 9 with
    |none=>rw[hrd,ho] at hr;cases hr
    |some rr=>
     rw[ho] at hrd;exact (Ub hs hL (n:=n) (by omega) st6 hs6 is6 i (by omega) ho).mono λx h7 hx=>fin hrd hx
   .rw[By (λe=>k2 (c2.1 e))];rw[By k2] at hrd;by_cases k3:c=100
    .rw[BY (c3.2 k3),ag];rw[BY k3] at hrd;cases ho:mu s (sp s m) { p with au:=p.au++[{ sn with xc:=p.pos,whole:=true }] } p.au.length d 10 with
     |none=>rw[hrd,ho] at hr;cases hr
     |some rr=>
      rw[ho] at hrd;exact (Uc hs hD (n:=n) (by omega) st6 hs6 is6 i (by omega) ho).mono λx h7 hx=>fin hrd hx
    .rw[By (λe=>k3 (c3.1 e)),ag];rw[By k3] at hrd;refine (Jp st6 is6 (by rw[hs6];exact hs) (by rw[hs6];omega) (by rw[hs6];exact ip)).mono λx h7 hx=>fin hrd ?_;rw[hs6] at hx;exact hx.Yl
end Go.Sh
namespace Go.Sh
open Go Go.Ago
variable {h h':af}{S S':dO}{n:Nat}
theorem Jq {S:dO}{p:PV}{nd:Nat}(is:Is S p)(hn:nd<p.nodes.length):∃x,S.nodes[nd]?=some x/\p.nodes[nd]?=some x.v:=by
 have h1:=is.2.1;have hlt:nd<S.nodes.length:=by rw[<-aaQ (f:=eo.v),h1];exact hn
 refine⟨S.nodes[nd],aak hlt,?_⟩;rw[<-h1,aaj,aak hlt];rfl
theorem map_set {S:dO}{p:PV}{nd:Nat}{x x':eo}{f:aq->aq}(is:Is S p)(hi:S.nodes[nd]?=some x)(hf:x'.v=f x.v):(S.nodes.set nd x').map eo.v=p.nodes.modify nd f:=by
 have h2:p.nodes[nd]?=some x.v:=by rw[<-is.2.1,aaj,hi];rfl
 rw[acg,is.2.1,Dz h2,hf]
theorem KQ {a1 a2 a3 k:Int}{n:Nat}(hn:n≠0){Q:Bool->af->Prop}(q:Q false h){a0:θ}:Wp (bV n a0 a1 a2 a3 false k) h Q:=by
 obtain⟨n,rfl⟩:∃k,n=k+1:=⟨n-1,by omega⟩;rw[iI];unfold eN;simp only[aag,aar,ah];exact q
theorem O3 {s:ζ}{m:Nat}(hs:s.size<=65536)(hV:BV s m)(hL:BL s m):BL s (m+1):=by
 intro n hn h S p nd sp' k d r st hsrc is i hnd hk hd hr;obtain⟨n,rfl⟩:∃k,n=k+1:=⟨n-1,by omega⟩;rw[iI];unfold eN;simp only[sp,XV] at hr;simp only[aav];have ip:=i.pos;rw[ag];refine (oP st is.2.2.2).mono λx h2 hx=>?_;rw[hsrc,is.1] at hx;have hl:s.data.toList.length=s.size:=bF s;by_cases hle:s.size<=p.pos
 .rw[aa4 (by omega)] at hr;cases hr;rw[BY (by omega)] at hx;obtain⟨rfl,st2,f2⟩:=hx;simp only[ag,aN,aR,aT,aW,bf,aE,ax,ah,aC,aab,Nat.reduceAdd,IN,exists_eq_left',IT,aag,aar];exact⟨_,st2,f2,rfl,rfl,by simp⟩
 .rw[By (by omega)] at hx;obtain⟨rfl,rfl⟩:=hx;have hc:s.data.toList[p.pos]?=some s.data.toList[p.pos]:=aak (by omega);generalize s.data.toList[p.pos]=c at hc;rw[hc] at hr;have c1:((c.toNat:Int)=101)↔c=101:=zJ c 101 (by omega);simp only[ag,aN,aR,aT,aW,bf,aE,ax,ah,aC,aab,Nat.reduceAdd,IN,exists_eq_left',IT,st.eG,st.je,st.eF,st.b7,st.cC,aav,hsrc,is.1,aac,qM,hc,aa9,aaY];by_cases k1:c=101
  .simp only[BY k1] at hr;cases hr;simp only[c1.2 k1,decide_true,aaW,aag,aar,ah];exact⟨S,st,nu.refl st.wf,rfl,by rw[is.1];simp,is.at (p.pos+1)⟩
  .simp only[By k1] at hr;have c2:¬((c.toNat:Int)=101):=λe=>k1 (c1.1 e);simp only[c2,decide_false,aaV,aav];unfold iG;have e1:IntKind.i64.wrap ((d:Int)+1)=(d+1:Nat):=by rw[Dc (by omega) (by omega)];simp
   have e2:IntKind.i64.wrap ((k:Int)+1)=(k+1:Nat):=by rw[Dc (by omega) (by omega)];simp
   simp only[e1,e2];rw[ag];cases hv:(sp s m).V (qg sp' k 0 0) (d+1) p with
   |none=>rw[hv] at hr;cases hr
   |some rv=>
    rw[hv] at hr;refine (hV n (by omega) _ S p (qg sp' k 0 0) (d+1) rv st hsrc is i hv).mono λx h1 hx=>?_;obtain⟨S1,st1,f1,hx⟩:=hx;cases rv with
    |error e=>
     cases hr;obtain⟨hx1,hx2⟩:=hx;simp only[hx1,aag,aar];exact KQ (by omega) ⟨S1,st1,f1,hx2⟩
    |ok q=>
     obtain⟨it,p2⟩:=q;obtain⟨rfl,is1⟩:=hx;obtain⟨av,_⟩:=(rh s m).V _ _ _ _ _ i hv;have am:=wv.modify (f:=λx=>{ x with items:=x.items++[it] }) i av hnd (by simp);have a0:=av 0;have hnd2:nd<p2.nodes.length:=aaC hnd a0.nodes;obtain⟨y,hy1,hy2⟩:=Jq is1 hnd2;have hnl:S1.nodes.length=p2.nodes.length:=(by rw[<-is1.2.1,aaQ]);obtain⟨bn,base,ha,_,_⟩:=st1.BM (by omega);have hyl:=(a0.inv.items _ (OF hy2)).1;have hyl:y.il.length<=p2.pos:=hyl;have hp2:=a0.inv.pos;have hlen:=st1.pD;have hb1:=f1.b;rw[<-hb1];simp only[aav,ag,aN,aR,aT,aW,bf,aE,ax,ah,aC,aab,Nat.reduceAdd,IN,exists_eq_left',IT,st1.eG,st1.je,st1.eF,st1.b7,st1.cC,sS,ha,exists_eq_left',aac,st1.LD hy1 ha];refine⟨by omega,by omega,?_⟩;refine St.Qj st1 hy1 ha (by unfold cN;omega) λs' h3 hput=>?_;refine⟨by omega,by omega,?_⟩;refine hput.mono λ_ h4 hx=>?_;obtain⟨g',st4,f4⟩:=hx;have is4:Is (S1.gD S1.sU S1.ng (S1.nodes.set nd { y with is:=s',il:=y.il++[it],ig:=g' })) (addItem p2 nd it):=by
      refine⟨is1.1,?_,is1.2.2.1,is1.2.2.2⟩;exact map_set (f:=λx=>{ x with items:=x.items++[it] }) is1 hy1 rfl
     have hb4:=f4.b;have hs4:=f4.src;generalize S1.gD S1.sU S1.ng (S1.nodes.set nd { y with is:=s',il:=y.il++[it],ig:=g' })=S4 at *
     rw[<-hb4];refine (hL n (by omega) h4 S4 _ nd sp' (k+1) d r st4 (hs4.trans (f1.src.trans hsrc)) is4 am.inv (aaC hnd am.nodes) ?_ hd hr).mono λx h5 hx=>?_
     .show k+1<=p2.pos;have:=a0.pos;omega
     .obtain⟨S5,st5,f5,hx⟩:=hx;exact⟨S5,st5,(f1.trans st.wf f4).trans st.wf f5,hx⟩
theorem KR {a1 a2 a3 k:Int}{l:ζ}{n:Nat}(hn:n≠0){Q:Bool⊕(Int×Bool)->af->Prop}(q:Q (.inl false) h){a0:θ}:Wp (bx n a0 a1 a2 a3 false l k) h Q:=by
 obtain⟨n,rfl⟩:∃k,n=k+1:=⟨n-1,by omega⟩;rw[fu];unfold dz;simp only[aag,aar,ah];exact q
theorem Ud {s:ζ}{m:Nat}(hs:s.size<=65536)(hV:BV s m)(hD:BD s m){n:Nat}(hn:3*m+s.size+3<=n){h:af}{S:dO}{p p0:PV}{nd sp' k d xc a key:Nat}{last t:ζ}{r:Rs PV}(st:St h S)(hsrc:S.src=s)(is:Is S p)
  (i0:Inv s p0) (ap:∀ex,wv s ex p0 p) (hnd:nd<p0.nodes.length) (hk:k<=p0.pos) (hd:d<=32) (ha':p.pos=a)
  (hr:(match (sp s m).V (qg sp' k xc a) (d+1) p with
     |none=>none
     |some (.error e)=>some (.error e)
     |some (.ok (it,p2))=>(sp s m).D nd sp' (k+1) d t (addEntry p2 nd key it))=some r) :
  Wp (bW (ak.at n) n (some (aw S.b)) d sp' nd true last k xc t key) h (Ua h S r):=by
 have i:=(ap 0).inv;have ip:=i.pos;have ap0:=(ap 0).pos;unfold bW;have e1:IntKind.i64.wrap ((d:Int)+1)=(d+1:Nat):=by rw[Dc (by omega) (by omega)];simp
 have e2:IntKind.i64.wrap ((k:Int)+1)=(k+1:Nat):=by rw[Dc (by omega) (by omega)];simp
 simp only[ag,aN,aR,aT,aW,bf,aE,ax,ah,aC,aab,Nat.reduceAdd,IN,exists_eq_left',IT,st.eG,st.je,st.eF,st.b7,st.cC,e1,e2,is.1,ha'];cases hv:(sp s m).V (qg sp' k xc a) (d+1) p with
 |none=>rw[hv] at hr;cases hr
 |some rv=>
  rw[hv] at hr;refine (hV n (by omega) h S p (qg sp' k xc a) (d+1) rv st hsrc is i hv).mono λx h1 hx=>?_;obtain⟨S1,st1,f1,hx⟩:=hx;cases rv with
  |error e=>
   cases hr;obtain⟨hx1,hx2⟩:=hx;simp only[hx1,aag,aar];exact KR (by omega) ⟨S1,st1,f1,hx2⟩
  |ok q=>
   obtain⟨it,p2⟩:=q;obtain⟨rfl,is1⟩:=hx;obtain⟨av,_⟩:=(rh s m).V _ _ _ _ _ i hv;have am:=wv.modify (f:=λx=>{ x with keys:=x.keys++[(key:Int)],items:=x.items++[it] }) i0 (λex=>(ap ex).trans (av ex)) hnd (by simp);have a0:=(ap 0).trans (av 0);have hnd2:nd<p2.nodes.length:=aaC hnd a0.nodes;obtain⟨y,hy1,hy2⟩:=Jq is1 hnd2;have hnl:S1.nodes.length=p2.nodes.length:=by rw[<-is1.2.1,aaQ]
   obtain⟨bn,base,ha,_,_⟩:=st1.BM (by omega);have hyl:=a0.inv.items _ (OF hy2);have hyl1:y.il.length<=p2.pos:=hyl.1;have hyl2:y.kl.length<=p2.pos:=hyl.2;have hp2:=a0.inv.pos;have hlen:=st1.pD;have hb1:=f1.b;rw[<-hb1];simp only[aav,ag,aN,aR,aT,aW,bf,aE,ax,ah,aC,aab,Nat.reduceAdd,IN,exists_eq_left',IT,st1.eG,st1.je,st1.eF,st1.b7,st1.cC,sS,ha,exists_eq_left',aac,st1.LD hy1 ha,st1.VV hy1 ha];refine⟨by omega,by omega,?_⟩;refine St.M8 (b':=true) (w:=it) st1 hy1 ha (by unfold cN;omega) (by unfold cN;omega) λs1 h3 hput=>?_;refine hput.mono λs2 h4 hput=>hput.mono λ_ h5 hput=>hput.mono λ_ h6 hx=>?_;obtain⟨kg,ig,st4,f4⟩:=hx;have is4:Is (S1.gD S1.sU S1.ng (S1.nodes.set nd { y with ks:=s1,kl:=y.kl++[(key:Int)],kg:=kg,is:=s2,il:=y.il++[it],ig:=ig })) (addEntry p2 nd key it):=by
    refine⟨is1.1,?_,is1.2.2.1,is1.2.2.2⟩;exact map_set (f:=λx=>{ x with keys:=x.keys++[(key:Int)],items:=x.items++[it] }) is1 hy1 rfl
   have hb4:=f4.b;have hs4:=f4.src;generalize S1.gD S1.sU S1.ng (S1.nodes.set nd { y with ks:=s1,kl:=y.kl++[(key:Int)],kg:=kg,is:=s2,il:=y.il++[it],ig:=ig })=S4 at *
   rw[<-hb4];refine (hD n (by omega) h6 S4 _ nd sp' (k+1) d t r st4 (hs4.trans (f1.src.trans hsrc)) is4 am.inv (aaC hnd am.nodes) ?_ hd hr).mono λx h5 hx=>?_
   .show k+1<=p2.pos;have:=(av 0).pos;omega
   .obtain⟨S5,st5,f5,hx⟩:=hx;exact⟨S5,st5,(f1.trans st.wf f4).trans st.wf f5,hx⟩
theorem O4 {s:ζ}{m:Nat}(hs:s.size<=65536)(hV:BV s m)(hD:BD s m):BD s (m+1):=by
 intro n hn h S p nd sp' k d last r st hsrc is i hnd hk hd hr;obtain⟨n,rfl⟩:∃k,n=k+1:=⟨n-1,by omega⟩;rw[fu];unfold dz;simp only[sp,XW] at hr;simp only[aav];have ip:=i.pos;rw[ag];refine (oP st is.2.2.2).mono λx hm hx=>?_;rw[hsrc,is.1] at hx;have hl:s.data.toList.length=s.size:=bF s;by_cases hle:s.size<=p.pos
 .rw[aa4 (by omega)] at hr;cases hr;rw[BY (by omega)] at hx;obtain⟨rfl,st2,f2⟩:=hx;simp only[ag,aN,aR,aT,aW,bf,aE,ax,ah,aC,aab,Nat.reduceAdd,IN,exists_eq_left',IT,aag,aar];exact⟨_,st2,f2,rfl,rfl,by simp⟩
 .rw[By (by omega)] at hx;obtain⟨rfl,rfl⟩:=hx;have hc:s.data.toList[p.pos]?=some s.data.toList[p.pos]:=aak (by omega);generalize s.data.toList[p.pos]=c at hc;rw[hc] at hr;have c1:((c.toNat:Int)=101)↔c=101:=zJ c 101 (by omega);simp only[ag,aN,aR,aT,aW,bf,aE,ax,ah,aC,aab,Nat.reduceAdd,IN,exists_eq_left',IT,st.eG,st.je,st.eF,st.b7,st.cC,aav,hsrc,is.1,aac,qM,hc,aa9,aaY];by_cases k1:c=101
  .simp only[BY k1] at hr;cases hr;simp only[c1.2 k1,decide_true,aaW,aag,aar,ah];exact⟨S,st,nu.refl st.wf,rfl,by rw[is.1];simp,is.at (p.pos+1)⟩
  .simp only[By k1] at hr;have c2:¬((c.toNat:Int)=101):=λe=>k1 (c1.1 e);simp only[c2,decide_false,aaV,aav];unfold ft;have e1:IntKind.i64.wrap ((d:Int)+1)=(d+1:Nat):=by rw[Dc (by omega) (by omega)];simp
   simp only[ag,aN,aR,aT,aW,bf,aE,ax,ah,aC,aab,Nat.reduceAdd,IN,exists_eq_left',IT,st.eG,st.je,st.eF,st.b7,st.cC,is.1,e1];refine (zI st is (by rw[hsrc];exact hs) (by rw[hsrc];exact ip) (by rw[hsrc];omega)).mono λx h1 hx=>?_;rw[hsrc] at hx;obtain⟨S1,st1,f1,hx⟩:=hx;cases ht:tN s p.pos with
   |error e=>
    rw[ht] at hr hx;cases hr;obtain⟨hx1,hx2⟩:=hx;simp only[hx1,aaV,aav,ag,aN,aR,aT,aW,bf,aE,ax,ah,aC,aab,Nat.reduceAdd,IN,exists_eq_left',IT];exact⟨S1,st1,f1,hx2⟩
   |ok q=>
    obtain⟨t,a⟩:=q;rw[ht] at hr hx;obtain⟨rfl,is1⟩:=hx;obtain⟨ta1,ta2⟩:=xd ht;have hb1:=f1.b;rw[<-hb1];simp only[aaW,aag,aar,ag,aN,aR,aT,aW,bf,aE,ax,ah,aC,aab,Nat.reduceAdd,IN,exists_eq_left',IT];refine (ml st1 is1 5 t p.pos (d+1)).mono λy h2 hy=>?_;obtain⟨S2,st2,f2,hy⟩:=hy;have f02:=f1.trans st.wf f2;simp only at hr;cases hnode:pF { p with pos:=a } ⟨5,t,false,[],[]⟩ p.pos (d+1) with
    |error e=>
     rw[hnode] at hr hy;cases hr;obtain⟨hy1,hy2⟩:=hy;simp only[hy1,aaV,aav,ag,aN,aR,aT,aW,bf,aE,ax,ah,aC,aab,Nat.reduceAdd,IN,exists_eq_left',IT];exact⟨S2,st2,f02,hy2⟩
    |ok q=>
     obtain⟨key,p1⟩:=q;rw[hnode] at hr hy;obtain⟨rfl,is2⟩:=hy;obtain⟨rfl,rfl,h4,h5⟩:=jq hnode;have hb2:=f2.b;rw[<-hb2];have ap:∀ex,wv s ex p { p with pos:=a,nodes:=p.nodes++[⟨5,t,false,[],[]⟩] }:=λex=>wv.step i ta1 ta2 h4 (by simp);simp only[aaW,aag,aar,ag,aN,aR,aT,aW,bf,aE,ax,ah,aC,aab,Nat.reduceAdd,IN,exists_eq_left',IT];refine Jo λci e he _=>?_;have fl:∀{e:Int} {x:Bool} {h3:af},e≠0->St h3 (S2.failed p.pos e)->nu h2 S2 h3 (S2.failed p.pos e)->Ua hm S (.error (p.pos,e)) (.inr (0,x)) h3:=by
      intro e x h3 he s3 f3;exact⟨_,s3,f02.trans st.wf f3,nN is2.2.2.2 he⟩
     cases hu:u8 t with
     |false=>
      have he:¬e=0:=λe0=>(by rw[he.2 e0] at hu;cases hu);simp only[hu,aav] at hr;cases hr;simp only[he,decide_false,aaV,aav,ag,aN,aR,aT,aW,bf,aE,ax,ah,aC,aab,Nat.reduceAdd,IN,exists_eq_left',IT];refine (ey st2 _ _).mono λx h3 hx=>?_;obtain⟨rfl,s3,f3⟩:=hx;exact fl (by simp) s3 f3
     |true=>
      have he:=he.1 hu;simp only[hu,Bool.true_eq_false,aar] at hr;simp only[he,decide_true,aaW,aag,aar];have J1:∀{r},(match (sp s m).V (qg sp' k p.pos a) (d+1) { p with pos:=a,nodes:=p.nodes++[⟨5,t,false,[],[]⟩] } with
        |none=>none
        |some (.error e)=>some (.error e)
        |some (.ok (it,p2))=>(sp s m).D nd sp' (k+1) d t (addEntry p2 nd p.nodes.length it))=some r->Wp (bW (ak.at n) n (some (aw S2.b)) d sp' nd true last k p.pos t p.nodes.length) h2 (Ua hm S r):=λhr=>
       (Ud hs hV hD (by omega) st2 (f2.src.trans (f1.src.trans hsrc)) is2 i ap hnd hk hd rfl hr).mono λx h3 hx=>by
        obtain⟨S5,st5,f5,hx⟩:=hx;exact⟨S5,st5,f02.trans st.wf f5,hx⟩
      by_cases hk0:0<k
      .rw[BY (by omega)];by_cases hlt:Uw t last=true
       .rw[BY ⟨hk0,hlt⟩] at hr;cases hr;rw[show (zM t last||pj t last)=Uw t last from rfl,BY hlt];simp only[ag,aN,aR,aT,aW,bf,aE,ax,ah,aC,aab,Nat.reduceAdd,IN,exists_eq_left',IT];refine (ey st2 _ _).mono λx h3 hx=>?_;obtain⟨rfl,s3,f3⟩:=hx;exact fl (by simp) s3 f3
       .rw[By (λe=>hlt e.2)] at hr;rw[show (zM t last||pj t last)=Uw t last from rfl,By hlt];exact J1 hr
      .rw[By (λe=>hk0 e.1)] at hr;rw[By (by omega)];exact J1 hr
theorem Vu {s:ζ}(hs:s.size<=65536):∀m,BV s m/\BL s m/\BD s m
 |0=>⟨λ_ _ _ _ _ _ _ _ _ _ _ _ hr=>by simp[sp] at hr,λ_ _ _ _ _ _ _ _ _ _ _ _ _ _ _ _ _ hr=>by simp[sp] at hr,λ_ _ _ _ _ _ _ _ _ _ _ _ _ _ _ _ _ _ hr=>by simp[sp] at hr⟩
 |m+1=>by
  obtain⟨hV,hL,hD⟩:=Vu hs m;exact⟨KP hs hL hD,O3 hs hV hL,O4 hs hV hD⟩
def dO.init (b:Nat)(e:κ)(s:ζ):dO:=⟨b,b+1,0,e,s,0,5,s,jb,0,[],0,jb,0,[],0,0⟩
theorem St.init {h:af}(hw:WF h){e:κ}{s:ζ}:St (h.new e (dO.init h.next e s).enc) (dO.init h.next e s):=
 ⟨hw.new,fy,by simp[dO.init],sF.nil,rfl,sF.nil,λ_ _ hx=>by simp[dO.init] at hx,λ_ _ hx=>by simp[dO.init] at hx,λs t hst he=>by
  cases s<;>cases t<;>simp_all[dO.bG,dO.init]⟩
abbrev ZN:=Int×ζ×Sl×Int×Sl×Sl
def Ym (h:af)(s:ζ)(r:Rs PV)(x:ZN×Int×Int)(h':af):Prop:=Fr (λ_=>False) h h'/\match r with
 |.error e=>x=((0,ofBytes [],jb,0,jb,jb),(e.1:Int),e.2)/\e.2≠0
 |.ok p=>∃S,St h' S/\(∀t,S.bG t=0\/h.next<S.bG t)/\x=((5,s,S.sU,0,S.Ba,jb),0,0)/\S.nodes.map eo.v=p.nodes/\S.au=p.au
theorem St.Xe (st:St h S):h.jV [li,.str,.sl,li,.sl,.sl] S.b 2=some (S.fmt,S.source,S.sU,S.root,S.Ba,jb):=Rj st.aD (by simp[dO.enc]) rfl
theorem ZO (s:ζ):Inv s ⟨0,[],[]⟩:=⟨by simp,by simp,by simp,by simp⟩
theorem mD {h0:af}{b0:Nat}{cs:δ}{s:ζ}(hw0:WF h0)(f:Fr (λ_=>False) h0 h)(st:St h S)(l:LB h b0 cs lr)(hcs:cs.length=6)(hb0:h0.next<=b0)(hn:∀t,S.bG t=0\/h0.next<S.bG t)
  (nb:∀t,S.bG t≠b0+1) (hf:S.fmt=5/\S.source=s/\S.root=0) {r:Rs PV} (hr:match r with | .error e=>vw S e | .ok p=>S.err=0/\S.nodes.map eo.v=p.nodes/\S.au=p.au) :
  Wp (iO n (aw b0) (some (aw S.b))) h (Ym h0 s r):=by
 unfold iO;simp only[ag,aN,aR,aT,aW,bf,aE,ax,ah,aC,aab,Nat.reduceAdd,IN,exists_eq_left',IT,st.eG,st.je,st.eF,st.b7,st.cC];cases r with
 |error e=>
  obtain⟨h1,h2,h3⟩:=hr;have he:S.err≠0:=by rw[h2];exact h3
  simp only[he,decide_false,aaV,aav,ag,aN,aR,aT,aW,bf,aE,ax,ah,aC,aab,Nat.reduceAdd,IN,exists_eq_left',IT,st.eG,st.je,st.eF,st.b7,st.cC];have hoff:h.XN .i64 S.b 9=some S.off:=st.XP;simp only[hoff,IN,exists_eq_left'];refine JZ ?_;refine l.st st.wf (by simp[hcs]) rfl λh2' l2 f2=>⟨λa ha=>?_,?_⟩
  .have hg:=f2.cells _ _ _ _ _ st.aD (λe=>absurd e (nb .main));have hab:a.block=S.b:=by
    simp only[abz,IN,abw,ab9] at ha;rcases ha with rfl|rfl<;>rfl
   rw[hab,st.aD,hg]
  .have l2:LB h2' b0 [vi 0,Value.string (ofBytes []),aZ,vi 0,aZ,aZ] lr:=by
    have e:bB cs (aw b0).off [vi 0,Value.string (ofBytes []),aZ,vi 0,aZ,aZ]=[vi 0,Value.string (ofBytes []),aZ,vi 0,aZ,aZ]:=by
     simp[bB,hcs]
    rw[<-e];exact l2
   refine od.2 ⟨(0,ofBytes [],jb,0,jb,jb),l2.jV (by simp) rfl,?_⟩;refine⟨f.fresh hw0 f2 λg hg=>.inr (by omega),?_,h3⟩;rw[h1,h2]
 |ok p=>
  obtain⟨h1,h2,h3⟩:=hr;simp only[h1,decide_true,aaW,aag,aar,ag,aN,aR,aT,aW,bf,aE,ax,ah,aC,aab,Nat.reduceAdd,IN,exists_eq_left',IT];refine od.2 ⟨_,st.Xe,?_⟩;refine l.st st.wf (by simp[hcs]) rfl λh2' l2 f2=>?_;have l2:LB h2' b0 [vi S.fmt,Value.string S.source,aS S.sU,vi S.root,aS S.Ba,aS jb] lr:=by
   have e:bB cs (aw b0).off [vi S.fmt,Value.string S.source,aS S.sU,vi S.root,aS S.Ba,aS jb]=[vi S.fmt,Value.string S.source,aS S.sU,vi S.root,aS S.Ba,aS jb]:=by
    simp[bB,hcs]
   rw[<-e];exact l2
  refine od.2 ⟨(S.fmt,S.source,S.sU,S.root,S.Ba,jb),l2.jV (by simp) rfl,?_⟩;refine⟨f.fresh hw0 f2 λg hg=>.inr (by omega),S,st.fr f2 (λt ht=>absurd ht (nb t)),hn,?_,h2,h3⟩;rw[hf.1,hf.2.1,hf.2.2]
theorem AH {s:ζ}{m n:Nat}{r:Rs PV}{h:af}(hw:WF h)(hn:3*m+s.size+3<=n)(hr:s7 s m=some r):Wp (mV n s) h (Ym h s r):=by
 unfold mV;rw[ag,yn];refine⟨rfl,?_⟩;have f1:=Fr.new (e:=lr) (cs:=[vi 0,Value.string (ofBytes []),aZ,vi 0,aZ,aZ]) hw;have l1:=LB.new (h:=h) (e:=lr) (cs:=[vi 0,Value.string (ofBytes []),aZ,vi 0,aZ,aZ]);have nx:(h.new lr [vi 0,Value.string (ofBytes []),aZ,vi 0,aZ,aZ]).next=h.next+1:=rfl
 generalize h.new lr [vi 0,Value.string (ofBytes []),aZ,vi 0,aZ,aZ]=h1 at *
 unfold s7 at hr;simp only[ag,aN,aR,aT,aW,bf,aE,ax,ah,aC,aab,Nat.reduceAdd,IN,exists_eq_left',IT];by_cases hlong:65536<s.size
 .rw[BY hlong] at hr;cases hr;rw[BY (by omega)];simp only[ag,aN,aR,aT,aW,bf,aE,ax,ah,aC,aab,Nat.reduceAdd,IN,exists_eq_left',IT];refine l1.st f1.wf (by simp) rfl λh2 l2 f2=>?_;refine od.2 ⟨(0,ofBytes [],jb,0,jb,jb),l2.jV (by simp[bB]) rfl,?_⟩;exact⟨f1.fresh hw f2 λg hg=>.inr (by omega),rfl,by simp⟩
 .rw[By hlong] at hr;rw[By (by omega)];simp only[ag,aN,aR,aT,aW,bf,aE,ax,ah,aC,aab,Nat.reduceAdd,IN,exists_eq_left',IT,yn];refine⟨rfl,?_⟩;have f2:=Fr.new (e:=bu) (cs:=(dO.init h1.next bu s).enc) f1.wf
  have st2:=St.init f1.wf (e:=bu) (s:=s);have l2:=l1.fr f2 (λhx=>hx);have f02:=f1.fresh hw f2 (λg hg=>hg.elim);show Wp (cT n (some (aw (dO.init h1.next bu s).b)) (qg (-1) 0 0 0).ZL (0:Nat)) (h1.new bu (dO.init h1.next bu s).enc) _
  have hg0:∀t,(dO.init h1.next bu s).bG t=0\/(dO.init h1.next bu s).bG t=h1.next+1:=λt=>by cases t<;>simp[dO.bG,dO.init]
  have hb2:aw h1.next=aw (dO.init h1.next bu s).b:=rfl
  have hcon:(dO.init h1.next bu s).src=s/\(dO.init h1.next bu s).fmt=5/\(dO.init h1.next bu s).source=s/\(dO.init h1.next bu s).root=0:=⟨rfl,rfl,rfl,rfl⟩
  have is0:Is (dO.init h1.next bu s) ⟨0,[],[]⟩:=⟨rfl,rfl,rfl,rfl⟩
  rw[hb2];have nx2:(h1.new bu (dO.init h1.next bu s).enc).next=h1.next+1:=rfl
  generalize h1.new bu (dO.init h1.next bu s).enc=h2 at *
  generalize dO.init h1.next bu s=S0 at *
  cases hv:(sp s m).V (qg (-1) 0 0 0) 0 ⟨0,[],[]⟩ with
  |none=>rw[hv] at hr;cases hr
  |some rv=>
   rw[hv] at hr;refine ((Vu (by omega) m).1 n (by omega) h2 S0 _ _ 0 rv st2 hcon.1 is0 (ZO s) hv).mono λx h3 hx=>?_;obtain⟨S3,st3,f3,hx⟩:=hx;have hg3:∀t,S3.bG t=0\/h1.next<S3.bG t:=λt=>by
    rcases f3.fp t with h4|⟨u,h4⟩|h4
    .exact .inl h4
    .rcases hg0 u with h5|h5
     .exact .inl (h4.trans h5)
     .exact .inr (by omega)
    .exact .inr (by omega)
   have f03:Fr (λ_=>False) h h3:=f02.trans hw f3.fr λg hg h0=>by
    obtain⟨t,rfl⟩:=hg;rcases hg0 t with h5|h5
    .exact absurd h5 h0
    .exact .inr (by omega)
   have l3:LB h3 h.next _ lr:=l2.fr f3.fr (by
    rintro⟨t,ht⟩;rcases hg0 t with h5|h5<;>omega)
   have hg4:∀t,S3.bG t=0\/h.next<S3.bG t:=λt=>by
    rcases hg3 t with h5|h5
    .exact .inl h5
    .exact .inr (by omega)
   have hg5:∀t,S3.bG t≠h.next+1:=λt=>by
    rcases hg3 t with h5|h5<;>omega
   have hcon3:S3.fmt=5/\S3.source=s/\S3.root=0:=⟨f3.fmt.trans hcon.2.1,f3.source.trans hcon.2.2.1,f3.root.trans hcon.2.2.2⟩;have hb3:=f3.b;rw[<-hb3];cases rv with
   |error e=>
    cases hr;obtain⟨hx1,hx2⟩:=hx;simp only[hx1,aag,aar];exact mD hw f03 st3 l3 rfl (aai _) hg4 hg5 hcon3 hx2
   |ok q=>
    obtain⟨nn,p⟩:=q;obtain⟨rfl,is3⟩:=hx;simp only[aav,ag,aN,aR,aT,aW,bf,aE,ax,ah,aC,aab,Nat.reduceAdd,IN,exists_eq_left',IT,st3.eG,st3.je,st3.eF,st3.b7,st3.cC,is3.1];simp only at hr;by_cases hlt:p.pos<s.size
    .rw[BY hlt] at hr;cases hr;rw[BY (by omega)];simp only[ag,aN,aR,aT,aW,bf,aE,ax,ah,aC,aab,Nat.reduceAdd,IN,exists_eq_left',IT,st3.eG,st3.je,st3.eF,st3.b7,st3.cC,is3.1];refine (ey st3 _ _).mono λx h4 hx=>?_;obtain⟨rfl,st4,f4⟩:=hx;have hfb:(S3.failed p.pos 4).b=S3.b:=f4.b;rw[<-hfb];have hgg:∀t,(S3.failed p.pos 4).bG t=S3.bG t:=λt=>(by unfold dO.failed;split<;>cases t<;>rfl);have f04:Fr (λ_=>False) h h4:=f03.trans hw f4.fr λg hg h0=>by
      obtain⟨t,rfl⟩:=hg;rcases hg4 t with h5|h5
      .exact absurd h5 h0
      .exact .inr h5
     have l4:=l3.fr f4.fr (by
      rintro⟨t,ht⟩;exact hg5 t ht.symm)
     exact mD hw f04 st4 l4 rfl (aai _) (λt=>by rw[hgg];exact hg4 t) (λt=>by rw[hgg];exact hg5 t) ⟨f4.fmt.trans hcon3.1,f4.source.trans hcon3.2.1,f4.root.trans hcon3.2.2⟩ (nN (S:=S3) is3.2.2.2 (by simp):vw _ _)
    .rw[By hlt] at hr;cases hr;rw[By (by omega)];exact mD hw f03 st3 l3 rfl (aai _) hg4 hg5 hcon3 ⟨is3.2.2.2,is3.2.1,is3.2.2.1⟩
end Go.Sh
