
import Derived.Test.YthnfbcloepfooaaGreatDoorSp
import Derived.Test.YthnfbcloepfooaaGreatDoorSh2
set_option linter.all false
namespace Go.Sh
open Go Go.Ago
variable {h h':af}{S S':dO}{n:Nat}
def dO.failed (S:dO)(at' e:Int):dO:=if S.err=0 then (S.M7 at').Qi e else S
theorem ey (st:St h S)(a e:Int):Wp (bw n (some (aw S.b)) a e) h λx h'=>x=false/\St h' (S.failed a e)/\nu h S h' (S.failed a e):=by
 unfold bw;simp only[ag,aN,aR,aC,aab,Nat.reduceAdd,st.eG,IN,exists_eq_left',IT];split
 .rename_i he;simp only[ag,aN,aC,aab,Nat.reduceAdd];refine st.VU λh1 st1 f1=>?_;refine St.VT (S:=S.M7 a) st1 λh2 st2 f2=>?_;simp only[ah,dO.failed,he,aav];exact⟨trivial,st2,f1.trans st.wf f2⟩
 .rename_i he;simp only[ah,dO.failed,he,aar];exact⟨trivial,st,nu.refl st.wf⟩
theorem oP (st:St h S)(h0:S.err=0):Wp (dZ n (some (aw S.b))) h λx h'=>
  if (S.src.size:Int)<=S.at' then x=false/\St h' ((S.M7 S.src.size).Qi 4)/\nu h S h' ((S.M7 S.src.size).Qi 4) else x=true/\h'=h:=by
 unfold dZ;simp only[ag,aN,aR,aT,aC,aab,Nat.reduceAdd,st.eG,st.je,st.eF,IN,exists_eq_left',IT];split
 .simp only[ag,aN,aT,aC,aab,Nat.reduceAdd,st.eF,IN,exists_eq_left'];refine (ey st _ _).mono λx h' hx=>?_;simp only[ah];simpa only[dO.failed,h0,aav] using hx
 .simp only[ag,aN,aR,aC,aab,Nat.reduceAdd,st.eG,IN,exists_eq_left',ah,h0,decide_true,and_self]
theorem Dc {x:Int}(h1:-9223372036854775808<=x)(h2:x<=9223372036854775807):IntKind.i64.wrap x=x:=IntWalk.i64_in x (by omega)
def Is (S:dO)(p:PV):Prop:=S.at'=p.pos/\S.nodes.map eo.v=p.nodes/\S.au=p.au/\S.err=0
def ud (h:af)(S:dO)(r:Rs (Int×PV))(x:Int×Bool)(h':af):Prop:=
 ∃S',St h' S'/\nu h S h' S'/\match r with
  |.ok (n,p)=>x=(n,true)/\Is S' p
  |.error e=>x.2=false/\S'.off=e.1/\S'.err=e.2/\e.2≠0
theorem Rj {h:af}{b o:Nat}{ls:List eh}{c:δ}{g base:Nat}{e:κ}{x:mF ls}(hb:h.get b=some (.cells c g base e))(hl:o+ls.length<=c.length)(hx:vX ls ((c.drop o).take ls.length)=some x):h.jV ls b o=some x:=by
 unfold af.jV;rw[hb];simp only[hl,aav];exact hx
theorem nu.new (st:St h S){e:κ}{cs:δ}:St (h.new e cs) S/\nu h S (h.new e cs) S:=by
 have f:=Fr.new (e:=e) (cs:=cs) st.wf;exact⟨st.fr f (λ_ hx=>hx.elim),rfl,f.mono st.wf (λ_ hx _=>hx.elim),λs=>.inr (.inl ⟨s,rfl⟩)⟩
theorem Fr.VZ {h:af}(hw:WF h):Fr (λ_=>False) h { h with next:=h.next+1,used:=λj=>cond (Nat.beq j h.next) true (h.used j) }:=by
 refine⟨⟨λj hj=>hw.get j (by simp at hj;omega),λj hj=>?_,λj c g b e hj=>aaX (hw.bG j c g b e hj) (aaU _),λj hj=>hw.maps j (cu hj).2⟩,aaU _,λ_ _ _ _ _ h _=>h,λ_ _ _=>rfl,λj hj=>?_,λ_ _ h=>h,λ_ _ h _=>h⟩
 .simp only at hj⊢;rw[bZ (by omega)];exact hw.used j (by omega)
 .simp only;rw[bZ (by omega)];rfl
theorem WA {h:af}{Q:Nat->af->Prop}(hq:∀h',(WF h->Fr (λ_=>False) h h')->Q h.next h'):Wp VZ h Q:=⟨_,_,rfl,hq _ Fr.VZ⟩
theorem ml (st:St h S){p:PV}(is:Is S p)(kind:Int)(t:ζ)(xc d:Nat) :
  Wp (dn n (some (aw S.b)) (kind,t,false,jb,jb) xc d) h (ud h S (pF p ⟨kind,t,false,[],[]⟩ xc d)):=by
 unfold dn;rw[ag,yn];refine⟨rfl,?_⟩;obtain⟨st1,f1⟩:=nu.new st (e:=aH) (cs:=[vi kind,Value.string t,Value.bool false,aS jb,aS jb]);have hget:(h.new aH [vi kind,Value.string t,Value.bool false,aS jb,aS jb]).get h.next=some (.cells [vi kind,Value.string t,Value.bool false,aS jb,aS jb] (h.next+1) 0 aH):=fy
 generalize h.new aH [vi kind,Value.string t,Value.bool false,aS jb,aS jb]=h1 at *
 have hlen:S.sU.len=p.nodes.length:=by rw[st.pD,<-is.2.1,aaQ]
 unfold pF;split
 .rename_i hd;have hd':32<d:=by simp at hd;omega
  rw[BY hd',ag];refine (ey st1 _ _).mono λx h' hx=>?_;obtain⟨rfl,s2,f2⟩:=hx;simp only[ah,dO.failed,is.2.2.2,aav] at *
  exact⟨_,s2,f1.trans st.wf f2,rfl,rfl,rfl,by simp⟩
 .rename_i hd;have hd':¬32<d:=by simp at hd;omega
  rw[By hd'];simp only[ag,aN,aW,aC,aab,Nat.reduceAdd,st1.b7,IN,exists_eq_left',hlen];split
  .rename_i hm;have hm':4096<=p.nodes.length:=by simp at hm;omega
   rw[BY hm',ag];refine (ey st1 _ _).mono λx h' hx=>?_;obtain⟨rfl,s2,f2⟩:=hx;simp only[ah,dO.failed,is.2.2.2,aav] at *
   exact⟨_,s2,f1.trans st.wf f2,rfl,rfl,rfl,by simp⟩
  .rename_i hm;have hm':¬4096<=p.nodes.length:=by simp at hm;omega
   rw[By hm'];simp only[ag,aN,aW,aC,aab,Nat.reduceAdd,st1.b7,IN,exists_eq_left'];refine od.2 ⟨(kind,t,false,jb,jb),Rj hget (by simp) rfl,?_⟩;have hnl:S.nodes.length=p.nodes.length:=by rw[<-is.2.1,aaQ]
   refine St.addNode (x:=⟨kind,t,false,jb,[],0,jb,[],0⟩) st1 ⟨rfl,rfl,rfl⟩ ⟨rfl,rfl,rfl⟩ (by unfold cN;omega) λs' h2 hput=>?_;refine hput.mono λ_ h3 hx=>?_;obtain⟨g',e1,st3,f3⟩:=hx;refine⟨s',st3.b7,?_⟩;rw[ah,e1,hnl];refine⟨_,st3,f1.trans st.wf f3,?_,is.1,?_,is.2.2.1,is.2.2.2⟩
   .rw[Dc (by omega) (by omega)];simp
   .simp[is.2.1,eo.v,dO.gD]
theorem qM (s:ζ)(i:Nat):s[i]?=s.data.toList[i]?:=by
 by_cases hi:i<s.size
 .rw[getElem?_pos s i hi,aak (by rwa [bF])];rfl
 .rw[getElem?_neg s i hi,aa4 (by rw[bF];omega)]
theorem zC (s:ζ)(a b:Nat):(s.extract a b).data.toList=(s.data.toList.drop a).take (b-a):=by
 simp[ab7]
theorem GY (x y:ζ):pj x y=true↔x.data.toList=y.data.toList:=by
 rw[mZ,ByteArray.toList_eq,ByteArray.toList_eq];simp
theorem TD (L:List UInt8)(a:Nat):(pE (L.drop a)).length<=L.length-a:=by
 have:=(List.takeWhile_sublist ga (l:=L.drop a)).length_le;simpa[pE] using this
theorem OD {L:List UInt8}{a:Nat}{c:UInt8}(hc:L[a]?=some c):pE (L.drop a)=if ga c then c::pE (L.drop (a+1)) else []:=by
 have hlt:=(List.getElem?_eq_some_iff.1 hc).1;have hd:L.drop a=c::L.drop (a+1):=by
  rw[aay hlt,(List.getElem?_eq_some_iff.1 hc).2]
 rw[hd,pE,abZ];split<;>rename_i h1<;>simp[h1,pE]
theorem Ey (L:List UInt8)(a:Nat):(L.drop a).take (pE (L.drop a)).length=pE (L.drop a):=by
 have h:=List.takeWhile_append_dropWhile (p:=ga) (l:=L.drop a)
 conv=>lhs;arg 2;rw[<-h]
 exact List.take_left
theorem Ez (c:UInt8):ga c=(decide (48<=(c.toNat:Int))&&decide ((c.toNat:Int)<=57)):=by
 unfold ga;rw[acH];simp;omega
theorem wM {s:ζ}(hs:s.size<=65536):∀(n:Nat) (h:af) (S:dO) (a:Nat) (a1:Int),S.src=s->St h S->S.at'=a->a<=s.size->s.size-a<n ->
  Wp (eu n (some (aw S.b)) a1) h λ_ h'=>St h' (S.tK (a+(pE (s.data.toList.drop a)).length:Nat))/\nu h S h' (S.tK (a+(pE (s.data.toList.drop a)).length:Nat))
 |0,_,_,_,_,_,_,_,_,hn=>by omega
 |n+1,h,S,a,a1,he,st,ha,hle,hn=>by
  rw[rz];unfold jT;have stop:pE (s.data.toList.drop a)=[]->St h (S.tK (a+(pE (s.data.toList.drop a)).length:Nat))/\nu h S h (S.tK (a+(pE (s.data.toList.drop a)).length:Nat)):=by
   intro hd;have e:(S.tK (a+(pE (s.data.toList.drop a)).length:Nat))=S:=by rw[hd];simp[<-ha,dO.tK]
   rw[e];exact⟨st,nu.refl st.wf⟩
  simp only[ag,aN,aR,aT,aC,aab,Nat.reduceAdd,st.eG,st.je,st.eF,IN,exists_eq_left',IT,ha,he];split
  .rename_i h1;have h1':a<s.size:=by omega
   have hc:s.data.toList[a]?=some s.data.toList[a]:=aak (by rwa [bF]);generalize s.data.toList[a]=c at hc;have hd:=OD hc;rw[Ez] at hd;simp only[ag,aN,aR,aT,aE,aC,aab,Nat.reduceAdd,st.eG,st.je,st.eF,IN,exists_eq_left',IT,ha,he,qM,aac,hc,aa9,aaY];split
   .rename_i h2;simp only[ag,aN,aR,aT,aE,aC,aab,Nat.reduceAdd,st.eG,st.je,st.eF,IN,exists_eq_left',IT,ha,he,qM,aac,hc,aa9,aaY];split
    .rename_i h3;simp only[h2,h3,decide_true,Bool.and_self,aav] at hd;simp only[ag,aN,aR,aC,aab,Nat.reduceAdd,st.je,IN,exists_eq_left',ha];refine st.setAt λh2 st2 f2=>?_;have e1:IntKind.i64.wrap ((a:Int)+1)=((a+1:Nat):Int):=(by rw[Dc (by omega) (by omega)];simp);rw[e1] at st2 f2;have ih:=wM hs n h2 (S.tK ((a+1:Nat):Int)) (a+1) a1 he st2 rfl h1' (by omega);refine ih.mono λ_ h3 hx=>?_;obtain⟨s3,f3⟩:=hx;have e2:a+(pE (s.data.toList.drop a)).length=a+1+(pE (s.data.toList.drop (a+1))).length:=(by rw[hd];simp;omega);rw[e2];exact⟨s3,f2.trans st.wf f3⟩
    .rename_i h3;simp only[ah];exact stop (by rw[hd];simp[h3])
   .rename_i h2;simp only[ah];exact stop (by rw[hd];simp[h2])
  .rename_i h1;simp only[ah];exact stop (by rw[aah (by rw[bF];omega)];rfl)
end Go.Sh
