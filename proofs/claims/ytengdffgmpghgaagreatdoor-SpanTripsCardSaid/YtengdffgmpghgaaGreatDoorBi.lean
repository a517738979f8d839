
import Derived.Test.YtengdffgmpghgaaGreatDoorSp
import Derived.Test.YtengdffgmpghgaaGreatDoorSh4
namespace Go.Sh
open Go Go.Ago
variable {h h':ab}{S S':Ev}{n:Nat}
theorem tA {x:Int}(h1:-9223372036854775808<=x)(h2:x<=9223372036854775807):IntKind.i64.wrap x=x:=IntWalk.i64_in x (by omega)
def Is (S:Ev)(p:PV):Prop:=S.at'=p.pos/\S.nodes.map gP.v=p.nodes/\S.gQ=p.gQ/\S.err=0
def Gx (h:ab)(S:Ev)(r:Rs (Int×PV))(x:Int×Bool)(h':ab):Prop:=
 ∃S',St h' S'/\Ew h S h' S'/\match r with
  |.ok (n,p)=>x=(n,true)/\Is S' p
  |.error e=>x.2=false/\S'.off=e.1/\S'.err=e.2/\e.2≠0
theorem Ew.new (st:St h S){e:κ}{cs:δ}:St (h.new e cs) S/\Ew h S (h.new e cs) S:=by
 have f:=Fr.new (e:=e) (cs:=cs) st.wf;exact⟨st.fr f (λ_ hx=>hx.elim),rfl,f.mono st.wf (λ_ hx _=>hx.elim),λs=>.inr (.inl ⟨s,rfl⟩)⟩
theorem Fr.opq {h:ab}(hw:WF h):Fr (λ_=>False) h { h with next:=h.next+1,used:=λj=>cond (Nat.beq j h.next) true (h.used j) }:=by
 refine⟨⟨λj hj=>hw.get j (by simp at hj;omega),λj hj=>?_,λj c g b e hj=>abi (hw.eJ j c g b e hj) (air _),λj hj=>hw.maps j (by simp at hj;omega)⟩,air _,λ_ _ _ _ _ h _=>h,λ_ _ _=>rfl,λj hj=>?_,λ_ _ h=>h,λ_ _ h _=>h⟩
 .simp only at hj⊢;rw[bw (by omega)];exact hw.used j (by omega)
 .simp only;rw[bw (by omega)];rfl
theorem Lw {h:ab}{Q:Nat->ab->Prop}(hq:∀h',(WF h->Fr (λ_=>False) h h')->Q h.next h'):Wp opq h Q:=⟨_,_,rfl,hq _ Fr.opq⟩
theorem yc (s:ζ)(i:Nat):s[i]?=s.data.toList[i]?:=by
 by_cases hi:i<s.size
 .rw[getElem?_pos s i hi,aah (by rwa [jl])];rfl
 .rw[getElem?_neg s i hi,ajM (by rw[jl];omega)]
theorem Sj (s:ζ)(a b:Nat):(s.extract a b).data.toList=(s.data.toList.drop a).take (b-a):=by
 simp[ajD]
theorem abI (x y:ζ):mY x y=true↔x.data.toList=y.data.toList:=by
 rw[qf,ByteArray.toList_eq,ByteArray.toList_eq];simp
theorem Vg (c:UInt8):uX c=(decide (48<=(c.toNat:Int))&&decide ((c.toNat:Int)<=57)):=by
 unfold uX;rw[akN];simp;omega
end Go.Sh
set_option linter.all false
namespace Go.Sh
open Go Go.Ago
abbrev v8 (x:Int):ξ:=.int .u8 x
def Yo (b:UInt8):Int:=IntKind.u8.wrap ((b.toNat:Int)-48)
def yA (s:ζ):ε:=s.data.toList.map Yo
def Ez (D:ε):Nat->Nat
 |0=>0
 |k+1=>if D[k]?=some 0 then Ez D k else k+1
theorem Hd (D:ε):∀k,Ez D k<=k
 |0=>aae _
 |k+1=>by
  unfold Ez;split
  .have:=Hd D k;omega
  .exact aae _
def yW (s:ζ):Bool×ζ:=if 1<s.size/\s.data.toList.head?=some 45 then (true,s.extract 1 s.size) else (false,s)
def Io (t:ζ):ε:=((yA t).reverse).take (Ez (yA t).reverse t.size)
theorem Sk {D:ε}{bd c:Nat}(hsz:D.length<=65536):∀(n k:Nat) (h:ab),WF h->LB h bd (D.map v8) gH->k<=D.length->k<n ->
  Wp (iK n ⟨some ⟨bd,0,none⟩,k,c⟩) h λx h'=>h'=h/\x=⟨some ⟨bd,0,none⟩,Ez D k,c⟩
 |0,_,_,_,_,_,hn=>by omega
 |n+1,k,h,hw,l,hk,hn=>by
  rw[zm];unfold qx;simp only[ag,pI,ql,qn,qo,qm,fA,fH,af,mu,adj,Nat.reduceAdd,aai,exists_eq_left',OF];split
  .rename_i h1;have hk0:0<k:=by omega
   have e1:IntKind.i64.wrap ((k:Int)-1)=(k-1:Nat):=by rw[tA (by omega) (by omega)];omega
   simp only[ag,pI,ql,qn,qo,qm,fA,fH,af,mu,adj,Nat.reduceAdd,aai,exists_eq_left',OF,Ad,e1,exists_eq_left',aab,adp];obtain⟨k,rfl⟩:∃k',k=k'+1:=⟨k-1,by omega⟩;obtain⟨d,hd⟩:∃d,D[k]?=some d:=⟨D[k],aah (by omega)⟩;have hdv:(D.map v8)[k+1-1]?=some (v8 d):=by rw[aal,Nat.add_sub_cancel,hd];rfl
   refine⟨by omega,by omega,d,l.ld (lf:=.int .u8) hdv rfl,?_⟩;rw[Ez,hd];split
   .rename_i hz;have hz:d=0:=(by simpa using hz);rw[By (by rw[hz]),ag];refine wT (by omega) (by omega) (by show ((k+1-1:Nat):Int)<=(k+1:Nat);omega) ?_ ?_
    .unfold jd;simp only[l.get];simp[ahN]
    .have e2:(⟨Option.map (λx=>x.plus ((0:Int).toNat*1)) (some (⟨bd,0,none⟩:Addr)),((k+1-1:Nat):Int).toNat-(0:Int).toNat,c-(if c=0 then 0 else (0:Int).toNat)⟩:Sl)=⟨some ⟨bd,0,none⟩,k,c⟩:=by
      simp[mu]
     show Wp (iK n ⟨_,_,_⟩) h _;rw[e2];exact Sk hsz n k h hw l (by omega) (by omega)
   .rename_i hz;have hz:¬d=0:=(by simpa using hz);rw[AT (λe=>hz (aas e)),af];exact⟨rfl,rfl⟩
  .have hk0:k=0:=by omega
   subst hk0;rw[af];exact⟨rfl,rfl⟩
theorem Yp {L:List UInt8}{i:Nat}{c:UInt8}(hc:L[i]?=some c):(L.drop i).all uX=(uX c&&(L.drop (i+1)).all uX):=by
 grind [List.getElem?_eq_some_iff,List.drop_eq_getElem_cons]
theorem Vh {γ:Type}{D:List γ}{z d:γ}{i:Nat}(hd:D[i]?=some d):(List.replicate (D.length-i) z++(D.take i).reverse).set (D.length-1-i) d=List.replicate (D.length-(i+1)) z++(D.take (i+1)).reverse:=by
 have hlt:=(List.getElem?_eq_some_iff.1 hd).1;obtain⟨m,hm⟩:∃m,D.length-i=m+1:=⟨D.length-i-1,by omega⟩;rw[hm,akl,abt,show D.length-1-i=m by omega,ajj _ _ (by simp),aeL,ai5,akY,ahV,akZ,hd,show D.length-(i+1)=m by omega];simp
abbrev rdC (s:ζ)(i:Nat):δ:=(List.replicate ((yA s).length-i) 0++((yA s).take i).reverse).map v8
theorem rh (s:ζ):(yA s).length=s.size:=by unfold yA;rw[ae1];exact jl s
theorem EA {s:ζ}{b0 b1 bd:Nat}{ng:Bool}(hs:s.size<=65536)(d0:b0≠b1)(d1:b0≠bd)(d2:b1≠bd):∀(n i:Nat) (h:ab),WF h ->
  LB h b0 [.bool false,bF] aD->LB h b1 [.bool ng,aM ⟨some ⟨bd,0,none⟩,s.size,s.size+1⟩] aD->LB h bd (rdC s i) gH->i<=s.size->s.size-i<n ->
  Wp (iL n (ai b0) (ai b1) s s.size i) h λx h'=>Fr (λg=>g=b0+1\/g=bd+1) h h' /\
   (if (s.data.toList.drop i).all uX=true then x=.inl ()/\LB h' b0 [.bool false,bF] aD/\LB h' b1 [.bool ng,aM ⟨some ⟨bd,0,none⟩,s.size,s.size+1⟩] aD/\LB h' bd ((yA s).reverse.map v8) gH
    else x=.inr false/\LB h' b0 [.bool false,bF] aD)
 |0,_,_,_,_,_,_,_,hn=>by omega
 |n+1,i,h,hw,l0,l1,ld,hi,hn=>by
  rw[zn];unfold qy;simp only[ag,pI,ql,qn,qo,qm,fA,fH,af,mu,adj,Nat.reduceAdd,aai,exists_eq_left',OF];split
  .rename_i h1;have h1':i<s.size:=by omega
   have hc:s.data.toList[i]?=some s.data.toList[i]:=aah (by rwa [jl]);generalize s.data.toList[i]=c at hc;have hdg:(yA s)[i]?=some (Yo c):=by unfold yA;rw[aal,hc];rfl
   have hdl:=rh s;have had:=Yp hc;rw[Vg] at had;simp only[ag,pI,ql,qn,qo,qm,fA,fH,af,mu,adj,Nat.reduceAdd,aai,exists_eq_left',OF,yc,aab,hc,akv,ahP];have bad:Wp (bD (ai b0) [Value.bool false,bF]) h λ_ h'=>Fr (λg=>g=b0+1\/g=bd+1) h h'/\LB h' b0 [.bool false,bF] aD:=
    l0.st hw (by simp) (by rfl) λh' l0' f=>⟨f.mono hw λg hg _=>.inl (.inl hg),l0'⟩
   split
   .rename_i h2;have hb:(s.data.toList.drop i).all uX=false:=(by rw[had];simp;intro h3;omega);simp only[ag,af];refine bad.mono λ_ h' hx=>?_
    grind
   .rename_i h2;simp only[ag,pI,ql,qn,qo,qm,fA,fH,af,mu,adj,Nat.reduceAdd,aai,exists_eq_left',OF,yc,aab,hc,akv,ahP];split
    .rename_i h3;have hb:(s.data.toList.drop i).all uX=false:=(by rw[had];simp;intro h3;omega);simp only[ag,af];refine bad.mono λ_ h' hx=>?_
     grind
    .rename_i h3;unfold nY;have e1:IntKind.i64.wrap (IntKind.i64.wrap ((s.size:Int)-1)-i)=(s.size-1-i:Nat):=by
      rw[tA (x:=(s.size:Int)-1) (by omega) (by omega),tA (by omega) (by omega)];omega
     have e2:IntKind.i64.wrap ((i:Int)+1)=(i+1:Nat):=(by rw[tA (by omega) (by omega)];omega);have hl:h.ldV b1 1=some ⟨some ⟨bd,0,none⟩,s.size,s.size+1⟩:=l1.ld (lf:=.sl) (v:=aM ⟨some ⟨bd,0,none⟩,s.size,s.size+1⟩) rfl rfl;simp only[ag,pI,ql,qn,qo,qm,fA,fH,af,mu,adj,Nat.reduceAdd,aai,exists_eq_left',OF,yc,aab,hc,akv,ahP,hl,Ad,e1,e2,adp];refine⟨by omega,?_⟩;refine ld.st hw (by simp;omega) (by rfl) λh' ld' f=>?_;rw[RM (by simp;omega)] at ld';rw[show (Value.int .u8 (IntKind.u8.wrap ((c.toNat:Int)-48)))=v8 (Yo c) from rfl,<-ajV,show s.size-1-i=(yA s).length-1-i by omega,Vh hdg] at ld';have ih:=EA hs d0 d1 d2 n (i+1) h' f.wf (l0.fr f (by omega)) (l1.fr f (by omega)) ld' h1' (by omega);refine ih.mono λx h2 hx=>?_;obtain⟨f2,hx⟩:=hx;refine⟨(f.mono hw λg hg _=>.inl (.inr hg)).trans hw f2 λg hg _=>.inl hg,?_⟩
     grind
  .rename_i h1;rw[af,aaf (by rw[jl];omega)];refine⟨Fr.refl hw,?_⟩;simp only[List.all_nil,ai8];have hie:i=s.size:=by omega
   rw[hie,rdC,rh,ai5,<-rh s,ajP] at ld;exact⟨by trivial,l0,l1,by simpa using ld⟩
theorem Yq {n:Nat}{v:ξ}:(List.replicate n [v]).flatten=List.replicate n v:=by
 simp_all
def NR (h h':ab)(ng:Bool)(s:ζ)(x:Bool×Sl):Prop:=x.1=ng/\∃bd c,h.next<=bd/\x.2=⟨some ⟨bd,0,none⟩,Ez (yA s).reverse s.size,c⟩/\LB h' bd ((yA s).reverse.map v8) gH
theorem Vi {s:ζ}{b0 b1:Nat}{ng:Bool}{n:Nat}{h:ab}(hs:s.size<=65536)(hn:s.size+1<n)(hw:WF h)(d0:b0≠b1)(l0:LB h b0 [.bool false,bF] aD)(l1:LB h b1 [.bool ng,bF] aD) :
  Wp (jZ n (ai b0) (ai b1) s) h λx h'=>x.2=s.data.toList.all uX/\Fr (λg=>g=b0+1\/g=b1+1) h h'/\(x.2=true->NR h h' ng s x.1):=by
 unfold jZ;rw[ag];refine Jy (by omega) (by omega) (by unfold cT;omega) ?_;simp only[aab,Yq];have k0:=l0.lt hw;have k1:=l1.lt hw;have f1:=Fr.new (e:=gH) (cs:=List.replicate s.size (.int .u8 0)) hw;have ld:=LB.new (h:=h) (e:=gH) (cs:=List.replicate s.size (.int .u8 0));have l0:=l0.fr f1 (λhx=>hx);have l1:=l1.fr f1 (λhx=>hx);generalize h.new gH (List.replicate s.size (.int .u8 0))=h1 at *
 generalize hbd:h.next=bd at *
 simp only[ag,pI,ql,qn,qo,qm,fA,fH,af,mu,adj,Nat.reduceAdd,aai,exists_eq_left',OF];refine l1.st f1.wf (by simp) rfl λh2 l1 f2=>?_;have ld:LB h1 bd (rdC s 0) gH:=by
  rw[rdC,rh];simpa using ld
 refine (EA (ng:=ng) hs d0 (by omega) (by omega) n 0 h2 f2.wf (l0.fr f2 (by omega)) l1 (ld.fr f2 (by omega)) (by omega) (by omega)).mono λx h3 hx=>?_;obtain⟨f3,hx⟩:=hx;have f03:Fr (λg=>g=b0+1\/g=b1+1) h h3:=by
  have a1:Fr (λg=>g=b0+1\/g=b1+1) h h1:=f1.mono hw (λ_ hx _=>hx.elim);have a2:=a1.fresh hw f2 (λg hg=>.inl (.inr hg));refine a2.fresh hw f3 λg hg=>?_
  grind
 simp only[ahZ] at hx;split at hx
 .rename_i hall;obtain⟨rfl,l0,l1,ld'⟩:=hx;have hl:h3.ldV b1 1=some ⟨some ⟨bd,0,none⟩,s.size,s.size+1⟩:=l1.ld (lf:=.sl) (v:=aM ⟨some ⟨bd,0,none⟩,s.size,s.size+1⟩) rfl rfl;simp only[bu,ag,pI,ql,qn,qo,qm,fA,fH,af,mu,adj,Nat.reduceAdd,aai,exists_eq_left',OF,hl];unfold xJ;simp only[ag,pI,ql,qn,qo,qm,fA,fH,af,mu,adj,Nat.reduceAdd,aai,exists_eq_left',OF];refine (Sk (by rw[ajS,rh];omega) n s.size h3 f3.wf ld' (by rw[ajS,rh];omega) (by omega)).mono λx h4 hx=>?_;obtain⟨rfl,rfl⟩:=hx;generalize hk:Ez (yA s).reverse s.size=k';refine l1.st f3.wf (by simp[bh]) rfl λh5 l1 f5=>?_;refine Ci.2 ⟨(ng,⟨some ⟨bd,0,none⟩,k',s.size+1⟩),l1.fG (by simp[bh]) rfl,?_⟩;refine (l0.fr f5 (by omega)).st f5.wf (by simp) rfl λh6 l0 f6=>?_;refine Ci.2 ⟨(ng,⟨some ⟨bd,0,none⟩,k',s.size+1⟩),l0.fG (by simp[bh]) rfl,?_⟩;refine⟨hall.symm,(f03.fresh hw f5 λg hg=>?_).fresh hw f6 λg hg=>?_,λ_=>⟨rfl,bd,s.size+1,by omega,by rw[hk],?_⟩⟩
  .exact .inl (.inr hg)
  .exact .inl (.inl hg)
  .exact (ld'.fr f5 (by omega)).fr f6 (by omega)
 .rename_i hall;obtain⟨rfl,l0⟩:=hx;simp only[bu,ag,pI,ql,qn,qo,qm,fA,fH,af,mu,adj,Nat.reduceAdd,aai,exists_eq_left',OF];refine Ci.2 ⟨(false,uV),l0.fG (by simp) rfl,?_⟩
  grind
def Sn (m:Nat)(T:List UInt8):Bool:=decide (T.length≠0/\T.length<=400/\¬(T.head?=some 48/\1<m))&&T.all uX
theorem Vj {s t:ζ}{b0 b1:Nat}{ng:Bool}{n:Nat}{h:ab}(hs:t.size<=65536)(hn:t.size+1<n)(hw:WF h)(d0:b0≠b1)(l0:LB h b0 [.bool false,bF] aD)(l1:LB h b1 [.bool ng,bF] aD) :
  Wp (iM n s (ai b0) (ai b1) t) h λx h'=>x.2=Sn s.size t.data.toList/\Fr (λg=>g=b0+1\/g=b1+1) h h'/\(x.2=true->NR h h' ng t x.1):=by
 unfold iM;have bad:Sn s.size t.data.toList=false->Wp (sh (bD (ai b0) [Value.bool false,bF]) λx0=>sh (aE [.bool,.sl] (ai b0)) λ(x1:Bool×Sl)=>AI ((x1.1,x1.2),false)) h λx h'=>x.2=Sn s.size t.data.toList/\Fr (λg=>g=b0+1\/g=b1+1) h h'/\(x.2=true->NR h h' ng t x.1):=by
  intro hb;simp only[ag,pI,ql,qn,qo,qm,fA,fH,af,mu,adj,Nat.reduceAdd,aai,exists_eq_left',OF];refine l0.st hw (by simp) rfl λh5 l0 f5=>?_;refine Ci.2 ⟨(false,uV),l0.fG (by simp[bh]) rfl,?_⟩;exact⟨hb.symm,f5.mono hw λg hg _=>.inl (.inl hg),λe=>by cases e⟩
 have good:Sn s.size t.data.toList=t.data.toList.all uX->Wp (jZ n (ai b0) (ai b1) t) h λx h'=>x.2=Sn s.size t.data.toList/\Fr (λg=>g=b0+1\/g=b1+1) h h'/\(x.2=true->NR h h' ng t x.1):=by
  intro hg;rw[hg];exact Vi hs hn hw d0 l0 l1
 have hl:t.data.toList.length=t.size:=jl t;simp only[OF];split
 .rename_i h1;have hz:t.size=0:=by omega
  exact bad (by unfold Sn;simp[hl,hz])
 .rename_i h1;have hz:t.size≠0:=by omega
  split
  .rename_i h2;have hz4:¬t.size<=400:=by omega
   exact bad (by unfold Sn;simp[hl,hz4])
  .rename_i h2;have hz4:t.size<=400:=by omega
   have hc:t.data.toList[0]?=some t.data.toList[0]:=aah (by omega);generalize t.data.toList[0]=c at hc;have hh:t.data.toList.head?=some c:=by rw[aj3];exact hc
   have hcc:((c.toNat:Int)=48)↔c=48:=by
    rw[<-akh];simp;omega
   rw[ag,fA];refine⟨c,by omega,by rw[yc];exact hc,?_⟩;by_cases h3:c=48
   .rw[By (hcc.2 h3)];split
    .rename_i h4;exact bad (by unfold Sn;rw[hh,h3];simp;intro _ _ hm;omega)
    .rename_i h4;exact good (by unfold Sn;rw[hh,h3];simp[hl,hz,hz4];intro _;omega)
   .rw[AT (λe=>h3 (hcc.1 e))];exact good (by unfold Sn;rw[hh];simp[hl,hz,hz4,h3])
theorem tS {s:ζ}{h:ab}{n:Nat}(hs:s.size<=65536)(hn:s.size+1<n)(hw:WF h):Wp (oD n s) h λx h'=>x.2=oQ s/\Fr (λ_=>False) h h'/\(x.2=true->NR h h' (yW s).1 (yW s).2 x.1):=by
 unfold oD;simp only[ag,pI,ql,qn,qo,qm,fA,fH,af,mu,adj,Nat.reduceAdd,aai,exists_eq_left',OF,Bi];refine⟨rfl,rfl,?_⟩;have f1:=Fr.new (e:=aD) (cs:=[.bool false,bF]) hw;have l0:=LB.new (h:=h) (e:=aD) (cs:=[.bool false,bF]);have nx:(h.new aD [.bool false,bF]).next=h.next+1:=rfl
 generalize h.new aD [.bool false,bF]=h1 at *
 have f2:=Fr.new (e:=aD) (cs:=[.bool false,bF]) f1.wf;have l1:=LB.new (h:=h1) (e:=aD) (cs:=[.bool false,bF]);have l0':=l0.fr f2 (by simp);have f3:=f1.fresh hw f2 (by simp);rw[nx] at *
 generalize h1.new aD [.bool false,bF]=h2 at *
 refine l1.st f3.wf (by simp) rfl λh4 l1' f4=>?_;have l0'':=l0'.fr f4 (by simp);have f5:=f3.fresh hw f4 (λg hg=>.inr (by omega));have J0:∀{t:ζ} {ng:Bool} {h5:ab},t.size<=s.size->LB h5 h.next [.bool false,bF] aD->LB h5 (h.next+1) [.bool ng,bF] aD->Fr (λ_=>False) h h5->Sn s.size t.data.toList=oQ s->yW s=(ng,t) ->
   Wp (iM n s (ai h.next) (ai (h.next+1)) t) h5 λx h'=>x.2=oQ s/\Fr (λ_=>False) h h'/\(x.2=true->NR h h' (yW s).1 (yW s).2 x.1):=by
  intro t ng h5 ht a0 a1 fa he hN;refine (Vj (by omega) (by omega) fa.wf (by omega) a0 a1).mono λx h' hx=>?_;rw[hN];refine⟨hx.1.trans he,fa.fresh hw hx.2.1 λg hg=>.inr (by omega),λe=>?_⟩;obtain⟨r1,bd,c,r2,r3⟩:=hx.2.2 e;have:=fa.next
  exact⟨r1,bd,c,by omega,r3⟩
 have hl:s.data.toList.length=s.size:=jl s;split
 .rename_i h1;have h1':1<s.size:=by omega
  have hc:s.data.toList[0]?=some s.data.toList[0]:=aah (by omega);generalize s.data.toList[0]=c at hc;have hh:s.data.toList.head?=some c:=by rw[aj3];exact hc
  have hcc:((c.toNat:Int)=45)↔c=45:=by
   rw[<-akh];simp;omega
  rw[ag,fA];refine⟨c,by omega,by rw[yc];exact hc,?_⟩;split
  .rename_i h3;have h3':=hcc.1 h3;simp only[ag,pI,ql,qn,qo,qm,fA,fH,af,mu,adj,Nat.reduceAdd,aai,exists_eq_left',OF];refine l1'.st f5.wf (by simp[bh]) rfl λh6 l1 f6=>?_;refine⟨by omega,by omega,by omega,?_⟩;refine J0 (ng:=true) ?_ (l0''.fr f6 (by simp)) l1 (f5.fresh hw f6 λg hg=>.inr (by omega)) ?_ ?_
   .rw[<-jl,Sj];simp
   .have:(s.extract (1:Int).toNat (s.size:Int).toNat).data.toList=s.data.toList.tail:=by
     rw[Sj,aab];show (s.data.toList.drop 1).take (s.size-1)=_;rw[List.drop_one,agw (by simp[hl])]
    rw[this];unfold oQ Sn;simp only[hl,h1',hh,h3',ahP,ai8]
   .unfold yW;rw[By ⟨h1',by rw[hh,h3']⟩];rfl
  .rename_i h3;have h3':¬c=45:=λe=>h3 (hcc.2 e);refine J0 (ng:=false) (aae _) l0'' l1' f5 ?_ ?_
   .unfold oQ Sn
    grind
   .unfold yW
    grind
 .rename_i h1;have h1':¬1<s.size:=by omega
  refine J0 (ng:=false) (aae _) l0'' l1' f5 ?_ ?_
  .unfold oQ Sn;simp only[hl,h1',false_and,afy]
  .unfold yW;rw[AT (λe=>h1' e.1)]
theorem xb {s:ζ}{h:ab}{n:Nat}(hs:s.size<=65536)(hn:s.size+1<n)(hw:WF h):Wp (o9 n s) h λx h'=>x=oQ s/\Fr (λ_=>False) h h':=by
 unfold o9;refine Wp.seq (tS hs hn hw) λx h1 hx=>?_;obtain⟨e1,f1,-⟩:=hx;simp only[ag,pI,ql,qn,qo,qm,fA,fH,af,mu,adj,Nat.reduceAdd,aai,exists_eq_left',OF,Bi];refine⟨rfl,?_⟩;have f2:=Fr.new (e:=aD) (cs:=[.bool false,bF]) f1.wf;have l1:=LB.new (h:=h1) (e:=aD) (cs:=[.bool false,bF]);refine l1.st f2.wf (by simp) rfl λh4 l1' f4=>?_;refine⟨e1,(f1.fresh hw f2 (by simp)).fresh hw f4 λg hg=>.inr ?_⟩;have:=f1.next;omega
end Go.Sh
