
import Derived.Test.YtajnpfnomgjlaaaGreatDoorBa
set_option linter.all false
namespace Go.Sh
open Go Go.Ago
abbrev v8 (x:Int):ξ:=.int .u8 x
def XS (b:UInt8):Int:=IntKind.u8.wrap ((b.toNat:Int)-48)
def yH (s:ζ):ε:=s.data.toList.map XS
def Er (D:ε):Nat->Nat
 |0=>0
 |k+1=>if D[k]?=some 0 then Er D k else k+1
theorem GZ D:∀k,Er D k<=k
 |0=>abi _
 |k+1=>by
  unfold Er;split
  .have:=GZ D k;omega
  .exact abi _
def y7 (s:ζ):Bool×ζ:=if 1<s.size/\s.data.toList.head?=some 45 then (true,s.extract 1 s.size) else (false,s)
def H4 (t:ζ):ε:=((yH t).reverse).take (Er (yH t).reverse t.size)
theorem Rc {D bd c}(hsz:D.length<=65536):∀n k h ,WF h->LB h bd (D.map v8) jT->k<=D.length->k<n ->
  Wp (gu n ⟨some ⟨bd,0,none⟩,k,c⟩) h λx h'=>h'=h/\x=⟨some ⟨bd,0,none⟩,Er D k,c⟩
 |0,_,_,_,_,_,hn=>by omega
 |n+1,k,h,hw,l,hk,hn=>by
  rw[zu];unfold mJ;simp only[ah,qP,rQ,rS,rT,rR,jW,gM,ag,oO,aea,Nat.reduceAdd,adA,exists_eq_left',acu];split
  .rename_i h1;have hk0:0<k:=by omega
   have e1:IntKind.i64.wrap ((k:Int)-1)=(k-1:Nat):=by grind [xG]
   simp only[ah,qP,rQ,rS,rT,rR,jW,gM,ag,oO,aea,Nat.reduceAdd,adA,exists_eq_left',acu,xW,e1,exists_eq_left',aa1,ae1];obtain⟨k,rfl⟩:∃k',k=k'+1:=⟨k-1,by omega⟩;obtain⟨d,hd⟩:∃d,D[k]?=some d:=⟨D[k],ace (by omega)⟩;have hdv:(D.map v8)[k+1-1]?=some (v8 d):=by grind
   refine⟨by omega,by omega,d,l.ld hdv rfl,?_⟩;rw[Er,hd];split
   .rename_i hz;have hz:d=0:=(by simpa using hz);rw[By (by rw[hz]),ah];refine rn (by omega) (by omega) (by grind) ?_ ?_
    .unfold kc;simp only[l.get];simp[ahX]
    .have e2:(⟨Option.map (λx=>x.plus ((0:Int).toNat*1)) (some (⟨bd,0,none⟩:Addr)),((k+1-1:Nat):Int).toNat-(0:Int).toNat,c-(if c=0 then 0 else (0:Int).toNat)⟩:Sl)=⟨some ⟨bd,0,none⟩,k,c⟩:=by
      simp[oO]
     show Wp (gu n ⟨_,_,_⟩) h _;rw[e2];exact Rc hsz n k h hw l (by omega) (by omega)
   .rename_i hz;have hz:¬d=0:=(by simpa using hz);rw[AT (λe=>hz (adP e)),ag];exact⟨rfl,rfl⟩
  .have hk0:k=0:=by omega
   subst hk0;rw[ag];exact⟨rfl,rfl⟩
theorem XT {L:List UInt8}{i c}(hc:L[i]?=some c):(L.drop i).all xm=(xm c&&(L.drop (i+1)).all xm):=by
 grind [List.getElem?_eq_some_iff,List.drop_eq_getElem_cons]
theorem Uk {γ:Type}{D:List γ}{z d i}(hd:D[i]?=some d):(List.replicate (D.length-i) z++(D.take i).reverse).set (D.length-1-i) d=List.replicate (D.length-(i+1)) z++(D.take (i+1)).reverse:=by
 have hlt:=(List.getElem?_eq_some_iff.1 hd).1;obtain⟨m,hm⟩:∃m,D.length-i=m+1:=⟨D.length-i-1,by omega⟩;rw[hm,ajt,agm,show D.length-1-i=m by omega,ah9 _ _ (by simp),adV,aio,aj0,ahZ,aj1,hd,show D.length-(i+1)=m by omega];simp
abbrev rdC (s:ζ)(i:Nat):δ:=(List.replicate ((yH s).length-i) 0++((yH s).take i).reverse).map v8
theorem sL s:(yH s).length=s.size:=by grind [yH,List.length_map,kW]
theorem Es {s b0 b1 bd ng}(hs:s.size<=65536)(d0:b0≠b1)(d1:b0≠bd)(d2:b1≠bd):∀n i h ,WF h ->
  LB h b0 [.bool false,aO] aJ->LB h b1 [.bool ng,aI ⟨some ⟨bd,0,none⟩,s.size,s.size+1⟩] aJ->LB h bd (rdC s i) jT->i<=s.size->s.size-i<n ->
  Wp (gw n (al b0) (al b1) s s.size i) h λx h'=>Fr (λg=>g=b0+1\/g=bd+1) h h' /\
   (if (s.data.toList.drop i).all xm=true then x=.inl ()/\LB h' b0 [.bool false,aO] aJ/\LB h' b1 [.bool ng,aI ⟨some ⟨bd,0,none⟩,s.size,s.size+1⟩] aJ/\LB h' bd ((yH s).reverse.map v8) jT
    else x=.inr false/\LB h' b0 [.bool false,aO] aJ)
 |0,_,_,_,_,_,_,_,hn=>by omega
 |n+1,i,h,hw,l0,l1,ld,hi,hn=>by
  rw[zH];unfold mT;simp only[ah,qP,rQ,rS,rT,rR,jW,gM,ag,oO,aea,Nat.reduceAdd,adA,exists_eq_left',acu];split
  .rename_i h1;have h1':i<s.size:=by omega
   have hc:s.data.toList[i]?=some s.data.toList[i]:=ace (by rwa [kW]);generalize s.data.toList[i]=c at hc;have hdg:(yH s)[i]?=some (XS c):=by grind [yH]
   have hdl:=sL s;have had:=XT hc;rw[Uj] at had;simp only[ah,qP,rQ,rS,rT,rR,jW,gM,ag,oO,aea,Nat.reduceAdd,adA,exists_eq_left',acu,BM,aa1,hc,ah0,aim];have bad:Wp (bh (al b0) [Value.bool false,aO]) h λ_ h'=>Fr (λg=>g=b0+1\/g=bd+1) h h'/\LB h' b0 [.bool false,aO] aJ:=
    l0.st hw (by simp) (by rfl) λh' l0' f=>⟨f.mono hw λg hg _=>.inl (.inl hg),l0'⟩
   split
   .rename_i h2;have hb:(s.data.toList.drop i).all xm=false:=(by grind);simp only[ah,ag];refine bad.mono λ_ h' hx=>?_
    grind
   .rename_i h2;simp only[ah,qP,rQ,rS,rT,rR,jW,gM,ag,oO,aea,Nat.reduceAdd,adA,exists_eq_left',acu,BM,aa1,hc,ah0,aim];split
    .rename_i h3;have hb:(s.data.toList.drop i).all xm=false:=(by grind);simp only[ah,ag];refine bad.mono λ_ h' hx=>?_
     grind
    .rename_i h3;unfold mS;have e1:IntKind.i64.wrap (IntKind.i64.wrap ((s.size:Int)-1)-i)=(s.size-1-i:Nat):=by
      grind [xG]
     have e2:IntKind.i64.wrap ((i:Int)+1)=(i+1:Nat):=(by grind [xG]);have hl:h.ldV b1 1=some ⟨some ⟨bd,0,none⟩,s.size,s.size+1⟩:=l1.ld rfl rfl;simp only[ah,qP,rQ,rS,rT,rR,jW,gM,ag,oO,aea,Nat.reduceAdd,adA,exists_eq_left',acu,BM,aa1,hc,ah0,aim,hl,xW,e1,e2,ae1];refine⟨by omega,?_⟩;refine ld.st hw (by simp;omega) (by rfl) λh' ld' f=>?_;rw[QN (by simp;omega)] at ld';rw[show (Value.int .u8 (IntKind.u8.wrap ((c.toNat:Int)-48)))=v8 (XS c) from rfl,<-ajs,show s.size-1-i=(yH s).length-1-i by omega,Uk hdg] at ld';have ih:=Es hs d0 d1 d2 n (i+1) h' f.wf (l0.fr f (by omega)) (l1.fr f (by omega)) ld' h1' (by omega);refine ih.mono λx h2 hx=>?_;obtain⟨f2,hx⟩:=hx;refine⟨(f.mono hw λg hg _=>.inl (.inr hg)).trans hw f2 λg hg _=>.inl hg,?_⟩
     grind
  .rename_i h1;rw[ag,abZ (by rw[kW];omega)];refine⟨Fr.refl hw,?_⟩;simp only[List.all_nil,aiG];have hie:i=s.size:=by omega
   rw[hie,rdC,sL,aio,<-sL s,aiJ] at ld
   grind
theorem XU {n}{v:ξ}:(List.replicate n [v]).flatten=List.replicate n v:=by
 simp_all
def Nt (h h':ai)(ng:Bool)(s:ζ)(x:Bool×Sl):Prop:=x.1=ng/\∃bd c,h.next<=bd/\x.2=⟨some ⟨bd,0,none⟩,Er (yH s).reverse s.size,c⟩/\LB h' bd ((yH s).reverse.map v8) jT
theorem Ul {s b0 b1 ng n h}(hs:s.size<=65536)(hn:s.size+1<n)(hw:WF h)(d0:b0≠b1)(l0:LB h b0 [.bool false,aO] aJ)(l1:LB h b1 [.bool ng,aO] aJ) :
  Wp (iT n (al b0) (al b1) s) h λx h'=>x.2=s.data.toList.all xm/\Fr (λg=>g=b0+1\/g=b1+1) h h'/\(x.2=true->Nt h h' ng s x.1):=by
 unfold iT;rw[ah];refine Jf (by omega) (by omega) (by unfold cF;omega) ?_;simp only[aa1,XU];have k0:=l0.lt hw;have k1:=l1.lt hw;have f1:=Fr.new (e:=jT) (cs:=List.replicate s.size (.int .u8 0)) hw;have ld:=LB.new (h:=h) (e:=jT) (cs:=List.replicate s.size (.int .u8 0));have l0:=l0.fr f1 (λhx=>hx);have l1:=l1.fr f1 (λhx=>hx);generalize h.new jT (List.replicate s.size (.int .u8 0))=h1 at *
 generalize hbd:h.next=bd at *
 simp only[ah,qP,rQ,rS,rT,rR,jW,gM,ag,oO,aea,Nat.reduceAdd,adA,exists_eq_left',acu];refine l1.st f1.wf (by simp) rfl λh2 l1 f2=>?_;have ld:LB h1 bd (rdC s 0) jT:=by
  rw[rdC,sL];simpa using ld
 refine (Es hs d0 (by omega) (by omega) n 0 h2 f2.wf (l0.fr f2 (by omega)) l1 (ld.fr f2 (by omega)) (by omega) (by omega)).mono λx h3 hx=>?_;obtain⟨f3,hx⟩:=hx;have f03:Fr (λg=>g=b0+1\/g=b1+1) h h3:=by
  have a1:Fr (λg=>g=b0+1\/g=b1+1) h h1:=f1.mono hw (λ_ hx _=>hx.elim);have a2:=a1.fresh hw f2 (λg hg=>.inl (.inr hg));refine a2.fresh hw f3 λg hg=>?_
  grind
 simp only[ahx] at hx;split at hx
 .rename_i hall;obtain⟨rfl,l0,l1,ld'⟩:=hx;have hl:h3.ldV b1 1=some ⟨some ⟨bd,0,none⟩,s.size,s.size+1⟩:=l1.ld rfl rfl;simp only[cz,ah,qP,rQ,rS,rT,rR,jW,gM,ag,oO,aea,Nat.reduceAdd,adA,exists_eq_left',acu,hl];unfold rW;simp only[ah,qP,rQ,rS,rT,rR,jW,gM,ag,oO,aea,Nat.reduceAdd,adA,exists_eq_left',acu];refine (Rc (by rw[aiR,sL];omega) n s.size h3 f3.wf ld' (by rw[aiR,sL];omega) (by omega)).mono λx h4 hx=>?_;obtain⟨rfl,rfl⟩:=hx;generalize hk:Er (yH s).reverse s.size=k';refine l1.st f3.wf (by simp[aU]) rfl λh5 l1 f5=>?_;refine Ci.2 ⟨(ng,⟨some ⟨bd,0,none⟩,k',s.size+1⟩),l1.iN (by simp[aU]) rfl,?_⟩;refine (l0.fr f5 (by omega)).st f5.wf (by simp) rfl λh6 l0 f6=>?_;refine Ci.2 ⟨(ng,⟨some ⟨bd,0,none⟩,k',s.size+1⟩),l0.iN (by simp[aU]) rfl,?_⟩;refine⟨hall.symm,(f03.fresh hw f5 λg hg=>?_).fresh hw f6 λg hg=>?_,λ_=>⟨rfl,bd,s.size+1,by omega,by rw[hk],?_⟩⟩
  .exact .inl (.inr hg)
  .exact .inl (.inl hg)
  .exact (ld'.fr f5 (by omega)).fr f6 (by omega)
 .rename_i hall;obtain⟨rfl,l0⟩:=hx;simp only[cz,ah,qP,rQ,rS,rT,rR,jW,gM,ag,oO,aea,Nat.reduceAdd,adA,exists_eq_left',acu];refine Ci.2 ⟨(false,qQ),l0.iN (by simp) rfl,?_⟩
  grind
def Rd (m:Nat)(T:List UInt8):Bool:=decide (T.length≠0/\T.length<=400/\¬(T.head?=some 48/\1<m))&&T.all xm
theorem Um {s t b0 b1 ng n h}(hs:t.size<=65536)(hn:t.size+1<n)(hw:WF h)(d0:b0≠b1)(l0:LB h b0 [.bool false,aO] aJ)(l1:LB h b1 [.bool ng,aO] aJ) :
  Wp (gC n s (al b0) (al b1) t) h λx h'=>x.2=Rd s.size t.data.toList/\Fr (λg=>g=b0+1\/g=b1+1) h h'/\(x.2=true->Nt h h' ng t x.1):=by
 unfold gC;have bad:Rd s.size t.data.toList=false->Wp (sh (bh (al b0) [Value.bool false,aO]) λx0=>sh (aE [.bool,.sl] (al b0)) λ(x1:Bool×Sl)=>AI ((x1.1,x1.2),false)) h λx h'=>x.2=Rd s.size t.data.toList/\Fr (λg=>g=b0+1\/g=b1+1) h h'/\(x.2=true->Nt h h' ng t x.1):=by
  intro hb;simp only[ah,qP,rQ,rS,rT,rR,jW,gM,ag,oO,aea,Nat.reduceAdd,adA,exists_eq_left',acu];refine l0.st hw (by simp) rfl λh5 l0 f5=>?_;refine Ci.2 ⟨(false,qQ),l0.iN (by simp[aU]) rfl,?_⟩;exact⟨hb.symm,f5.mono hw λg hg _=>.inl (.inl hg),λe=>by cases e⟩
 have good:Rd s.size t.data.toList=t.data.toList.all xm->Wp (iT n (al b0) (al b1) t) h λx h'=>x.2=Rd s.size t.data.toList/\Fr (λg=>g=b0+1\/g=b1+1) h h'/\(x.2=true->Nt h h' ng t x.1):=by
  intro hg;rw[hg];exact Ul hs hn hw d0 l0 l1
 have hl:t.data.toList.length=t.size:=kW t;simp only[acu];split
 .rename_i h1;have hz:t.size=0:=by omega
  exact bad (by unfold Rd;simp[hl,hz])
 .rename_i h1;have hz:t.size≠0:=by omega
  split
  .rename_i h2;have hz4:¬t.size<=400:=by omega
   exact bad (by grind [Rd])
  .rename_i h2;have hz4:t.size<=400:=by omega
   have hc:t.data.toList[0]?=some t.data.toList[0]:=ace (by omega);generalize t.data.toList[0]=c at hc;have hh:t.data.toList.head?=some c:=by grind [List.head?_eq_getElem?]
   have hcc:((c.toNat:Int)=48)↔c=48:=by
    rw[<-ajR];simp;omega
   rw[ah,jW];refine⟨c,by omega,by rw[BM];exact hc,?_⟩;by_cases h3:c=48
   .rw[By (hcc.2 h3)];split
    .rename_i h4;exact bad (by grind [Rd])
    .rename_i h4;exact good (by grind [Rd])
   .rw[AT (λe=>h3 (hcc.1 e))];exact good (by grind [Rd])
theorem uS {s h n}(hs:s.size<=65536)(hn:s.size+1<n)(hw:WF h):Wp (mU n s) h λx h'=>x.2=tk s/\Fr (λ_=>False) h h'/\(x.2=true->Nt h h' (y7 s).1 (y7 s).2 x.1):=by
 unfold mU;simp only[ah,qP,rQ,rS,rT,rR,jW,gM,ag,oO,aea,Nat.reduceAdd,adA,exists_eq_left',acu,Gt];refine⟨rfl,rfl,?_⟩;have f1:=Fr.new (e:=aJ) (cs:=[.bool false,aO]) hw;have l0:=LB.new (h:=h) (e:=aJ) (cs:=[.bool false,aO]);have nx:(h.new aJ [.bool false,aO]).next=h.next+1:=rfl
 generalize h.new aJ [.bool false,aO]=h1 at *
 have f2:=Fr.new (e:=aJ) (cs:=[.bool false,aO]) f1.wf;have l1:=LB.new (h:=h1) (e:=aJ) (cs:=[.bool false,aO]);have l0':=l0.fr f2 (by simp);have f3:=f1.fresh hw f2 (by simp);rw[nx] at *
 generalize h1.new aJ [.bool false,aO]=h2 at *
 refine l1.st f3.wf (by simp) rfl λh4 l1' f4=>?_;have l0'':=l0'.fr f4 (by simp);have f5:=f3.fresh hw f4 (λg hg=>.inr (by omega));have J0:∀{t:ζ} {ng:Bool} {h5:ai},t.size<=s.size->LB h5 h.next [.bool false,aO] aJ->LB h5 (h.next+1) [.bool ng,aO] aJ->Fr (λ_=>False) h h5->Rd s.size t.data.toList=tk s->y7 s=(ng,t) ->
   Wp (gC n s (al h.next) (al (h.next+1)) t) h5 λx h'=>x.2=tk s/\Fr (λ_=>False) h h'/\(x.2=true->Nt h h' (y7 s).1 (y7 s).2 x.1):=by
  intro t ng h5 ht a0 a1 fa he hN;refine (Um (by omega) (by omega) fa.wf (by omega) a0 a1).mono λx h' hx=>?_;rw[hN];refine⟨hx.1.trans he,fa.fresh hw hx.2.1 λg hg=>.inr (by omega),λe=>?_⟩;obtain⟨r1,bd,c,r2,r3⟩:=hx.2.2 e;have:=fa.next
  exact⟨r1,bd,c,by omega,r3⟩
 have hl:s.data.toList.length=s.size:=kW s;split
 .rename_i h1;have h1':1<s.size:=by omega
  have hc:s.data.toList[0]?=some s.data.toList[0]:=ace (by omega);generalize s.data.toList[0]=c at hc;have hh:s.data.toList.head?=some c:=by grind [List.head?_eq_getElem?]
  have hcc:((c.toNat:Int)=45)↔c=45:=by
   rw[<-ajR];simp;omega
  rw[ah,jW];refine⟨c,by omega,by rw[BM];exact hc,?_⟩;split
  .rename_i h3;have h3':=hcc.1 h3;simp only[ah,qP,rQ,rS,rT,rR,jW,gM,ag,oO,aea,Nat.reduceAdd,adA,exists_eq_left',acu];refine l1'.st f5.wf (by simp[aU]) rfl λh6 l1 f6=>?_;refine⟨by omega,by omega,by omega,?_⟩;refine J0 ?_ (l0''.fr f6 (by simp)) l1 (f5.fresh hw f6 λg hg=>.inr (by omega)) ?_ ?_
   .grind [kW,Rb]
   .have:(s.extract (1:Int).toNat (s.size:Int).toNat).data.toList=s.data.toList.tail:=by
     grind [Rb,Int.toNat_natCast,List.drop_one,List.take_of_length_le]
    rw[this];unfold tk Rd;simp[hl,h1',hh,h3',aim,aiG]
   .unfold y7
    grind
  .rename_i h3;have h3':¬c=45:=λe=>h3 (hcc.2 e);refine J0 (abi _) l0'' l1' f5 ?_ ?_
   .unfold tk Rd
    grind
   grind [y7]
 .rename_i h1;have h1':¬1<s.size:=by omega
  refine J0 (abi _) l0'' l1' f5 ?_ ?_
  .unfold tk Rd
   grind
  .unfold y7
   grind
theorem xz {s h n}(hs:s.size<=65536)(hn:s.size+1<n)(hw:WF h):Wp (nA n s) h λx h'=>x=tk s/\Fr (λ_=>False) h h':=by
 unfold nA;refine Wp.seq (uS hs hn hw) λx h1 hx=>?_;obtain⟨e1,f1,-⟩:=hx;simp only[ah,qP,rQ,rS,rT,rR,jW,gM,ag,oO,aea,Nat.reduceAdd,adA,exists_eq_left',acu,Gt];refine⟨rfl,?_⟩;have f2:=Fr.new (e:=aJ) (cs:=[.bool false,aO]) f1.wf;have l1:=LB.new (h:=h1) (e:=aJ) (cs:=[.bool false,aO]);refine l1.st f2.wf (by simp) rfl λh4 l1' f4=>?_;refine⟨e1,(f1.fresh hw f2 (by simp)).fresh hw f4 λg hg=>.inr ?_⟩;have:=f1.next;omega
end Go.Sh
