
import Derived.Test.YtpojbnjkkkiccaaGreatDoorBa
set_option linter.all false
namespace Go.Sh
open Go Go.Ago
abbrev v8 (x:Int):ξ:=.int .u8 x
def Cq (b:UInt8):Int:=IntKind.u8.wrap ((b.toNat:Int)-48)
def yV (s:ζ):ε:=s.data.toList.map Cq
def D3 (D:ε):Nat->Nat
 |0=>0
 |k+1=>if D[k]?=some 0 then D3 D k else k+1
theorem Ko D:∀k,D3 D k<=k
 |0=>abi _
 |k+1=>by
  unfold D3;split
  .have:=Ko D k;omega
  grind
def wN (s:ζ):Bool×ζ:=if 1<s.size/\s.data.toList.head?=some 45 then (true,s.extract 1 s.size) else (false,s)
def EW (t:ζ):ε:=((yV t).reverse).take (D3 (yV t).reverse t.size)
def UE {D}{bd c}(hsz:D.length<=65536):∀n k h ,WF h->LB h bd (D.map v8) jA->k<=D.length->k<n ->
  Wp (kZ n ⟨some ⟨bd,0,none⟩,k,c⟩) h λx h'=>h'=h/\x=⟨some ⟨bd,0,none⟩,D3 D k,c⟩
 |0,_,_,_,_,_,hn=>by omega
 |n+1,k,h,hw,l,hk,hn=>by
  rw[BP];unfold s9;simp only[ah,rQ,sW,sY,sZ,sX,je,gj,ag,nM,adr,Nat.reduceAdd,acU,exists_eq_left',aca];split
  .rename_i h1;have hk0:0<k:=by omega
   have e1:IntKind.i64.wrap ((k:Int)-1)=(k-1:Nat):=by rw[xQ (by omega) (by omega)];omega
   simp only[ah,rQ,sW,sY,sZ,sX,je,gj,ag,nM,adr,Nat.reduceAdd,acU,exists_eq_left',aca,zY,e1,exists_eq_left',aba,ahS];obtain⟨k,rfl⟩:∃k',k=k'+1:=⟨k-1,by omega⟩;obtain⟨d,hd⟩:∃d,D[k]?=some d:=⟨D[k],aci (by omega)⟩;have hdv:(D.map v8)[k+1-1]?=some (v8 d):=by rw[abh,Nat.add_sub_cancel,hd];rfl
   refine⟨by omega,by omega,d,l.ld (lf:=.int .u8) hdv rfl,?_⟩;rw[D3,hd];split
   .rename_i hz;have hz:d=0:=(by simpa using hz);rw[By (by rw[hz]),ah];refine sB (by omega) (by omega) (by show ((k+1-1:Nat):Int)<=(k+1:Nat);omega) ?_ ?_
    .unfold lO;simp only[l.get];simp[al3]
    .have e2:(⟨Option.map (λx=>x.plus ((0:Int).toNat*1)) (some (⟨bd,0,none⟩:Addr)),((k+1-1:Nat):Int).toNat-(0:Int).toNat,c-(if c=0 then 0 else (0:Int).toNat)⟩:Sl)=⟨some ⟨bd,0,none⟩,k,c⟩:=by
      simp[nM]
     show Wp (kZ n ⟨_,_,_⟩) h _;rw[e2];exact UE hsz n k h hw l (by omega) (by omega)
   .rename_i hz;have hz:¬d=0:=(by simpa using hz);rw[AT (λe=>hz (acZ e)),ag];exact⟨rfl,rfl⟩
  .have hk0:k=0:=by omega
   subst hk0;rw[ag];exact⟨rfl,rfl⟩
def aa0 {L:List UInt8}{i}{c}(hc:L[i]?=some c):(L.drop i).all pP=(pP c&&(L.drop (i+1)).all pP):=by
 grind [List.getElem?_eq_some_iff,List.drop_eq_getElem_cons]
def XD {γ:Type}{D:List γ}{z d}{i}(hd:D[i]?=some d):(List.replicate (D.length-i) z++(D.take i).reverse).set (D.length-1-i) d=List.replicate (D.length-(i+1)) z++(D.take (i+1)).reverse:=by
 have hlt:=(List.getElem?_eq_some_iff.1 hd).1;obtain⟨m,hm⟩:∃m,D.length-i=m+1:=⟨D.length-i-1,by omega⟩;rw[hm,apb,acX,show D.length-1-i=m by omega,al8 _ _ (by simp),af2,amW,apS,amc,apT,hd,show D.length-(i+1)=m by omega];simp
abbrev rdC (s:ζ)(i:Nat):δ:=(List.replicate ((yV s).length-i) 0++((yV s).take i).reverse).map v8
theorem tR s:(yV s).length=s.size:=by grind [yV,List.length_map,nD]
def HY {s}{b0 b1 bd}{ng}(hs:s.size<=65536)(d0:b0≠b1)(d1:b0≠bd)(d2:b1≠bd):∀n i h ,WF h ->
  LB h b0 [.bool false,aE] aD->LB h b1 [.bool ng,aA ⟨some ⟨bd,0,none⟩,s.size,s.size+1⟩] aD->LB h bd (rdC s i) jA->i<=s.size->s.size-i<n ->
  Wp (k7 n (ak b0) (ak b1) s s.size i) h λx h'=>Fr (λg=>g=b0+1\/g=bd+1) h h' /\
   (if (s.data.toList.drop i).all pP=true then x=.inl ()/\LB h' b0 [.bool false,aE] aD/\LB h' b1 [.bool ng,aA ⟨some ⟨bd,0,none⟩,s.size,s.size+1⟩] aD/\LB h' bd ((yV s).reverse.map v8) jA
    else x=.inr false/\LB h' b0 [.bool false,aE] aD)
 |0,_,_,_,_,_,_,_,hn=>by omega
 |n+1,i,h,hw,l0,l1,ld,hi,hn=>by
  rw[B4];unfold tu;simp only[ah,rQ,sW,sY,sZ,sX,je,gj,ag,nM,adr,Nat.reduceAdd,acU,exists_eq_left',aca];split
  .rename_i h1;have h1':i<s.size:=by omega
   have hc:s.data.toList[i]?=some s.data.toList[i]:=aci (by simp_all);generalize s.data.toList[i]=c at hc;have hdg:(yV s)[i]?=some (Cq c):=by grind [yV]
   have hdl:=tR s;have had:=aa0 hc;rw[XC] at had;simp only[ah,rQ,sW,sY,sZ,sX,je,gj,ag,nM,adr,Nat.reduceAdd,acU,exists_eq_left',aca,EV,aba,hc,ald,anX];have bad:Wp (rN (ak b0) [Value.bool false,aE]) h λ_ h'=>Fr (λg=>g=b0+1\/g=bd+1) h h'/\LB h' b0 [.bool false,aE] aD:=
    l0.st hw (by simp) (by rfl) λh' l0' f=>⟨f.mono hw λg hg _=>.inl (.inl hg),l0'⟩
   split
   .rename_i h2;have hb:(s.data.toList.drop i).all pP=false:=(by grind);simp only[ah,ag];refine bad.mono λ_ h' hx=>?_
    grind
   .rename_i h2;simp only[ah,rQ,sW,sY,sZ,sX,je,gj,ag,nM,adr,Nat.reduceAdd,acU,exists_eq_left',aca,EV,aba,hc,ald,anX];split
    .rename_i h3;have hb:(s.data.toList.drop i).all pP=false:=(by rw[had];simp;intro h3;omega);simp only[ah,ag];refine bad.mono λ_ h' hx=>?_
     grind
    .rename_i h3;unfold pV;have e1:IntKind.i64.wrap (IntKind.i64.wrap ((s.size:Int)-1)-i)=(s.size-1-i:Nat):=by
      rw[xQ (x:=(s.size:Int)-1) (by omega) (by omega),xQ (by omega) (by omega)];omega
     have e2:IntKind.i64.wrap ((i:Int)+1)=(i+1:Nat):=(by rw[xQ (by omega) (by omega)];omega);have hl:h.ldV b1 1=some ⟨some ⟨bd,0,none⟩,s.size,s.size+1⟩:=l1.ld (lf:=.sl) (v:=aA ⟨some ⟨bd,0,none⟩,s.size,s.size+1⟩) rfl rfl;simp only[ah,rQ,sW,sY,sZ,sX,je,gj,ag,nM,adr,Nat.reduceAdd,acU,exists_eq_left',aca,EV,aba,hc,ald,anX,hl,zY,e1,e2,ahS];refine⟨by omega,?_⟩;refine ld.st hw (by simp;omega) (by rfl) λh' ld' f=>?_;rw[adM (by simp;omega)] at ld';rw[show (Value.int .u8 (IntKind.u8.wrap ((c.toNat:Int)-48)))=v8 (Cq c) from rfl,<-an3,show s.size-1-i=(yV s).length-1-i by omega,XD hdg] at ld';have ih:=HY hs d0 d1 d2 n (i+1) h' f.wf (l0.fr f (by omega)) (l1.fr f (by omega)) ld' h1' (by omega);refine ih.mono λx h2 hx=>?_;obtain⟨f2,hx⟩:=hx;refine⟨(f.mono hw λg hg _=>.inl (.inr hg)).trans hw f2 λg hg _=>.inl hg,?_⟩
     grind
  .rename_i h1;rw[ag,abY (by simp_all)];refine⟨Fr.refl hw,?_⟩;simp only[List.all_nil,amt];have hie:i=s.size:=by omega
   rw[hie,rdC,tR,amW,<-tR s,anR] at ld
   grind
def aa1 {n}{v:ξ}:(List.replicate n [v]).flatten=List.replicate n v:=by
 simp_all
def P9 (h h':ai)(ng:Bool)(s:ζ)(x:Bool×Sl):Prop:=x.1=ng/\∃bd c,h.next<=bd/\x.2=⟨some ⟨bd,0,none⟩,D3 (yV s).reverse s.size,c⟩/\LB h' bd ((yV s).reverse.map v8) jA
def XE {s}{b0 b1}{ng}{n}{h}(hs:s.size<=65536)(hn:s.size+1<n)(hw:WF h)(d0:b0≠b1)(l0:LB h b0 [.bool false,aE] aD)(l1:LB h b1 [.bool ng,aE] aD) :
  Wp (k8 n (ak b0) (ak b1) s) h λx h'=>x.2=s.data.toList.all pP/\Fr (λg=>g=b0+1\/g=b1+1) h h'/\(x.2=true->P9 h h' ng s x.1):=by
 unfold k8;rw[ah];refine RH (by omega) (by omega) (by grind [da]) ?_;simp only[aba,aa1];have k0:=l0.lt hw;have k1:=l1.lt hw;have f1:=Fr.new (e:=jA) (cs:=List.replicate s.size (.int .u8 0)) hw;have ld:=LB.new (h:=h) (e:=jA) (cs:=List.replicate s.size (.int .u8 0));have l0:=l0.fr f1 (λhx=>hx);have l1:=l1.fr f1 (λhx=>hx);generalize h.new jA (List.replicate s.size (.int .u8 0))=h1 at *
 generalize hbd:h.next=bd at *
 simp only[ah,rQ,sW,sY,sZ,sX,je,gj,ag,nM,adr,Nat.reduceAdd,acU,exists_eq_left',aca];refine l1.st f1.wf (by simp) rfl λh2 l1 f2=>?_;have ld:LB h1 bd (rdC s 0) jA:=by
  rw[rdC,tR];simp_all
 refine (HY hs d0 (by omega) (by omega) n 0 h2 f2.wf (l0.fr f2 (by omega)) l1 (ld.fr f2 (by omega)) (by omega) (by omega)).mono λx h3 hx=>?_;obtain⟨f3,hx⟩:=hx;have f03:Fr (λg=>g=b0+1\/g=b1+1) h h3:=by
  have a1:Fr (λg=>g=b0+1\/g=b1+1) h h1:=f1.mono hw (λ_ hx _=>hx.elim);have a2:=a1.fresh hw f2 (λg hg=>.inl (.inr hg));refine a2.fresh hw f3 λg hg=>?_
  grind
 simp only[aiq] at hx;split at hx
 .rename_i hall;obtain⟨rfl,l0,l1,ld'⟩:=hx;have hl:h3.ldV b1 1=some ⟨some ⟨bd,0,none⟩,s.size,s.size+1⟩:=l1.ld (lf:=.sl) (v:=aA ⟨some ⟨bd,0,none⟩,s.size,s.size+1⟩) rfl rfl;simp only[dW,ah,rQ,sW,sY,sZ,sX,je,gj,ag,nM,adr,Nat.reduceAdd,acU,exists_eq_left',aca,hl];unfold Ad;simp only[ah,rQ,sW,sY,sZ,sX,je,gj,ag,nM,adr,Nat.reduceAdd,acU,exists_eq_left',aca];refine (UE (by rw[aon,tR];omega) n s.size h3 f3.wf ld' (by rw[aon,tR];omega) (by omega)).mono λx h4 hx=>?_;obtain⟨rfl,rfl⟩:=hx;generalize hk:D3 (yV s).reverse s.size=k';refine l1.st f3.wf (by grind) rfl λh5 l1 f5=>?_;refine FG.2 ⟨(ng,⟨some ⟨bd,0,none⟩,k',s.size+1⟩),l1.gh (by simp[aM]) rfl,?_⟩;refine (l0.fr f5 (by omega)).st f5.wf (by simp) rfl λh6 l0 f6=>?_;refine FG.2 ⟨(ng,⟨some ⟨bd,0,none⟩,k',s.size+1⟩),l0.gh (by simp[aM]) rfl,?_⟩;refine⟨hall.symm,(f03.fresh hw f5 λg hg=>?_).fresh hw f6 λg hg=>?_,λ_=>⟨rfl,bd,s.size+1,by omega,by rw[hk],?_⟩⟩
  .grind
  .grind
  .exact (ld'.fr f5 (by omega)).fr f6 (by omega)
 .rename_i hall;obtain⟨rfl,l0⟩:=hx;simp only[dW,ah,rQ,sW,sY,sZ,sX,je,gj,ag,nM,adr,Nat.reduceAdd,acU,exists_eq_left',aca];refine FG.2 ⟨(false,ow),l0.gh (by simp) rfl,?_⟩
  grind
def UF (m:Nat)(T:List UInt8):Bool:=decide (T.length≠0/\T.length<=400/\¬(T.head?=some 48/\1<m))&&T.all pP
def XF {s t}{b0 b1}{ng}{n}{h}(hs:t.size<=65536)(hn:t.size+1<n)(hw:WF h)(d0:b0≠b1)(l0:LB h b0 [.bool false,aE] aD)(l1:LB h b1 [.bool ng,aE] aD) :
  Wp (ju n s (ak b0) (ak b1) t) h λx h'=>x.2=UF s.size t.data.toList/\Fr (λg=>g=b0+1\/g=b1+1) h h'/\(x.2=true->P9 h h' ng t x.1):=by
 unfold ju;have bad:UF s.size t.data.toList=false->Wp (sh (rN (ak b0) [Value.bool false,aE]) λx0=>sh (cT [.bool,.sl] (ak b0)) λ(x1:Bool×Sl)=>AI ((x1.1,x1.2),false)) h λx h'=>x.2=UF s.size t.data.toList/\Fr (λg=>g=b0+1\/g=b1+1) h h'/\(x.2=true->P9 h h' ng t x.1):=by
  intro hb;simp only[ah,rQ,sW,sY,sZ,sX,je,gj,ag,nM,adr,Nat.reduceAdd,acU,exists_eq_left',aca];refine l0.st hw (by simp) rfl λh5 l0 f5=>?_;refine FG.2 ⟨(false,ow),l0.gh (by simp[aM]) rfl,?_⟩;exact⟨hb.symm,f5.mono hw λg hg _=>.inl (.inl hg),λe=>by cases e⟩
 have good:UF s.size t.data.toList=t.data.toList.all pP->Wp (k8 n (ak b0) (ak b1) t) h λx h'=>x.2=UF s.size t.data.toList/\Fr (λg=>g=b0+1\/g=b1+1) h h'/\(x.2=true->P9 h h' ng t x.1):=by
  intro hg;rw[hg];exact XE hs hn hw d0 l0 l1
 have hl:t.data.toList.length=t.size:=nD t;simp only[aca];split
 .rename_i h1;have hz:t.size=0:=by omega
  exact bad (by grind [UF])
 .rename_i h1;have hz:t.size≠0:=by omega
  split
  .rename_i h2;have hz4:¬t.size<=400:=by omega
   exact bad (by grind [UF])
  .rename_i h2;have hz4:t.size<=400:=by omega
   have hc:t.data.toList[0]?=some t.data.toList[0]:=aci (by omega);generalize t.data.toList[0]=c at hc;have hh:t.data.toList.head?=some c:=by grind [List.head?_eq_getElem?]
   have hcc:((c.toNat:Int)=48)↔c=48:=by
    rw[<-apM];grind
   rw[ah,je];refine⟨c,by omega,by grind [EV],?_⟩;by_cases h3:c=48
   .rw[By (hcc.2 h3)];split
    .rename_i h4;exact bad (by grind [UF])
    .rename_i h4;exact good (by grind [UF])
   .rw[AT (λe=>h3 (hcc.1 e))];exact good (by grind [UF])
def wg {s}{h}{n}(hs:s.size<=65536)(hn:s.size+1<n)(hw:WF h):Wp (qx n s) h λx h'=>x.2=nC s/\Fr (λ_=>False) h h'/\(x.2=true->P9 h h' (wN s).1 (wN s).2 x.1):=by
 unfold qx;simp only[ah,rQ,sW,sY,sZ,sX,je,gj,ag,nM,adr,Nat.reduceAdd,acU,exists_eq_left',aca,JP];refine⟨rfl,rfl,?_⟩;have f1:=Fr.new (e:=aD) (cs:=[.bool false,aE]) hw;have l0:=LB.new (h:=h) (e:=aD) (cs:=[.bool false,aE]);have nx:(h.new aD [.bool false,aE]).next=h.next+1:=rfl
 generalize h.new aD [.bool false,aE]=h1 at *
 have f2:=Fr.new (e:=aD) (cs:=[.bool false,aE]) f1.wf;have l1:=LB.new (h:=h1) (e:=aD) (cs:=[.bool false,aE]);have l0':=l0.fr f2 (by simp);have f3:=f1.fresh hw f2 (by simp);rw[nx] at *
 generalize h1.new aD [.bool false,aE]=h2 at *
 refine l1.st f3.wf (by simp) rfl λh4 l1' f4=>?_;have l0'':=l0'.fr f4 (by simp);have f5:=f3.fresh hw f4 (λg hg=>.inr (by omega));have J0:∀{t:ζ} {ng:Bool} {h5:ai},t.size<=s.size->LB h5 h.next [.bool false,aE] aD->LB h5 (h.next+1) [.bool ng,aE] aD->Fr (λ_=>False) h h5->UF s.size t.data.toList=nC s->wN s=(ng,t) ->
   Wp (ju n s (ak h.next) (ak (h.next+1)) t) h5 λx h'=>x.2=nC s/\Fr (λ_=>False) h h'/\(x.2=true->P9 h h' (wN s).1 (wN s).2 x.1):=by
  intro t ng h5 ht a0 a1 fa he hN;refine (XF (by omega) (by omega) fa.wf (by omega) a0 a1).mono λx h' hx=>?_;rw[hN];refine⟨hx.1.trans he,fa.fresh hw hx.2.1 λg hg=>.inr (by omega),λe=>?_⟩;obtain⟨r1,bd,c,r2,r3⟩:=hx.2.2 e;have:=fa.next
  exact⟨r1,bd,c,by omega,r3⟩
 have hl:s.data.toList.length=s.size:=nD s;split
 .rename_i h1;have h1':1<s.size:=by omega
  have hc:s.data.toList[0]?=some s.data.toList[0]:=aci (by omega);generalize s.data.toList[0]=c at hc;have hh:s.data.toList.head?=some c:=by grind [List.head?_eq_getElem?]
  have hcc:((c.toNat:Int)=45)↔c=45:=by
   rw[<-apM];grind
  rw[ah,je];refine⟨c,by omega,by grind [EV],?_⟩;split
  .rename_i h3;have h3':=hcc.1 h3;simp only[ah,rQ,sW,sY,sZ,sX,je,gj,ag,nM,adr,Nat.reduceAdd,acU,exists_eq_left',aca];refine l1'.st f5.wf (by simp[aM]) rfl λh6 l1 f6=>?_;refine⟨by omega,by omega,by omega,?_⟩;refine J0 ?_ (l0''.fr f6 (by simp)) l1 (f5.fresh hw f6 λg hg=>.inr (by omega)) ?_ ?_
   .grind [nD,UD]
   .have:(s.extract (1:Int).toNat (s.size:Int).toNat).data.toList=s.data.toList.tail:=by
     grind [UD,Int.toNat_natCast,List.drop_one,List.take_of_length_le]
    rw[this];unfold nC UF;simp[hl,h1',hh,h3',anX,amt]
   grind [wN]
  .rename_i h3;have h3':¬c=45:=λe=>h3 (hcc.2 e);refine J0 (abi _) l0'' l1' f5 ?_ ?_
   .unfold nC UF
    grind
   grind [wN]
 .rename_i h1;have h1':¬1<s.size:=by omega
  refine J0 (abi _) l0'' l1' f5 ?_ ?_
  .grind [nC,UF]
  grind [wN]
def zy {s}{h}{n}(hs:s.size<=65536)(hn:s.size+1<n)(hw:WF h):Wp (rn n s) h λx h'=>x=nC s/\Fr (λ_=>False) h h':=by
 unfold rn;refine Wp.seq (wg hs hn hw) λx h1 hx=>?_;obtain⟨e1,f1,-⟩:=hx;simp only[ah,rQ,sW,sY,sZ,sX,je,gj,ag,nM,adr,Nat.reduceAdd,acU,exists_eq_left',aca,JP];refine⟨rfl,?_⟩;have f2:=Fr.new (e:=aD) (cs:=[.bool false,aE]) f1.wf;have l1:=LB.new (h:=h1) (e:=aD) (cs:=[.bool false,aE]);refine l1.st f2.wf (by simp) rfl λh4 l1' f4=>?_;refine⟨e1,(f1.fresh hw f2 (by simp)).fresh hw f4 λg hg=>.inr ?_⟩;have:=f1.next;omega
end Go.Sh
