
import Derived.Test.YtdbjhobkhjneeaaGreatDoorBa
set_option linter.all false
namespace Go.Sh
open Go Go.Ago
abbrev v8 (x:Int):ο:=.int .u8 x
def Bj (b:UInt8):Int:=IntKind.u8.wrap ((b.toNat:Int)-48)
def xV (s:ζ):ε:=s.data.toList.map Bj
def Ct (D:ε):Nat->Nat
 |0=>0
 |k+1=>if D[k]?=some 0 then Ct D k else k+1
theorem Ip D:∀k,Ct D k<=k
 |0=>aa2 _
 |k+1=>by
  unfold Ct;split
  .have:=Ip D k;omega
  grind
def vK (s:ζ):Bool×ζ:=if 1<s.size/\s.data.toList.head?=some 45 then (true,s.extract 1 s.size) else (false,s)
def Ds (t:ζ):ε:=((xV t).reverse).take (Ct (xV t).reverse t.size)
def SG {D}{bd c}(hsz:D.length<=65536):∀n k h ,WF h->LB h bd (D.map v8) gT->k<=D.length->k<n ->
  Wp (kQ n ⟨some ⟨bd,0,none⟩,k,c⟩) h λx h'=>h'=h/\x=⟨some ⟨bd,0,none⟩,Ct D k,c⟩
 |0,_,_,_,_,_,hn=>by omega
 |n+1,k,h,hw,l,hk,hn=>by
  rw[AM];unfold sf;simp only[ag,qV,rU,rW,rX,rV,fM,gD,af,nf,aeq,Nat.reduceAdd,abH,exists_eq_left',abD];split
  .rename_i h1;have hk0:0<k:=by omega
   have e1:IntKind.i64.wrap ((k:Int)-1)=(k-1:Nat):=by rw[tH (by omega) (by omega)];omega
   simp only[ag,qV,rU,rW,rX,rV,fM,gD,af,nf,aeq,Nat.reduceAdd,abH,exists_eq_left',abD,BB,e1,exists_eq_left',OF,aes];obtain⟨k,rfl⟩:∃k',k=k'+1:=⟨k-1,by omega⟩;obtain⟨d,hd⟩:∃d,D[k]?=some d:=⟨D[k],abt (by omega)⟩;have hdv:(D.map v8)[k+1-1]?=some (v8 d):=by rw[abF,Nat.add_sub_cancel,hd];rfl
   refine⟨by omega,by omega,d,l.ld (lf:=.int .u8) hdv rfl,?_⟩;rw[Ct,hd];split
   .rename_i hz;have hz:d=0:=(by simpa using hz);rw[By (by rw[hz]),ag];refine EY (by omega) (by omega) (by show ((k+1-1:Nat):Int)<=(k+1:Nat);omega) ?_ ?_
    .unfold qh;simp only[l.get];simp[akz]
    .have e2:(⟨Option.map (λx=>x.plus ((0:Int).toNat*1)) (some (⟨bd,0,none⟩:Addr)),((k+1-1:Nat):Int).toNat-(0:Int).toNat,c-(if c=0 then 0 else (0:Int).toNat)⟩:Sl)=⟨some ⟨bd,0,none⟩,k,c⟩:=by
      simp[nf]
     show Wp (kQ n ⟨_,_,_⟩) h _;rw[e2];exact SG hsz n k h hw l (by omega) (by omega)
   .rename_i hz;have hz:¬d=0:=(by simpa using hz);rw[AT (λe=>hz (abL e)),af];exact⟨rfl,rfl⟩
  .have hk0:k=0:=by omega
   subst hk0;rw[af];exact⟨rfl,rfl⟩
def ZC {L:List UInt8}{i}{c}(hc:L[i]?=some c):(L.drop i).all nQ=(nQ c&&(L.drop (i+1)).all nQ):=by
 grind [List.getElem?_eq_some_iff,List.drop_eq_getElem_cons]
def Wb {γ:Type}{D:List γ}{z d}{i}(hd:D[i]?=some d):(List.replicate (D.length-i) z++(D.take i).reverse).set (D.length-1-i) d=List.replicate (D.length-(i+1)) z++(D.take (i+1)).reverse:=by
 have hlt:=(List.getElem?_eq_some_iff.1 hd).1;obtain⟨m,hm⟩:∃m,D.length-i=m+1:=⟨D.length-i-1,by omega⟩;rw[hm,amU,abM,show D.length-1-i=m by omega,alj _ _ (by simp),agi,amf,aob,akB,aoc,hd,show D.length-(i+1)=m by omega];simp
abbrev rdC (s:ζ)(i:Nat):δ:=(List.replicate ((xV s).length-i) 0++((xV s).take i).reverse).map v8
theorem sX s:(xV s).length=s.size:=by grind [xV,List.length_map,mW]
def F8 {s}{b0 b1 bd}{ng}(hs:s.size<=65536)(d0:b0≠b1)(d1:b0≠bd)(d2:b1≠bd):∀n i h ,WF h ->
  LB h b0 [.bool false,aI] aF->LB h b1 [.bool ng,aC ⟨some ⟨bd,0,none⟩,s.size,s.size+1⟩] aF->LB h bd (rdC s i) gT->i<=s.size->s.size-i<n ->
  Wp (kR n (ak b0) (ak b1) s s.size i) h λx h'=>Fr (λg=>g=b0+1\/g=bd+1) h h' /\
   (if (s.data.toList.drop i).all nQ=true then x=.inl ()/\LB h' b0 [.bool false,aI] aF/\LB h' b1 [.bool ng,aC ⟨some ⟨bd,0,none⟩,s.size,s.size+1⟩] aF/\LB h' bd ((xV s).reverse.map v8) gT
    else x=.inr false/\LB h' b0 [.bool false,aI] aF)
 |0,_,_,_,_,_,_,_,hn=>by omega
 |n+1,i,h,hw,l0,l1,ld,hi,hn=>by
  rw[AZ];unfold sF;simp only[ag,qV,rU,rW,rX,rV,fM,gD,af,nf,aeq,Nat.reduceAdd,abH,exists_eq_left',abD];split
  .rename_i h1;have h1':i<s.size:=by omega
   have hc:s.data.toList[i]?=some s.data.toList[i]:=abt (by simp_all);generalize s.data.toList[i]=c at hc;have hdg:(xV s)[i]?=some (Bj c):=by grind [xV]
   have hdl:=sX s;have had:=ZC hc;rw[Wa] at had;simp only[ag,qV,rU,rW,rX,rV,fM,gD,af,nf,aeq,Nat.reduceAdd,abH,exists_eq_left',abD,zu,OF,hc,anK,akF];have bad:Wp (rE (ak b0) [Value.bool false,aI]) h λ_ h'=>Fr (λg=>g=b0+1\/g=bd+1) h h'/\LB h' b0 [.bool false,aI] aF:=
    l0.st hw (by simp) (by rfl) λh' l0' f=>⟨f.mono hw λg hg _=>.inl (.inl hg),l0'⟩
   split
   .rename_i h2;have hb:(s.data.toList.drop i).all nQ=false:=(by grind);simp only[ag,af];refine bad.mono λ_ h' hx=>?_
    grind
   .rename_i h2;simp only[ag,qV,rU,rW,rX,rV,fM,gD,af,nf,aeq,Nat.reduceAdd,abH,exists_eq_left',abD,zu,OF,hc,anK,akF];split
    .rename_i h3;have hb:(s.data.toList.drop i).all nQ=false:=(by rw[had];simp;intro h3;omega);simp only[ag,af];refine bad.mono λ_ h' hx=>?_
     grind
    .rename_i h3;unfold o5;have e1:IntKind.i64.wrap (IntKind.i64.wrap ((s.size:Int)-1)-i)=(s.size-1-i:Nat):=by
      rw[tH (x:=(s.size:Int)-1) (by omega) (by omega),tH (by omega) (by omega)];omega
     have e2:IntKind.i64.wrap ((i:Int)+1)=(i+1:Nat):=(by rw[tH (by omega) (by omega)];omega);have hl:h.ldV b1 1=some ⟨some ⟨bd,0,none⟩,s.size,s.size+1⟩:=l1.ld (lf:=.sl) (v:=aC ⟨some ⟨bd,0,none⟩,s.size,s.size+1⟩) rfl rfl;simp only[ag,qV,rU,rW,rX,rV,fM,gD,af,nf,aeq,Nat.reduceAdd,abH,exists_eq_left',abD,zu,OF,hc,anK,akF,hl,BB,e1,e2,aes];refine⟨by omega,?_⟩;refine ld.st hw (by simp;omega) (by rfl) λh' ld' f=>?_;rw[acx (by simp;omega)] at ld';rw[show (Value.int .u8 (IntKind.u8.wrap ((c.toNat:Int)-48)))=v8 (Bj c) from rfl,<-anz,show s.size-1-i=(xV s).length-1-i by omega,Wb hdg] at ld';have ih:=F8 hs d0 d1 d2 n (i+1) h' f.wf (l0.fr f (by omega)) (l1.fr f (by omega)) ld' h1' (by omega);refine ih.mono λx h2 hx=>?_;obtain⟨f2,hx⟩:=hx;refine⟨(f.mono hw λg hg _=>.inl (.inr hg)).trans hw f2 λg hg _=>.inl hg,?_⟩
     grind
  .rename_i h1;rw[af,abG (by simp_all)];refine⟨Fr.refl hw,?_⟩;simp only[List.all_nil,aks];have hie:i=s.size:=by omega
   rw[hie,rdC,sX,amf,<-sX s,amT] at ld
   grind
def ZD {n}{v:ο}:(List.replicate n [v]).flatten=List.replicate n v:=by
 simp_all
def OB (h h':aj)(ng:Bool)(s:ζ)(x:Bool×Sl):Prop:=x.1=ng/\∃bd c,h.next<=bd/\x.2=⟨some ⟨bd,0,none⟩,Ct (xV s).reverse s.size,c⟩/\LB h' bd ((xV s).reverse.map v8) gT
def Wc {s}{b0 b1}{ng}{n}{h}(hs:s.size<=65536)(hn:s.size+1<n)(hw:WF h)(d0:b0≠b1)(l0:LB h b0 [.bool false,aI] aF)(l1:LB h b1 [.bool ng,aI] aF) :
  Wp (kS n (ak b0) (ak b1) s) h λx h'=>x.2=s.data.toList.all nQ/\Fr (λg=>g=b0+1\/g=b1+1) h h'/\(x.2=true->OB h h' ng s x.1):=by
 unfold kS;rw[ag];refine Qu (by omega) (by omega) (by grind [cP]) ?_;simp only[OF,ZD];have k0:=l0.lt hw;have k1:=l1.lt hw;have f1:=Fr.new (e:=gT) (cs:=List.replicate s.size (.int .u8 0)) hw;have ld:=LB.new (h:=h) (e:=gT) (cs:=List.replicate s.size (.int .u8 0));have l0:=l0.fr f1 (λhx=>hx);have l1:=l1.fr f1 (λhx=>hx);generalize h.new gT (List.replicate s.size (.int .u8 0))=h1 at *
 generalize hbd:h.next=bd at *
 simp only[ag,qV,rU,rW,rX,rV,fM,gD,af,nf,aeq,Nat.reduceAdd,abH,exists_eq_left',abD];refine l1.st f1.wf (by simp) rfl λh2 l1 f2=>?_;have ld:LB h1 bd (rdC s 0) gT:=by
  rw[rdC,sX];simp_all
 refine (F8 hs d0 (by omega) (by omega) n 0 h2 f2.wf (l0.fr f2 (by omega)) l1 (ld.fr f2 (by omega)) (by omega) (by omega)).mono λx h3 hx=>?_;obtain⟨f3,hx⟩:=hx;have f03:Fr (λg=>g=b0+1\/g=b1+1) h h3:=by
  have a1:Fr (λg=>g=b0+1\/g=b1+1) h h1:=f1.mono hw (λ_ hx _=>hx.elim);have a2:=a1.fresh hw f2 (λg hg=>.inl (.inr hg));refine a2.fresh hw f3 λg hg=>?_
  grind
 simp only[ajb] at hx;split at hx
 .rename_i hall;obtain⟨rfl,l0,l1,ld'⟩:=hx;have hl:h3.ldV b1 1=some ⟨some ⟨bd,0,none⟩,s.size,s.size+1⟩:=l1.ld (lf:=.sl) (v:=aC ⟨some ⟨bd,0,none⟩,s.size,s.size+1⟩) rfl rfl;simp only[dU,ag,qV,rU,rW,rX,rV,fM,gD,af,nf,aeq,Nat.reduceAdd,abH,exists_eq_left',abD,hl];unfold yZ;simp only[ag,qV,rU,rW,rX,rV,fM,gD,af,nf,aeq,Nat.reduceAdd,abH,exists_eq_left',abD];refine (SG (by rw[am7,sX];omega) n s.size h3 f3.wf ld' (by rw[am7,sX];omega) (by omega)).mono λx h4 hx=>?_;obtain⟨rfl,rfl⟩:=hx;generalize hk:Ct (xV s).reverse s.size=k';refine l1.st f3.wf (by grind) rfl λh5 l1 f5=>?_;refine D7.2 ⟨(ng,⟨some ⟨bd,0,none⟩,k',s.size+1⟩),l1.fH (by simp[aU]) rfl,?_⟩;refine (l0.fr f5 (by omega)).st f5.wf (by simp) rfl λh6 l0 f6=>?_;refine D7.2 ⟨(ng,⟨some ⟨bd,0,none⟩,k',s.size+1⟩),l0.fH (by simp[aU]) rfl,?_⟩;refine⟨hall.symm,(f03.fresh hw f5 λg hg=>?_).fresh hw f6 λg hg=>?_,λ_=>⟨rfl,bd,s.size+1,by omega,by rw[hk],?_⟩⟩
  .grind
  .grind
  .exact (ld'.fr f5 (by omega)).fr f6 (by omega)
 .rename_i hall;obtain⟨rfl,l0⟩:=hx;simp only[dU,ag,qV,rU,rW,rX,rV,fM,gD,af,nf,aeq,Nat.reduceAdd,abH,exists_eq_left',abD];refine D7.2 ⟨(false,pH),l0.fH (by simp) rfl,?_⟩
  grind
def SH (m:Nat)(T:List UInt8):Bool:=decide (T.length≠0/\T.length<=400/\¬(T.head?=some 48/\1<m))&&T.all nQ
def Wd {s t}{b0 b1}{ng}{n}{h}(hs:t.size<=65536)(hn:t.size+1<n)(hw:WF h)(d0:b0≠b1)(l0:LB h b0 [.bool false,aI] aF)(l1:LB h b1 [.bool ng,aI] aF) :
  Wp (jz n s (ak b0) (ak b1) t) h λx h'=>x.2=SH s.size t.data.toList/\Fr (λg=>g=b0+1\/g=b1+1) h h'/\(x.2=true->OB h h' ng t x.1):=by
 unfold jz;have bad:SH s.size t.data.toList=false->Wp (sh (rE (ak b0) [Value.bool false,aI]) λx0=>sh (bK [.bool,.sl] (ak b0)) λ(x1:Bool×Sl)=>AI ((x1.1,x1.2),false)) h λx h'=>x.2=SH s.size t.data.toList/\Fr (λg=>g=b0+1\/g=b1+1) h h'/\(x.2=true->OB h h' ng t x.1):=by
  intro hb;simp only[ag,qV,rU,rW,rX,rV,fM,gD,af,nf,aeq,Nat.reduceAdd,abH,exists_eq_left',abD];refine l0.st hw (by simp) rfl λh5 l0 f5=>?_;refine D7.2 ⟨(false,pH),l0.fH (by simp[aU]) rfl,?_⟩;exact⟨hb.symm,f5.mono hw λg hg _=>.inl (.inl hg),λe=>by cases e⟩
 have good:SH s.size t.data.toList=t.data.toList.all nQ->Wp (kS n (ak b0) (ak b1) t) h λx h'=>x.2=SH s.size t.data.toList/\Fr (λg=>g=b0+1\/g=b1+1) h h'/\(x.2=true->OB h h' ng t x.1):=by
  intro hg;rw[hg];exact Wc hs hn hw d0 l0 l1
 have hl:t.data.toList.length=t.size:=mW t;simp only[abD];split
 .rename_i h1;have hz:t.size=0:=by omega
  exact bad (by grind [SH])
 .rename_i h1;have hz:t.size≠0:=by omega
  split
  .rename_i h2;have hz4:¬t.size<=400:=by omega
   exact bad (by grind [SH])
  .rename_i h2;have hz4:t.size<=400:=by omega
   have hc:t.data.toList[0]?=some t.data.toList[0]:=abt (by omega);generalize t.data.toList[0]=c at hc;have hh:t.data.toList.head?=some c:=by grind [List.head?_eq_getElem?]
   have hcc:((c.toNat:Int)=48)↔c=48:=by
    rw[<-anu];grind
   rw[ag,fM];refine⟨c,by omega,by grind [zu],?_⟩;by_cases h3:c=48
   .rw[By (hcc.2 h3)];split
    .rename_i h4;exact bad (by grind [SH])
    .rename_i h4;exact good (by grind [SH])
   .rw[AT (λe=>h3 (hcc.1 e))];exact good (by grind [SH])
def vh {s}{h}{n}(hs:s.size<=65536)(hn:s.size+1<n)(hw:WF h):Wp (pS n s) h λx h'=>x.2=lj s/\Fr (λ_=>False) h h'/\(x.2=true->OB h h' (vK s).1 (vK s).2 x.1):=by
 unfold pS;simp only[ag,qV,rU,rW,rX,rV,fM,gD,af,nf,aeq,Nat.reduceAdd,abH,exists_eq_left',abD,CL];refine⟨rfl,rfl,?_⟩;have f1:=Fr.new (e:=aF) (cs:=[.bool false,aI]) hw;have l0:=LB.new (h:=h) (e:=aF) (cs:=[.bool false,aI]);have nx:(h.new aF [.bool false,aI]).next=h.next+1:=rfl
 generalize h.new aF [.bool false,aI]=h1 at *
 have f2:=Fr.new (e:=aF) (cs:=[.bool false,aI]) f1.wf;have l1:=LB.new (h:=h1) (e:=aF) (cs:=[.bool false,aI]);have l0':=l0.fr f2 (by simp);have f3:=f1.fresh hw f2 (by simp);rw[nx] at *
 generalize h1.new aF [.bool false,aI]=h2 at *
 refine l1.st f3.wf (by simp) rfl λh4 l1' f4=>?_;have l0'':=l0'.fr f4 (by simp);have f5:=f3.fresh hw f4 (λg hg=>.inr (by omega));have J0:∀{t:ζ} {ng:Bool} {h5:aj},t.size<=s.size->LB h5 h.next [.bool false,aI] aF->LB h5 (h.next+1) [.bool ng,aI] aF->Fr (λ_=>False) h h5->SH s.size t.data.toList=lj s->vK s=(ng,t) ->
   Wp (jz n s (ak h.next) (ak (h.next+1)) t) h5 λx h'=>x.2=lj s/\Fr (λ_=>False) h h'/\(x.2=true->OB h h' (vK s).1 (vK s).2 x.1):=by
  intro t ng h5 ht a0 a1 fa he hN;refine (Wd (by omega) (by omega) fa.wf (by omega) a0 a1).mono λx h' hx=>?_;rw[hN];refine⟨hx.1.trans he,fa.fresh hw hx.2.1 λg hg=>.inr (by omega),λe=>?_⟩;obtain⟨r1,bd,c,r2,r3⟩:=hx.2.2 e;have:=fa.next
  exact⟨r1,bd,c,by omega,r3⟩
 have hl:s.data.toList.length=s.size:=mW s;split
 .rename_i h1;have h1':1<s.size:=by omega
  have hc:s.data.toList[0]?=some s.data.toList[0]:=abt (by omega);generalize s.data.toList[0]=c at hc;have hh:s.data.toList.head?=some c:=by grind [List.head?_eq_getElem?]
  have hcc:((c.toNat:Int)=45)↔c=45:=by
   rw[<-anu];grind
  rw[ag,fM];refine⟨c,by omega,by grind [zu],?_⟩;split
  .rename_i h3;have h3':=hcc.1 h3;simp only[ag,qV,rU,rW,rX,rV,fM,gD,af,nf,aeq,Nat.reduceAdd,abH,exists_eq_left',abD];refine l1'.st f5.wf (by simp[aU]) rfl λh6 l1 f6=>?_;refine⟨by omega,by omega,by omega,?_⟩;refine J0 ?_ (l0''.fr f6 (by simp)) l1 (f5.fresh hw f6 λg hg=>.inr (by omega)) ?_ ?_
   .grind [mW,SF]
   .have:(s.extract (1:Int).toNat (s.size:Int).toNat).data.toList=s.data.toList.tail:=by
     grind [SF,Int.toNat_natCast,List.drop_one,List.take_of_length_le]
    rw[this];unfold lj SH;simp[hl,h1',hh,h3',akF,aks]
   grind [vK]
  .rename_i h3;have h3':¬c=45:=λe=>h3 (hcc.2 e);refine J0 (aa2 _) l0'' l1' f5 ?_ ?_
   .unfold lj SH
    grind
   grind [vK]
 .rename_i h1;have h1':¬1<s.size:=by omega
  refine J0 (aa2 _) l0'' l1' f5 ?_ ?_
  .grind [lj,SH]
  grind [vK]
def yw {s}{h}{n}(hs:s.size<=65536)(hn:s.size+1<n)(hw:WF h):Wp (qy n s) h λx h'=>x=lj s/\Fr (λ_=>False) h h':=by
 unfold qy;refine Wp.seq (vh hs hn hw) λx h1 hx=>?_;obtain⟨e1,f1,-⟩:=hx;simp only[ag,qV,rU,rW,rX,rV,fM,gD,af,nf,aeq,Nat.reduceAdd,abH,exists_eq_left',abD,CL];refine⟨rfl,?_⟩;have f2:=Fr.new (e:=aF) (cs:=[.bool false,aI]) f1.wf;have l1:=LB.new (h:=h1) (e:=aF) (cs:=[.bool false,aI]);refine l1.st f2.wf (by simp) rfl λh4 l1' f4=>?_;refine⟨e1,(f1.fresh hw f2 (by simp)).fresh hw f4 λg hg=>.inr ?_⟩;have:=f1.next;omega
end Go.Sh
