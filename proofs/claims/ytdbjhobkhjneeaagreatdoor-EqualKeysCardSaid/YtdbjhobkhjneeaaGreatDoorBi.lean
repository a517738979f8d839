
import Derived.Test.YtdbjhobkhjneeaaGreatDoorBa
set_option linter.all false
namespace Go.Sh
open Go Go.Ago
abbrev v8 (x:Int):ο:=.int .u8 x
def Bg (b:UInt8):Int:=IntKind.u8.wrap ((b.toNat:Int)-48)
def xQ (s:ζ):ε:=s.data.toList.map Bg
def Co (D:ε):Nat->Nat
 |0=>0
 |k+1=>if D[k]?=some 0 then Co D k else k+1
theorem Ie D:∀k,Co D k<=k
 |0=>aao _
 |k+1=>by
  unfold Co;split
  .have:=Ie D k;omega
  grind
def vI (s:ζ):Bool×ζ:=if 1<s.size/\s.data.toList.head?=some 45 then (true,s.extract 1 s.size) else (false,s)
def Dm (t:ζ):ε:=((xQ t).reverse).take (Co (xQ t).reverse t.size)
def Se {D}{bd c}(hsz:D.length<=65536):∀n k h ,WF h->LB h bd (D.map v8) gU->k<=D.length->k<n ->
  Wp (kQ n ⟨some ⟨bd,0,none⟩,k,c⟩) h λx h'=>h'=h/\x=⟨some ⟨bd,0,none⟩,Co D k,c⟩
 |0,_,_,_,_,_,hn=>by omega
 |n+1,k,h,hw,l,hk,hn=>by
  rw[AJ];unfold rT;simp only[ag,qP,rK,rM,rN,rL,fQ,gH,af,mX,aeb,Nat.reduceAdd,abo,exists_eq_left',abb];split
  .rename_i h1;have hk0:0<k:=by omega
   have e1:IntKind.i64.wrap ((k:Int)-1)=(k-1:Nat):=by rw[tC (by omega) (by omega)];omega
   simp only[ag,qP,rK,rM,rN,rL,fQ,gH,af,mX,aeb,Nat.reduceAdd,abo,exists_eq_left',abb,Bx,e1,exists_eq_left',OF,adU];obtain⟨k,rfl⟩:∃k',k=k'+1:=⟨k-1,by omega⟩;obtain⟨d,hd⟩:∃d,D[k]?=some d:=⟨D[k],aa9 (by omega)⟩;have hdv:(D.map v8)[k+1-1]?=some (v8 d):=by rw[abi,Nat.add_sub_cancel,hd];rfl
   refine⟨by omega,by omega,d,l.ld (lf:=.int .u8) hdv rfl,?_⟩;rw[Co,hd];split
   .rename_i hz;have hz:d=0:=(by simpa using hz);rw[By (by rw[hz]),ag];refine ES (by omega) (by omega) (by show ((k+1-1:Nat):Int)<=(k+1:Nat);omega) ?_ ?_
    .unfold p8;simp only[l.get];simp[akg]
    .have e2:(⟨Option.map (λx=>x.plus ((0:Int).toNat*1)) (some (⟨bd,0,none⟩:Addr)),((k+1-1:Nat):Int).toNat-(0:Int).toNat,c-(if c=0 then 0 else (0:Int).toNat)⟩:Sl)=⟨some ⟨bd,0,none⟩,k,c⟩:=by
      simp[mX]
     show Wp (kQ n ⟨_,_,_⟩) h _;rw[e2];exact Se hsz n k h hw l (by omega) (by omega)
   .rename_i hz;have hz:¬d=0:=(by simpa using hz);rw[AT (λe=>hz (abu e)),af];exact⟨rfl,rfl⟩
  .have hk0:k=0:=by omega
   subst hk0;rw[af];exact⟨rfl,rfl⟩
def Zd {L:List UInt8}{i}{c}(hc:L[i]?=some c):(L.drop i).all nK=(nK c&&(L.drop (i+1)).all nK):=by
 grind [List.getElem?_eq_some_iff,List.drop_eq_getElem_cons]
def VN {γ:Type}{D:List γ}{z d}{i}(hd:D[i]?=some d):(List.replicate (D.length-i) z++(D.take i).reverse).set (D.length-1-i) d=List.replicate (D.length-(i+1)) z++(D.take (i+1)).reverse:=by
 have hlt:=(List.getElem?_eq_some_iff.1 hd).1;obtain⟨m,hm⟩:∃m,D.length-i=m+1:=⟨D.length-i-1,by omega⟩;rw[hm,amB,abp,show D.length-1-i=m by omega,akC _ _ (by simp),aeA,al2,anX,aki,anY,hd,show D.length-(i+1)=m by omega];simp
abbrev rdC (s:ζ)(i:Nat):δ:=(List.replicate ((xQ s).length-i) 0++((xQ s).take i).reverse).map v8
theorem sM s:(xQ s).length=s.size:=by grind [xQ,List.length_map,mS]
def FZ {s}{b0 b1 bd}{ng}(hs:s.size<=65536)(d0:b0≠b1)(d1:b0≠bd)(d2:b1≠bd):∀n i h ,WF h ->
  LB h b0 [.bool false,aI] aF->LB h b1 [.bool ng,aC ⟨some ⟨bd,0,none⟩,s.size,s.size+1⟩] aF->LB h bd (rdC s i) gU->i<=s.size->s.size-i<n ->
  Wp (kR n (ak b0) (ak b1) s s.size i) h λx h'=>Fr (λg=>g=b0+1\/g=bd+1) h h' /\
   (if (s.data.toList.drop i).all nK=true then x=.inl ()/\LB h' b0 [.bool false,aI] aF/\LB h' b1 [.bool ng,aC ⟨some ⟨bd,0,none⟩,s.size,s.size+1⟩] aF/\LB h' bd ((xQ s).reverse.map v8) gU
    else x=.inr false/\LB h' b0 [.bool false,aI] aF)
 |0,_,_,_,_,_,_,_,hn=>by omega
 |n+1,i,h,hw,l0,l1,ld,hi,hn=>by
  rw[AW];unfold sf;simp only[ag,qP,rK,rM,rN,rL,fQ,gH,af,mX,aeb,Nat.reduceAdd,abo,exists_eq_left',abb];split
  .rename_i h1;have h1':i<s.size:=by omega
   have hc:s.data.toList[i]?=some s.data.toList[i]:=aa9 (by simp_all);generalize s.data.toList[i]=c at hc;have hdg:(xQ s)[i]?=some (Bg c):=by grind [xQ]
   have hdl:=sM s;have had:=Zd hc;rw[VM] at had;simp only[ag,qP,rK,rM,rN,rL,fQ,gH,af,mX,aeb,Nat.reduceAdd,abo,exists_eq_left',abb,zq,OF,hc,ant,akl];have bad:Wp (sU (ak b0) [Value.bool false,aI]) h λ_ h'=>Fr (λg=>g=b0+1\/g=bd+1) h h'/\LB h' b0 [.bool false,aI] aF:=
    l0.st hw (by simp) (by rfl) λh' l0' f=>⟨f.mono hw λg hg _=>.inl (.inl hg),l0'⟩
   split
   .rename_i h2;have hb:(s.data.toList.drop i).all nK=false:=(by grind);simp only[ag,af];refine bad.mono λ_ h' hx=>?_
    grind
   .rename_i h2;simp only[ag,qP,rK,rM,rN,rL,fQ,gH,af,mX,aeb,Nat.reduceAdd,abo,exists_eq_left',abb,zq,OF,hc,ant,akl];split
    .rename_i h3;have hb:(s.data.toList.drop i).all nK=false:=(by rw[had];simp;intro h3;omega);simp only[ag,af];refine bad.mono λ_ h' hx=>?_
     grind
    .rename_i h3;unfold oX;have e1:IntKind.i64.wrap (IntKind.i64.wrap ((s.size:Int)-1)-i)=(s.size-1-i:Nat):=by
      rw[tC (x:=(s.size:Int)-1) (by omega) (by omega),tC (by omega) (by omega)];omega
     have e2:IntKind.i64.wrap ((i:Int)+1)=(i+1:Nat):=(by rw[tC (by omega) (by omega)];omega);have hl:h.ldV b1 1=some ⟨some ⟨bd,0,none⟩,s.size,s.size+1⟩:=l1.ld (lf:=.sl) (v:=aC ⟨some ⟨bd,0,none⟩,s.size,s.size+1⟩) rfl rfl;simp only[ag,qP,rK,rM,rN,rL,fQ,gH,af,mX,aeb,Nat.reduceAdd,abo,exists_eq_left',abb,zq,OF,hc,ant,akl,hl,Bx,e1,e2,adU];refine⟨by omega,?_⟩;refine ld.st hw (by simp;omega) (by rfl) λh' ld' f=>?_;rw[acg (by simp;omega)] at ld';rw[show (Value.int .u8 (IntKind.u8.wrap ((c.toNat:Int)-48)))=v8 (Bg c) from rfl,<-ani,show s.size-1-i=(xQ s).length-1-i by omega,VN hdg] at ld';have ih:=FZ hs d0 d1 d2 n (i+1) h' f.wf (l0.fr f (by omega)) (l1.fr f (by omega)) ld' h1' (by omega);refine ih.mono λx h2 hx=>?_;obtain⟨f2,hx⟩:=hx;refine⟨(f.mono hw λg hg _=>.inl (.inr hg)).trans hw f2 λg hg _=>.inl hg,?_⟩
     grind
  .rename_i h1;rw[af,abn (by simp_all)];refine⟨Fr.refl hw,?_⟩;simp only[List.all_nil,ajN];have hie:i=s.size:=by omega
   rw[hie,rdC,sM,al2,<-sM s,amA] at ld
   grind
def Ze {n}{v:ο}:(List.replicate n [v]).flatten=List.replicate n v:=by
 simp_all
def Oj (h h':aj)(ng:Bool)(s:ζ)(x:Bool×Sl):Prop:=x.1=ng/\∃bd c,h.next<=bd/\x.2=⟨some ⟨bd,0,none⟩,Co (xQ s).reverse s.size,c⟩/\LB h' bd ((xQ s).reverse.map v8) gU
def VO {s}{b0 b1}{ng}{n}{h}(hs:s.size<=65536)(hn:s.size+1<n)(hw:WF h)(d0:b0≠b1)(l0:LB h b0 [.bool false,aI] aF)(l1:LB h b1 [.bool ng,aI] aF) :
  Wp (kS n (ak b0) (ak b1) s) h λx h'=>x.2=s.data.toList.all nK/\Fr (λg=>g=b0+1\/g=b1+1) h h'/\(x.2=true->Oj h h' ng s x.1):=by
 unfold kS;rw[ag];refine P9 (by omega) (by omega) (by grind [cQ]) ?_;simp only[OF,Ze];have k0:=l0.lt hw;have k1:=l1.lt hw;have f1:=Fr.new (e:=gU) (cs:=List.replicate s.size (.int .u8 0)) hw;have ld:=LB.new (h:=h) (e:=gU) (cs:=List.replicate s.size (.int .u8 0));have l0:=l0.fr f1 (λhx=>hx);have l1:=l1.fr f1 (λhx=>hx);generalize h.new gU (List.replicate s.size (.int .u8 0))=h1 at *
 generalize hbd:h.next=bd at *
 simp only[ag,qP,rK,rM,rN,rL,fQ,gH,af,mX,aeb,Nat.reduceAdd,abo,exists_eq_left',abb];refine l1.st f1.wf (by simp) rfl λh2 l1 f2=>?_;have ld:LB h1 bd (rdC s 0) gU:=by
  rw[rdC,sM];simp_all
 refine (FZ hs d0 (by omega) (by omega) n 0 h2 f2.wf (l0.fr f2 (by omega)) l1 (ld.fr f2 (by omega)) (by omega) (by omega)).mono λx h3 hx=>?_;obtain⟨f3,hx⟩:=hx;have f03:Fr (λg=>g=b0+1\/g=b1+1) h h3:=by
  have a1:Fr (λg=>g=b0+1\/g=b1+1) h h1:=f1.mono hw (λ_ hx _=>hx.elim);have a2:=a1.fresh hw f2 (λg hg=>.inl (.inr hg));refine a2.fresh hw f3 λg hg=>?_
  grind
 simp only[akc] at hx;split at hx
 .rename_i hall;obtain⟨rfl,l0,l1,ld'⟩:=hx;have hl:h3.ldV b1 1=some ⟨some ⟨bd,0,none⟩,s.size,s.size+1⟩:=l1.ld (lf:=.sl) (v:=aC ⟨some ⟨bd,0,none⟩,s.size,s.size+1⟩) rfl rfl;simp only[dX,ag,qP,rK,rM,rN,rL,fQ,gH,af,mX,aeb,Nat.reduceAdd,abo,exists_eq_left',abb,hl];unfold yV;simp only[ag,qP,rK,rM,rN,rL,fQ,gH,af,mX,aeb,Nat.reduceAdd,abo,exists_eq_left',abb];refine (Se (by rw[amK,sM];omega) n s.size h3 f3.wf ld' (by rw[amK,sM];omega) (by omega)).mono λx h4 hx=>?_;obtain⟨rfl,rfl⟩:=hx;generalize hk:Co (xQ s).reverse s.size=k';refine l1.st f3.wf (by grind) rfl λh5 l1 f5=>?_;refine DZ.2 ⟨(ng,⟨some ⟨bd,0,none⟩,k',s.size+1⟩),l1.fI (by simp[aV]) rfl,?_⟩;refine (l0.fr f5 (by omega)).st f5.wf (by simp) rfl λh6 l0 f6=>?_;refine DZ.2 ⟨(ng,⟨some ⟨bd,0,none⟩,k',s.size+1⟩),l0.fI (by simp[aV]) rfl,?_⟩;refine⟨hall.symm,(f03.fresh hw f5 λg hg=>?_).fresh hw f6 λg hg=>?_,λ_=>⟨rfl,bd,s.size+1,by omega,by rw[hk],?_⟩⟩
  .grind
  .grind
  .exact (ld'.fr f5 (by omega)).fr f6 (by omega)
 .rename_i hall;obtain⟨rfl,l0⟩:=hx;simp only[dX,ag,qP,rK,rM,rN,rL,fQ,gH,af,mX,aeb,Nat.reduceAdd,abo,exists_eq_left',abb];refine DZ.2 ⟨(false,pY),l0.fI (by simp) rfl,?_⟩
  grind
def Sf (m:Nat)(T:List UInt8):Bool:=decide (T.length≠0/\T.length<=400/\¬(T.head?=some 48/\1<m))&&T.all nK
def VR {s t}{b0 b1}{ng}{n}{h}(hs:t.size<=65536)(hn:t.size+1<n)(hw:WF h)(d0:b0≠b1)(l0:LB h b0 [.bool false,aI] aF)(l1:LB h b1 [.bool ng,aI] aF) :
  Wp (jA n s (ak b0) (ak b1) t) h λx h'=>x.2=Sf s.size t.data.toList/\Fr (λg=>g=b0+1\/g=b1+1) h h'/\(x.2=true->Oj h h' ng t x.1):=by
 unfold jA;have bad:Sf s.size t.data.toList=false->Wp (sh (sU (ak b0) [Value.bool false,aI]) λx0=>sh (bY [.bool,.sl] (ak b0)) λ(x1:Bool×Sl)=>AI ((x1.1,x1.2),false)) h λx h'=>x.2=Sf s.size t.data.toList/\Fr (λg=>g=b0+1\/g=b1+1) h h'/\(x.2=true->Oj h h' ng t x.1):=by
  intro hb;simp only[ag,qP,rK,rM,rN,rL,fQ,gH,af,mX,aeb,Nat.reduceAdd,abo,exists_eq_left',abb];refine l0.st hw (by simp) rfl λh5 l0 f5=>?_;refine DZ.2 ⟨(false,pY),l0.fI (by simp[aV]) rfl,?_⟩;exact⟨hb.symm,f5.mono hw λg hg _=>.inl (.inl hg),λe=>by cases e⟩
 have good:Sf s.size t.data.toList=t.data.toList.all nK->Wp (kS n (ak b0) (ak b1) t) h λx h'=>x.2=Sf s.size t.data.toList/\Fr (λg=>g=b0+1\/g=b1+1) h h'/\(x.2=true->Oj h h' ng t x.1):=by
  intro hg;rw[hg];exact VO hs hn hw d0 l0 l1
 have hl:t.data.toList.length=t.size:=mS t;simp only[abb];split
 .rename_i h1;have hz:t.size=0:=by omega
  exact bad (by grind [Sf])
 .rename_i h1;have hz:t.size≠0:=by omega
  split
  .rename_i h2;have hz4:¬t.size<=400:=by omega
   exact bad (by grind [Sf])
  .rename_i h2;have hz4:t.size<=400:=by omega
   have hc:t.data.toList[0]?=some t.data.toList[0]:=aa9 (by omega);generalize t.data.toList[0]=c at hc;have hh:t.data.toList.head?=some c:=by grind [List.head?_eq_getElem?]
   have hcc:((c.toNat:Int)=48)↔c=48:=by
    rw[<-anb];grind
   rw[ag,fQ];refine⟨c,by omega,by grind [zq],?_⟩;by_cases h3:c=48
   .rw[By (hcc.2 h3)];split
    .rename_i h4;exact bad (by grind [Sf])
    .rename_i h4;exact good (by grind [Sf])
   .rw[AT (λe=>h3 (hcc.1 e))];exact good (by grind [Sf])
def ve {s}{h}{n}(hs:s.size<=65536)(hn:s.size+1<n)(hw:WF h):Wp (pL n s) h λx h'=>x.2=lg s/\Fr (λ_=>False) h h'/\(x.2=true->Oj h h' (vI s).1 (vI s).2 x.1):=by
 unfold pL;simp only[ag,qP,rK,rM,rN,rL,fQ,gH,af,mX,aeb,Nat.reduceAdd,abo,exists_eq_left',abb,CG];refine⟨rfl,rfl,?_⟩;have f1:=Fr.new (e:=aF) (cs:=[.bool false,aI]) hw;have l0:=LB.new (h:=h) (e:=aF) (cs:=[.bool false,aI]);have nx:(h.new aF [.bool false,aI]).next=h.next+1:=rfl
 generalize h.new aF [.bool false,aI]=h1 at *
 have f2:=Fr.new (e:=aF) (cs:=[.bool false,aI]) f1.wf;have l1:=LB.new (h:=h1) (e:=aF) (cs:=[.bool false,aI]);have l0':=l0.fr f2 (by simp);have f3:=f1.fresh hw f2 (by simp);rw[nx] at *
 generalize h1.new aF [.bool false,aI]=h2 at *
 refine l1.st f3.wf (by simp) rfl λh4 l1' f4=>?_;have l0'':=l0'.fr f4 (by simp);have f5:=f3.fresh hw f4 (λg hg=>.inr (by omega));have J0:∀{t:ζ} {ng:Bool} {h5:aj},t.size<=s.size->LB h5 h.next [.bool false,aI] aF->LB h5 (h.next+1) [.bool ng,aI] aF->Fr (λ_=>False) h h5->Sf s.size t.data.toList=lg s->vI s=(ng,t) ->
   Wp (jA n s (ak h.next) (ak (h.next+1)) t) h5 λx h'=>x.2=lg s/\Fr (λ_=>False) h h'/\(x.2=true->Oj h h' (vI s).1 (vI s).2 x.1):=by
  intro t ng h5 ht a0 a1 fa he hN;refine (VR (by omega) (by omega) fa.wf (by omega) a0 a1).mono λx h' hx=>?_;rw[hN];refine⟨hx.1.trans he,fa.fresh hw hx.2.1 λg hg=>.inr (by omega),λe=>?_⟩;obtain⟨r1,bd,c,r2,r3⟩:=hx.2.2 e;have:=fa.next
  exact⟨r1,bd,c,by omega,r3⟩
 have hl:s.data.toList.length=s.size:=mS s;split
 .rename_i h1;have h1':1<s.size:=by omega
  have hc:s.data.toList[0]?=some s.data.toList[0]:=aa9 (by omega);generalize s.data.toList[0]=c at hc;have hh:s.data.toList.head?=some c:=by grind [List.head?_eq_getElem?]
  have hcc:((c.toNat:Int)=45)↔c=45:=by
   rw[<-anb];grind
  rw[ag,fQ];refine⟨c,by omega,by grind [zq],?_⟩;split
  .rename_i h3;have h3':=hcc.1 h3;simp only[ag,qP,rK,rM,rN,rL,fQ,gH,af,mX,aeb,Nat.reduceAdd,abo,exists_eq_left',abb];refine l1'.st f5.wf (by simp[aV]) rfl λh6 l1 f6=>?_;refine⟨by omega,by omega,by omega,?_⟩;refine J0 ?_ (l0''.fr f6 (by simp)) l1 (f5.fresh hw f6 λg hg=>.inr (by omega)) ?_ ?_
   .grind [mS,Sd]
   .have:(s.extract (1:Int).toNat (s.size:Int).toNat).data.toList=s.data.toList.tail:=by
     grind [Sd,Int.toNat_natCast,List.drop_one,List.take_of_length_le]
    rw[this];unfold lg Sf;simp[hl,h1',hh,h3',akl,ajN]
   grind [vI]
  .rename_i h3;have h3':¬c=45:=λe=>h3 (hcc.2 e);refine J0 (aao _) l0'' l1' f5 ?_ ?_
   .unfold lg Sf
    grind
   grind [vI]
 .rename_i h1;have h1':¬1<s.size:=by omega
  refine J0 (aao _) l0'' l1' f5 ?_ ?_
  .grind [lg,Sf]
  grind [vI]
def yp {s}{h}{n}(hs:s.size<=65536)(hn:s.size+1<n)(hw:WF h):Wp (qq n s) h λx h'=>x=lg s/\Fr (λ_=>False) h h':=by
 unfold qq;refine Wp.seq (ve hs hn hw) λx h1 hx=>?_;obtain⟨e1,f1,-⟩:=hx;simp only[ag,qP,rK,rM,rN,rL,fQ,gH,af,mX,aeb,Nat.reduceAdd,abo,exists_eq_left',abb,CG];refine⟨rfl,?_⟩;have f2:=Fr.new (e:=aF) (cs:=[.bool false,aI]) f1.wf;have l1:=LB.new (h:=h1) (e:=aF) (cs:=[.bool false,aI]);refine l1.st f2.wf (by simp) rfl λh4 l1' f4=>?_;refine⟨e1,(f1.fresh hw f2 (by simp)).fresh hw f4 λg hg=>.inr ?_⟩;have:=f1.next;omega
end Go.Sh
