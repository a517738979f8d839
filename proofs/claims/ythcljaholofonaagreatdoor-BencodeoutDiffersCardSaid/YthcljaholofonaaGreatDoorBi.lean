
import Derived.Test.YthcljaholofonaaGreatDoorBa
set_option linter.all false
namespace Go.Sh
open Go Go.Ago
abbrev v8 (x:Int):ξ:=.int .u8 x
def abZ (b:UInt8):Int:=IntKind.u8.wrap ((b.toNat:Int)-48)
def B3 (s:ζ):ε:=s.data.toList.map abZ
def Ik (D:ε):Nat->Nat
 |0=>0
 |k+1=>if D[k]?=some 0 then Ik D k else k+1
theorem KI D:∀k,Ik D k<=k
 |0=>acX _
 |k+1=>by
  unfold Ik;split
  .have:=KI D k;omega
  grind
def CD (s:ζ):Bool×ζ:=if 1<s.size/\s.data.toList.head?=some 45 then (true,s.extract 1 s.size) else (false,s)
def Me (t:ζ):ε:=((B3 t).reverse).take (Ik (B3 t).reverse t.size)
def UO {D}{bd c}(hsz:D.length<=65536):∀n k h ,WF h->LB h bd (D.map v8) gH->k<=D.length->k<n ->
  Wp (mX n ⟨some ⟨bd,0,none⟩,k,c⟩) h λx h'=>h'=h/\x=⟨some ⟨bd,0,none⟩,Ik D k,c⟩
 |0,_,_,_,_,_,hn=>by omega
 |n+1,k,h,hw,l,hk,hn=>by
  rw[Dd];unfold uv;simp only[ah,lC,lZ,mc,me,ma,fA,bY,ag,gQ,ad6,Nat.reduceAdd,adW,exists_eq_left',ab8];split
  .rename_i h1;have hk0:0<k:=by omega
   have e1:IntKind.i64.wrap ((k:Int)-1)=(k-1:Nat):=by rw[vw (by omega) (by omega)];omega
   simp only[ah,lC,lZ,mc,me,ma,fA,bY,ag,gQ,ad6,Nat.reduceAdd,adW,exists_eq_left',ab8,ta,e1,exists_eq_left',IS,adY];obtain⟨k,rfl⟩:∃k',k=k'+1:=⟨k-1,by omega⟩;obtain⟨d,hd⟩:∃d,D[k]?=some d:=⟨D[k],adg (by omega)⟩;have hdv:(D.map v8)[k+1-1]?=some (v8 d):=by rw[abt,Nat.add_sub_cancel,hd];rfl
   refine⟨by omega,by omega,d,l.ld (lf:=.int .u8) hdv rfl,?_⟩;rw[Ik,hd];split
   .rename_i hz;have hz:d=0:=(by simpa using hz);rw[By (by rw[hz]),ah];refine rV (by omega) (by omega) (by show ((k+1-1:Nat):Int)<=(k+1:Nat);omega) ?_ ?_
    .unfold mM;simp only[l.get];simp[anD]
    .have e2:(⟨Option.map (λx=>x.plus ((0:Int).toNat*1)) (some (⟨bd,0,none⟩:Addr)),((k+1-1:Nat):Int).toNat-(0:Int).toNat,c-(if c=0 then 0 else (0:Int).toNat)⟩:Sl)=⟨some ⟨bd,0,none⟩,k,c⟩:=by
      simp[gQ]
     show Wp (mX n ⟨_,_,_⟩) h _;rw[e2];exact UO hsz n k h hw l (by omega) (by omega)
   .rename_i hz;have hz:¬d=0:=(by simpa using hz);rw[AT (λe=>hz (ahh e)),ag];exact⟨rfl,rfl⟩
  .have hk0:k=0:=by omega
   subst hk0;rw[ag];exact⟨rfl,rfl⟩
def Qt {L:List UInt8}{i}{c}(hc:L[i]?=some c):(L.drop i).all pD=(pD c&&(L.drop (i+1)).all pD):=by
 grind [List.getElem?_eq_some_iff,List.drop_eq_getElem_cons]
def Yb {γ:Type}{D:List γ}{z d}{i}(hd:D[i]?=some d):(List.replicate (D.length-i) z++(D.take i).reverse).set (D.length-1-i) d=List.replicate (D.length-(i+1)) z++(D.take (i+1)).reverse:=by
 have hlt:=(List.getElem?_eq_some_iff.1 hd).1;obtain⟨m,hm⟩:∃m,D.length-i=m+1:=⟨D.length-i-1,by omega⟩;rw[hm,aqv,ad3,show D.length-1-i=m by omega,aoa _ _ (by simp),aeP,apq,aq9,anK,apN,hd,show D.length-(i+1)=m by omega];simp
abbrev rdC (s:ζ)(i:Nat):δ:=(List.replicate ((B3 s).length-i) 0++((B3 s).take i).reverse).map v8
theorem u7 s:(B3 s).length=s.size:=by grind [B3,List.length_map,nB]
def Il {s}{b0 b1 bd}{ng}(hs:s.size<=65536)(d0:b0≠b1)(d1:b0≠bd)(d2:b1≠bd):∀n i h ,WF h ->
  LB h b0 [.bool false,aI] aH->LB h b1 [.bool ng,aA ⟨some ⟨bd,0,none⟩,s.size,s.size+1⟩] aH->LB h bd (rdC s i) gH->i<=s.size->s.size-i<n ->
  Wp (mY n (ak b0) (ak b1) s s.size i) h λx h'=>Fr (λg=>g=b0+1\/g=bd+1) h h' /\
   (if (s.data.toList.drop i).all pD=true then x=.inl ()/\LB h' b0 [.bool false,aI] aH/\LB h' b1 [.bool ng,aA ⟨some ⟨bd,0,none⟩,s.size,s.size+1⟩] aH/\LB h' bd ((B3 s).reverse.map v8) gH
    else x=.inr false/\LB h' b0 [.bool false,aI] aH)
 |0,_,_,_,_,_,_,_,hn=>by omega
 |n+1,i,h,hw,l0,l1,ld,hi,hn=>by
  rw[Dr];unfold uG;simp only[ah,lC,lZ,mc,me,ma,fA,bY,ag,gQ,ad6,Nat.reduceAdd,adW,exists_eq_left',ab8];split
  .rename_i h1;have h1':i<s.size:=by omega
   have hc:s.data.toList[i]?=some s.data.toList[i]:=adg (by simp_all);generalize s.data.toList[i]=c at hc;have hdg:(B3 s)[i]?=some (abZ c):=by grind [B3]
   have hdl:=u7 s;have had:=Qt hc;rw[MP] at had;simp only[ah,lC,lZ,mc,me,ma,fA,bY,ag,gQ,ad6,Nat.reduceAdd,adW,exists_eq_left',ab8,za,IS,hc,ajm,aoL];have bad:Wp (sL (ak b0) [Value.bool false,aI]) h λ_ h'=>Fr (λg=>g=b0+1\/g=bd+1) h h'/\LB h' b0 [.bool false,aI] aH:=
    l0.st hw (by simp) (by rfl) λh' l0' f=>⟨f.mono hw λg hg _=>.inl (.inl hg),l0'⟩
   split
   .rename_i h2;have hb:(s.data.toList.drop i).all pD=false:=(by grind);simp only[ah,ag];refine bad.mono λ_ h' hx=>?_
    grind
   .rename_i h2;simp only[ah,lC,lZ,mc,me,ma,fA,bY,ag,gQ,ad6,Nat.reduceAdd,adW,exists_eq_left',ab8,za,IS,hc,ajm,aoL];split
    .rename_i h3;have hb:(s.data.toList.drop i).all pD=false:=(by rw[had];simp;intro h3;omega);simp only[ah,ag];refine bad.mono λ_ h' hx=>?_
     grind
    .rename_i h3;unfold rq;have e1:IntKind.i64.wrap (IntKind.i64.wrap ((s.size:Int)-1)-i)=(s.size-1-i:Nat):=by
      rw[vw (x:=(s.size:Int)-1) (by omega) (by omega),vw (by omega) (by omega)];omega
     have e2:IntKind.i64.wrap ((i:Int)+1)=(i+1:Nat):=(by rw[vw (by omega) (by omega)];omega);have hl:h.ldV b1 1=some ⟨some ⟨bd,0,none⟩,s.size,s.size+1⟩:=l1.ld (lf:=.sl) (v:=aA ⟨some ⟨bd,0,none⟩,s.size,s.size+1⟩) rfl rfl;simp only[ah,lC,lZ,mc,me,ma,fA,bY,ag,gQ,ad6,Nat.reduceAdd,adW,exists_eq_left',ab8,za,IS,hc,ajm,aoL,hl,ta,e1,e2,adY];refine⟨by omega,?_⟩;refine ld.st hw (by simp;omega) (by rfl) λh' ld' f=>?_;rw[aeO (by simp;omega)] at ld';rw[show (Value.int .u8 (IntKind.u8.wrap ((c.toNat:Int)-48)))=v8 (abZ c) from rfl,<-aqX,show s.size-1-i=(B3 s).length-1-i by omega,Yb hdg] at ld';have ih:=Il hs d0 d1 d2 n (i+1) h' f.wf (l0.fr f (by omega)) (l1.fr f (by omega)) ld' h1' (by omega);refine ih.mono λx h2 hx=>?_;obtain⟨f2,hx⟩:=hx;refine⟨(f.mono hw λg hg _=>.inl (.inr hg)).trans hw f2 λg hg _=>.inl hg,?_⟩
     grind
  .rename_i h1;rw[ag,aco (by simp_all)];refine⟨Fr.refl hw,?_⟩;simp only[List.all_nil,apI];have hie:i=s.size:=by omega
   rw[hie,rdC,u7,apq,<-u7 s,apS] at ld
   grind
def ab0 {n}{v:ξ}:(List.replicate n [v]).flatten=List.replicate n v:=by
 simp_all
def Qu (h h':aj)(ng:Bool)(s:ζ)(x:Bool×Sl):Prop:=x.1=ng/\∃bd c,h.next<=bd/\x.2=⟨some ⟨bd,0,none⟩,Ik (B3 s).reverse s.size,c⟩/\LB h' bd ((B3 s).reverse.map v8) gH
def Yc {s}{b0 b1}{ng}{n}{h}(hs:s.size<=65536)(hn:s.size+1<n)(hw:WF h)(d0:b0≠b1)(l0:LB h b0 [.bool false,aI] aH)(l1:LB h b1 [.bool ng,aI] aH) :
  Wp (mZ n (ak b0) (ak b1) s) h λx h'=>x.2=s.data.toList.all pD/\Fr (λg=>g=b0+1\/g=b1+1) h h'/\(x.2=true->Qu h h' ng s x.1):=by
 unfold mZ;rw[ah];refine R5 (by omega) (by omega) (by grind [bJ]) ?_;simp only[IS,ab0];have k0:=l0.lt hw;have k1:=l1.lt hw;have f1:=Fr.new (e:=gH) (cs:=List.replicate s.size (.int .u8 0)) hw;have ld:=LB.new (h:=h) (e:=gH) (cs:=List.replicate s.size (.int .u8 0));have l0:=l0.fr f1 (λhx=>hx);have l1:=l1.fr f1 (λhx=>hx);generalize h.new gH (List.replicate s.size (.int .u8 0))=h1 at *
 generalize hbd:h.next=bd at *
 simp only[ah,lC,lZ,mc,me,ma,fA,bY,ag,gQ,ad6,Nat.reduceAdd,adW,exists_eq_left',ab8];refine l1.st f1.wf (by simp) rfl λh2 l1 f2=>?_;have ld:LB h1 bd (rdC s 0) gH:=by
  rw[rdC,u7];simp_all
 refine (Il hs d0 (by omega) (by omega) n 0 h2 f2.wf (l0.fr f2 (by omega)) l1 (ld.fr f2 (by omega)) (by omega) (by omega)).mono λx h3 hx=>?_;obtain⟨f3,hx⟩:=hx;have f03:Fr (λg=>g=b0+1\/g=b1+1) h h3:=by
  have a1:Fr (λg=>g=b0+1\/g=b1+1) h h1:=f1.mono hw (λ_ hx _=>hx.elim);have a2:=a1.fresh hw f2 (λg hg=>.inl (.inr hg));refine a2.fresh hw f3 λg hg=>?_
  grind
 simp only[alZ] at hx;split at hx
 .rename_i hall;obtain⟨rfl,l0,l1,ld'⟩:=hx;have hl:h3.ldV b1 1=some ⟨some ⟨bd,0,none⟩,s.size,s.size+1⟩:=l1.ld (lf:=.sl) (v:=aA ⟨some ⟨bd,0,none⟩,s.size,s.size+1⟩) rfl rfl;simp only[aK,ah,lC,lZ,mc,me,ma,fA,bY,ag,gQ,ad6,Nat.reduceAdd,adW,exists_eq_left',ab8,hl];unfold Be;simp only[ah,lC,lZ,mc,me,ma,fA,bY,ag,gQ,ad6,Nat.reduceAdd,adW,exists_eq_left',ab8];refine (UO (by rw[apV,u7];omega) n s.size h3 f3.wf ld' (by rw[apV,u7];omega) (by omega)).mono λx h4 hx=>?_;obtain⟨rfl,rfl⟩:=hx;generalize hk:Ik (B3 s).reverse s.size=k';refine l1.st f3.wf (by grind) rfl λh5 l1 f5=>?_;refine Gd.2 ⟨(ng,⟨some ⟨bd,0,none⟩,k',s.size+1⟩),l1.eZ (by simp[aR]) rfl,?_⟩;refine (l0.fr f5 (by omega)).st f5.wf (by simp) rfl λh6 l0 f6=>?_;refine Gd.2 ⟨(ng,⟨some ⟨bd,0,none⟩,k',s.size+1⟩),l0.eZ (by simp[aR]) rfl,?_⟩;refine⟨hall.symm,(f03.fresh hw f5 λg hg=>?_).fresh hw f6 λg hg=>?_,λ_=>⟨rfl,bd,s.size+1,by omega,by rw[hk],?_⟩⟩
  .grind
  .grind
  .exact (ld'.fr f5 (by omega)).fr f6 (by omega)
 .rename_i hall;obtain⟨rfl,l0⟩:=hx;simp only[aK,ah,lC,lZ,mc,me,ma,fA,bY,ag,gQ,ad6,Nat.reduceAdd,adW,exists_eq_left',ab8];refine Gd.2 ⟨(false,oz),l0.eZ (by simp) rfl,?_⟩
  grind
def Jj (m:Nat)(T:List UInt8):Bool:=decide (T.length≠0/\T.length<=400/\¬(T.head?=some 48/\1<m))&&T.all pD
def Yd {s t}{b0 b1}{ng}{n}{h}(hs:t.size<=65536)(hn:t.size+1<n)(hw:WF h)(d0:b0≠b1)(l0:LB h b0 [.bool false,aI] aH)(l1:LB h b1 [.bool ng,aI] aH) :
  Wp (kM n s (ak b0) (ak b1) t) h λx h'=>x.2=Jj s.size t.data.toList/\Fr (λg=>g=b0+1\/g=b1+1) h h'/\(x.2=true->Qu h h' ng t x.1):=by
 unfold kM;have bad:Jj s.size t.data.toList=false->Wp (sh (sL (ak b0) [Value.bool false,aI]) λx0=>sh (cF [.bool,.sl] (ak b0)) λ(x1:Bool×Sl)=>AI ((x1.1,x1.2),false)) h λx h'=>x.2=Jj s.size t.data.toList/\Fr (λg=>g=b0+1\/g=b1+1) h h'/\(x.2=true->Qu h h' ng t x.1):=by
  intro hb;simp only[ah,lC,lZ,mc,me,ma,fA,bY,ag,gQ,ad6,Nat.reduceAdd,adW,exists_eq_left',ab8];refine l0.st hw (by simp) rfl λh5 l0 f5=>?_;refine Gd.2 ⟨(false,oz),l0.eZ (by simp[aR]) rfl,?_⟩;exact⟨hb.symm,f5.mono hw λg hg _=>.inl (.inl hg),λe=>by cases e⟩
 have good:Jj s.size t.data.toList=t.data.toList.all pD->Wp (mZ n (ak b0) (ak b1) t) h λx h'=>x.2=Jj s.size t.data.toList/\Fr (λg=>g=b0+1\/g=b1+1) h h'/\(x.2=true->Qu h h' ng t x.1):=by
  intro hg;rw[hg];exact Yc hs hn hw d0 l0 l1
 have hl:t.data.toList.length=t.size:=nB t;simp only[ab8];split
 .rename_i h1;have hz:t.size=0:=by omega
  exact bad (by grind [Jj])
 .rename_i h1;have hz:t.size≠0:=by omega
  split
  .rename_i h2;have hz4:¬t.size<=400:=by omega
   exact bad (by grind [Jj])
  .rename_i h2;have hz4:t.size<=400:=by omega
   have hc:t.data.toList[0]?=some t.data.toList[0]:=adg (by omega);generalize t.data.toList[0]=c at hc;have hh:t.data.toList.head?=some c:=by grind [List.head?_eq_getElem?]
   have hcc:((c.toNat:Int)=48)↔c=48:=by
    rw[<-aqq];grind
   rw[ah,fA];refine⟨c,by omega,by grind [za],?_⟩;by_cases h3:c=48
   .rw[By (hcc.2 h3)];split
    .rename_i h4;exact bad (by grind [Jj])
    .rename_i h4;exact good (by grind [Jj])
   .rw[AT (λe=>h3 (hcc.1 e))];exact good (by grind [Jj])
def xi {s}{h}{n}(hs:s.size<=65536)(hn:s.size+1<n)(hw:WF h):Wp (sd n s) h λx h'=>x.2=qe s/\Fr (λ_=>False) h h'/\(x.2=true->Qu h h' (CD s).1 (CD s).2 x.1):=by
 unfold sd;simp only[ah,lC,lZ,mc,me,ma,fA,bY,ag,gQ,ad6,Nat.reduceAdd,adW,exists_eq_left',ab8,Hd];refine⟨rfl,rfl,?_⟩;have f1:=Fr.new (e:=aH) (cs:=[.bool false,aI]) hw;have l0:=LB.new (h:=h) (e:=aH) (cs:=[.bool false,aI]);have nx:(h.new aH [.bool false,aI]).next=h.next+1:=rfl
 generalize h.new aH [.bool false,aI]=h1 at *
 have f2:=Fr.new (e:=aH) (cs:=[.bool false,aI]) f1.wf;have l1:=LB.new (h:=h1) (e:=aH) (cs:=[.bool false,aI]);have l0':=l0.fr f2 (by simp);have f3:=f1.fresh hw f2 (by simp);rw[nx] at *
 generalize h1.new aH [.bool false,aI]=h2 at *
 refine l1.st f3.wf (by simp) rfl λh4 l1' f4=>?_;have l0'':=l0'.fr f4 (by simp);have f5:=f3.fresh hw f4 (λg hg=>.inr (by omega));have J0:∀{t:ζ} {ng:Bool} {h5:aj},t.size<=s.size->LB h5 h.next [.bool false,aI] aH->LB h5 (h.next+1) [.bool ng,aI] aH->Fr (λ_=>False) h h5->Jj s.size t.data.toList=qe s->CD s=(ng,t) ->
   Wp (kM n s (ak h.next) (ak (h.next+1)) t) h5 λx h'=>x.2=qe s/\Fr (λ_=>False) h h'/\(x.2=true->Qu h h' (CD s).1 (CD s).2 x.1):=by
  intro t ng h5 ht a0 a1 fa he hN;refine (Yd (by omega) (by omega) fa.wf (by omega) a0 a1).mono λx h' hx=>?_;rw[hN];refine⟨hx.1.trans he,fa.fresh hw hx.2.1 λg hg=>.inr (by omega),λe=>?_⟩;obtain⟨r1,bd,c,r2,r3⟩:=hx.2.2 e;have:=fa.next
  exact⟨r1,bd,c,by omega,r3⟩
 have hl:s.data.toList.length=s.size:=nB s;split
 .rename_i h1;have h1':1<s.size:=by omega
  have hc:s.data.toList[0]?=some s.data.toList[0]:=adg (by omega);generalize s.data.toList[0]=c at hc;have hh:s.data.toList.head?=some c:=by grind [List.head?_eq_getElem?]
  have hcc:((c.toNat:Int)=45)↔c=45:=by
   rw[<-aqq];grind
  rw[ah,fA];refine⟨c,by omega,by grind [za],?_⟩;split
  .rename_i h3;have h3':=hcc.1 h3;simp only[ah,lC,lZ,mc,me,ma,fA,bY,ag,gQ,ad6,Nat.reduceAdd,adW,exists_eq_left',ab8];refine l1'.st f5.wf (by simp[aR]) rfl λh6 l1 f6=>?_;refine⟨by omega,by omega,by omega,?_⟩;refine J0 ?_ (l0''.fr f6 (by simp)) l1 (f5.fresh hw f6 λg hg=>.inr (by omega)) ?_ ?_
   .grind [nB,UN]
   .have:(s.extract (1:Int).toNat (s.size:Int).toNat).data.toList=s.data.toList.tail:=by
     grind [UN,Int.toNat_natCast,List.drop_one,List.take_of_length_le]
    rw[this];unfold qe Jj;simp[hl,h1',hh,h3',aoL,apI]
   grind [CD]
  .rename_i h3;have h3':¬c=45:=λe=>h3 (hcc.2 e);refine J0 (acX _) l0'' l1' f5 ?_ ?_
   .unfold qe Jj
    grind
   grind [CD]
 .rename_i h1;have h1':¬1<s.size:=by omega
  refine J0 (acX _) l0'' l1' f5 ?_ ?_
  .grind [qe,Jj]
  grind [CD]
def AK {s}{h}{n}(hs:s.size<=65536)(hn:s.size+1<n)(hw:WF h):Wp (sV n s) h λx h'=>x=qe s/\Fr (λ_=>False) h h':=by
 unfold sV;refine Wp.seq (xi hs hn hw) λx h1 hx=>?_;obtain⟨e1,f1,-⟩:=hx;simp only[ah,lC,lZ,mc,me,ma,fA,bY,ag,gQ,ad6,Nat.reduceAdd,adW,exists_eq_left',ab8,Hd];refine⟨rfl,?_⟩;have f2:=Fr.new (e:=aH) (cs:=[.bool false,aI]) f1.wf;have l1:=LB.new (h:=h1) (e:=aH) (cs:=[.bool false,aI]);refine l1.st f2.wf (by simp) rfl λh4 l1' f4=>?_;refine⟨e1,(f1.fresh hw f2 (by simp)).fresh hw f4 λg hg=>.inr ?_⟩;have:=f1.next;omega
end Go.Sh
