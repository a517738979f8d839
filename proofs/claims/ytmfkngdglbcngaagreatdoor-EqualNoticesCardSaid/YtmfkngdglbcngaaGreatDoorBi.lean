
import Derived.Test.YtmfkngdglbcngaaGreatDoorBa
set_option linter.all false
namespace Go.Sh
open Go Go.Ago
abbrev v8 (x:Int):ξ:=.int .u8 x
def Wc (b:UInt8):Int:=IntKind.u8.wrap ((b.toNat:Int)-48)
def xG (s:ζ):ε:=s.data.toList.map Wc
def DB (D:ε):Nat->Nat
 |0=>0
 |k+1=>if D[k]?=some 0 then DB D k else k+1
theorem Ga (D:ε):∀k,DB D k<=k
 |0=>aao _
 |k+1=>by
  unfold DB;split
  .have:=Ga D k;omega
  .exact aao _
def yc (s:ζ):Bool×ζ:=if 1<s.size/\s.data.toList.head?=some 45 then (true,s.extract 1 s.size) else (false,s)
def Hk (t:ζ):ε:=((xG t).reverse).take (DB (xG t).reverse t.size)
theorem Qz {D:ε}{bd c:Nat}(hsz:D.length<=65536):∀(n k:Nat) (h:af),WF h->LB h bd (D.map v8) gU->k<=D.length->k<n ->
  Wp (iN n ⟨some ⟨bd,0,none⟩,k,c⟩) h λx h'=>h'=h/\x=⟨some ⟨bd,0,none⟩,DB D k,c⟩
 |0,_,_,_,_,_,hn=>by omega
 |n+1,k,h,hw,l,hk,hn=>by
  rw[yA];unfold qq;simp only[ah,pJ,qg,qi,qj,qh,fE,gf,ag,mr,adQ,Nat.reduceAdd,abG,exists_eq_left',OF];split
  .rename_i h1;have hk0:0<k:=by omega
   have e1:IntKind.i64.wrap ((k:Int)-1)=(k-1:Nat):=by rw[s6 (by omega) (by omega)];omega
   simp only[ah,pJ,qg,qi,qj,qh,fE,gf,ag,mr,adQ,Nat.reduceAdd,abG,exists_eq_left',OF,zm,e1,exists_eq_left',IT,ac0];obtain⟨k,rfl⟩:∃k',k=k'+1:=⟨k-1,by omega⟩;obtain⟨d,hd⟩:∃d,D[k]?=some d:=⟨D[k],abi (by omega)⟩;have hdv:(D.map v8)[k+1-1]?=some (v8 d):=by rw[abo,Nat.add_sub_cancel,hd];rfl
   refine⟨by omega,by omega,d,l.ld (lf:=.int .u8) hdv rfl,?_⟩;rw[DB,hd];split
   .rename_i hz;have hz:d=0:=(by simpa using hz);rw[AT (by rw[hz]),ah];refine Co (by omega) (by omega) (by show ((k+1-1:Nat):Int)<=(k+1:Nat);omega) ?_ ?_
    .unfold oU;simp only[l.get];simp[afo]
    .have e2:(⟨Option.map (λx=>x.plus ((0:Int).toNat*1)) (some (⟨bd,0,none⟩:Addr)),((k+1-1:Nat):Int).toNat-(0:Int).toNat,c-(if c=0 then 0 else (0:Int).toNat)⟩:Sl)=⟨some ⟨bd,0,none⟩,k,c⟩:=by
      simp[mr]
     show Wp (iN n ⟨_,_,_⟩) h _;rw[e2];exact Qz hsz n k h hw l (by omega) (by omega)
   .rename_i hz;have hz:¬d=0:=(by simpa using hz);rw[By (λe=>hz (ab0 e)),ag];exact⟨rfl,rfl⟩
  .have hk0:k=0:=by omega
   subst hk0;rw[ag];exact⟨rfl,rfl⟩
theorem Wd {L:List UInt8}{i:Nat}{c:UInt8}(hc:L[i]?=some c):(L.drop i).all wb=(wb c&&(L.drop (i+1)).all wb):=by
 grind [List.getElem?_eq_some_iff,List.drop_eq_getElem_cons]
theorem Td {γ:Type}{D:List γ}{z d:γ}{i:Nat}(hd:D[i]?=some d):(List.replicate (D.length-i) z++(D.take i).reverse).set (D.length-1-i) d=List.replicate (D.length-(i+1)) z++(D.take (i+1)).reverse:=by
 have hlt:=(List.getElem?_eq_some_iff.1 hd).1;obtain⟨m,hm⟩:∃m,D.length-i=m+1:=⟨D.length-i-1,by omega⟩;rw[hm,ahv,acu,show D.length-1-i=m by omega,agz _ _ (by simp),aeD,agk,ait,afn,aiu,hd,show D.length-(i+1)=m by omega];simp
abbrev rdC (s:ζ)(i:Nat):δ:=(List.replicate ((xG s).length-i) 0++((xG s).take i).reverse).map v8
theorem qT (s:ζ):(xG s).length=s.size:=by unfold xG;rw[ac3];exact jl s
theorem DC {s:ζ}{b0 b1 bd:Nat}{ng:Bool}(hs:s.size<=65536)(d0:b0≠b1)(d1:b0≠bd)(d2:b1≠bd):∀(n i:Nat) (h:af),WF h ->
  LB h b0 [.bool false,aT] aG->LB h b1 [.bool ng,aH ⟨some ⟨bd,0,none⟩,s.size,s.size+1⟩] aG->LB h bd (rdC s i) gU->i<=s.size->s.size-i<n ->
  Wp (iO n (an b0) (an b1) s s.size i) h λx h'=>Fr (λg=>g=b0+1\/g=bd+1) h h' /\
   (if (s.data.toList.drop i).all wb=true then x=.inl ()/\LB h' b0 [.bool false,aT] aG/\LB h' b1 [.bool ng,aH ⟨some ⟨bd,0,none⟩,s.size,s.size+1⟩] aG/\LB h' bd ((xG s).reverse.map v8) gU
    else x=.inr false/\LB h' b0 [.bool false,aT] aG)
 |0,_,_,_,_,_,_,_,hn=>by omega
 |n+1,i,h,hw,l0,l1,ld,hi,hn=>by
  rw[yB];unfold qt;simp only[ah,pJ,qg,qi,qj,qh,fE,gf,ag,mr,adQ,Nat.reduceAdd,abG,exists_eq_left',OF];split
  .rename_i h1;have h1':i<s.size:=by omega
   have hc:s.data.toList[i]?=some s.data.toList[i]:=abi (by rwa [jl]);generalize s.data.toList[i]=c at hc;have hdg:(xG s)[i]?=some (Wc c):=by unfold xG;rw[abo,hc];rfl
   have hdl:=qT s;have had:=Wd hc;rw[Tc] at had;simp only[ah,pJ,qg,qi,qj,qh,fE,gf,ag,mr,adQ,Nat.reduceAdd,abG,exists_eq_left',OF,xq,IT,hc,ah0,ag8];have bad:Wp (bF (an b0) [Value.bool false,aT]) h λ_ h'=>Fr (λg=>g=b0+1\/g=bd+1) h h'/\LB h' b0 [.bool false,aT] aG:=
    l0.st hw (by simp) (by rfl) λh' l0' f=>⟨f.mono hw λg hg _=>.inl (.inl hg),l0'⟩
   split
   .rename_i h2;have hb:(s.data.toList.drop i).all wb=false:=(by rw[had];simp;intro h3;omega);simp only[ah,ag];refine bad.mono λ_ h' hx=>?_
    grind
   .rename_i h2;simp only[ah,pJ,qg,qi,qj,qh,fE,gf,ag,mr,adQ,Nat.reduceAdd,abG,exists_eq_left',OF,xq,IT,hc,ah0,ag8];split
    .rename_i h3;have hb:(s.data.toList.drop i).all wb=false:=(by rw[had];simp;intro h3;omega);simp only[ah,ag];refine bad.mono λ_ h' hx=>?_
     grind
    .rename_i h3;unfold n9;have e1:IntKind.i64.wrap (IntKind.i64.wrap ((s.size:Int)-1)-i)=(s.size-1-i:Nat):=by
      rw[s6 (x:=(s.size:Int)-1) (by omega) (by omega),s6 (by omega) (by omega)];omega
     have e2:IntKind.i64.wrap ((i:Int)+1)=(i+1:Nat):=(by rw[s6 (by omega) (by omega)];omega);have hl:h.ldV b1 1=some ⟨some ⟨bd,0,none⟩,s.size,s.size+1⟩:=l1.ld (lf:=.sl) (v:=aH ⟨some ⟨bd,0,none⟩,s.size,s.size+1⟩) rfl rfl;simp only[ah,pJ,qg,qi,qj,qh,fE,gf,ag,mr,adQ,Nat.reduceAdd,abG,exists_eq_left',OF,xq,IT,hc,ah0,ag8,hl,zm,e1,e2,ac0];refine⟨by omega,?_⟩;refine ld.st hw (by simp;omega) (by rfl) λh' ld' f=>?_;rw[P9 (by simp;omega)] at ld';rw[show (Value.int .u8 (IntKind.u8.wrap ((c.toNat:Int)-48)))=v8 (Wc c) from rfl,<-aho,show s.size-1-i=(xG s).length-1-i by omega,Td hdg] at ld';have ih:=DC hs d0 d1 d2 n (i+1) h' f.wf (l0.fr f (by omega)) (l1.fr f (by omega)) ld' h1' (by omega);refine ih.mono λx h2 hx=>?_;obtain⟨f2,hx⟩:=hx;refine⟨(f.mono hw λg hg _=>.inl (.inr hg)).trans hw f2 λg hg _=>.inl hg,?_⟩
     grind
  .rename_i h1;rw[ag,abV (by rw[jl];omega)];refine⟨Fr.refl hw,?_⟩;simp only[List.all_nil,agN];have hie:i=s.size:=by omega
   rw[hie,rdC,qT,agk,<-qT s,ahu] at ld;exact⟨by trivial,l0,l1,by simpa using ld⟩
theorem We {n:Nat}{v:ξ}:(List.replicate n [v]).flatten=List.replicate n v:=by
 simp_all
def Mq (h h':af)(ng:Bool)(s:ζ)(x:Bool×Sl):Prop:=x.1=ng/\∃bd c,h.next<=bd/\x.2=⟨some ⟨bd,0,none⟩,DB (xG s).reverse s.size,c⟩/\LB h' bd ((xG s).reverse.map v8) gU
theorem Te {s:ζ}{b0 b1:Nat}{ng:Bool}{n:Nat}{h:af}(hs:s.size<=65536)(hn:s.size+1<n)(hw:WF h)(d0:b0≠b1)(l0:LB h b0 [.bool false,aT] aG)(l1:LB h b1 [.bool ng,aT] aG) :
  Wp (jX n (an b0) (an b1) s) h λx h'=>x.2=s.data.toList.all wb/\Fr (λg=>g=b0+1\/g=b1+1) h h'/\(x.2=true->Mq h h' ng s x.1):=by
 unfold jX;rw[ah];refine IH (by omega) (by omega) (by unfold cF;omega) ?_;simp only[IT,We];have k0:=l0.lt hw;have k1:=l1.lt hw;have f1:=Fr.new (e:=gU) (cs:=List.replicate s.size (.int .u8 0)) hw;have ld:=LB.new (h:=h) (e:=gU) (cs:=List.replicate s.size (.int .u8 0));have l0:=l0.fr f1 (λhx=>hx);have l1:=l1.fr f1 (λhx=>hx);generalize h.new gU (List.replicate s.size (.int .u8 0))=h1 at *
 generalize hbd:h.next=bd at *
 simp only[ah,pJ,qg,qi,qj,qh,fE,gf,ag,mr,adQ,Nat.reduceAdd,abG,exists_eq_left',OF];refine l1.st f1.wf (by simp) rfl λh2 l1 f2=>?_;have ld:LB h1 bd (rdC s 0) gU:=by
  rw[rdC,qT];simpa using ld
 refine (DC (ng:=ng) hs d0 (by omega) (by omega) n 0 h2 f2.wf (l0.fr f2 (by omega)) l1 (ld.fr f2 (by omega)) (by omega) (by omega)).mono λx h3 hx=>?_;obtain⟨f3,hx⟩:=hx;have f03:Fr (λg=>g=b0+1\/g=b1+1) h h3:=by
  have a1:Fr (λg=>g=b0+1\/g=b1+1) h h1:=f1.mono hw (λ_ hx _=>hx.elim);have a2:=a1.fresh hw f2 (λg hg=>.inl (.inr hg));refine a2.fresh hw f3 λg hg=>?_
  grind
 simp only[afj] at hx;split at hx
 .rename_i hall;obtain⟨rfl,l0,l1,ld'⟩:=hx;have hl:h3.ldV b1 1=some ⟨some ⟨bd,0,none⟩,s.size,s.size+1⟩:=l1.ld (lf:=.sl) (v:=aH ⟨some ⟨bd,0,none⟩,s.size,s.size+1⟩) rfl rfl;simp only[cY,ah,pJ,qg,qi,qj,qh,fE,gf,ag,mr,adQ,Nat.reduceAdd,abG,exists_eq_left',OF,hl];unfold w5;simp only[ah,pJ,qg,qi,qj,qh,fE,gf,ag,mr,adQ,Nat.reduceAdd,abG,exists_eq_left',OF];refine (Qz (by rw[ahB,qT];omega) n s.size h3 f3.wf ld' (by rw[ahB,qT];omega) (by omega)).mono λx h4 hx=>?_;obtain⟨rfl,rfl⟩:=hx;generalize hk:DB (xG s).reverse s.size=k';refine l1.st f3.wf (by simp[bf]) rfl λh5 l1 f5=>?_;refine Bs.2 ⟨(ng,⟨some ⟨bd,0,none⟩,k',s.size+1⟩),l1.fC (by simp[bf]) rfl,?_⟩;refine (l0.fr f5 (by omega)).st f5.wf (by simp) rfl λh6 l0 f6=>?_;refine Bs.2 ⟨(ng,⟨some ⟨bd,0,none⟩,k',s.size+1⟩),l0.fC (by simp[bf]) rfl,?_⟩;refine⟨hall.symm,(f03.fresh hw f5 λg hg=>?_).fresh hw f6 λg hg=>?_,λ_=>⟨rfl,bd,s.size+1,by omega,by rw[hk],?_⟩⟩
  .exact .inl (.inr hg)
  .exact .inl (.inl hg)
  .exact (ld'.fr f5 (by omega)).fr f6 (by omega)
 .rename_i hall;obtain⟨rfl,l0⟩:=hx;simp only[cY,ah,pJ,qg,qi,qj,qh,fE,gf,ag,mr,adQ,Nat.reduceAdd,abG,exists_eq_left',OF];refine Bs.2 ⟨(false,nP),l0.fC (by simp) rfl,?_⟩
  grind
def QA (m:Nat)(T:List UInt8):Bool:=decide (T.length≠0/\T.length<=400/\¬(T.head?=some 48/\1<m))&&T.all wb
theorem Tf {s t:ζ}{b0 b1:Nat}{ng:Bool}{n:Nat}{h:af}(hs:t.size<=65536)(hn:t.size+1<n)(hw:WF h)(d0:b0≠b1)(l0:LB h b0 [.bool false,aT] aG)(l1:LB h b1 [.bool ng,aT] aG) :
  Wp (iP n s (an b0) (an b1) t) h λx h'=>x.2=QA s.size t.data.toList/\Fr (λg=>g=b0+1\/g=b1+1) h h'/\(x.2=true->Mq h h' ng t x.1):=by
 unfold iP;have bad:QA s.size t.data.toList=false->Wp (sh (bF (an b0) [Value.bool false,aT]) λx0=>sh (aN [.bool,.sl] (an b0)) λ(x1:Bool×Sl)=>AI ((x1.1,x1.2),false)) h λx h'=>x.2=QA s.size t.data.toList/\Fr (λg=>g=b0+1\/g=b1+1) h h'/\(x.2=true->Mq h h' ng t x.1):=by
  intro hb;simp only[ah,pJ,qg,qi,qj,qh,fE,gf,ag,mr,adQ,Nat.reduceAdd,abG,exists_eq_left',OF];refine l0.st hw (by simp) rfl λh5 l0 f5=>?_;refine Bs.2 ⟨(false,nP),l0.fC (by simp[bf]) rfl,?_⟩;exact⟨hb.symm,f5.mono hw λg hg _=>.inl (.inl hg),λe=>by cases e⟩
 have good:QA s.size t.data.toList=t.data.toList.all wb->Wp (jX n (an b0) (an b1) t) h λx h'=>x.2=QA s.size t.data.toList/\Fr (λg=>g=b0+1\/g=b1+1) h h'/\(x.2=true->Mq h h' ng t x.1):=by
  intro hg;rw[hg];exact Te hs hn hw d0 l0 l1
 have hl:t.data.toList.length=t.size:=jl t;simp only[OF];split
 .rename_i h1;have hz:t.size=0:=by omega
  exact bad (by unfold QA;simp[hl,hz])
 .rename_i h1;have hz:t.size≠0:=by omega
  split
  .rename_i h2;have hz4:¬t.size<=400:=by omega
   exact bad (by unfold QA;simp[hl,hz4])
  .rename_i h2;have hz4:t.size<=400:=by omega
   have hc:t.data.toList[0]?=some t.data.toList[0]:=abi (by omega);generalize t.data.toList[0]=c at hc;have hh:t.data.toList.head?=some c:=by rw[ahK];exact hc
   have hcc:((c.toNat:Int)=48)↔c=48:=by
    rw[<-aik];simp;omega
   rw[ah,fE];refine⟨c,by omega,by rw[xq];exact hc,?_⟩;by_cases h3:c=48
   .rw[AT (hcc.2 h3)];split
    .rename_i h4;exact bad (by unfold QA;rw[hh,h3];simp;intro _ _ hm;omega)
    .rename_i h4;exact good (by unfold QA;rw[hh,h3];simp[hl,hz,hz4];intro _;omega)
   .rw[By (λe=>h3 (hcc.1 e))];exact good (by unfold QA;rw[hh];simp[hl,hz,hz4,h3])
theorem tI {s:ζ}{h:af}{n:Nat}(hs:s.size<=65536)(hn:s.size+1<n)(hw:WF h):Wp (oE n s) h λx h'=>x.2=oT s/\Fr (λ_=>False) h h'/\(x.2=true->Mq h h' (yc s).1 (yc s).2 x.1):=by
 unfold oE;simp only[ah,pJ,qg,qi,qj,qh,fE,gf,ag,mr,adQ,Nat.reduceAdd,abG,exists_eq_left',OF,Av];refine⟨rfl,rfl,?_⟩;have f1:=Fr.new (e:=aG) (cs:=[.bool false,aT]) hw;have l0:=LB.new (h:=h) (e:=aG) (cs:=[.bool false,aT]);have nx:(h.new aG [.bool false,aT]).next=h.next+1:=rfl
 generalize h.new aG [.bool false,aT]=h1 at *
 have f2:=Fr.new (e:=aG) (cs:=[.bool false,aT]) f1.wf;have l1:=LB.new (h:=h1) (e:=aG) (cs:=[.bool false,aT]);have l0':=l0.fr f2 (by simp);have f3:=f1.fresh hw f2 (by simp);rw[nx] at *
 generalize h1.new aG [.bool false,aT]=h2 at *
 refine l1.st f3.wf (by simp) rfl λh4 l1' f4=>?_;have l0'':=l0'.fr f4 (by simp);have f5:=f3.fresh hw f4 (λg hg=>.inr (by omega));have J0:∀{t:ζ} {ng:Bool} {h5:af},t.size<=s.size->LB h5 h.next [.bool false,aT] aG->LB h5 (h.next+1) [.bool ng,aT] aG->Fr (λ_=>False) h h5->QA s.size t.data.toList=oT s->yc s=(ng,t) ->
   Wp (iP n s (an h.next) (an (h.next+1)) t) h5 λx h'=>x.2=oT s/\Fr (λ_=>False) h h'/\(x.2=true->Mq h h' (yc s).1 (yc s).2 x.1):=by
  intro t ng h5 ht a0 a1 fa he hN;refine (Tf (by omega) (by omega) fa.wf (by omega) a0 a1).mono λx h' hx=>?_;rw[hN];refine⟨hx.1.trans he,fa.fresh hw hx.2.1 λg hg=>.inr (by omega),λe=>?_⟩;obtain⟨r1,bd,c,r2,r3⟩:=hx.2.2 e;have:=fa.next
  exact⟨r1,bd,c,by omega,r3⟩
 have hl:s.data.toList.length=s.size:=jl s;split
 .rename_i h1;have h1':1<s.size:=by omega
  have hc:s.data.toList[0]?=some s.data.toList[0]:=abi (by omega);generalize s.data.toList[0]=c at hc;have hh:s.data.toList.head?=some c:=by rw[ahK];exact hc
  have hcc:((c.toNat:Int)=45)↔c=45:=by
   rw[<-aik];simp;omega
  rw[ah,fE];refine⟨c,by omega,by rw[xq];exact hc,?_⟩;split
  .rename_i h3;have h3':=hcc.1 h3;simp only[ah,pJ,qg,qi,qj,qh,fE,gf,ag,mr,adQ,Nat.reduceAdd,abG,exists_eq_left',OF];refine l1'.st f5.wf (by simp[bf]) rfl λh6 l1 f6=>?_;refine⟨by omega,by omega,by omega,?_⟩;refine J0 (ng:=true) ?_ (l0''.fr f6 (by simp)) l1 (f5.fresh hw f6 λg hg=>.inr (by omega)) ?_ ?_
   .rw[<-jl,Qy];simp
   .have:(s.extract (1:Int).toNat (s.size:Int).toNat).data.toList=s.data.toList.tail:=by
     rw[Qy,IT];show (s.data.toList.drop 1).take (s.size-1)=_;rw[List.drop_one,agR (by simp[hl])]
    rw[this];unfold oT QA;simp only[hl,h1',hh,h3',ag8,agN]
   .unfold yc;rw[AT ⟨h1',by rw[hh,h3']⟩];rfl
  .rename_i h3;have h3':¬c=45:=λe=>h3 (hcc.2 e);refine J0 (ng:=false) (aao _) l0'' l1' f5 ?_ ?_
   .unfold oT QA
    grind
   .unfold yc
    grind
 .rename_i h1;have h1':¬1<s.size:=by omega
  refine J0 (ng:=false) (aao _) l0'' l1' f5 ?_ ?_
  .unfold oT QA;simp only[hl,h1',false_and,aeL]
  .unfold yc;rw[By (λe=>h1' e.1)]
theorem wz {s:ζ}{h:af}{n:Nat}(hs:s.size<=65536)(hn:s.size+1<n)(hw:WF h):Wp (pc n s) h λx h'=>x=oT s/\Fr (λ_=>False) h h':=by
 unfold pc;refine Wp.seq (tI hs hn hw) λx h1 hx=>?_;obtain⟨e1,f1,-⟩:=hx;simp only[ah,pJ,qg,qi,qj,qh,fE,gf,ag,mr,adQ,Nat.reduceAdd,abG,exists_eq_left',OF,Av];refine⟨rfl,?_⟩;have f2:=Fr.new (e:=aG) (cs:=[.bool false,aT]) f1.wf;have l1:=LB.new (h:=h1) (e:=aG) (cs:=[.bool false,aT]);refine l1.st f2.wf (by simp) rfl λh4 l1' f4=>?_;refine⟨e1,(f1.fresh hw f2 (by simp)).fresh hw f4 λg hg=>.inr ?_⟩;have:=f1.next;omega
end Go.Sh
