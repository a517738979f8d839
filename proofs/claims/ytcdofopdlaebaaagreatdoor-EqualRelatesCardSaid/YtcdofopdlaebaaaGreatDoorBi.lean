
import Derived.Test.YtcdofopdlaebaaaGreatDoorBa
set_option linter.all false
namespace Go.Sh
open Go Go.Ago
abbrev v8 (x:Int):Value:=.int .u8 x
def Vr (b:UInt8):Int:=IntKind.u8.wrap ((b.toNat:Int)-48)
def wT (s:ByteArray):List Int:=s.data.toList.map Vr
def CG (D:List Int):Nat->Nat
 |0=>0
 |k+1=>if D[k]?=some 0 then CG D k else k+1
theorem Fh (D:List Int):∀k,CG D k<=k
 |0=>aaR _
 |k+1=>by
  unfold CG;split
  .have:=Fh D k;omega
  .exact aaR _
def xg (s:ByteArray):Bool×ByteArray:=if 1<s.size/\s.data.toList.head?=some 45 then (true,s.extract 1 s.size) else (false,s)
def Gq (t:ByteArray):List Int:=((wT t).reverse).take (CG (wT t).reverse t.size)
theorem PJ {D:List Int}{bd c:Nat}(hsz:D.length<=65536):∀(n k:Nat) (h:af),WF h->LB h bd (D.map v8) gC->k<=D.length->k<n ->
  Wp (ij n ⟨some ⟨bd,0,none⟩,k,c⟩) h λx h'=>h'=h/\x=⟨some ⟨bd,0,none⟩,CG D k,c⟩
 |0,_,_,_,_,_,hn=>by omega
 |n+1,k,h,hw,l,hk,hn=>by
  rw[xE];unfold pQ;simp only[ah,oZ,pG,pI,pJ,pH,fl,fQ,ag,lP,adr,Nat.reduceAdd,aaM,exists_eq_left',decide_eq_true_eq];split
  .rename_i h1;have hk0:0<k:=by omega
   have e1:IntKind.i64.wrap ((k:Int)-1)=(k-1:Nat):=by rw[sq (by omega) (by omega)];omega
   simp only[ah,oZ,pG,pI,pJ,pH,fl,fQ,ag,lP,adr,Nat.reduceAdd,aaM,exists_eq_left',decide_eq_true_eq,yw,e1,exists_eq_left',IS,acq];obtain⟨k,rfl⟩:∃k',k=k'+1:=⟨k-1,by omega⟩;obtain⟨d,hd⟩:∃d,D[k]?=some d:=⟨D[k],aaJ (by omega)⟩;have hdv:(D.map v8)[k+1-1]?=some (v8 d):=by rw[aaW,Nat.add_sub_cancel,hd];rfl
   refine⟨by omega,by omega,d,l.ld (lf:=.int .u8) hdv rfl,?_⟩;rw[CG,hd];split
   .rename_i hz;have hz:d=0:=(by simpa using hz);rw[if_pos (by rw[hz]),ah];refine Bx (by omega) (by omega) (by show ((k+1-1:Nat):Int)<=(k+1:Nat);omega) ?_ ?_
    .unfold np;simp only[l.get];simp[aeP]
    .have e2:(⟨Option.map (λx=>x.plus ((0:Int).toNat*1)) (some (⟨bd,0,none⟩:Addr)),((k+1-1:Nat):Int).toNat-(0:Int).toNat,c-(if c=0 then 0 else (0:Int).toNat)⟩:Sl)=⟨some ⟨bd,0,none⟩,k,c⟩:=by
      simp[lP]
     show Wp (ij n ⟨_,_,_⟩) h _;rw[e2];exact PJ hsz n k h hw l (by omega) (by omega)
   .rename_i hz;have hz:¬d=0:=(by simpa using hz);rw[if_neg (λe=>hz (abi e)),ag];exact⟨rfl,rfl⟩
  .have hk0:k=0:=by omega
   subst hk0;rw[ag];exact⟨rfl,rfl⟩
theorem Vs {L:List UInt8}{i:Nat}{c:UInt8}(hc:L[i]?=some c):(L.drop i).all tO=(tO c&&(L.drop (i+1)).all tO):=by
 have hlt:=(List.getElem?_eq_some_iff.1 hc).1;have hd:L.drop i=c::L.drop (i+1):=by
  rw[aee hlt,(List.getElem?_eq_some_iff.1 hc).2]
 rw[hd,agi]
theorem Se {γ:Type}{D:List γ}{z d:γ}{i:Nat}(hd:D[i]?=some d):(List.replicate (D.length-i) z++(D.take i).reverse).set (D.length-1-i) d=List.replicate (D.length-(i+1)) z++(D.take (i+1)).reverse:=by
 have hlt:=(List.getElem?_eq_some_iff.1 hd).1;obtain⟨m,hm⟩:∃m,D.length-i=m+1:=⟨D.length-i-1,by omega⟩;rw[hm,agb,abp,show D.length-1-i=m by omega,aeV _ _ (by simp),adf,aft,ag7,aeg,ag8,hd,show D.length-(i+1)=m by omega];simp
abbrev rdC (s:ByteArray)(i:Nat):List Value:=(List.replicate ((wT s).length-i) 0++((wT s).take i).reverse).map v8
theorem qo (s:ByteArray):(wT s).length=s.size:=by unfold wT;rw[adq];exact iU s
theorem CH {s:ByteArray}{b0 b1 bd:Nat}{ng:Bool}(hs:s.size<=65536)(d0:b0≠b1)(d1:b0≠bd)(d2:b1≠bd):∀(n i:Nat) (h:af),WF h ->
  LB h b0 [.bool false,aU] aH->LB h b1 [.bool ng,aE ⟨some ⟨bd,0,none⟩,s.size,s.size+1⟩] aH->LB h bd (rdC s i) gC->i<=s.size->s.size-i<n ->
  Wp (im n (ak b0) (ak b1) s s.size i) h λx h'=>Fr (λg=>g=b0+1\/g=bd+1) h h' /\
   (if (s.data.toList.drop i).all tO=true then x=.inl ()/\LB h' b0 [.bool false,aU] aH/\LB h' b1 [.bool ng,aE ⟨some ⟨bd,0,none⟩,s.size,s.size+1⟩] aH/\LB h' bd ((wT s).reverse.map v8) gC
    else x=.inr false/\LB h' b0 [.bool false,aU] aH)
 |0,_,_,_,_,_,_,_,hn=>by omega
 |n+1,i,h,hw,l0,l1,ld,hi,hn=>by
  rw[xF];unfold pR;simp only[ah,oZ,pG,pI,pJ,pH,fl,fQ,ag,lP,adr,Nat.reduceAdd,aaM,exists_eq_left',decide_eq_true_eq];split
  .rename_i h1;have h1':i<s.size:=by omega
   have hc:s.data.toList[i]?=some s.data.toList[i]:=aaJ (by rwa [iU]);generalize s.data.toList[i]=c at hc;have hdg:(wT s)[i]?=some (Vr c):=by unfold wT;rw[aaW,hc];rfl
   have hdl:=qo s;have had:=Vs hc;rw[Sd] at had;simp only[ah,oZ,pG,pI,pJ,pH,fl,fQ,ag,lP,adr,Nat.reduceAdd,aaM,exists_eq_left',decide_eq_true_eq,wE,IS,hc,agL,true_and];have bad:Wp (bG (ak b0) [Value.bool false,aU]) h λ_ h'=>Fr (λg=>g=b0+1\/g=bd+1) h h'/\LB h' b0 [.bool false,aU] aH:=
    l0.st hw (by simp) (by rfl) λh' l0' f=>⟨f.mono hw λg hg _=>.inl (.inl hg),l0'⟩
   split
   .rename_i h2;have hb:(s.data.toList.drop i).all tO=false:=(by rw[had];simp;intro h3;omega);simp only[ah,ag];refine bad.mono λ_ h' hx=>?_;simp only[hb,aa1,if_false];exact⟨hx.1,by trivial,hx.2⟩
   .rename_i h2;simp only[ah,oZ,pG,pI,pJ,pH,fl,fQ,ag,lP,adr,Nat.reduceAdd,aaM,exists_eq_left',decide_eq_true_eq,wE,IS,hc,agL,true_and];split
    .rename_i h3;have hb:(s.data.toList.drop i).all tO=false:=(by rw[had];simp;intro h3;omega);simp only[ah,ag];refine bad.mono λ_ h' hx=>?_;simp only[hb,aa1,if_false];exact⟨hx.1,by trivial,hx.2⟩
    .rename_i h3;unfold nA;have e1:IntKind.i64.wrap (IntKind.i64.wrap ((s.size:Int)-1)-i)=(s.size-1-i:Nat):=by
      rw[sq (x:=(s.size:Int)-1) (by omega) (by omega),sq (by omega) (by omega)];omega
     have e2:IntKind.i64.wrap ((i:Int)+1)=(i+1:Nat):=(by rw[sq (by omega) (by omega)];omega);have hl:h.ldV b1 1=some ⟨some ⟨bd,0,none⟩,s.size,s.size+1⟩:=l1.ld (lf:=.sl) (v:=aE ⟨some ⟨bd,0,none⟩,s.size,s.size+1⟩) rfl rfl;simp only[ah,oZ,pG,pI,pJ,pH,fl,fQ,ag,lP,adr,Nat.reduceAdd,aaM,exists_eq_left',decide_eq_true_eq,wE,IS,hc,agL,true_and,hl,yw,e1,e2,acq];refine⟨by omega,?_⟩;refine ld.st hw (by simp;omega) (by rfl) λh' ld' f=>?_;rw[Pc (by simp;omega)] at ld';rw[show (Value.int .u8 (IntKind.u8.wrap ((c.toNat:Int)-48)))=v8 (Vr c) from rfl,<-afX,show s.size-1-i=(wT s).length-1-i by omega,Se hdg] at ld';have ih:=CH hs d0 d1 d2 n (i+1) h' f.wf (l0.fr f (by omega)) (l1.fr f (by omega)) ld' h1' (by omega);refine ih.mono λx h2 hx=>?_;obtain⟨f2,hx⟩:=hx;refine⟨(f.mono hw λg hg _=>.inl (.inr hg)).trans hw f2 λg hg _=>.inl hg,?_⟩;have:(s.data.toList.drop i).all tO=(s.data.toList.drop (i+1)).all tO:=by
      rw[had];simp;intro;omega
     rw[this];exact hx
  .rename_i h1;rw[ag,aaS (by rw[iU];omega)];refine⟨Fr.refl hw,?_⟩;simp only[List.all_nil,if_true];have hie:i=s.size:=by omega
   rw[hie,rdC,qo,aft,<-qo s,af8] at ld;exact⟨by trivial,l0,l1,by simpa using ld⟩
theorem Vt {n:Nat}{v:Value}:(List.replicate n [v]).flatten=List.replicate n v:=by
 induction n with
 |zero=>rfl
 |succ n ih=>simp[aeO,ih]
def Lw (h h':af)(ng:Bool)(s:ByteArray)(x:Bool×Sl):Prop:=x.1=ng/\∃bd c,h.next<=bd/\x.2=⟨some ⟨bd,0,none⟩,CG (wT s).reverse s.size,c⟩/\LB h' bd ((wT s).reverse.map v8) gC
theorem Sf {s:ByteArray}{b0 b1:Nat}{ng:Bool}{n:Nat}{h:af}(hs:s.size<=65536)(hn:s.size+1<n)(hw:WF h)(d0:b0≠b1)(l0:LB h b0 [.bool false,aU] aH)(l1:LB h b1 [.bool ng,aU] aH) :
  Wp (jJ n (ak b0) (ak b1) s) h λx h'=>x.2=s.data.toList.all tO/\Fr (λg=>g=b0+1\/g=b1+1) h h'/\(x.2=true->Lw h h' ng s x.1):=by
 unfold jJ;rw[ah];refine HQ (by omega) (by omega) (by unfold cK;omega) ?_;simp only[IS,Vt];have k0:=l0.lt hw;have k1:=l1.lt hw;have f1:=Fr.new (e:=gC) (cs:=List.replicate s.size (.int .u8 0)) hw;have ld:=LB.new (h:=h) (e:=gC) (cs:=List.replicate s.size (.int .u8 0));have l0:=l0.fr f1 (λhx=>hx);have l1:=l1.fr f1 (λhx=>hx);generalize h.new gC (List.replicate s.size (.int .u8 0))=h1 at *
 generalize hbd:h.next=bd at *
 simp only[ah,oZ,pG,pI,pJ,pH,fl,fQ,ag,lP,adr,Nat.reduceAdd,aaM,exists_eq_left',decide_eq_true_eq];refine l1.st f1.wf (by simp) rfl λh2 l1 f2=>?_;have ld:LB h1 bd (rdC s 0) gC:=by
  rw[rdC,qo];simpa using ld
 refine (CH (ng:=ng) hs d0 (by omega) (by omega) n 0 h2 f2.wf (l0.fr f2 (by omega)) l1 (ld.fr f2 (by omega)) (by omega) (by omega)).mono λx h3 hx=>?_;obtain⟨f3,hx⟩:=hx;have f03:Fr (λg=>g=b0+1\/g=b1+1) h h3:=by
  have a1:Fr (λg=>g=b0+1\/g=b1+1) h h1:=f1.mono hw (λ_ hx _=>hx.elim);have a2:=a1.fresh hw f2 (λg hg=>.inl (.inr hg));refine a2.fresh hw f3 λg hg=>?_;rcases hg with hg|hg
  .exact .inl (.inl hg)
  .exact .inr (by omega)
 simp only[aeh] at hx;split at hx
 .rename_i hall;obtain⟨rfl,l0,l1,ld'⟩:=hx;have hl:h3.ldV b1 1=some ⟨some ⟨bd,0,none⟩,s.size,s.size+1⟩:=l1.ld (lf:=.sl) (v:=aE ⟨some ⟨bd,0,none⟩,s.size,s.size+1⟩) rfl rfl;simp only[cw,ah,oZ,pG,pI,pJ,pH,fl,fQ,ag,lP,adr,Nat.reduceAdd,aaM,exists_eq_left',decide_eq_true_eq,hl];unfold v7;simp only[ah,oZ,pG,pI,pJ,pH,fl,fQ,ag,lP,adr,Nat.reduceAdd,aaM,exists_eq_left',decide_eq_true_eq];refine (PJ (by rw[agm,qo];omega) n s.size h3 f3.wf ld' (by rw[agm,qo];omega) (by omega)).mono λx h4 hx=>?_;obtain⟨rfl,rfl⟩:=hx;generalize hk:CG (wT s).reverse s.size=k';refine l1.st f3.wf (by simp[aY]) rfl λh5 l1 f5=>?_;refine yv.2 ⟨(ng,⟨some ⟨bd,0,none⟩,k',s.size+1⟩),l1.fI (by simp[aY]) rfl,?_⟩;refine (l0.fr f5 (by omega)).st f5.wf (by simp) rfl λh6 l0 f6=>?_;refine yv.2 ⟨(ng,⟨some ⟨bd,0,none⟩,k',s.size+1⟩),l0.fI (by simp[aY]) rfl,?_⟩;refine⟨hall.symm,(f03.fresh hw f5 λg hg=>?_).fresh hw f6 λg hg=>?_,λ_=>⟨rfl,bd,s.size+1,by omega,by rw[hk],?_⟩⟩
  .exact .inl (.inr hg)
  .exact .inl (.inl hg)
  .exact (ld'.fr f5 (by omega)).fr f6 (by omega)
 .rename_i hall;obtain⟨rfl,l0⟩:=hx;simp only[cw,ah,oZ,pG,pI,pJ,pH,fl,fQ,ag,lP,adr,Nat.reduceAdd,aaM,exists_eq_left',decide_eq_true_eq];refine yv.2 ⟨(false,mX),l0.fI (by simp) rfl,?_⟩;exact⟨by simp at hall⊢;exact hall,f03,λe=>by cases e⟩
def PK (m:Nat)(T:List UInt8):Bool:=decide (T.length≠0/\T.length<=400/\¬(T.head?=some 48/\1<m))&&T.all tO
theorem Si {s t:ByteArray}{b0 b1:Nat}{ng:Bool}{n:Nat}{h:af}(hs:t.size<=65536)(hn:t.size+1<n)(hw:WF h)(d0:b0≠b1)(l0:LB h b0 [.bool false,aU] aH)(l1:LB h b1 [.bool ng,aU] aH) :
  Wp (iq n s (ak b0) (ak b1) t) h λx h'=>x.2=PK s.size t.data.toList/\Fr (λg=>g=b0+1\/g=b1+1) h h'/\(x.2=true->Lw h h' ng t x.1):=by
 unfold iq;have bad:PK s.size t.data.toList=false->Wp (sh (bG (ak b0) [Value.bool false,aU]) λx0=>sh (aI [.bool,.sl] (ak b0)) λ(x1:Bool×Sl)=>AI ((x1.1,x1.2),false)) h λx h'=>x.2=PK s.size t.data.toList/\Fr (λg=>g=b0+1\/g=b1+1) h h'/\(x.2=true->Lw h h' ng t x.1):=by
  intro hb;simp only[ah,oZ,pG,pI,pJ,pH,fl,fQ,ag,lP,adr,Nat.reduceAdd,aaM,exists_eq_left',decide_eq_true_eq];refine l0.st hw (by simp) rfl λh5 l0 f5=>?_;refine yv.2 ⟨(false,mX),l0.fI (by simp[aY]) rfl,?_⟩;exact⟨hb.symm,f5.mono hw λg hg _=>.inl (.inl hg),λe=>by cases e⟩
 have good:PK s.size t.data.toList=t.data.toList.all tO->Wp (jJ n (ak b0) (ak b1) t) h λx h'=>x.2=PK s.size t.data.toList/\Fr (λg=>g=b0+1\/g=b1+1) h h'/\(x.2=true->Lw h h' ng t x.1):=by
  intro hg;rw[hg];exact Sf hs hn hw d0 l0 l1
 have hl:t.data.toList.length=t.size:=iU t;simp only[decide_eq_true_eq];split
 .rename_i h1;have hz:t.size=0:=by omega
  exact bad (by unfold PK;simp[hl,hz])
 .rename_i h1;have hz:t.size≠0:=by omega
  split
  .rename_i h2;have hz4:¬t.size<=400:=by omega
   exact bad (by unfold PK;simp[hl,hz4])
  .rename_i h2;have hz4:t.size<=400:=by omega
   have hc:t.data.toList[0]?=some t.data.toList[0]:=aaJ (by omega);generalize t.data.toList[0]=c at hc;have hh:t.data.toList.head?=some c:=by rw[agz];exact hc
   have hcc:((c.toNat:Int)=48)↔c=48:=by
    rw[<-UInt8.toNat_inj];simp;omega
   rw[ah,fl];refine⟨c,by omega,by rw[wE];exact hc,?_⟩;by_cases h3:c=48
   .rw[if_pos (hcc.2 h3)];split
    .rename_i h4;exact bad (by unfold PK;rw[hh,h3];simp;intro _ _ hm;omega)
    .rename_i h4;exact good (by unfold PK;rw[hh,h3];simp[hl,hz,hz4];intro _;omega)
   .rw[if_neg (λe=>h3 (hcc.1 e))];exact good (by unfold PK;rw[hh];simp[hl,hz,hz4,h3])
theorem sQ {s:ByteArray}{h:af}{n:Nat}(hs:s.size<=65536)(hn:s.size+1<n)(hw:WF h):Wp (nS n s) h λx h'=>x.2=oh s/\Fr (λ_=>False) h h'/\(x.2=true->Lw h h' (xg s).1 (xg s).2 x.1):=by
 unfold nS;simp only[ah,oZ,pG,pI,pJ,pH,fl,fQ,ag,lP,adr,Nat.reduceAdd,aaM,exists_eq_left',decide_eq_true_eq,zF];refine⟨rfl,rfl,?_⟩;have f1:=Fr.new (e:=aH) (cs:=[.bool false,aU]) hw;have l0:=LB.new (h:=h) (e:=aH) (cs:=[.bool false,aU]);have nx:(h.new aH [.bool false,aU]).next=h.next+1:=rfl
 generalize h.new aH [.bool false,aU]=h1 at *
 have f2:=Fr.new (e:=aH) (cs:=[.bool false,aU]) f1.wf;have l1:=LB.new (h:=h1) (e:=aH) (cs:=[.bool false,aU]);have l0':=l0.fr f2 (by simp);have f3:=f1.fresh hw f2 (by simp);rw[nx] at *
 generalize h1.new aH [.bool false,aU]=h2 at *
 refine l1.st f3.wf (by simp) rfl λh4 l1' f4=>?_;have l0'':=l0'.fr f4 (by simp);have f5:=f3.fresh hw f4 (λg hg=>.inr (by omega));have J0:∀{t:ByteArray} {ng:Bool} {h5:af},t.size<=s.size->LB h5 h.next [.bool false,aU] aH->LB h5 (h.next+1) [.bool ng,aU] aH->Fr (λ_=>False) h h5->PK s.size t.data.toList=oh s->xg s=(ng,t) ->
   Wp (iq n s (ak h.next) (ak (h.next+1)) t) h5 λx h'=>x.2=oh s/\Fr (λ_=>False) h h'/\(x.2=true->Lw h h' (xg s).1 (xg s).2 x.1):=by
  intro t ng h5 ht a0 a1 fa he hN;refine (Si (by omega) (by omega) fa.wf (by omega) a0 a1).mono λx h' hx=>?_;rw[hN];refine⟨hx.1.trans he,fa.fresh hw hx.2.1 λg hg=>.inr (by omega),λe=>?_⟩;obtain⟨r1,bd,c,r2,r3⟩:=hx.2.2 e;have:=fa.next
  exact⟨r1,bd,c,by omega,r3⟩
 have hl:s.data.toList.length=s.size:=iU s;split
 .rename_i h1;have h1':1<s.size:=by omega
  have hc:s.data.toList[0]?=some s.data.toList[0]:=aaJ (by omega);generalize s.data.toList[0]=c at hc;have hh:s.data.toList.head?=some c:=by rw[agz];exact hc
  have hcc:((c.toNat:Int)=45)↔c=45:=by
   rw[<-UInt8.toNat_inj];simp;omega
  rw[ah,fl];refine⟨c,by omega,by rw[wE];exact hc,?_⟩;split
  .rename_i h3;have h3':=hcc.1 h3;simp only[ah,oZ,pG,pI,pJ,pH,fl,fQ,ag,lP,adr,Nat.reduceAdd,aaM,exists_eq_left',decide_eq_true_eq];refine l1'.st f5.wf (by simp[aY]) rfl λh6 l1 f6=>?_;refine⟨by omega,by omega,by omega,?_⟩;refine J0 (ng:=true) ?_ (l0''.fr f6 (by simp)) l1 (f5.fresh hw f6 λg hg=>.inr (by omega)) ?_ ?_
   .rw[<-iU,PI];simp
   .have:(s.extract (1:Int).toNat (s.size:Int).toNat).data.toList=s.data.toList.tail:=by
     rw[PI,IS];show (s.data.toList.drop 1).take (s.size-1)=_;rw[List.drop_one,aeI (by simp[hl])]
    rw[this];unfold oh PK;simp only[hl,h1',hh,h3',true_and,if_true]
   .unfold xg;rw[if_pos ⟨h1',by rw[hh,h3']⟩];rfl
  .rename_i h3;have h3':¬c=45:=λe=>h3 (hcc.2 e);refine J0 (ng:=false) (aaR _) l0'' l1' f5 ?_ ?_
   .unfold oh PK;simp only[hl,h1',hh,h3',true_and,if_false,aaM]
   .unfold xg;rw[if_neg (λe=>h3' (by rw[hh] at e;exact abi e.2))]
 .rename_i h1;have h1':¬1<s.size:=by omega
  refine J0 (ng:=false) (aaR _) l0'' l1' f5 ?_ ?_
  .unfold oh PK;simp only[hl,h1',false_and,if_false]
  .unfold xg;rw[if_neg (λe=>h1' e.1)]
theorem vz {s:ByteArray}{h:af}{n:Nat}(hs:s.size<=65536)(hn:s.size+1<n)(hw:WF h):Wp (oD n s) h λx h'=>x=oh s/\Fr (λ_=>False) h h':=by
 unfold oD;refine Wp.seq (sQ hs hn hw) λx h1 hx=>?_;obtain⟨e1,f1,-⟩:=hx;simp only[ah,oZ,pG,pI,pJ,pH,fl,fQ,ag,lP,adr,Nat.reduceAdd,aaM,exists_eq_left',decide_eq_true_eq,zF];refine⟨rfl,?_⟩;have f2:=Fr.new (e:=aH) (cs:=[.bool false,aU]) f1.wf;have l1:=LB.new (h:=h1) (e:=aH) (cs:=[.bool false,aU]);refine l1.st f2.wf (by simp) rfl λh4 l1' f4=>?_;refine⟨e1,(f1.fresh hw f2 (by simp)).fresh hw f4 λg hg=>.inr ?_⟩;have:=f1.next;omega
end Go.Sh
