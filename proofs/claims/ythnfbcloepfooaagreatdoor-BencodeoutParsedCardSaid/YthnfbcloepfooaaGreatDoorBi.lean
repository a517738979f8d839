
import Derived.Test.YthnfbcloepfooaaGreatDoorBa
set_option linter.all false
namespace Go.Sh
open Go Go.Ago
def TE (cs:δ):Prop:=∀v∈cs,∃k,v=Value.int .u8 k
theorem TE.get {cs:δ}(hu:TE cs){i:Nat}(hi:i<cs.length):∃k,cs[i]?=some (.int .u8 k):=by
 obtain⟨k,hk⟩:=hu cs[i] (abn hi);exact⟨k,by rw[aak hi,hk]⟩
theorem TE.set {cs:δ}(hu:TE cs)(i:Nat)(k:Int):TE (cs.set i (.int .u8 k)):=λv hv=>by
 rcases abr hv with h|h
 .exact hu v h
 .exact⟨k,h⟩
theorem L4 {cs:δ}{bd c:Nat}(hu:TE cs)(hsz:cs.length<=65536):∀(n k:Nat) (h:af),WF h->LB h bd cs uf->k<=cs.length->k<n ->
  Wp (eO n ⟨some ⟨bd,0,none⟩,k,c⟩) h λx h'=>h'=h/\∃k',k'<=k/\x=⟨some ⟨bd,0,none⟩,k',c⟩
 |0,_,_,_,_,_,hn=>by omega
 |n+1,k,h,hw,l,hk,hn=>by
  rw[wy];unfold jC;simp only[ag,aN,aR,aT,aW,bf,aE,ax,ah,aC,aab,Nat.reduceAdd,IN,exists_eq_left',IT];split
  .rename_i h1;have hk0:0<k:=by omega
   have e1:IntKind.i64.wrap ((k:Int)-1)=(k-1:Nat):=by rw[Dc (by omega) (by omega)];omega
   simp only[ag,aN,aR,aT,aW,bf,aE,ax,ah,aC,aab,Nat.reduceAdd,IN,exists_eq_left',IT,sS,e1,exists_eq_left',aac,aa5];obtain⟨d,hd⟩:=hu.get (i:=k-1) (by omega);refine⟨by omega,by omega,d,l.ld (lf:=.int .u8) hd rfl,?_⟩;split
   .rw[ag];refine rH (by omega) (by omega) (by show ((k-1:Nat):Int)<=k;omega) ?_ ?_
    .unfold gx;simp only[l.get];simp[abe]
    .have e2:(⟨Option.map (λx=>x.plus ((0:Int).toNat*1)) (some (⟨bd,0,none⟩:Addr)),((k-1:Nat):Int).toNat-(0:Int).toNat,c-(if c=0 then 0 else (0:Int).toNat)⟩:Sl)=⟨some ⟨bd,0,none⟩,k-1,c⟩:=by
      simp[aC]
     show Wp (eO n ⟨_,_,_⟩) h _;rw[e2];refine (L4 hu hsz n (k-1) h hw l (by omega) (by omega)).mono λx h' hx=>?_;obtain⟨rfl,k',h3,rfl⟩:=hx;exact⟨rfl,k',by omega,rfl⟩
   .rw[ah];exact⟨rfl,k,aai _,rfl⟩
  .rw[ah];exact⟨rfl,k,aai _,rfl⟩
theorem Rk {L:List UInt8}{i:Nat}{c:UInt8}(hc:L[i]?=some c):(L.drop i).all ga=(ga c&&(L.drop (i+1)).all ga):=by
 have hlt:=(List.getElem?_eq_some_iff.1 hc).1;have hd:L.drop i=c::L.drop (i+1):=by
  rw[aay hlt,(List.getElem?_eq_some_iff.1 hc).2]
 rw[hd,abA]
theorem A4 {s:ζ}{b0 b1 bd:Nat}{ng:Bool}(hs:s.size<=65536)(d0:b0≠b1)(d1:b0≠bd)(d2:b1≠bd):∀(n i:Nat) (h:af) (cs:δ),WF h->TE cs->cs.length=s.size ->
  LB h b0 [.bool false,aZ] aM->LB h b1 [.bool ng,aS ⟨some ⟨bd,0,none⟩,s.size,s.size+1⟩] aM->LB h bd cs uf->i<=s.size->s.size-i<n ->
  Wp (eP n (aw b0) (aw b1) s s.size i) h λx h'=>Fr (λg=>g=b0+1\/g=bd+1) h h' /\
   (if (s.data.toList.drop i).all ga=true then x=.inl ()/\LB h' b0 [.bool false,aZ] aM/\LB h' b1 [.bool ng,aS ⟨some ⟨bd,0,none⟩,s.size,s.size+1⟩] aM/\∃cs',TE cs'/\cs'.length=s.size/\LB h' bd cs' uf
    else x=.inr false/\LB h' b0 [.bool false,aZ] aM)
 |0,_,_,_,_,_,_,_,_,_,_,hn=>by omega
 |n+1,i,h,cs,hw,hu,hlen,l0,l1,ld,hi,hn=>by
  rw[wz];unfold jE;simp only[ag,aN,aR,aT,aW,bf,aE,ax,ah,aC,aab,Nat.reduceAdd,IN,exists_eq_left',IT];split
  .rename_i h1;have h1':i<s.size:=by omega
   have hc:s.data.toList[i]?=some s.data.toList[i]:=aak (by rwa [bF]);generalize s.data.toList[i]=c at hc;have had:=Rk hc;rw[Ez] at had;simp only[ag,aN,aR,aT,aW,bf,aE,ax,ah,aC,aab,Nat.reduceAdd,IN,exists_eq_left',IT,qM,aac,hc,aa9,aaY];have bad:Wp (bE (aw b0) [Value.bool false,aZ]) h λ_ h'=>Fr (λg=>g=b0+1\/g=bd+1) h h'/\LB h' b0 [.bool false,aZ] aM:=
    l0.st hw (by simp) (by rfl) λh' l0' f=>⟨f.mono hw λg hg _=>.inl (.inl hg),l0'⟩
   split
   .rename_i h2;have hb:(s.data.toList.drop i).all ga=false:=(by rw[had];simp;intro h3;omega);simp only[ag,ah];refine bad.mono λ_ h' hx=>?_;simp only[hb,aag,aar];exact⟨hx.1,by trivial,hx.2⟩
   .rename_i h2;simp only[ag,aN,aR,aT,aW,bf,aE,ax,ah,aC,aab,Nat.reduceAdd,IN,exists_eq_left',IT,qM,aac,hc,aa9,aaY];split
    .rename_i h3;have hb:(s.data.toList.drop i).all ga=false:=(by rw[had];simp;intro h3;omega);simp only[ag,ah];refine bad.mono λ_ h' hx=>?_;simp only[hb,aag,aar];exact⟨hx.1,by trivial,hx.2⟩
    .rename_i h3;unfold jD;have e1:IntKind.i64.wrap (IntKind.i64.wrap ((s.size:Int)-1)-i)=(s.size-1-i:Nat):=by
      rw[Dc (x:=(s.size:Int)-1) (by omega) (by omega),Dc (by omega) (by omega)];omega
     have e2:IntKind.i64.wrap ((i:Int)+1)=(i+1:Nat):=(by rw[Dc (by omega) (by omega)];omega);have hl:h.VP b1 1=some ⟨some ⟨bd,0,none⟩,s.size,s.size+1⟩:=l1.ld (lf:=.sl) (v:=aS ⟨some ⟨bd,0,none⟩,s.size,s.size+1⟩) rfl rfl;simp only[ag,aN,aR,aT,aW,bf,aE,ax,ah,aC,aab,Nat.reduceAdd,IN,exists_eq_left',IT,qM,aac,hc,aa9,aaY,hl,sS,e1,e2,aa5];refine⟨by omega,?_⟩;refine ld.st hw (by simp;omega) (by rfl) λh' ld' f=>?_;rw[xb (by omega)] at ld';have ih:=A4 hs d0 d1 d2 n (i+1) h' _ f.wf (hu.set _ _) (by simp[hlen]) (l0.fr f (by omega)) (l1.fr f (by omega)) ld' h1' (by omega);refine ih.mono λx h2 hx=>?_;obtain⟨f2,hx⟩:=hx;refine⟨(f.mono hw λg hg _=>.inl (.inr hg)).trans hw f2 λg hg _=>.inl hg,?_⟩;have:(s.data.toList.drop i).all ga=(s.data.toList.drop (i+1)).all ga:=by
      rw[had];simp;intro;omega
     rw[this];exact hx
  .rename_i h1;rw[ah,aah (by rw[bF];omega)];refine⟨Fr.refl hw,?_⟩;simp only[List.all_nil,aav];exact⟨by trivial,l0,l1,cs,hu,hlen,ld⟩
theorem Rl {n:Nat}{v:ξ}:(List.replicate n [v]).flatten=List.replicate n v:=by
 induction n with
 |zero=>rfl
 |succ n ih=>simp[abv,ih]
theorem OE {s:ζ}{b0 b1:Nat}{ng:Bool}{n:Nat}{h:af}(hs:s.size<=65536)(hn:s.size+1<n)(hw:WF h)(d0:b0≠b1)(l0:LB h b0 [.bool false,aZ] aM)(l1:LB h b1 [.bool ng,aZ] aM) :
  Wp (fR n (aw b0) (aw b1) s) h λx h'=>x.2=s.data.toList.all ga/\Fr (λg=>g=b0+1\/g=b1+1) h h':=by
 unfold fR;rw[ag];refine Qa (by omega) (by omega) (by unfold cN;omega) ?_;simp only[aac,Rl];have k0:=l0.lt hw;have k1:=l1.lt hw;have f1:=Fr.new (e:=uf) (cs:=List.replicate s.size (.int .u8 0)) hw;have ld:=LB.new (h:=h) (e:=uf) (cs:=List.replicate s.size (.int .u8 0));have l0:=l0.fr f1 (λhx=>hx);have l1:=l1.fr f1 (λhx=>hx);generalize h.new uf (List.replicate s.size (.int .u8 0))=h1 at *
 generalize hbd:h.next=bd at *
 simp only[ag,aN,aR,aT,aW,bf,aE,ax,ah,aC,aab,Nat.reduceAdd,IN,exists_eq_left',IT];refine l1.st f1.wf (by simp) rfl λh2 l1 f2=>?_;have hu:TE (List.replicate s.size (.int .u8 0)):=λv hv=>⟨0,(abu hv)⟩;refine (A4 (ng:=ng) hs d0 (by omega) (by omega) n 0 h2 _ f2.wf hu (by simp) (l0.fr f2 (by omega)) l1 (ld.fr f2 (by omega)) (by omega) (by omega)).mono λx h3 hx=>?_;obtain⟨f3,hx⟩:=hx;have f03:Fr (λg=>g=b0+1\/g=b1+1) h h3:=by
  have a1:Fr (λg=>g=b0+1\/g=b1+1) h h1:=f1.mono hw (λ_ hx _=>hx.elim);have a2:=a1.fresh hw f2 (λg hg=>.inl (.inr hg));refine a2.fresh hw f3 λg hg=>?_;rcases hg with hg|hg
  .exact .inl (.inl hg)
  .exact .inr (by omega)
 simp only[acR] at hx;split at hx
 .rename_i hall;obtain⟨rfl,l0,l1,cs',hu',hl',ld'⟩:=hx;have hl:h3.VP b1 1=some ⟨some ⟨bd,0,none⟩,s.size,s.size+1⟩:=l1.ld (lf:=.sl) (v:=aS ⟨some ⟨bd,0,none⟩,s.size,s.size+1⟩) rfl rfl;simp only[cn,ag,aN,aR,aT,aW,bf,aE,ax,ah,aC,aab,Nat.reduceAdd,IN,exists_eq_left',IT,hl];unfold oj;simp only[ag,aN,aR,aT,aW,bf,aE,ax,ah,aC,aab,Nat.reduceAdd,IN,exists_eq_left',IT];refine (L4 hu' (by omega) n s.size h3 f3.wf ld' (by omega) (by omega)).mono λx h4 hx=>?_;obtain⟨rfl,k',hk',rfl⟩:=hx;refine l1.st f3.wf (by simp[bB]) rfl λh5 l1 f5=>?_;refine od.2 ⟨(ng,⟨some ⟨bd,0,none⟩,k',s.size+1⟩),l1.jV (by simp[bB]) rfl,?_⟩;refine (l0.fr f5 (by omega)).st f5.wf (by simp) rfl λh6 l0 f6=>?_;refine od.2 ⟨(ng,⟨some ⟨bd,0,none⟩,k',s.size+1⟩),l0.jV (by simp[bB]) rfl,?_⟩;refine⟨hall.symm,(f03.fresh hw f5 λg hg=>?_).fresh hw f6 λg hg=>?_⟩
  .exact .inl (.inr hg)
  .exact .inl (.inl hg)
 .rename_i hall;obtain⟨rfl,l0⟩:=hx;simp only[cn,ag,aN,aR,aT,aW,bf,aE,ax,ah,aC,aab,Nat.reduceAdd,IN,exists_eq_left',IT];refine od.2 ⟨(false,jb),l0.jV (by simp) rfl,?_⟩;exact⟨by simp at hall⊢;exact hall,f03⟩
def L5 (m:Nat)(T:List UInt8):Bool:=decide (T.length≠0/\T.length<=400/\¬(T.head?=some 48/\1<m))&&T.all ga
theorem OG {s t:ζ}{b0 b1:Nat}{ng:Bool}{n:Nat}{h:af}(hs:t.size<=65536)(hn:t.size+1<n)(hw:WF h)(d0:b0≠b1)(l0:LB h b0 [.bool false,aZ] aM)(l1:LB h b1 [.bool ng,aZ] aM) :
  Wp (eQ n s (aw b0) (aw b1) t) h λx h'=>x.2=L5 s.size t.data.toList/\Fr (λg=>g=b0+1\/g=b1+1) h h':=by
 unfold eQ;have bad:L5 s.size t.data.toList=false->Wp (AI (bE (aw b0) [Value.bool false,aZ]) λx0=>AI (bh [.bool,.sl] (aw b0)) λ(x1:Bool×Sl)=>AS ((x1.1,x1.2),false)) h λx h'=>x.2=L5 s.size t.data.toList/\Fr (λg=>g=b0+1\/g=b1+1) h h':=by
  intro hb;simp only[ag,aN,aR,aT,aW,bf,aE,ax,ah,aC,aab,Nat.reduceAdd,IN,exists_eq_left',IT];refine l0.st hw (by simp) rfl λh5 l0 f5=>?_;refine od.2 ⟨(false,jb),l0.jV (by simp[bB]) rfl,?_⟩;exact⟨hb.symm,f5.mono hw λg hg _=>.inl (.inl hg)⟩
 have good:L5 s.size t.data.toList=t.data.toList.all ga->Wp (fR n (aw b0) (aw b1) t) h λx h'=>x.2=L5 s.size t.data.toList/\Fr (λg=>g=b0+1\/g=b1+1) h h':=by
  intro hg;rw[hg];exact OE hs hn hw d0 l0 l1
 have hl:t.data.toList.length=t.size:=bF t;simp only[IT];split
 .rename_i h1;have hz:t.size=0:=by omega
  exact bad (by unfold L5;simp[hl,hz])
 .rename_i h1;have hz:t.size≠0:=by omega
  split
  .rename_i h2;have hz4:¬t.size<=400:=by omega
   exact bad (by unfold L5;simp[hl,hz4])
  .rename_i h2;have hz4:t.size<=400:=by omega
   have hc:t.data.toList[0]?=some t.data.toList[0]:=aak (by omega);generalize t.data.toList[0]=c at hc;have hh:t.data.toList.head?=some c:=by rw[acN];exact hc
   have hcc:((c.toNat:Int)=48)↔c=48:=by
    rw[<-abM];simp;omega
   rw[ag,aE];refine⟨c,by omega,by rw[qM];exact hc,?_⟩;by_cases h3:c=48
   .rw[BY (hcc.2 h3)];split
    .rename_i h4;exact bad (by unfold L5;rw[hh,h3];simp;intro _ _ hm;omega)
    .rename_i h4;exact good (by unfold L5;rw[hh,h3];simp[hl,hz,hz4];intro _;omega)
   .rw[By (λe=>h3 (hcc.1 e))];exact good (by unfold L5;rw[hh];simp[hl,hz,hz4,h3])
theorem uu {s:ζ}{h:af}{n:Nat}(hs:s.size<=65536)(hn:s.size+1<n)(hw:WF h):Wp (jR n s) h λx h'=>x=wu s/\Fr (λ_=>False) h h':=by
 have main:Wp (jF n s) h λx h'=>x.2=wu s/\Fr (λ_=>False) h h':=by
  unfold jF;simp only[ag,aN,aR,aT,aW,bf,aE,ax,ah,aC,aab,Nat.reduceAdd,IN,exists_eq_left',IT,yn];refine⟨rfl,rfl,?_⟩;have f1:=Fr.new (e:=aM) (cs:=[.bool false,aZ]) hw;have l0:=LB.new (h:=h) (e:=aM) (cs:=[.bool false,aZ]);have nx:(h.new aM [.bool false,aZ]).next=h.next+1:=rfl
  generalize h.new aM [.bool false,aZ]=h1 at *
  have f2:=Fr.new (e:=aM) (cs:=[.bool false,aZ]) f1.wf;have l1:=LB.new (h:=h1) (e:=aM) (cs:=[.bool false,aZ]);have l0':=l0.fr f2 (by simp);have f3:=f1.fresh hw f2 (by simp);rw[nx] at *
  generalize h1.new aM [.bool false,aZ]=h2 at *
  refine l1.st f3.wf (by simp) rfl λh4 l1' f4=>?_;have l0'':=l0'.fr f4 (by simp);have f5:=f3.fresh hw f4 (λg hg=>.inr (by omega));have J0:∀{t:ζ} {ng:Bool} {h5:af},t.size<=s.size->LB h5 h.next [.bool false,aZ] aM->LB h5 (h.next+1) [.bool ng,aZ] aM->Fr (λ_=>False) h h5->L5 s.size t.data.toList=wu s ->
    Wp (eQ n s (aw h.next) (aw (h.next+1)) t) h5 λx h'=>x.2=wu s/\Fr (λ_=>False) h h':=by
   intro t ng h5 ht a0 a1 fa he;refine (OG (by omega) (by omega) fa.wf (by omega) a0 a1).mono λx h' hx=>?_;exact⟨hx.1.trans he,fa.fresh hw hx.2 λg hg=>.inr (by omega)⟩
  have hl:s.data.toList.length=s.size:=bF s;split
  .rename_i h1;have h1':1<s.size:=by omega
   have hc:s.data.toList[0]?=some s.data.toList[0]:=aak (by omega);generalize s.data.toList[0]=c at hc;have hh:s.data.toList.head?=some c:=by rw[acN];exact hc
   have hcc:((c.toNat:Int)=45)↔c=45:=by
    rw[<-abM];simp;omega
   rw[ag,aE];refine⟨c,by omega,by rw[qM];exact hc,?_⟩;split
   .rename_i h3;have h3':=hcc.1 h3;simp only[ag,aN,aR,aT,aW,bf,aE,ax,ah,aC,aab,Nat.reduceAdd,IN,exists_eq_left',IT];refine l1'.st f5.wf (by simp[bB]) rfl λh6 l1 f6=>?_;refine⟨by omega,by omega,by omega,?_⟩;refine J0 (ng:=true) ?_ (l0''.fr f6 (by simp)) l1 (f5.fresh hw f6 λg hg=>.inr (by omega)) ?_
    .rw[<-bF,zC];simp
    .have:(s.extract (1:Int).toNat (s.size:Int).toNat).data.toList=s.data.toList.tail:=by
      rw[zC,aac];show (s.data.toList.drop 1).take (s.size-1)=_;rw[List.drop_one,aba (by simp[hl])]
     rw[this];unfold wu L5;simp only[hl,h1',hh,h3',aaY,aav]
   .rename_i h3;have h3':¬c=45:=λe=>h3 (hcc.2 e);refine J0 (ng:=false) (aai _) l0'' l1' f5 ?_;unfold wu L5;simp only[hl,h1',hh,h3',aaY,aar,IN]
  .rename_i h1;have h1':¬1<s.size:=by omega
   refine J0 (ng:=false) (aai _) l0'' l1' f5 ?_;unfold wu L5;simp only[hl,h1',false_and,aar]
 unfold jR;refine Wp.seq main λx h1 hx=>?_;obtain⟨e1,f1⟩:=hx;simp only[ag,aN,aR,aT,aW,bf,aE,ax,ah,aC,aab,Nat.reduceAdd,IN,exists_eq_left',IT,yn];refine⟨rfl,?_⟩;have f2:=Fr.new (e:=aM) (cs:=[.bool false,aZ]) f1.wf;have l1:=LB.new (h:=h1) (e:=aM) (cs:=[.bool false,aZ]);refine l1.st f2.wf (by simp) rfl λh4 l1' f4=>?_;refine⟨e1,(f1.fresh hw f2 (by simp)).fresh hw f4 λg hg=>.inr ?_⟩;have:=f1.next;omega
end Go.Sh
