
import Derived.Test.YtengdffgmpghgaaGreatDoorPaj
set_option linter.all false
namespace Go.Sh
open Go Go.Ago Go.Proofs
section
variable {α β:Type}
section
variable {N:List ah}{S:List aK}{B:Nat}{root:Int}
theorem OC {k:Nat}(h:me k N root=some 0):He N root=true:=by
 unfold me at h;split at h
 .cases h
 split at h
 .cases h
 split at h
 .cases h
 .rename_i hi;simpa using hi
theorem HK {l:List α}{i:Nat}:gt l (i:Int)=l[i]?:=by unfold gt;rw[By (by omega)];simp
def Ti (N:List ah)(S:List aK)(j:Nat)(x:aK):Prop:=∃q p nd,x.parent=((q:Nat):Int)/\q<j/\S[q]?=some p/\p.alias=false/\gt N p.node=some nd/\0<=x.entry/\x.entry<(nd.items.length:Int)
theorem OD (hI:rI N N.length):∀(xs:List aK) (i:Nat),S.drop (i+1)=xs->(∀(j:Nat) (x:aK),j<=i->S[j]?=some x->IR N.length x.node) ->
  ∃r,Q1 N S i xs=some r/\(r=true->∀(j:Nat) (x:aK),S[j]?=some x->IR N.length x.node/\(i<j->Ti N S j x))
 |[],i,hd,hp=>by
  refine⟨true,rfl,λ_ j x hx=>?_⟩;have hlt:=(List.getElem?_eq_some_iff.1 hx).1;have hle:S.length<=i+1:=List.drop_eq_nil_iff.1 hd;exact⟨hp j x (by omega) hx,λh=>by omega⟩
 |x::xs,i,hd,hp=>by
  have hx:S[i+1]?=some x:=by
   have:=ahv (λl=>l[0]?) hd;simpa[aeY] using this
  have hd2:S.drop (i+1+1)=xs:=by
   have:=ahv (λl=>l.drop 1) hd;simpa[aha] using this
  rw[Q1];split
  .exact⟨false,rfl,λh=>by cases h⟩
  rename_i h1;split
  .exact⟨false,rfl,λh=>by cases h⟩
  rename_i h2;have hlt:=(List.getElem?_eq_some_iff.1 hx).1;obtain⟨p,hpg⟩:=dA (l:=S) rfl (v:=x.parent) ⟨by omega,by omega⟩;have hpq:S[x.parent.toNat]?=some p:=(ay hpg).2;rw[hpg];simp only;split
  .exact⟨false,rfl,λh=>by cases h⟩
  rename_i h3;obtain⟨nd,hnd⟩:=dA (l:=N) rfl (hp x.parent.toNat p (by omega) hpq);simp only[hnd];split
  .exact⟨false,rfl,λh=>by cases h⟩
  rename_i h4;split
  .exact⟨false,rfl,λh=>by cases h⟩
  rename_i h5;obtain⟨v,hv⟩:=dA (l:=nd.items) rfl (v:=x.entry) ⟨by omega,by omega⟩;simp only[hv];split
  .rename_i h6;have hiv:IR N.length x.node:=by rw[h6];exact (hI nd (az hnd)).2 v (az hv)
   obtain⟨r,e,f⟩:=OD hI xs (i+1) hd2 λj y hj hy=>by
    by_cases hj2:j=i+1
    .subst hj2;rw[hx] at hy;cases hy;exact hiv
    .exact hp j y (by omega) hy
   refine⟨r,e,λhr j y hy=>⟨(f hr j y hy).1,λhj=>?_⟩⟩;by_cases hj2:j=i+1
   .subst hj2;rw[hx] at hy;cases hy;exact⟨x.parent.toNat,p,nd,by omega,by omega,hpq,by simpa using h3,hnd,by omega,by omega⟩
   .exact (f hr j y hy).2 (by omega)
  .exact⟨false,rfl,λh=>by cases h⟩
theorem OE {k p:Int}:∀{xs:List aK} {i:Nat},k∈mh i xs p↔∃j x,k=((i+j:Nat):Int)/\xs[j]?=some x/\x.parent=p
 |[],i=>by simp[mh]
 |y::xs,i=>by
  rw[mh];have ih:=OE (k:=k) (p:=p) (xs:=xs) (i:=i+1);constructor
  .intro h;have h2:(k=(i:Int)/\y.parent=p)\/k∈mh (i+1) xs p:=by
    split at h
    .rename_i hp;rcases List.mem_cons.1 h with h|h
     .exact .inl ⟨h,hp⟩
     .exact .inr h
    .exact .inr h
   rcases h2 with⟨h,hp⟩|h
   .exact⟨0,y,by simpa using h,by simp,hp⟩
   .obtain⟨j,x,g1,g2,g3⟩:=ih.1 h;exact⟨j+1,x,by rw[g1];omega,by simpa using g2,g3⟩
  .rintro⟨j,x,g1,g2,g3⟩;cases j with
   |zero=>
    simp at g2;subst g2;rw[By g3,g1];simp
   |succ j=>
    have:k∈mh (i+1) xs p:=ih.2 ⟨j,x,by rw[g1];omega,by simpa using g2,g3⟩;split
    .exact IN _ this
    .exact this
theorem BX {k p:Int}:k∈mh 0 S p↔∃x,gt S k=some x/\x.parent=p:=by
 rw[OE];constructor
 .rintro⟨j,x,rfl,h2,h3⟩;exact⟨x,by rw[adj,HK];exact h2,h3⟩
 .rintro⟨x,h1,h2⟩;obtain⟨h3,h4⟩:=ay h1;exact⟨k.toNat,x,by omega,h4,h2⟩
def Dst (S:List aK)(a b:Int):Prop:=∀c d,gt S a=some c->gt S b=some d->c.entry≠d.entry
theorem OG:∀{ks:ε} {m:List Bool},(∀k∈ks,∃c,gt S k=some c/\IR m.length c.entry) ->
  ∃r,Q2 S m ks=some r/\(r≠none->(∀k∈ks,∃c,gt S k=some c/\gt m c.entry=some false)/\ks.Pairwise (Dst S))
 |[],m,_=>⟨_,rfl,λ_=>⟨λk hk=>(by cases hk),.nil⟩⟩
 |k::ks,m,h=>by
  obtain⟨c,hc,hr⟩:=h k IT;obtain⟨b,hb⟩:=dA (l:=m) rfl hr;rw[Q2,hc];simp only[hb];cases b with
  |true=>exact⟨none,rfl,λh=>absurd rfl h⟩
  |false=>
   obtain⟨r,e,f⟩:=OG (ks:=ks) (m:=m.set c.entry.toNat true) λy hy=>by
    rw[aiw];exact h y (IN _ hy)
   refine⟨r,e,λhr2=>⟨λy hy=>?_,.cons (λy hy=>?_) (f hr2).2⟩⟩
   .rcases List.mem_cons.1 hy with rfl|hy
    .exact⟨c,hc,hb⟩
    .obtain⟨d,hd,hf⟩:=(f hr2).1 y hy;rw[eQ hr] at hf;split at hf
     .cases hf
     .exact⟨d,hd,hf⟩
   .obtain⟨d,hd,hf⟩:=(f hr2).1 y hy;intro c' d' hc' hd';rw[hc] at hc';cases hc';rw[hd] at hd';cases hd';intro he;rw[eQ hr,By he.symm] at hf;cases hf
theorem OH:∀{ks out:ε},(∀k∈ks,∃c,gt S k=some c/\IR out.length c.entry)->ks.Pairwise (Dst S) ->
  ∃l,D2 S out ks=some l/\l.length=out.length/\(∀k∈ks,∀c,gt S k=some c->gt l c.entry=some k)/\(∀p,(∀k∈ks,∀c,gt S k=some c->c.entry≠p)->gt l p=gt out p)/\∀v∈l,v∈out\/v∈ks
 |[],out,_,_=>⟨out,rfl,rfl,λk hk=>(by cases hk),λ_ _=>rfl,λv hv=>.inl hv⟩
 |k::ks,out,h,hp=>by
  obtain⟨c,hc,hr⟩:=h k IT;obtain⟨h1,h2⟩:=List.pairwise_cons.1 hp;obtain⟨l,e,g1,g2,g3,g4⟩:=OH (ks:=ks) (out:=out.set c.entry.toNat k) (λy hy=>by rw[aiw];exact h y (IN _ hy)) h2;rw[D2,hc];simp only;rw[By (show 0<=c.entry/\c.entry<(out.length:Int) from hr)];refine⟨l,e,by rw[g1];simp,λy hy d hd=>?_,λp hpp=>?_,λv hv=>?_⟩
  .rcases List.mem_cons.1 hy with rfl|hy
   .rw[hc] at hd;cases hd;rw[g3 _ λz hz d hd he=>h1 z hz c d hc hd he.symm,eQ hr,By rfl]
   .exact g2 y hy d hd
  .rw[g3 p λz hz d hd=>hpp z (IN _ hz) d hd,eQ hr,AT λhe=>hpp k IT c hc he.symm]
  .rcases g4 v hv with h|h
   .rcases ahS h with h|h
    .exact .inl h
    .rw[h];exact .inr IT
   .exact .inr (IN _ h)
structure HP (N:List ah) (S:List aK):Prop where
 ne:0<S.length
 fst:∀f:aK,S[0]?=some f->f.parent=-1
 nod:∀(j:Nat) (x:aK),S[j]?=some x->IR N.length x.node
 par:∀(j:Nat) (x:aK),0<j->S[j]?=some x->Ti N S j x
 chd:∀(i:Nat) (x:aK),S[i]?=some x->x.alias=false->(∀k∈mh 0 S (i:Int),∃c,gt S k=some c/\IR (mh 0 S (i:Int)).length c.entry)/\(mh 0 S (i:Int)).Pairwise (Dst S)
theorem HP.child (k:HP N S){i j:Nat}{c:aK}(hc:S[j]?=some c)(hp:c.parent=(i:Int)):i<j/\∃x nd,S[i]?=some x/\x.alias=false/\gt N x.node=some nd/\0<=c.entry/\c.entry<(nd.items.length:Int):=by
 by_cases hj:j=0
 .subst hj;have:=k.fst c hc;omega
 .obtain⟨q,p,nd,h1,h2,h3,h4,h5,h6,h7⟩:=k.par j c (by omega) hc;have:q=i:=by omega
  subst this;exact⟨h2,p,nd,h3,h4,h5,h6,h7⟩
theorem VU {n:Nat}{d:ε}(hd:d.length=n){v:Int}(hv:IR n v):∃d',bump d v=some d'/\d'.length=n:=by
 obtain⟨x,hx⟩:=dA hd hv;exact⟨_,by unfold bump;rw[hx];rfl,by simpa using hd⟩
theorem OI (ne:0<S.length)(fst:∀f:aK,S[0]?=some f->f.parent=-1)(nod:∀(j:Nat) (x:aK),S[j]?=some x->IR N.length x.node)(par:∀(j:Nat) (x:aK),0<j->S[j]?=some x->Ti N S j x) :
  ∀(xs:List aK) (i:Nat) (d:ε),S.drop i=xs->d.length=N.length ->
   ∃r,Fa N S i xs d=some r/\(r≠none->∀(j:Nat) (x:aK),i<=j->S[j]?=some x->x.alias=false->(∀k∈mh 0 S (j:Int),∃c,gt S k=some c/\IR (mh 0 S (j:Int)).length c.entry)/\(mh 0 S (j:Int)).Pairwise (Dst S))
 |[],i,d,hd,_=>by
  refine⟨_,rfl,λ_ j x hj hx=>?_⟩;have hlt:=(List.getElem?_eq_some_iff.1 hx).1;have hle:S.length<=i:=List.drop_eq_nil_iff.1 hd;omega
 |x::xs,i,d,hd,hl=>by
  have hx:S[i]?=some x:=by
   have:=ahv (λl=>l[0]?) hd;simpa[aeY] using this
  have hd2:S.drop (i+1)=xs:=by
   have:=ahv (λl=>l.drop 1) hd;simpa[aha] using this
  have step:∀{d':ε},d'.length=N.length->(x.alias=false->(∀k∈mh 0 S (i:Int),∃c,gt S k=some c/\IR (mh 0 S (i:Int)).length c.entry)/\(mh 0 S (i:Int)).Pairwise (Dst S)) ->
    ∃r,Fa N S (i+1) xs d'=some r/\(r≠none->∀(j:Nat) (x:aK),i<=j->S[j]?=some x->x.alias=false->(∀k∈mh 0 S (j:Int),∃c,gt S k=some c/\IR (mh 0 S (j:Int)).length c.entry)/\(mh 0 S (j:Int)).Pairwise (Dst S)):=λ{d'} hl' hi=>by
   obtain⟨r,e,f⟩:=OI ne fst nod par xs (i+1) d' hd2 hl';refine⟨r,e,λhr j y hj hy ha=>?_⟩;by_cases hji:j=i
   .subst hji;rw[hx] at hy;cases hy;exact hi ha
   .exact f hr j y (by omega) hy ha
  rw[Fa];by_cases hal:x.alias=true
  .rw[By hal];exact step hl λh=>by rw[hal] at h;cases h
  rw[AT hal];obtain⟨d1,e1,l1⟩:=VU hl (nod i x hx);obtain⟨nd,hnd⟩:=dA (l:=N) rfl (nod i x hx);rw[e1];simp only[hnd];have hch:∀k∈mh 0 S (i:Int),∃c,gt S k=some c/\IR nd.items.length c.entry:=λk hk=>by
   obtain⟨c,hc,hcp⟩:=BX.1 hk;obtain⟨h0,h1⟩:=ay hc;refine⟨c,hc,?_⟩;by_cases hj:k.toNat=0
   .have:=fst c (by rw[<-hj];exact h1);omega
   .obtain⟨q,p,nd2,g1,g2,g3,g4,g5,g6,g7⟩:=par k.toNat c (by omega) h1;have:q=i:=(by omega);subst this;rw[hx] at g3;cases g3;rw[hnd] at g5;cases g5;exact⟨g6,g7⟩
  obtain⟨r,e,f⟩:=OG (S:=S) (ks:=mh 0 S (i:Int)) (m:=List.replicate nd.items.length false) λk hk=>by
   rw[aeL];exact hch k hk
  rw[e];cases r with
  |none=>exact⟨none,rfl,λh=>absurd rfl h⟩
  |some m'=>
   simp only;by_cases hlen:(mh 0 S (i:Int)).length=nd.items.length
   .rw[By hlen];exact step l1 λ_=>⟨λk hk=>by rw[hlen];exact hch k hk,(f (by simp)).2⟩
   .rw[AT hlen];exact⟨none,rfl,λh=>absurd rfl h⟩
theorem ZS (hB:∀x∈N,x.keys.length<=B/\x.items.length<=B)(hnB:N.length<=B)(hB2:B<1073741824){k:Nat}(hk:gK N.length B<=k):∃r,occs k N root S=some r/\(r=true->HP N S):=by
 unfold occs;obtain⟨e,he⟩:=Hs (root:=root) hB hnB hB2 hk;rw[he];simp only;split
 .exact⟨false,rfl,λh=>by cases h⟩
 rename_i h0;have h0:e=0:=aju h0;subst h0;obtain⟨hr,hI⟩:=SH (OC he);cases S with
 |nil=>exact⟨false,rfl,λh=>by cases h⟩
 |cons f fs=>
  simp only;split
  .exact⟨false,rfl,λh=>by cases h⟩
  rename_i h1;split
  .exact⟨false,rfl,λh=>by cases h⟩
  rename_i h2;split
  .exact⟨false,rfl,λh=>by cases h⟩
  split
  .exact⟨false,rfl,λh=>by cases h⟩
  have h1:f.node=root:=aju h1;have h2:f.parent=-1:=aju h2;obtain⟨r,e0,f0⟩:=OD (S:=f::fs) hI fs 0 (by simp) λj x hj hx=>by
   have:j=0:=by omega
   subst this;simp at hx;subst hx;rw[h1];exact hr
  rw[e0];cases r with
  |false=>exact⟨false,rfl,λh=>by cases h⟩
  |true=>
   have ne:0<(f::fs).length:=by simp
   have fst:∀g,(f::fs)[0]?=some g->g.parent=-1:=λg hg=>by simp at hg;subst hg;exact h2
   have nod:∀(j:Nat) (x:aK),(f::fs)[j]?=some x->IR N.length x.node:=λj x hx=>(f0 rfl j x hx).1;have par:∀(j:Nat) (x:aK),0<j->(f::fs)[j]?=some x->Ti N (f::fs) j x:=λj x hj hx=>(f0 rfl j x hx).2 hj;obtain⟨r,e1,f1⟩:=OI ne fst nod par (f::fs) 0 (List.replicate N.length 0) rfl (by simp);simp only[e1];cases r with
   |none=>exact⟨false,rfl,λh=>by cases h⟩
   |some d=>
    obtain⟨ms,em,_⟩:=LV hI hB (k:=k) (by
     unfold gK at hk;rw[ad8,aiT] at hk;have hk1:N.length*(B+2)<=N.length*(2*B+8):=ajz _ (by omega);omega) N (List.replicate N.length false) (λ_ h=>h) (by simp) SI
    simp only[em];exact⟨_,rfl,λ_=>⟨ne,fst,nod,par,λi x hx ha=>f1 (by simp) i x (ajv _) hx ha⟩⟩
theorem OJ (k:HP N S){sz:Nat}:∀(xs:List aK),(∀x∈xs,x∈S)->∃r,LR sz N S xs=some r
 |[],_=>⟨_,rfl⟩
 |x::xs,h=>by
  obtain⟨r,e⟩:=OJ k (sz:=sz) xs λy hy=>h y (IN _ hy);have hent:∃b,SG N S x=some b:=by
   unfold SG;split
   .rename_i hp;obtain⟨j,hj⟩:=List.mem_iff_getElem?.1 (h x IT);by_cases hj0:j=0
    .subst hj0;have:=k.fst x hj;omega
    .obtain⟨q,p,nd,g1,g2,g3,g4,g5,g6,g7⟩:=k.par j x (by omega) hj;rw[g1,HK,g3];simp only[g5];exact⟨_,rfl⟩
   .exact⟨_,rfl⟩
  obtain⟨b,hb⟩:=hent;rw[LR,hb];simp only[e]
  repeat' split
  all_goals first|exact⟨_,rfl⟩|contradiction
theorem OL {src:ζ}:∀(T:List jS) (l:Int),0<=l->∃r,Vt src l T=some r
 |[],l,_=>⟨_,rfl⟩
 |x::T,l,h=>by
  rw[Vt];split
  .exact⟨_,rfl⟩
  split
  .exact⟨_,rfl⟩
  split
  .exact⟨_,rfl⟩
  split
  .split
   .exact OL T x.to (by omega)
   .exact⟨_,rfl⟩
  .omega
theorem ZT (k:HP N S){src:ζ}{T:List jS}:∃r,Vu src N S T=some r:=by
 unfold Vu;obtain⟨r,e⟩:=OJ k (sz:=src.size) S λ_ h=>h;rw[e];cases r with
 |false=>exact⟨_,rfl⟩
 |true=>exact OL (src:=src) T 0 (by omega)
theorem OM (e:Bool):∀(l:ε) (a:Int),(∀v∈l,∃c,gt S v=some c)->∃r,LS S e a l=some r
 |[],a,_=>⟨_,rfl⟩
 |k::l,a,h=>by
  obtain⟨c,hc⟩:=h k IT;obtain⟨r,er⟩:=OM e l c.to λv hv=>h v (IN _ hv);rw[LS,hc];simp only[er]
  repeat' split
  all_goals exact⟨_,rfl⟩
theorem Jb (k:HP N S){i:Nat}{x:aK}(hx:S[i]?=some x)(ha:x.alias=false):∃l,D2 S (List.replicate (mh 0 S (i:Int)).length 0) (mh 0 S (i:Int))=some l/\l.length=(mh 0 S (i:Int)).length/\(∀v∈l,∃c,gt S v=some c) /\
  ∀v c,gt S v=some c->c.parent=(i:Int)->gt l c.entry=some v:=by
 obtain⟨h1,h2⟩:=k.chd i x hx ha;obtain⟨l,e,g1,g2,g3,g4⟩:=OH (S:=S) (ks:=mh 0 S (i:Int)) (out:=List.replicate (mh 0 S (i:Int)).length 0) (λy hy=>by rw[aeL];exact h1 y hy) h2;refine⟨l,e,by rw[g1];simp,λv hv=>?_,λv c hc hp=>g2 v (BX.2 ⟨c,hc,hp⟩) c hc⟩;rcases g4 v hv with h|h
 .rw[(List.mem_replicate.1 h).2];have:=k.ne;exact dA (l:=S) rfl ⟨by omega,by omega⟩
 .obtain⟨c,hc,_⟩:=h1 v h;exact⟨c,hc⟩
theorem ON (k:HP N S):∀(xs:List aK) (i:Nat),S.drop i=xs->∃r,Iv N S i xs=some r
 |[],i,hd=>⟨_,rfl⟩
 |x::xs,i,hd=>by
  have hx:S[i]?=some x:=by
   have:=ahv (λl=>l[0]?) hd;simpa[aeY] using this
  have hd2:S.drop (i+1)=xs:=by
   have:=ahv (λl=>l.drop 1) hd;simpa[aha] using this
  obtain⟨r,er⟩:=ON k xs (i+1) hd2;rw[Iv];split
  .exact⟨r,er⟩
  rename_i hwa;have ha:x.alias=false:=by cases hal:x.alias with|false=>rfl|true=>exact absurd (.inr hal) hwa
  obtain⟨nd,hnd⟩:=dA (l:=N) rfl (k.nod i x hx);obtain⟨l,el,g1,g2,g3⟩:=Jb k hx ha;obtain⟨o,eo⟩:=OM (decide (nd.kind=10)) l x.xG g2;rw[hnd];simp only[el,eo];cases o with
  |none=>exact⟨_,rfl⟩
  |some b=>
   simp only;split
   .exact⟨_,rfl⟩
   .exact⟨r,er⟩
theorem OO (hB:∀x∈N,x.keys.length<=B/\x.items.length<=B)(hnB:N.length<=B)(hB2:B<1073741824){k:Nat}(hk:gK N.length B<=k)(d1:Int)(src:ζ)(T:List jS) :
  ∃r,sV k d1 src N root S T=some r/\(r=0->HP N S):=by
 unfold sV;split
 .exact⟨_,rfl,λh=>by cases h⟩
 split
 .exact⟨_,rfl,λh=>by cases h⟩
 obtain⟨r,e,f⟩:=ZS (root:=root) (S:=S) hB hnB hB2 hk;rw[e];cases r with
 |false=>exact⟨_,rfl,λh=>by cases h⟩
 |true=>
  have sok:=f rfl;obtain⟨r2,e2⟩:=ZT sok (src:=src) (T:=T);obtain⟨r3,e3⟩:=ON sok S 0 rfl;simp only[e2,e3];cases r2<;>cases r3<;>exact⟨_,rfl,λ_=>sok⟩
end
end
section
variable {α β:Type}{h h' h0:ab}{L:List bA}
section
variable {N:List ah}{S:List aK}{T:List jS}{B:Nat}{root d1:Int}{src:ζ}{dh cz tsl:Sl}
structure Ix (h0:ab) (dh cz tsl:Sl) (N:List ah) (S:List aK) (T:List jS) (B:Nat):Prop where
 G:oj h0 dh N
 hN:Bd N B
 ht:∀x∈N,x.text.size<=65536
 R:SR h0 cz S
 RT:Vs h0 tsl T
 hE:∀h',Fr (λ_=>False) h0 h'->cz.len≠0->jd h' cz bJ=true
 hB:S.length<=B
 hBT:T.length<=B
theorem Ix.check (D:Ix h0 dh cz tsl N S T B)(z:Z h0 h L){k n:Nat}(hn:k+4*B+65610<n){r:Int}(hv:sV k d1 src N root S T=some r):Wp (iQ n (d1,src,dh,root,cz,tsl)) h λy h'=>y=r/\Z h0 h' L:=
 LU z D.G D.hN D.ht D.R D.RT D.hE D.hB D.hBT hn hv
theorem OP (D:Ix h0 dh cz tsl N S T B)(z:Z h0 h L){k n:Nat}(hn:k+4*B+65610<n)(hv:sV k d1 src N root S T=some 0){i:Nat}(hi:i<S.length){l:ε}(ho:D2 S (List.replicate (mh 0 S (i:Int)).length 0) (mh 0 S (i:Int))=some l) :
  Wp (nq n (d1,src,dh,root,cz,tsl) (i:Int)) h λy h'=>∃b,y=arr b (mh 0 S (i:Int)).length/\l.length=(mh 0 S (i:Int)).length/\Z h0 h' (.av b (l.map vi) ar::L):=by
 have hB:=D.hB;have hcl:=yi (i:Int) S 0;have hB2:=D.hN.2.1;unfold nq;refine z.new λx0 h1 z _=>?_;refine z.fG 0 (ls:=[li,.str,.sl,li,.sl,.sl]) (x:=(d1,src,dh,root,cz,tsl)) ?_;rw[ag];refine (D.check z hn hv).mono λy h2 hy=>?_;obtain⟨rfl,z⟩:=hy;rw[AT (by decide),AT (by simp)];refine z.ld 0 (o:=4) (l:=.sl) (x:=cz) ?_;rw[D.R.len,AT (by simp;omega)];refine z.fG 0 (ls:=[li,.str,.sl,li,.sl,.sl]) (x:=(d1,src,dh,root,cz,tsl)) ?_;refine z.fG 0 (ls:=[li,.str,.sl,li,.sl,.sl]) (x:=(d1,src,dh,root,cz,tsl)) ?_;rw[ag];have l0:LB h2 x0 _ _:=z.get 0 rfl;refine zg ((vY z D.R D.hB hB2 (by omega)).mono λy h3 hy=>?_);obtain⟨m,MM,rfl,hM,z⟩:=hy;have z:=z.perm (L':=DB x0 d1 src dh root cz tsl::(MM++L)) aip;have l1:LB h3 x0 _ _:=z.get 0 rfl;refine⟨λa ha=>?_,?_⟩
 .simp only[aio,aai,aiQ,akr] at ha;subst ha;show h3.get x0=h2.get x0;rw[l0.get,l1.get]
 have hM':MmO (MM++L) m (mh 0 S):=by
  obtain⟨f,c,h1,h2⟩:=hM;refine⟨f,c,adh _ h1,λp=>(h2 p).imp id λ⟨s,g,e,hm⟩=>⟨s,g,e,adh _ hm⟩⟩
 refine Z.Of (P':=[_]) z hM' λbb sl hr=>?_;rw[ag];refine (Hp (L:=DB x0 d1 src dh root cz tsl::(MM++L)) z D.R (by omega) (λ{h'} {P'} z'=>hr (P2:=P'++[_]) (by rw[abt];exact z')) (by omega) ho).mono λy h3 hy=>?_;obtain⟨b3,rfl,hll,z⟩:=hy;rw[af];exact⟨b3,rfl,hll,z.sub (List.Sublist.cons₂ _ (List.Sublist.cons _ (ag9 _ _)))⟩
structure ahI (N:List ah):Prop where
 n:N.length<=40
 x:∀x∈N,x.text.size<=100/\x.keys.length<=80/\x.items.length<=80
theorem ahJ (G:oj h0 dh N){x0:Nat}(hN:N.length<=40) :
  ∀(n i:Nat) (p q:Int) (h:ab),N.length-i<n->i<=N.length->(∀(j:Nat) (x:ah),j<i->N[j]?=some x->x.text.size<=100/\x.keys.length<=80/\x.items.length<=80)->Z h0 h (GB x0 dh root::L) ->
   Wp (fv n (ai x0) p q (i:Int)) h λy h'=>(∀w,y=.inl w->∀(j:Nat) (x:ah),N[j]?=some x->x.text.size<=100/\x.keys.length<=80/\x.items.length<=80)/\(∀b,y=.inr b->b=false)/\Z h0 h' (GB x0 dh root::L):=by
 intro n
 induction n with
 |zero=>intro i p q h h1;omega
 |succ n ih=>
  intro i p q h h1 h2 hf z;rw[wH];unfold nK;refine z.ld 0 (o:=0) (l:=.sl) (x:=dh) ?_;rw[G.len];by_cases hi:i<N.length
  .rw[By (by simp;omega)];obtain⟨x,hx⟩:=dS hi;refine z.ld 0 (o:=0) (l:=.sl) (x:=dh) ?_;refine G.at z (by omega) (by simpa using hx) λa ks is nd ik ii=>nd.fG ?_;refine z.node λx2 h2' z=>?_;have fin:Wp (AI (Sum.inr false:(Int×Int)⊕Bool)) h2' λy h'=>(∀w,y=.inl w->∀(j:Nat) (x:ah),N[j]?=some x->x.text.size<=100/\x.keys.length<=80/\x.items.length<=80)/\(∀b,y=.inr b->b=false)/\Z h0 h' (GB x0 dh root::L):=by
    rw[af];exact⟨λw hw=>(by cases hw),λb hb=>(by cases hb;rfl),z.drop⟩
   refine z.ld 0 (o:=1) (l:=.str) (x:=x.text) ?_;by_cases c1:(100:Int)<x.text.size
   .rw[By (by simpa using c1)];exact fin
   rw[AT (by simpa using c1)];refine z.ld 0 (o:=3) (l:=.sl) (x:=ks) ?_;rw[ik.len];by_cases c2:(80:Int)<x.keys.length
   .rw[By (by simpa using c2)];exact fin
   rw[AT (by simpa using c2)];refine z.ld 0 (o:=4) (l:=.sl) (x:=is) ?_;rw[ii.len];by_cases c3:(80:Int)<x.items.length
   .rw[By (by simpa using c3)];exact fin
   rw[AT (by simpa using c3)];unfold kX;refine z.ld 0 (o:=3) (l:=.sl) (x:=ks) (z.ld 0 (o:=4) (l:=.sl) (x:=is) (z.ld 0 (o:=1) (l:=.str) (x:=x.text) ?_));rw[rR (B:=40) (by omega) (by omega)];refine ih (i+1) _ _ h2' (by omega) (by omega) (λj y hj hy=>?_) z.drop;by_cases hji:j=i
   .subst hji;rw[hx] at hy;cases hy;exact⟨by omega,by omega,by omega⟩
   .exact hf j y (by omega) hy
  .rw[AT (by simp;omega),af];refine⟨λw _ j x hx=>hf j x ?_ hx,λb hb=>(by cases hb),z⟩;have:=(List.getElem?_eq_some_iff.1 hx).1;omega
theorem ZU (G:oj h0 dh N)(z:Z h0 h L){n:Nat}(hn:50<n):Wp (oP n (dh,root)) h λy h'=>(y=true->ahI N)/\Z h0 h' L:=by
 unfold oP;refine z.new λx0 h1 z _=>?_;refine z.ld 0 (o:=0) (l:=.sl) (x:=dh) ?_;rw[G.len];by_cases c1:(40:Int)<N.length
 .rw[By (by simpa using c1),af];exact⟨λh=>(by cases h),z.drop⟩
 rw[AT (by simpa using c1),ag];refine (ahJ G (by omega) n 0 0 0 h1 (by omega) (by omega) (λj x hj=>by omega) z).mono λy h2 hy=>?_;obtain⟨f1,f2,z⟩:=hy;cases y with
 |inl w=>
  have fg:ahI N:=⟨by omega,λx hx=>by obtain⟨j,hj⟩:=List.mem_iff_getElem?.1 hx;exact f1 w rfl j x hj⟩;show Wp (if _ then _ else _) h2 _;split
  .rw[af];exact⟨λ_=>fg,z.drop⟩
  .rw[af];exact⟨λ_=>fg,z.drop⟩
 |inr b=>
  show Wp (AI b) h2 _;rw[af];exact⟨λh=>(by rw[f2 b rfl] at h;cases h),z.drop⟩
structure alN (src:ζ) (N:List ah) (S:List aK) (T:List jS):Prop where
 g:ahI N
 src:src.size<=2000
 s:S.length<=60
 t:T.length<=40
theorem ZV (G:oj h0 dh N)(R:SR h0 cz S)(RT:Vs h0 tsl T)(z:Z h0 h L){n:Nat}(hn:50<n):Wp (mb n (d1,src,dh,root,cz,tsl)) h λy h'=>(y=true->alN src N S T)/\Z h0 h' L:=by
 unfold mb;refine z.new λx0 h1 z _=>?_;have c:Cl h1 ((ai x0).plus 2) [aM dh,vi root] (x0+1):=by
  have l:LB h1 x0 _ _:=z.get 0 rfl;exact⟨rfl,_,0,_,l.get,by simp[Addr.plus],by simp[Addr.plus]⟩
 refine c.fG (ls:=[.sl,li]) (x:=(dh,root)) rfl ?_;rw[ag];refine (ZU G z hn).mono λy h2 hy=>?_;obtain⟨f,z⟩:=hy;cases y with
 |false=>rw[AT (by simp),af];exact⟨λh=>(by cases h),z.drop⟩
 |true=>
  rw[By rfl];refine z.ld 0 (o:=1) (l:=.str) (x:=src) ?_;by_cases c1:(src.size:Int)<=2000
  rotate_left
  .rw[AT (by simpa using c1),af];exact⟨λh=>(by cases h),z.drop⟩
  rw[By (by simpa using c1)];refine z.ld 0 (o:=4) (l:=.sl) (x:=cz) ?_;rw[R.len];by_cases c2:(S.length:Int)<=60
  rotate_left
  .rw[AT (by simpa using c2),af];exact⟨λh=>(by cases h),z.drop⟩
  rw[By (by simpa using c2)];refine z.ld 0 (o:=5) (l:=.sl) (x:=tsl) ?_;rw[af,RT.len];exact⟨λh=>⟨f rfl,by omega,by omega,by simp at h;omega⟩,z.drop⟩
end
end
section
variable {N:List ah}{S:List aK}{root:Int}
def OQ (S:List aK):Nat->Nat->η
 |0,_=>[]
 |f+1,j=>if j=0 then [] else OQ S f ((S[j]?.map (·.parent.toNat)).getD 0)++[j]
def lin (S:List aK)(j:Nat):η:=OQ S j j
theorem ZW:∀f,OQ S f 0=[]
 |0=>rfl
 |f+1=>rfl
theorem acZ (k:HP N S):∀(j:Nat),j<S.length->∀f g,j<=f->j<=g->OQ S f j=OQ S g j:=by
 intro j
 induction j using Nat.strongRecOn with
 |_ j ih=>
  intro hl f g hf hg;by_cases h0:j=0
  .subst h0;rw[ZW,ZW]
  obtain⟨f,rfl⟩:∃j',f=j'+1:=⟨f-1,by omega⟩;obtain⟨g,rfl⟩:∃j',g=j'+1:=⟨g-1,by omega⟩;obtain⟨x,hx⟩:=dS hl;obtain⟨q,p,nd,h1,h2,h3,_⟩:=k.par _ x (by omega) hx;have hq:((S[j]?.map (·.parent.toNat)).getD 0)=q:=by rw[hx];show x.parent.toNat=q;omega
  rw[OQ,AT h0,OQ,AT h0,hq,ih q h2 (by omega) f g (by omega) (by omega)]
theorem Re (k:HP N S){j q:Nat}{x:aK}(h0:0<j)(hx:S[j]?=some x)(hp:x.parent=(q:Int)):lin S j=lin S q++[j]:=by
 have hl:=(List.getElem?_eq_some_iff.1 hx).1;obtain⟨q',p,nd,h1,h2,h3,_⟩:=k.par _ x h0 hx;obtain rfl:q'=q:=by omega
 unfold lin;obtain⟨j,rfl⟩:∃j',j=j'+1:=⟨j-1,by omega⟩;have hq:((S[j+1]?.map (·.parent.toNat)).getD 0)=q':=by rw[hx];show x.parent.toNat=q';omega
 rw[OQ,AT (by omega),hq,acZ k q' (by omega) j q' (by omega) (aae _)]
theorem Tj (k:HP N S):∀j,j<S.length->(lin S j).length<=j:=by
 intro j
 induction j using Nat.strongRecOn with
 |_ j ih=>
  intro hl;by_cases h0:j=0
  .subst h0;exact aae _
  obtain⟨x,hx⟩:=dS hl;obtain⟨q,p,nd,h1,h2,h3,_⟩:=k.par _ x (by omega) hx;rw[Re k (by omega) hx h1,aa8];have:=ih q h2 (by omega);simp only[aac,adf];omega
def Way (S:List aK):Nat->η->Prop
 |_,[]=>True
 |q,j::l=>0<j/\(∃x,S[j]?=some x/\x.parent=(q:Int))/\Way S j l
theorem Way.app {l:η}{j:Nat}:∀{q:Nat},Way S q l->0<j->(∃x,S[j]?=some x/\x.parent=((l.getLast?.getD q:Nat):Int))->Way S q (l++[j]):=by
 induction l with
 |nil=>intro q _ h0 h;exact⟨h0,h,trivial⟩
 |cons a l ih=>
  intro q ⟨h1,h2,h3⟩ h0 h;refine⟨h1,h2,ih h3 h0 ?_⟩
  rwa [List.getLast?_cons] at h
theorem ac0 (k:HP N S):∀j,j<S.length->Way S 0 (lin S j)/\(lin S j).getLast?.getD 0=j:=by
 intro j
 induction j using Nat.strongRecOn with
 |_ j ih=>
  intro hl;by_cases h0:j=0
  .subst h0;exact⟨trivial,rfl⟩
  obtain⟨x,hx⟩:=dS hl;obtain⟨q,p,nd,h1,h2,h3,_⟩:=k.par _ x (by omega) hx;obtain⟨i1,i2⟩:=ih q h2 (by omega);rw[Re k (by omega) hx h1];exact⟨i1.app (by omega) ⟨x,hx,by rw[i2];exact h1⟩,by simp⟩
noncomputable def Rf (N:List ah)(root:Int)(S:List aK)(j:Nat):Int×ζ:=match S[j]? with
 |none=>(0,ofBytes [])
 |some x=>match gt S x.parent with
  |none=>(0,ofBytes [])
  |some p=>match gt N p.node with
   |none=>(0,ofBytes [])
   |some nd=>if nd.kind=10 then (0,AW N root (nth nd.keys x.entry)) else (x.entry,ofBytes [])
noncomputable def Fc (N:List ah)(root:Int)(S:List aK)(j:Nat):List (Int×ζ):=(lin S j).map (Rf N root S)
theorem ZX {j q:Nat}{x p:aK}{nd:ah}(hx:S[j]?=some x)(hq:x.parent=(q:Int))(hp:S[q]?=some p)(hn:gt N p.node=some nd):Rf N root S j=if nd.kind=10 then (0,AW N root (nth nd.keys x.entry)) else (x.entry,ofBytes []):=by
 unfold Rf;simp only[hx,hq,HK,hp,hn]
theorem ZY (k:HP N S){j q:Nat}{x:aK}(h0:0<j)(hx:S[j]?=some x)(hp:x.parent=(q:Int)):Fc N root S j=Fc N root S q++[Rf N root S j]:=by
 unfold Fc;rw[Re k h0 hx hp,ain];rfl
theorem ac1 {l:ε}{xs:ε}(hl:l.length=xs.length)(h1:∀v∈xs,∃c,gt S v=some c/\IR xs.length c.entry)(h2:xs.Pairwise (Dst S))(h3:∀v∈xs,∀c,gt S v=some c->gt l c.entry=some v){i:Nat}(hi:i<l.length):∃v c,l[i]?=some v/\v∈xs/\gt S v=some c/\c.entry=(i:Int):=by
 let e:Int->Int:=λv=>((gt S v).map (·.entry)).getD 0
 have he:∀v∈xs,∀c,gt S v=some c->e v=c.entry:=λv _ c hc=>by show ((gt S v).map (·.entry)).getD 0=_;rw[hc];rfl
 have nd:(xs.map e).Nodup:=by
  refine List.pairwise_map.2 (h2.imp_of_mem λ{a b} ha hb hd=>?_);obtain⟨c,hc,hc2⟩:=h1 a ha;obtain⟨d,hd1,hd2⟩:=h1 b hb;rw[he a ha c hc,he b hb d hd1];exact hd c d hc hd1
 have hin:∀n∈xs.map e,IR xs.length n:=λn hn=>by
  obtain⟨v,hv,rfl⟩:=List.mem_map.1 hn;obtain⟨c,hc,q⟩:=h1 v hv;rw[he v hv c hc];exact q
 have hm:(i:Int)∈xs.map e:=ae3 λhno=>by
  have:=vZ (l:=(i:Int)::xs.map e) (n:=xs.length) (List.nodup_cons.2 ⟨hno,nd⟩) λv hv=>by
   rcases List.mem_cons.1 hv with rfl|hv
   .exact⟨by omega,by omega⟩
   .exact hin v hv
  simp only[aac,ae1] at this;omega
 obtain⟨v,hv,hvi⟩:=List.mem_map.1 hm;obtain⟨c,hc,q1,q2⟩:=h1 v hv;have hci:c.entry=(i:Int):=by rw[he v hv c hc] at hvi;exact hvi
 have:=h3 v hv c hc;rw[hci,HK] at this;exact⟨v,c,this,hv,hc,hci⟩
end
section
variable {α β:Type}{h h' h0:ab}{L:List bA}{N:List ah}{S:List aK}{T:List jS}{B:Nat}{root d1:Int}{src:ζ}{dh cz tsl:Sl}{Q:β->ab->Prop}
abbrev PT:=List (Int×ζ)
def stV (p:Int×ζ):δ:=[vi p.1,.string p.2]
theorem F6 (p:Int×ζ):(stV p).length=2:=rfl
def CZ (p:PT):δ:=p.flatMap stV
theorem ru (p:PT):(CZ p).length=p.length*2:=ic F6 p
theorem ZZ {s:Sl}{b:Addr}{sz:Nat}{e:κ}(hs:s.a=some b){Q:Sl->ab->Prop}(q:Q s h):Wp (Ago.app false s sz e 0 []) h Q:=
 ⟨s,h,by unfold Ago.app uJ;simp[hs],q⟩
theorem _root_.Go.Ago.Z.ZF (z:Z h0 h L){e:κ}{cs:δ}{k sz:Nat}{f:Nat->M β}(hl:cs.length=k*sz)(hs:cs.all eB=true)(q:∀b h',Z h0 h' (.sl ⟨some (ai b),k,k+1⟩ sz e cs (b+1)::L)->Wp (f b) h' Q):Wp (sh (aJ none e cs) f) h Q:=by
 rw[ag,Bi];refine⟨hs,?_⟩;exact q h.next _ (z.add (Fr.new (e:=e) (cs:=cs) z.wf) (o:=.sl ⟨some (ai h.next),k,k+1⟩ sz e cs (h.next+1))
  ⟨hl,.inr ⟨by omega,by simp[ab.new,ab.cS],.inr rfl,h.next,0,rfl,kL,by rw[ab.new,wo];simp⟩⟩ (.inr (aad _)))
theorem ac2 {i:Nat}{out:Sl}{q:PT}{g:Nat}{st:Int×ζ}(z:Z h0 h L)(hi:L[i]?=some (.sl out 2 aA (CZ q) g))(hb:q.length+1<=cT){f:Sl->M β}(k:∀s' h' g',Z h0 h' (.sl s' 2 aA (CZ (st::q)) g'::L)->Wp (f s') h' Q) :
  Wp (sh (aJ none aA [vi st.1,Value.string st.2]) λx=>sh (Ago.OU out 2) λy=>sh (Ago.app false { a:=some (ai x),len:=1,cap:=2 } 2 aA out.len y) f) h Q:=by
 refine z.ZF (k:=1) (sz:=2) rfl rfl λb h1 z=>?_;have o:wq h1 out 2 aA (CZ q) g:=z.get (i+1) hi;have hl:q.length=out.len:=by have:=o.1;rw[ru] at this;omega
 rw[ag,afp];refine⟨_,o.read,?_⟩;by_cases hn:out.len=0
 .have:q=[]:=acu (by omega);subst this;rw[hn,ag];exact ZZ rfl (k _ _ _ z)
 .exact Z.Vr z 0 rfl hn (by rw[ru,hl]) (by show 1+_<=_;omega) λs' h2 g' _ z2 _=>k s' h2 g' z2
theorem DB.g {x0 i:Nat}(z:Z h0 h L)(hi:L[i]?=some (DB x0 d1 src dh root cz tsl)):Cl h ((ai x0).plus 2) [aM dh,vi root] (x0+1):=by
 have l:LB h x0 _ _:=z.get i hi;exact⟨rfl,_,0,_,l.get,by simp[Addr.plus],by simp[Addr.plus]⟩
theorem OR {s:Sl}{v:Int}(z:Z h0 h L)(G:oj h0 s N)(fw:mf N)(kv:KN N v)(hv:IR N.length v){n:Nat}(hn:Rd<=n):Wp (pV n (s,root) v) h λr h'=>r=AW N root v/\Z h0 h' L:=by
 unfold pV;refine z.new λx0 h1 z _=>z.fG 0 (x:=((s,root):eI [.sl,li])) ?_;exact VO z G fw (λ_=>kv) hv hn λx h' hx z=>af.2 ⟨hx,z.drop⟩
structure Up (N:List ah) (S:List aK) (j:Nat) (x:aK) (q:Nat) (p:aK) (nd:ah):Prop where
 par:x.parent=(q:Int)
 lt:q<j
 hp:S[q]?=some p
 al:p.alias=false
 hn:gt N p.node=some nd
 e0:0<=x.entry
 e1:x.entry<(nd.items.length:Int)
theorem HP.up (ok:HP N S){j:Nat}{x:aK}(h0:0<j)(hx:S[j]?=some x):∃q p nd,Up N S j x q p nd:=by
 obtain⟨q,p,nd,h1,h2,h3,h4,h5,h6,h7⟩:=ok.par j x h0 hx;exact⟨q,p,nd,h1,h2,h3,h4,h5,h6,h7⟩
theorem CX (d:Vd N root){nd:ah}(hn:nd∈N)(h10:nd.kind=10){e:Int}(e0:0<=e)(e1:e<(nd.items.length:Int)):∃v,nd.keys[e.toNat]?=some v/\nth nd.keys e=v/\KN N v:=by
 obtain⟨v,hv⟩:=o5 (l:=nd.keys) e0 (by rw[d.map hn h10];exact e1);exact⟨v,(ay hv).2,by unfold nth;rw[hv];rfl,.key hn (az hv)⟩
theorem ac3 (D:Ix h0 dh cz tsl N S T B)(ok:HP N S)(fw:mf N)(d:Vd N root){x0:Nat}:∀(n j:Nat) (h:ab) (out:Sl) (q:PT) (g:Nat),Rd+j+1<=n->j<S.length->q.length+j<=S.length ->
  Z h0 h (.sl out 2 aA (CZ q) g::DB x0 d1 src dh root cz tsl::L) ->
  Wp (mN n (j:Int) (ai x0) out) h λr h'=>∃g,Z h0 h' (.sl r 2 aA (CZ (Fc N root S j++q)) g::DB x0 d1 src dh root cz tsl::L):=by
 intro n
 induction n with
 |zero=>intro j h out q g h1;omega
 |succ n ih=>
  intro j h out q g h1 h2 h3 z;have hB:=D.hB;have hB2:=D.hN.2.1;rw[CD];unfold vo;by_cases hj:0<j
  rotate_left
  .obtain rfl:j=0:=by omega
   rw[AT (by simp)];exact af.2 ⟨g,z⟩
  rw[By (by simpa using hj)];obtain⟨x,hx⟩:=dS h2;obtain⟨u,p,nd,U⟩:=ok.up hj hx;refine z.ld 1 (o:=4) (l:=.sl) (x:=cz) ?_;refine D.R.at z (V6 hx) λa c1=>c1.fG ?_;refine z.span (x:=x) λx3 h3' z=>?_;refine z.eU (n:=14) [12] (by decide) (by simp) λkb h4 z=>?_;refine z.ld 3 (o:=2) (l:=.sl) (x:=dh) ?_;refine z.ld 3 (o:=4) (l:=.sl) (x:=cz) ?_;refine z.ld 1 (o:=1) (l:=li) (x:=x.parent) ?_;rw[U.par];refine D.R.at z (V6 U.hp) λa2 c2=>c2.ld 0 (l:=li) (y:=p.node) ?_;refine D.G.Yr z (ay U.hn).1 (ay U.hn).2 λax ks is nR=>?_;refine (nR.fr z.fr).fG ?_;refine z.newAt 0 λh5 z=>?_;refine z.st 0 (cs':=[vi nd.kind,.string nd.text,.bool nd.ord,aM ks,aM is]) λh6 z=>?_;refine z.ld 1 (o:=2) (l:=li) (x:=x.entry) ?_;refine z.new λx16 h7 z _=>z.st 0 (cs':=[vi x.entry,.string (ofBytes [])]) λh8 z=>?_;refine z.ld 1 (o:=0) (l:=li) (x:=nd.kind) ?_;have z:Z h0 h8 (.av x16 [vi x.entry,.string (ofBytes [])] aA::.av (kb+12) [vi nd.kind,.string nd.text,.bool nd.ord,aM ks,aM is] aW::.av x3 x.enc bJ::.sl out 2 aA (CZ q) g::DB x0 d1 src dh root cz tsl::L):=z;have fin:∀{h9:ab} {st:Int×ζ} (z:Z h0 h9 (.av x16 [vi st.1,.string st.2] aA::.av (kb+12) [vi nd.kind,.string nd.text,.bool nd.ord,aM ks,aM is] aW::.av x3 x.enc bJ::.sl out 2 aA (CZ q) g::DB x0 d1 src dh root cz tsl::L)),Rf N root S j=st ->
    Wp (sh (aJ none aA [vi st.1,Value.string st.2]) λy=>sh (Ago.OU out 2) λw=>sh (Ago.app false { a:=some (ai y),len:=1,cap:=2 } 2 aA out.len w) λv=>sh (ak li ((ai x3).plus 1)) λ(r:Int)=>mN n r (ai x0) v) h9 λr h'=>∃g,Z h0 h' (.sl r 2 aA (CZ (Fc N root S j++q)) g::DB x0 d1 src dh root cz tsl::L):=λ{h9 st} z hst=>by
   refine ac2 (i:=3) (q:=q) (st:=st) z rfl (by unfold cT;omega) λs' h10 g' z=>?_;refine z.ld 3 (o:=1) (l:=li) (x:=x.parent) ?_;rw[U.par];have:=ih u h10 s' (st::q) g' (by have:=U.lt;omega) (by have:=U.lt;omega) (by have:=U.lt;simp only[aac];omega) (z.sub (List.Sublist.cons_cons _ (.cons _ (.cons _ (.cons _ (.cons _ (ajH _)))))));rw[ZY ok hj hx U.par,hst,abt];exact this
  have hstp:=ZX (N:=N) (root:=root) hx U.par U.hp U.hn;by_cases h10:nd.kind=10
  .rw[By (by simpa using h10)];rw[By h10] at hstp;obtain⟨v,hv,env,kv⟩:=CX d (az U.hn) h10 U.e0 U.e1;rw[env] at hstp;refine (DB.g z (i:=4) rfl).fG (x:=((dh,root):eI [.sl,li])) rfl ?_;refine z.ld 1 (o:=3) (l:=.sl) (x:=ks) ?_;refine z.ld 2 (o:=2) (l:=li) (x:=x.entry) ?_;refine (nR.keys.fr z.fr).ix U.e0 hv λa3 g3 c3=>c3.rz (l:=li) rfl rfl ?_;rw[ag];refine (OR z D.G fw kv (kv.ir d.ix) (by omega)).mono λy h9 hy=>?_;obtain⟨rfl,z⟩:=hy;refine z.st 0 (cs':=[vi 0,.string (AW N root v)]) λh10' z=>?_;refine z.fG 0 (x:=((0,AW N root v):eI [li,.str])) ?_;exact fin (st:=(0,AW N root v)) z hstp
  .rw[AT (by simpa using h10)];rw[AT h10] at hstp;refine z.fG 0 (x:=((x.entry,ofBytes []):eI [li,.str])) ?_;exact fin (st:=(x.entry,ofBytes [])) z hstp
theorem Tk (D:Ix h0 dh cz tsl N S T B)(ok:HP N S)(fw:mf N)(d:Vd N root)(z:Z h0 h L){k n:Nat}(hn:k+4*B+65610<n)(hn2:Rd+B+1<=n)(hv:sV k d1 src N root S T=some 0){i:Nat}(hi:i<S.length) :
  Wp (sE n (d1,src,dh,root,cz,tsl) (i:Int)) h λy h'=>y.2=0/\∃g,Z h0 h' (.sl y.1 2 aA (CZ (Fc N root S i)) g::L):=by
 have hB:=D.hB;unfold sE;refine z.new λx0 h1 z _=>?_;refine z.fG 0 (ls:=[li,.str,.sl,li,.sl,.sl]) (x:=(d1,src,dh,root,cz,tsl)) ?_;rw[ag];refine (D.check z hn hv).mono λy h2 hy=>?_;obtain⟨rfl,z⟩:=hy;rw[AT (by decide),AT (by simp)];refine z.ld 0 (o:=4) (l:=.sl) (x:=cz) ?_;rw[D.R.len,AT (by simp;omega),ag];have z0:Z h0 h2 (.sl uV 2 aA (CZ []) 0::DB x0 d1 src dh root cz tsl::L):=z.add (Fr.refl z.wf) (o:=.sl uV 2 aA [] 0) wq.nil (.inl rfl);refine (ac3 D ok fw d n i h2 uV [] 0 (by omega) hi (by simp;omega) z0).mono λr h3 hr=>af.2 ?_;obtain⟨g,z⟩:=hr;rw[afw] at z;exact⟨rfl,g,z.sub (List.Sublist.cons_cons _ (.cons _ (ajH _)))⟩
end
section
variable {α β:Type}{h h' h0:ab}{L MM:List bA}{N:List ah}{S:List aK}{T:List jS}{B:Nat}{root d1:Int}{src:ζ}{dh cz tsl:Sl}{Q:β->ab->Prop}
def Hit (N:List ah)(root:Int)(nd:ah)(st:Int×ζ)(x:aK):Prop:=if nd.kind=10 then AW N root (nth nd.keys x.entry)=st.2 else x.entry=st.1
theorem Mn {a b:ζ}:mY a b=true↔a=b:=⟨kM,λe=>by subst e;rw[qf];simp⟩
abbrev F3 (x2 x7 x0:Nat)(st:Int×ζ)(nd:ah)(ks is:Sl)(d1:Int)(src:ζ)(dh:Sl)(root:Int)(cz tsl:Sl):List bA:=
 [.av x2 [vi st.1,.string st.2] aA,.av x7 [vi nd.kind,.string nd.text,.bool nd.ord,aM ks,aM is] aW,DB x0 d1 src dh root cz tsl]
theorem ac4 (D:Ix h0 dh cz tsl N S T B)(fw:mf N)(d:Vd N root){x0 x2 x7 m:Nat}{nd:ah}{ks is:Sl}{st:Int×ζ}{cl:ε}{sl:Sl}(hn:nd∈N)(iks:IL h0 ks nd.keys)(hr:∀{h':ab} {P2:List bA},Z h0 h' (P2++MM)->IL h' sl cl)(hcB:cl.length<=B)
  (hc:∀k∈cl,∃c,gt S k=some c/\0<=c.entry/\c.entry<(nd.items.length:Int)) (hst:(nd.kind=10/\st.2≠ofBytes [])\/(nd.kind≠10/\st.2=ofBytes [])) {j:Int} (hj:∀k∈cl,∀c,gt S k=some c->(Hit N root nd st c↔k=j)) {a5:Sl} {a6 a7:Int} :
  ∀(n i:Nat) (h:ab) (a4:Int),Rd+(cl.length-i)+1<=n->i<=cl.length->a4=(if j∈cl.take i then j else -1)->Z h0 h (F3 x2 x7 x0 st nd ks is d1 src dh root cz tsl++MM) ->
  Wp (mO n (ai x0) (some m) (ai x2) (ai x7) a4 a5 a6 a7 sl (cl.length:Int) (i:Int)) h λr h'=>r=(if j∈cl then j else -1)/\Z h0 h' (F3 x2 x7 x0 st nd ks is d1 src dh root cz tsl++MM):=by
 intro n
 induction n with
 |zero=>intro i h a4 h1;omega
 |succ n ih=>
  intro i h a4 h1 h2 ha z;have hB2:=D.hN.2.1;rw[CH];unfold vq;by_cases hi:i<cl.length
  rotate_left
  .rw[AT (by simp;omega)];rw[agw (by omega)] at ha;exact af.2 ⟨ha,z⟩
  rw[By (by simpa using hi)];obtain⟨k,hk⟩:=dS hi;have hkm:=BY hk;obtain⟨c,hgc,e0,e1⟩:=hc k hkm;have hit:=hj k hkm c hgc;have nxt:∀{h9:ab} {a':Int},a'=(if k=j then k else a4)->Z h0 h9 (F3 x2 x7 x0 st nd ks is d1 src dh root cz tsl++MM)->Wp (mO n (ai x0) (some m) (ai x2) (ai x7) a' a5 a6 a7 sl (cl.length:Int) (IntKind.i64.wrap ((i:Int)+1))) h9 λr h'=>r=(if j∈cl then j else -1)/\Z h0 h' (F3 x2 x7 x0 st nd ks is d1 src dh root cz tsl++MM):=λ{h9 a'} ha' z=>by
   rw[rR h2 (by omega)];refine ih (i+1) h9 a' (by omega) (by omega) ?_ z;have tk:cl.take (i+1)=cl.take i++[k]:=by rw[ajI,hk];rfl
   rw[tk,ha',ha];by_cases hkj:k=j
   .rw[By hkj,By (by simp[hkj])];exact hkj
   .rw[AT hkj];have:j∈cl.take i++[k]↔j∈cl.take i:=by
     simp only[ae0,ahL];exact⟨λh=>h.resolve_right λe=>hkj e.symm,.inl⟩
    simp only[this]
  refine (hr z).ix (by omega) (by simpa using hk) λa g c1=>c1.rz (l:=li) rfl rfl ?_;refine z.ld 2 (o:=4) (l:=.sl) (x:=cz) ?_;refine D.R.at z hgc λa3 c3=>c3.ld 2 (l:=li) (y:=c.entry) ?_;refine z.ld 0 (o:=1) (l:=.str) (x:=st.2) ?_;rcases hst with⟨h10,hne⟩|⟨h10,heq⟩
  .have hf:mY st.2 (ofBytes [])=false:=by
    cases hq:mY st.2 (ofBytes []) with
    |false=>rfl
    |true=>exact absurd (kM hq) hne
   rw[AT (by rw[hf];decide)];refine z.ld 0 (o:=1) (l:=.str) (x:=st.2) ?_;rw[By (by rw[hf];rfl)];refine z.ld 1 (o:=0) (l:=li) (x:=nd.kind) ?_;rw[By (by simpa using h10)];obtain⟨v,hv,env,kv⟩:=CX d hn h10 e0 e1;refine (DB.g z (i:=2) rfl).fG (x:=((dh,root):eI [.sl,li])) rfl ?_;refine z.ld 1 (o:=3) (l:=.sl) (x:=ks) ?_;refine (iks.fr z.fr).ix e0 hv λa5' g5 c5=>c5.rz (l:=li) rfl rfl ?_;refine z.ld 0 (o:=1) (l:=.str) (x:=st.2) ?_;rw[ag];have l0:LB h x2 _ _:=z.get 0 rfl;refine zg ((OR z D.G fw kv (kv.ir d.ix) (by omega)).mono λy h9 hy=>?_);obtain⟨rfl,z⟩:=hy;have l1:LB h9 x2 _ _:=z.get 0 rfl;refine⟨λa ha=>?_,?_⟩
   .simp only[aio,aai,aiQ,akr] at ha;subst ha;show h9.get x2=h.get x2;rw[l0.get,l1.get]
   unfold Hit at hit;rw[By h10,env] at hit;by_cases he:AW N root v=st.2
   .rw[By (Mn.2 he)];exact nxt (by rw[By (hit.1 he)]) z
   .rw[AT (λq=>he (kM q))];exact nxt (by rw[AT (λq=>he (hit.2 q))]) z
  .rw[By (Mn.2 heq)];refine z.ld 1 (o:=0) (l:=li) (x:=nd.kind) ?_;rw[By (by simpa using h10)];refine z.ld 0 (o:=0) (l:=li) (x:=st.1) ?_;unfold Hit at hit;rw[AT h10] at hit;by_cases he:c.entry=st.1
   .rw[By (by simpa using he)];exact nxt (by rw[By (hit.1 he)]) z
   .rw[AT (by simpa using he)];refine z.ld 0 (o:=1) (l:=.str) (x:=st.2) ?_;rw[AT (by rw[Mn.2 heq];decide)];exact nxt (by rw[AT (λq=>he (hit.2 q))]) z
theorem ac5 (fw:mf N)(h0':gc N root=0)(ok:HP N S){j q:Nat}{x p:aK}{nd:ah}(hx:S[j]?=some x)(U:Up N S j x q p nd):((nd.kind=10/\(Rf N root S j).2≠ofBytes [])\/(nd.kind≠10/\(Rf N root S j).2=ofBytes [])) /\
  (∀k∈mh 0 S (q:Int),∃c,gt S k=some c/\0<=c.entry/\c.entry<(nd.items.length:Int))/\(j:Int)∈mh 0 S (q:Int)/\∀k∈mh 0 S (q:Int),∀c,gt S k=some c->(Hit N root nd (Rf N root S j) c↔k=(j:Int)):=by
 have d:=fw.vdg h0';have hstp:=ZX (N:=N) (root:=root) hx U.par U.hp U.hn;have hm:=az U.hn;have hgx:gt S (j:Int)=some x:=by rw[HK];exact hx
 have hin:(j:Int)∈mh 0 S (q:Int):=BX.2 ⟨x,hgx,U.par⟩;have ent:∀k∈mh 0 S (q:Int),∃c,gt S k=some c/\0<=c.entry/\c.entry<(nd.items.length:Int):=λk hk=>by
  obtain⟨c,hc,hp⟩:=BX.1 hk;obtain⟨g1,g2⟩:=ay hc;obtain⟨_,p',nd',q1,q2,q3,q4,q5⟩:=ok.child g2 hp;rw[U.hp] at q1;cases q1;rw[U.hn] at q3;cases q3;exact⟨c,hc,q4,q5⟩
 have dst:∀k∈mh 0 S (q:Int),∀c,gt S k=some c->(c.entry=x.entry↔k=(j:Int)):=λk hk c hc=>by
  constructor
  .intro he;refine ae3 λhne=>?_;have pw:=(ok.chd q p U.hp U.al).2;obtain⟨a,ha⟩:=List.mem_iff_getElem?.1 hk;obtain⟨b,hb⟩:=List.mem_iff_getElem?.1 hin;obtain⟨a1,a2⟩:=List.getElem?_eq_some_iff.1 ha;obtain⟨b1,b2⟩:=List.getElem?_eq_some_iff.1 hb;have pw:=List.pairwise_iff_getElem.1 pw;rcases akD a b with h|h|h
   .have:=pw a b a1 b1 h;rw[a2,b2] at this;exact this c x hc hgx he
   .subst h;rw[ha] at hb;exact hne (aas hb)
   .have:=pw b a b1 a1 h;rw[a2,b2] at this;exact this x c hgx hc he.symm
  .intro he;subst he;rw[hgx] at hc;cases hc;rfl
 refine⟨?_,ent,hin,λk hk c hc=>?_⟩
 .by_cases h10:nd.kind=10
  .refine .inl ⟨h10,?_⟩;obtain⟨v,hv,env,kv⟩:=CX d hm h10 U.e0 U.e1;rw[hstp,By h10,env];exact ahG fw h0' kv
  .exact .inr ⟨h10,by rw[hstp,AT h10]⟩
 .rw[<-dst k hk c hc];unfold Hit;rw[hstp];by_cases h10:nd.kind=10
  .rw[By h10,By h10];obtain⟨c',hc',e0,e1⟩:=ent k hk;rw[hc] at hc';cases hc';obtain⟨v,hv,env,kv⟩:=CX d hm h10 e0 e1;obtain⟨w,hw,enw,kw⟩:=CX d hm h10 U.e0 U.e1;rw[env,enw];constructor
   .intro e;have:=ahF fw h0' hm hv hw e;have:=U.e0;omega
   .intro e;rw[e] at env;rw[<-env,enw]
  .rw[AT h10,AT h10]
theorem Way.ent {q:Nat}{l:η}(ok:HP N S)(hw:Way S q l):(∀j∈l,j<S.length)/\(l≠[]->∃p,S[q]?=some p/\p.alias=false):=by
 induction l generalizing q with
 |nil=>exact⟨by simp,λh=>absurd rfl h⟩
 |cons j l ih=>
  obtain⟨h0,⟨x,hx,hp⟩,hw⟩:=hw;refine⟨λk hk=>?_,λ_=>?_⟩
  .rcases List.mem_cons.1 hk with rfl|hk
   .exact (List.getElem?_eq_some_iff.1 hx).1
   .exact (ih hw).1 k hk
  .obtain⟨q',p,nd,U⟩:=ok.up h0 hx;have:q'=q:=by have:=U.par;omega
   subst this;exact⟨p,U.hp,U.al⟩
theorem ac6 (D:Ix h0 dh cz tsl N S T B)(ok:HP N S)(fw:mf N)(h0':gc N root=0){x0 m:Nat}(hM:MmO MM m (mh 0 S)){a3:Sl}{P:PT}{g:Nat}(hP:bA.sl a3 2 aA (CZ P) g∈MM)(hPB:P.length<=B) :
  ∀(l:η) (n q i:Nat) (h:ab),Rd+B+l.length+2<=n->Way S q l->i+l.length=P.length->P.drop i=l.map (Rf N root S)->Z h0 h (DB x0 d1 src dh root cz tsl::MM) ->
  Wp (mP n (ai x0) (some m) (q:Int) a3 (P.length:Int) (i:Int)) h λr h'=>r=.inl (((l.getLast?.getD q:Nat)):Int)/\Z h0 h' (DB x0 d1 src dh root cz tsl::MM):=by
 intro l
 induction l with
 |nil=>
  intro n q i h h1 hw hl hd z;obtain⟨n,rfl⟩:∃n',n=n'+1:=⟨n-1,by omega⟩;rw[vW];unfold rf;rw[AT (by simp at hl⊢;omega)];exact af.2 ⟨rfl,z⟩
 |cons j l ih=>
  intro n q i h h1 hw hl hd z;obtain⟨n,rfl⟩:∃n',n=n'+1:=⟨n-1,by omega⟩;have hB:=D.hB;have hB2:=D.hN.2.1;obtain⟨hj0,⟨x,hx,hp⟩,hw'⟩:=hw;obtain⟨q',p,nd,U⟩:=ok.up hj0 hx;obtain rfl:q'=q:=by have:=U.par;omega
  have d:=fw.vdg h0';obtain⟨hs,hc,hin,hj⟩:=ac5 fw h0' ok hx U;rw[aac] at hl h1;rw[vW];unfold rf;rw[By (by simp;omega)];have hPi:P[i]?=some (Rf N root S j):=by
   have:=ahv (λl=>l[0]?) hd;simpa[aeY] using this
  have o:wq h a3 2 aA (CZ P) g:=(z.own _ (IN _ hP)).1;have ol:a3.len=P.length:=by have:=o.1;rw[ru] at this;omega
  refine o.Fi.ixN (enc:=stV) F6 (by omega) (by omega) (by simpa using hPi) λa1 c1=>?_;refine c1.fG (ls:=[li,.str]) (x:=Rf N root S j) rfl ?_;refine z.new λx2 h2 z _=>z.st 0 (cs':=[vi (Rf N root S j).1,.string (Rf N root S j).2]) λh3 z=>?_;refine z.ld 1 (o:=4) (l:=.sl) (x:=cz) ?_;refine D.R.at z (V6 U.hp) λa2 c2=>c2.ld 7 (l:=.bool) (y:=p.alias) ?_;rw[AT (by rw[U.al];decide)];unfold nP;refine z.eU (n:=13) [11] (by decide) (by simp) λkb h4 z=>?_;refine z.ld 2 (o:=2) (l:=.sl) (x:=dh) ?_;refine z.ld 2 (o:=4) (l:=.sl) (x:=cz) ?_;refine D.R.at z (V6 U.hp) λa4 c4=>c4.ld 0 (l:=li) (y:=p.node) ?_;refine D.G.Yr z (ay U.hn).1 (ay U.hn).2 λax ks is nR=>?_;refine (nR.fr z.fr).fG ?_;refine z.newAt 0 λh5 z=>?_;refine z.st 0 (cs':=[vi nd.kind,.string nd.text,.bool nd.ord,aM ks,aM is]) λh6 z=>?_;have z:=Z.rU (pre:=[_,_,_]) z [1,0,2] (by simp only[aac,adf];decide);have z:Z h0 h6 (F3 x2 (kb+11) x0 (Rf N root S j) nd ks is d1 src dh root cz tsl++MM):=z;refine Z.Of (P':=F3 x2 (kb+11) x0 (Rf N root S j) nd ks is d1 src dh root cz tsl) z hM λbb sl hr=>?_;have hll:sl.len=(mh 0 S (q':Int)).length:=(hr z).len;have hcl:=yi (q':Int) S 0;rw[hll,ag];refine (ac4 D fw d (az U.hn) nR.keys hr (by omega) hc hs hj n 0 h6 (-1) (by omega) (by omega) (by simp) z).mono λr h7 hr'=>?_;obtain⟨rfl,z⟩:=hr';rw[By hin,AT (by simp),rR (B:=B) (by omega) (by omega)];have:=ih n j (i+1) h7 (by omega) hw' (by omega) (by
   have:=ahv (λl=>l.drop 1) hd;simpa[aha] using this) z.drop.drop
  rwa [List.getLast?_cons]
theorem ac7 (D:Ix h0 dh cz tsl N S T B)(ok:HP N S)(fw:mf N)(h0':gc N root=0){a3:Sl}{g i:Nat}(z:Z h0 h (.sl a3 2 aA (CZ (Fc N root S i)) g::L)){k n:Nat}(hn:k+4*B+65610<n)(hn2:Rd+2*B+2<=n)(hv:sV k d1 src N root S T=some 0)(hi:i<S.length) :
  Wp (xa n (d1,src,dh,root,cz,tsl) a3) h λy h'=>y=((i:Int),0)/\Z h0 h' (.sl a3 2 aA (CZ (Fc N root S i)) g::L):=by
 have hB:=D.hB;have hB2:=D.hN.2.1;unfold xa;refine z.new λx0 h1 z _=>?_;refine z.fG 0 (ls:=[li,.str,.sl,li,.sl,.sl]) (x:=(d1,src,dh,root,cz,tsl)) ?_;rw[ag];refine (D.check z hn hv).mono λy h2 hy=>?_;obtain⟨rfl,z⟩:=hy;rw[AT (by decide)];refine z.fG 0 (ls:=[li,.str,.sl,li,.sl,.sl]) (x:=(d1,src,dh,root,cz,tsl)) ?_;rw[ag];refine (vY z D.R hB hB2 (by omega)).mono λy h3 hy=>?_;obtain⟨m,MM,rfl,hM,z⟩:=hy;have z:=z.perm (L':=DB x0 d1 src dh root cz tsl::(MM++(.sl a3 2 aA (CZ (Fc N root S i)) g::L))) aip;have hM':MmO (MM++(.sl a3 2 aA (CZ (Fc N root S i)) g::L)) m (mh 0 S):=by
  obtain⟨f,c,h1,h2⟩:=hM;refine⟨f,c,adh _ h1,λp=>(h2 p).imp id λ⟨s,g,e,hm⟩=>⟨s,g,e,adh _ hm⟩⟩
 have o:wq h3 a3 2 aA (CZ (Fc N root S i)) g:=(z.own _ (IN _ (acQ _ IT))).1;have ol:a3.len=(Fc N root S i).length:=by have:=o.1;rw[ru] at this;omega
 have pl:(Fc N root S i).length=(lin S i).length:=by unfold Fc;rw[ae1]
 have ll:=Tj ok i hi;obtain⟨w1,w2⟩:=ac0 ok i hi;rw[ol,ag];refine (ac6 D ok fw h0' hM' (P:=Fc N root S i) (acQ _ IT) (by omega) (lin S i) n 0 0 h3 (by omega) w1 (by omega) (by rw[ahZ];rfl) z).mono λr h4 hr=>?_;obtain⟨rfl,z⟩:=hr;refine af.2 ⟨by rw[w2],(z.drop.sub (ag9 _ _))⟩
end
end Go.Sh
