
import Derived.Test.YtmfkngdglbcngaaGreatDoorAgoW
set_option linter.all false
namespace Go.Ago
open Go
variable {α β:Type}{h h' h0:af}{X:Nat->Prop}
def Cl (h:af)(a:Addr)(vs:δ)(g:Nat):Prop:=
 a.spot=none/\∃c base e,h.get a.block=some (.cells c g base e)/\a.off+vs.length<=c.length/\(c.drop a.off).take vs.length=vs
theorem Cl.fr {a:Addr}{vs:δ}{g:Nat}(c:Cl h a vs g)(f:Fr X h h')(hx:X g->g=0):Cl h' a vs g:=by
 obtain⟨h1,c,base,e,h2,h3,h4⟩:=c;exact⟨h1,c,base,e,f.cells _ _ _ _ _ h2 hx,h3,h4⟩
theorem Cl.get {a:Addr}{vs:δ}{g o:Nat}{v:ξ}(c:Cl h a vs g)(hv:vs[o]?=some v){l:eN}{x:l.den}(hx:Al l v=some x):h.ld l a.block (a.off+o)=some x:=by
 obtain⟨h1,c,base,e,h2,h3,h4⟩:=c;unfold af.ld
 grind
theorem Cl.ld {a:Addr}{vs:δ}{g:Nat}(c:Cl h a vs g){o:Nat}{v:ξ}(hv:vs[o]?=some v){l:eN}{x:l.den}(hx:Al l v=some x){f:l.den->M β}{Q:β->af->Prop}
  (q:Wp (f x) h Q):Wp (sh (ar l (a.plus o)) f) h Q:=by
 rw[ah,vD];exact⟨x,c.get hv hx,q⟩
theorem Cl.sy {a:Addr}{vs:δ}{g:Nat}(c:Cl h a vs g){v:ξ}(hv:vs[0]?=some v){l:eN}{x:l.den}(hx:Al l v=some x){f:l.den->M β}{Q:β->af->Prop}
  (q:Wp (f x) h Q):Wp (sh (ar l a) f) h Q:=by
 rw[ah,vD];exact⟨x,c.get hv hx,q⟩
theorem Cl.fC {a:Addr}{vs:δ}{g:Nat}(c:Cl h a vs g){ls:List eN}{x:bS ls}(hx:zG ls vs=some x){f:bS ls->M β}{Q:β->af->Prop}
  (q:Wp (f x) h Q) (hl:ls.length=vs.length:=by rfl):Wp (sh (aN ls a) f) h Q:=by
 rw[ah,Bs];refine⟨x,?_,q⟩;obtain⟨h1,c,base,e,h2,h3,h4⟩:=c;unfold af.fC;rw[h2];simp only;rw[hl,AT h3,h4];exact hx
def rk (h:af)(s:Sl)(sz:Nat)(cs:δ)(g:Nat):Prop:=
 cs.length=s.len*sz/\(s.len=0\/∃a,s.a=some a/\Cl h a cs g)
theorem rk.fr {s:Sl}{sz:Nat}{cs:δ}{g:Nat}(r:rk h s sz cs g)(f:Fr X h h')(hx:X g->g=0):rk h' s sz cs g:=by
 refine⟨r.1,?_⟩;rcases r.2 with h1|⟨a,h1,h2⟩
 .exact .inl h1
 .exact .inr ⟨a,h1,h2.fr f hx⟩
theorem rL.B5 {s:Sl}{sz:Nat}{e:κ}{cs:δ}{g:Nat}(o:rL h s sz e cs g):rk h s sz cs g:=by
 refine⟨o.1,?_⟩;rcases o.2 with⟨rfl,_⟩|⟨_,_,_,b,base,h1,h2,_⟩
 .exact .inl rfl
 .exact .inr ⟨_,h1,rfl,cs,base,e,h2,by simp,by simp⟩
theorem LB.B5 {b n cap sz:Nat}{cs:δ}{e:κ}(l:LB h b cs e)(hn:cs.length=n*sz):rk h ⟨some ⟨b,0,none⟩,n,cap⟩ sz cs (b+1):=
 ⟨hn,.inr ⟨_,rfl,rfl,cs,0,e,l.get,by simp,by simp⟩⟩
theorem rk.nil {s:Sl}{sz:Nat}(hs:s.len=0):rk h s sz [] 0:=⟨by simp[hs],.inl hs⟩
theorem rk.ix {s:Sl}{sz:Nat}{cs:δ}{g:Nat}(r:rk h s sz cs g){k:Int}(h1:0<=k)(h2:k<s.len){f:Addr->M β}{Q:β->af->Prop}
  (q:∀a,Cl h a ((cs.drop (k.toNat*sz)).take sz) g->Wp (f a) h Q):Wp (sh (aw s k sz) f) h Q:=by
 rcases r.2 with h3|⟨a,h3,h4,c,base,e,h5,h6,h7⟩
 .omega
 rw[ah,zm];refine⟨a,h3,h1,h2,q _ ⟨rfl,c,base,e,h5,?_,?_⟩⟩
 .show a.off+k.toNat*sz+_<=_;rw[aeO,aht];have hk:k.toNat+1<=s.len:=by omega
  have:=ad0 sz hk;rw[aen,ag1] at this;have:=r.1;omega
 .show (c.drop (a.off+k.toNat*sz)).take _=_;have hk:k.toNat+1<=s.len:=by omega
  have hm:=ad0 sz hk;rw[aen,ag1] at hm;have hl:=r.1;have hlen:((cs.drop (k.toNat*sz)).take sz).length=sz:=by rw[aeO,aht];omega
  grind [List.drop_drop,List.drop_take]
theorem afb {γ:Type}{enc:γ->ξ}{xs:List γ}{i:Nat}{v:γ}(hv:xs[i]?=some v):(((xs.map enc).drop (i*1)).take 1)=[enc v]:=by
 rw[ac0]
 grind [List.getElem?_eq_some_iff,List.drop_eq_getElem_cons]
theorem rk.UU {γ:Type}{enc:γ->ξ}{xs:List γ}{s:Sl}{g:Nat}(r:rk h s 1 (xs.map enc) g){k:Int}{v:γ}(h1:0<=k)(hv:xs[k.toNat]?=some v){f:Addr->M β}{Q:β->af->Prop}
  (q:∀a,Cl h a [enc v] g->Wp (f a) h Q):Wp (sh (aw s k 1) f) h Q:=by
 have hlt:=(List.getElem?_eq_some_iff.1 hv).1;have hl:=r.1;rw[ac3,ac0] at hl;refine r.ix h1 (by omega) λa c=>q a ?_;rw[afb hv] at c;exact c
theorem rk.ixN {γ:Type}{enc:γ->δ}{sz:Nat}(he:∀x,(enc x).length=sz){xs:List γ}{s:Sl}{g:Nat}(r:rk h s sz (xs.flatMap enc) g){k:Int}{v:γ}(h1:0<=k)(h2:k<s.len)(hv:xs[k.toNat]?=some v)
  {f:Addr->M β} {Q:β->af->Prop} (q:∀a,Cl h a (enc v) g->Wp (f a) h Q):Wp (sh (aw s k sz) f) h Q:=by
 refine r.ix h1 h2 λa c=>q a ?_;rw[HP he hv] at c;exact c
theorem rk.G0 {γ:Type}{enc:γ->ξ}{xs:List γ}{s:Sl}{g:Nat}(r:rk h s 1 (xs.map enc) g):s.len=xs.length:=by
 have hl:=r.1;rw[ac3,ac0] at hl;exact hl.symm
def xF (h:af)(s:Sl)(sz:Nat)(e:κ)(cs:δ)(g:Nat):Prop:=
 cs.length=s.len*sz/\((s=⟨none,0,0⟩/\g=0)\/(0<g/\g<=h.next/\s.cap=0/\∃b base c,s.a=some ⟨b,0,none⟩/\h.get b=some (.cells c g base e)/\c.take cs.length=cs))
theorem xF.nil {sz:Nat}{e:κ}:xF h ⟨none,0,0⟩ sz e [] 0:=⟨by simp,.inl ⟨rfl,rfl⟩⟩
theorem xF.fr {s:Sl}{sz:Nat}{e:κ}{cs:δ}{g:Nat}(o:xF h s sz e cs g)(f:Fr X h h')(hg:X g->g=0):xF h' s sz e cs g:=by
 obtain⟨h1,h2⟩:=o;refine⟨h1,?_⟩;rcases h2 with h2|⟨h2,h3,h4,b,base,c,h5,h6,h7⟩
 .exact .inl h2
 .exact .inr ⟨h2,abX h3 f.next,h4,b,base,c,h5,f.cells _ _ _ _ _ h6 hg,h7⟩
theorem xF.le {s:Sl}{sz:Nat}{e:κ}{cs:δ}{g:Nat}(o:xF h s sz e cs g):g<=h.next:=by
 obtain⟨_,h2⟩:=o;rcases h2 with⟨_,h2⟩|⟨h2,h3,_⟩<;>omega
theorem P6 {γ:Type}{c cs:List γ}(hc:c.take cs.length=cs):cs.length<=c.length:=by
 grind
theorem xF.B5 {s:Sl}{sz:Nat}{e:κ}{cs:δ}{g:Nat}(o:xF h s sz e cs g):rk h s sz cs g:=by
 refine⟨o.1,?_⟩;rcases o.2 with⟨rfl,_⟩|⟨_,_,_,b,base,c,h1,h2,h3⟩
 .exact .inl rfl
 .exact .inr ⟨_,h1,rfl,c,base,e,h2,by simpa using P6 h3,by simpa using h3⟩
theorem xF.app {s:Sl}{sz:Nat}{e:κ}{cs new:δ}{g n:Nat}{Q:Sl->af->Prop}(o:xF h s sz e cs g)(hw:WF h)(hn:n≠0)(hl:new.length=n*sz)(hb:s.len+n<=cF)
  (hq:∀s' h' g',s'.len=s.len+n->xF h' s' sz e (cs++new) g'->(g'=g/\g≠0\/g'=h.next+1)->Fr (·=g) h h'->Q s' h'):Wp (Ago.app false s sz e n new) h Q:=by
 obtain⟨h1,h2⟩:=o;have hnx:=hw.get h.next (aao _)
 have key:Ago.app false s sz e n new h=s9 false s sz e n new h:=by unfold Ago.app;simp
 suffices hh:∃s' h' ,s9 false s sz e n new h=some (s',h')/\Q s' h' by
  obtain⟨s',h',e1,e2⟩:=hh;exact⟨s',h',by rw[key];exact e1,e2⟩
 rcases h2 with⟨rfl,rfl⟩|⟨h2,h3,h4,b,base,c,h5,h6,h7⟩
 .have hc:cs=[]:=acb (by simpa using h1);subst hc;refine⟨_,_,?_,hq ⟨some ⟨h.next,0,none⟩,n,0⟩ (h.new e new) (h.next+1) (by simp) ⟨by simp[hl],.inr ⟨by omega,by simp[af.new,af.dA],rfl,h.next,0,new,rfl,kO,ahu⟩⟩ (.inr rfl) ((Fr.new hw).mono hw (λ_ hx _=>hx.elim))⟩
  unfold s9
  grind
 .have hle:=P6 h7;have hcells:aU h (some ⟨b,0,none⟩) (s.len*sz)=some cs:=by simp[aU,h6,<-h1,h7,hle]
  by_cases ht:h.oV g=base+0+s.len*sz
  .refine⟨⟨some ⟨h.next,0,none⟩,s.len+n,0⟩,{ h with get:=λj=>cond (Nat.beq j h.next) (some (.cells (cs++new) g (base+0) e)) (h.get j),next:=h.next+1,oV:=λg'=>cond (Nat.beq g' g) (base+0+s.len*sz+new.length) (h.oV g'),used:=λj=>cond (Nat.beq j h.next) true (h.used j) },?_,hq _ _ g rfl ?_ (.inl ⟨rfl,by omega⟩) ?_⟩
   .unfold s9
    grind
   .exact⟨by simp[h1,hl,aen],.inr ⟨h2,by simp;omega,rfl,h.next,base+0,cs++new,rfl,by simp[gY],ahu⟩⟩
   .refine⟨⟨λj hj=>?_,λj hj=>?_,λj c g' b' e' hj=>?_,λj hj=>hw.maps j (by simp at hj;omega)⟩,agC _,?_,?_,?_,?_,λ_ _ e _=>e⟩
    .simp at hj;simp[bD (show j≠h.next by omega)];exact hw.get j (by omega)
    .simp at hj;simp[bD (show j≠h.next by omega)];exact hw.used j (by omega)
    .simp only at hj;by_cases hjn:j=h.next
     .subst hjn;simp[gY] at hj;simp;omega
     .simp[bD hjn] at hj;have:=hw.dY _ _ _ _ _ hj;simp;omega
    .intro j c g' b' e' hj _;have:j≠h.next:=λhjn=>by subst hjn;rw[hnx] at hj;cases hj
     simp[bD this];exact hj
    .grind [bD]
    .intro j hj;simp[bD (show j≠h.next by omega)]
    .intro j hj hx;simp[bD (show j≠h.next by omega)];exact hx
  .refine⟨⟨some ⟨h.next,0,none⟩,s.len+n,0⟩,{ h with get:=λj=>cond (Nat.beq j h.next) (some (.cells (cs++new) g (base+0) e)) (match h.get j with|some (.cells c' g' base' elem')=>cond (Nat.beq g' g&&Nat.blt (base+0+s.len*sz) (base'+c'.length)) none (some (.cells c' g' base' elem'))|o=>o),next:=h.next+1,oV:=λg'=>cond (Nat.beq g' g) (base+0+s.len*sz+new.length) (h.oV g'),used:=λj=>cond (Nat.beq j h.next) true (h.used j) },?_,hq _ _ g rfl ?_ (.inl ⟨rfl,by omega⟩) ?_⟩
   .unfold s9
    grind
   .exact⟨by simp[h1,hl,aen],.inr ⟨h2,by simp;omega,rfl,h.next,base+0,cs++new,rfl,by simp[gY],ahu⟩⟩
   .refine⟨⟨λj hj=>?_,λj hj=>?_,λj c g' b' e' hj=>?_,λj hj=>hw.maps j (by simp at hj;omega)⟩,agC _,?_,?_,?_,?_,λ_ _ e _=>e⟩
    .simp at hj;simp[bD (show j≠h.next by omega),hw.get j (by omega)]
    .simp at hj;simp[bD (show j≠h.next by omega)];exact hw.used j (by omega)
    .simp only at hj;by_cases hjn:j=h.next
     .subst hjn;simp[gY] at hj;simp;omega
     .simp only[bD hjn,af5] at hj;cases hgj:h.get j with
      |none=>rw[hgj] at hj;cases hj
      |some o=>
       rw[hgj] at hj;cases o with
       |cells c2 g2 b2 e2=>
        simp only at hj;cases hq2:(Nat.beq g2 g&&Nat.blt (base+0+s.len*sz) (b2+c2.length)) with
        |true=>rw[hq2] at hj;cases hj
        |false=>
         rw[hq2] at hj;simp only[af5,abG] at hj;cases hj;have:=hw.dY _ _ _ _ _ hgj;simp;omega
       |_=>cases hj
    .intro j c g' b' e' hj hx;have hjn:j≠h.next:=λhjn=>by subst hjn;rw[hnx] at hj;cases hj
     have:Nat.beq g' g=false:=by
      refine bD λe=>?_;have:=hx e;omega
     simp only[bD hjn,af5,hj,this,ais]
    .grind [bD]
    .intro j hj;simp[bD (show j≠h.next by omega)]
    .intro j hj hx;simp[bD (show j≠h.next by omega),hx]
theorem xF.cut {e:κ}{s:Sl}{cs:δ}{v:ξ}{g:Nat}{β:Type}{f:Sl->M β}{Q:β->af->Prop}(o:xF h s 1 e (cs++[v]) g)(q:∀s',s'.len=cs.length->xF h s' 1 e cs g->Wp (f s') h Q) :
  Wp (sh (lu s 0 (((s.len:Nat):Int)-1) e 1) f) h Q:=by
 obtain⟨h1,h2⟩:=o;rw[abY,ac0] at h1;simp at h1;rcases h2 with⟨rfl,_⟩|⟨h2,h3,h4,b,base,c,h5,h6,h7⟩
 .simp at h1
 rw[ah];refine Co (by omega) (by omega) (by omega) (by simp[oU,h5,h6]) (q _ (by simp;omega) ⟨by simp;omega,.inr ⟨h2,h3,by simp[h4],b,base,c,by simp[h5,Addr.plus],h6,?_⟩⟩);have:=agw (List.take cs.length) h7
 grind
def NQ (h:af)(F:List (Sl×δ))(sz:Nat)(e:κ)(g:Nat):Prop:=
 0<g/\g<=h.next/\∃base,∀x∈F,x.2.length=x.1.len*sz/\x.1.cap=0/\∃b,x.1.a=some ⟨b,0,none⟩/\h.get b=some (.cells x.2 g base e)
theorem NQ.fr {F:List (Sl×δ)}{sz:Nat}{e:κ}{g:Nat}(o:NQ h F sz e g)(f:Fr X h h')(hg:X g->g=0):NQ h' F sz e g:=by
 obtain⟨h1,h2,base,h3⟩:=o;refine⟨h1,abX h2 f.next,base,λx hx=>?_⟩
 obtain⟨a,b,c,d,k⟩:=h3 x hx;exact⟨a,b,c,d,f.cells _ _ _ _ _ k hg⟩
theorem NQ.app {F:List (Sl×δ)}{sz:Nat}{e:κ}{g n:Nat}{s:Sl}{cs new:δ}{Q:Sl->af->Prop}(o:NQ h F sz e g)(hw:WF h)(hm:(s,cs)∈F)(hmax:∀x∈F,x.2.length<=cs.length)(hn:n≠0)(hl:new.length=n*sz)(hb:s.len+n<=cF)
  (hq:∀s' h',s'.len=s.len+n->NQ h' ((s',cs++new)::F) sz e g->Fr (·=g) h h'->Q s' h'):Wp (Ago.app false s sz e n new) h Q:=by
 obtain⟨h2,h3,base,hF⟩:=o;obtain⟨h1,h4,b,h5,h6⟩:=hF _ hm;simp only at h1 h4 h5 h6;have hnx:=hw.get h.next (aao _)
 have key:Ago.app false s sz e n new h=s9 false s sz e n new h:=by unfold Ago.app;simp
 suffices hh:∃s' h' ,s9 false s sz e n new h=some (s',h')/\Q s' h' by
  obtain⟨s',h',e1,e2⟩:=hh;exact⟨s',h',by rw[key];exact e1,e2⟩
 have hcells:aU h (some ⟨b,0,none⟩) (s.len*sz)=some cs:=by simp[aU,h6,<-h1]
 have fin:∀h':af,h'.next=h.next+1->(∀j,h'.get j=cond (Nat.beq j h.next) (some (.cells (cs++new) g (base+0) e)) (match h.get j with
    |some (.cells c' g' base' elem')=>cond (Nat.beq g' g&&Nat.blt (base+0+s.len*sz) (base'+c'.length)) none (some (.cells c' g' base' elem'))
    |o=>o)\/(h'.get j=cond (Nat.beq j h.next) (some (.cells (cs++new) g (base+0) e)) (h.get j))) ->
   (∀g',g'≠g->h'.oV g'=h.oV g')->(∀j,j≠h.next->h'.used j=h.used j)->(∀j,h'.jy j=h.jy j)->Q ⟨some ⟨h.next,0,none⟩,s.len+n,0⟩ h':=by
  intro h' e1 hget e3 e4 e5;have nY:∀j k,j≠h.next->h'.get j=some k->h.get j=some k:=λj k hj hk=>by
   rcases hget j with q|q
   .rw[q,bD hj,af5] at hk
    grind
   .rw[q,bD hj,af5] at hk;exact hk
  have stay:∀j c g' b' e',h.get j=some (.cells c g' b' e')->(g'=g->b'+c.length<=base+s.len*sz)->h'.get j=some (.cells c g' b' e'):=λj c g' b' e' hj hc=>by
   have hjn:j≠h.next:=λq=>by subst q;rw[hnx] at hj;cases hj
   rcases hget j with q|q
   .rw[q,bD hjn,af5,hj];simp only;by_cases hg:g'=g
    .have:Nat.blt (base+0+s.len*sz) (b'+c.length)=false:=by
      have:=hc hg;cases hq:Nat.blt (base+0+s.len*sz) (b'+c.length) with
      |false=>rfl
      |true=>
       have:=aeC hq;omega
     rw[this,air];rfl
    .rw[bD hg];rfl
   .rw[q,bD hjn,af5];exact hj
  have self:h'.get h.next=some (.cells (cs++new) g (base+0) e):=by
   rcases hget h.next with q|q<;>rw[q,gY]<;>rfl
  refine hq _ _ rfl ⟨h2,by omega,base,λx hx=>?_⟩ ⟨⟨λj hj=>?_,λj hj=>?_,λj c g' b' e' hj=>?_,λj hj=>?_⟩,by omega,λj c g' b' e' hj hx=>?_,λg' _ hx=>?_,λj hj=>?_,λj hj hx=>?_,λj x hj _=>by rw[e5];exact hj⟩
  .rcases List.mem_cons.1 hx with rfl|hx
   .grind
   grind
  .cases hk:h'.get j with
   |none=>rfl
   |some k=>have:=nY j k (by omega) hk;rw[hw.get j (by omega)] at this;cases this
  .rw[e4 j (by omega)];exact hw.used j (by omega)
  .by_cases hjn:j=h.next
   .subst hjn;rw[self] at hj;cases hj;omega
   .have:=hw.dY _ _ _ _ _ (nY j _ hjn hj);omega
  .rw[e5];exact hw.maps j (by omega)
  .exact stay _ _ _ _ _ hj λe=>by have:=hx e;omega
  .exact e3 g' λe=>by have:=hx e;omega
  .exact e4 j (by omega)
  .cases hk:h'.get j with
   |none=>rfl
   |some k=>have:=nY j k (by omega) hk;rw[hx] at this;cases this
 by_cases ht:h.oV g=base+0+s.len*sz
 .refine⟨⟨some ⟨h.next,0,none⟩,s.len+n,0⟩,{ h with get:=λj=>cond (Nat.beq j h.next) (some (.cells (cs++new) g (base+0) e)) (h.get j),next:=h.next+1,oV:=λg'=>cond (Nat.beq g' g) (base+0+s.len*sz+new.length) (h.oV g'),used:=λj=>cond (Nat.beq j h.next) true (h.used j) },?_,fin _ rfl (λj=>.inr rfl) (λg' hg=>by simp[bD hg]) (λj hj=>by simp[bD hj]) λ_=>rfl⟩
  unfold s9;rw[By hn,By (by simp[hb,hl]),h5]
  grind
 .refine⟨⟨some ⟨h.next,0,none⟩,s.len+n,0⟩,{ h with get:=λj=>cond (Nat.beq j h.next) (some (.cells (cs++new) g (base+0) e)) (match h.get j with|some (.cells c' g' base' elem')=>cond (Nat.beq g' g&&Nat.blt (base+0+s.len*sz) (base'+c'.length)) none (some (.cells c' g' base' elem'))|o=>o),next:=h.next+1,oV:=λg'=>cond (Nat.beq g' g) (base+0+s.len*sz+new.length) (h.oV g'),used:=λj=>cond (Nat.beq j h.next) true (h.used j) },?_,fin _ rfl (λj=>.inl rfl) (λg' hg=>by simp[bD hg]) (λj hj=>by simp[bD hj]) λ_=>rfl⟩
  unfold s9;rw[By hn,By (by simp[hb,hl]),h5]
  grind
inductive bu where
 |au (b:Nat) (cs:δ) (e:κ)
 |sl (s:Sl) (sz:Nat) (e:κ) (cs:δ) (g:Nat)
 |map (m:Nat) (kt:κ) (f:ξ->Option ξ) (n:Nat)
 |ps (s:Sl) (sz:Nat) (e:κ) (cs:δ) (g:Nat)
 |free (k:Nat)
 |UY (F:List (Sl×δ)) (sz:Nat) (e:κ) (g:Nat)
def G3 (h:af)(k:Nat):Prop:=h.used k=false/\k<h.next/\h.get k=none
theorem G3.fr {k:Nat}(f:G3 h k)(r:Fr X h h'):G3 h' k:=⟨by rw[r.used k f.2.1];exact f.1,afW f.2.1 r.next,r.none k f.2.1 f.2.2⟩
def bu.ok (h:af):bu->Prop
 |.au b cs e=>LB h b cs e
 |.sl s sz e cs g=>rL h s sz e cs g
 |.map m kt f n=>MB h m kt f n
 |.ps s sz e cs g=>xF h s sz e cs g
 |.free k=>G3 h k
 |.UY F sz e g=>NQ h F sz e g
def bu.dY:bu->Nat
 |.au b _ _=>b+1
 |.sl _ _ _ _ g=>g
 |.map m _ _ _=>m+1
 |.ps _ _ _ _ g=>g
 |.free k=>k+1
 |.UY _ _ _ g=>g
theorem bu.aaA {o:bu}(hk:o.ok h)(f:Fr X h h')(hx:X o.dY->o.dY=0):o.ok h':=by
 cases o with
 |au b cs e=>exact LB.fr hk f (λhx2=>by have:=hx hx2;simp[bu.dY] at this)
 |sl s sz e cs g=>exact rL.fr hk f hx
 |map m kt fn n=>exact MB.fr hk f (λhx2=>by have:=hx hx2;simp[bu.dY] at this)
 |ps s sz e cs g=>exact xF.fr hk f hx
 |free k=>exact G3.fr hk f
 |UY F sz e g=>exact NQ.fr hk f hx
theorem bu.le {o:bu}(hk:o.ok h)(hw:WF h):o.dY<=h.next:=by
 cases o with
 |au b cs e=>exact LB.lt hk hw
 |sl s sz e cs g=>exact rL.le hk
 |map m kt fn n=>exact MB.lt hk hw
 |ps s sz e cs g=>exact xF.le hk
 |free k=>exact hk.2.1
 |UY F sz e g=>exact hk.2.1
structure Z (h0 h:af) (L:List bu):Prop where
 IV:WF h0
 fr:Fr (λ_=>False) h0 h
 own:∀o∈L,o.ok h/\(o.dY=0\/h0.next<o.dY)
 sP:L.Pairwise λa b=>a.dY=b.dY->a.dY=0
variable {L:List bu}
theorem Z.start (hw:WF h):Z h h []:=⟨hw,Fr.refl hw,by simp,.nil⟩
theorem Z.wf (z:Z h0 h L):WF h:=z.fr.wf
theorem Z.step (z:Z h0 h L)(f:Fr X h h')(hx:∀g,X g->g≠0->h0.next<g)(ho:∀o∈L,X o.dY->o.dY=0):Z h0 h' L:=
 ⟨z.IV,z.fr.trans z.IV f λg hg h0=>.inr (hx g hg h0),λo hm=>⟨bu.aaA (z.own o hm).1 f (ho o hm),(z.own o hm).2⟩,z.sP⟩
theorem Z.pure (z:Z h0 h L)(f:Fr (λ_=>False) h h'):Z h0 h' L:=z.step f (λ_ hx=>hx.elim) λ_ _ hx=>hx.elim
theorem Z.add (z:Z h0 h L)(f:Fr (λ_=>False) h h'){o:bu}(hk:o.ok h')(hg:o.dY=0\/h.next<o.dY):Z h0 h' (o::L):=by
 have z1:=z.pure f;have hle:=z.fr.next
 refine⟨z.IV,z1.fr,λx hx=>?_,.cons (λx hx he=>?_) z1.sP⟩
 .rcases List.mem_cons.1 hx with rfl|hx
  .exact⟨hk,hg.imp id λh1=>by omega⟩
  .exact z1.own x hx
 .rcases hg with hg|hg
  .exact hg
  .have:=bu.le (z.own x hx).1 z.wf;omega
theorem Z.drop {o:bu}(z:Z h0 h (o::L)):Z h0 h L:=⟨z.IV,z.fr,λx hx=>z.own x (BY _ hx),(List.pairwise_cons.1 z.sP).2⟩
theorem Z.sub {L':List bu}(z:Z h0 h L)(hs:L'.Sublist L):Z h0 h L':=⟨z.IV,z.fr,λx hx=>z.own x (hs.subset hx),z.sP.sublist hs⟩
theorem Z.get (z:Z h0 h L)(i:Nat){o:bu}(hi:L[i]?=some o):o.ok h:=(z.own o (IN hi)).1
theorem Cr {γ:Type}{R:γ->γ->Prop}(hsym:∀a b,R a b->R b a):∀{l:List γ} {i:Nat} {x:γ},l.Pairwise R->(∀j y,l[j]?=some y->j≠i->R x y)->(l.set i x).Pairwise R
 |[],i,x,_,_=>by simp
 |a::l,0,x,hp,hx=>by
  grind [List.pairwise_cons,List.mem_iff_getElem?]
 |a::l,i+1,x,hp,hx=>by
  rw[agU];obtain⟨h1,h2⟩:=List.pairwise_cons.1 hp;refine .cons (λy hy=>?_) (Cr hsym h2 λj y hj hne=>hx (j+1) y (by simpa using hj) (by omega));rcases ag0 hy with hy|hy
  .exact h1 y hy
  .subst hy;exact hsym _ _ (hx 0 a rfl (by omega))
theorem Cs {γ:Type}{R:γ->γ->Prop}(hsym:∀a b,R a b->R b a):∀{l:List γ} {i j:Nat} {x y:γ},l.Pairwise R->l[i]?=some x->l[j]?=some y->i≠j->R x y
 |[],i,j,x,y,_,hi,_,_=>by simp at hi
 |a::l,0,0,x,y,_,_,_,hn=>absurd rfl hn
 |a::l,0,j+1,x,y,hp,hi,hj,_=>by
  grind [List.pairwise_cons,List.mem_of_getElem?]
 |a::l,i+1,0,x,y,hp,hi,hj,_=>by
  grind [List.pairwise_cons,List.mem_of_getElem?]
 |a::l,i+1,j+1,x,y,hp,hi,hj,hn=>Cs hsym (List.pairwise_cons.1 hp).2 (by simpa using hi) (by simpa using hj) (by omega)
theorem ql (a b:bu)(hr:a.dY=b.dY->a.dY=0):b.dY=a.dY->b.dY=0:=λe=>by rw[e];exact hr e.symm
theorem Z.sr (z:Z h0 h L){i:Nat}{o o':bu}(hi:L[i]?=some o)(ho:o.dY≠0)(f:Fr (·=o.dY) h h')(hk:o'.ok h')(hg:o'.dY=o.dY\/o'.dY=0\/h.next<o'.dY):Z h0 h' (L.set i o'):=by
 have hmem:=IN hi;have hfresh:h0.next<o.dY:=(z.own o hmem).2.resolve_left ho
 have hothers:∀j y,L[j]?=some y->j≠i->y.dY≠o.dY:=λj y hj hne e=>ho (by rw[<-e];exact Cs ql z.sP hj hi hne e);refine⟨z.IV,z.fr.trans z.IV f λg hg h0=>.inr (by rw[hg];exact hfresh),λx hx=>?_,Cr ql z.sP λj y hj hne e=>?_⟩
 .obtain⟨j,hj⟩:=List.mem_iff_getElem?.1 hx;rw[List.getElem?_set] at hj;split at hj
  .grind [Nat.lt_of_le_of_lt,z.fr.next]
  .rename_i hne;have hmy:=IN hj;exact⟨bu.aaA (z.own x hmy).1 f λe=>absurd e (hothers j x hj λe2=>hne e2.symm),(z.own x hmy).2⟩
 .rcases hg with hg|hg|hg
  .exact absurd (e.symm.trans hg) (hothers j y hj hne)
  .exact hg
  .have:=bu.le (z.own y (IN hj)).1 z.wf;omega
theorem Z.perm {L':List bu}(z:Z h0 h L)(hp:L.Perm L'):Z h0 h L':=⟨z.IV,z.fr,λx hx=>z.own x (hp.mem_iff.2 hx),(hp.pairwise_iff λ{a b}=>ql a b).1 z.sP⟩
theorem Z.new (z:Z h0 h L){e:κ}{cs:δ}{f:Nat->M β}{Q:β->af->Prop}
  (q:∀b h',Z h0 h' (.au b cs e::L)->Fr (λ_=>False) h h'->Wp (f b) h' Q) (hs:cs.all eZ=true:=by rfl):Wp (sh (aM none e cs) f) h Q:=by
 rw[ah,Av];have hf:=Fr.new (e:=e) (cs:=cs) z.wf;exact⟨hs,q _ _ (z.add hf (o:=.au h.next cs e) LB.new (.inr (aam _))) hf⟩
theorem Z.Mc (z:Z h0 h L){e:κ}{c:δ}{n:Int}{f:Sl->M β}{Q:β->af->Prop}(h1:0<=n)(h2:n<=cF)
  (q:∀b h',Z h0 h' (.au b (List.replicate n.toNat c).flatten e::L)->Fr (λ_=>False) h h'->Wp (f ⟨some ⟨b,0,none⟩,n.toNat,n.toNat+1⟩) h' Q) (hs:c.all eZ=true:=by rfl):Wp (sh (vS none e c n n) f) h Q:=by
 rw[ah];refine IH h1 (agD _) h2 ?_ hs;have hf:=Fr.new (e:=e) (cs:=(List.replicate n.toNat c).flatten) z.wf;exact q _ _ (z.add hf (o:=.au h.next _ e) LB.new (.inr (aam _))) hf
theorem LB.cl {b:Nat}{cs:δ}{e:κ}(l:LB h b cs e):Cl h ⟨b,0,none⟩ cs (b+1):=⟨rfl,cs,0,e,l.get,by simp,by simp⟩
theorem Z.cl (z:Z h0 h L)(i:Nat){b:Nat}{cs:δ}{e:κ}(hi:L[i]?=some (.au b cs e)):Cl h ⟨b,0,none⟩ cs (b+1):=LB.cl (z.get i hi)
theorem Z.ld (z:Z h0 h L)(i:Nat){b o:Nat}{cs:δ}{e:κ}{l:eN}{v:ξ}{x:l.den}{f:l.den->M β}{Q:β->af->Prop}
  (q:Wp (f x) h Q) (hi:L[i]?=some (.au b cs e):=by rfl) (hv:cs[o]?=some v:=by rfl) (hx:Al l v=some x:=by rfl):Wp (sh (ar l ⟨b,o,none⟩) f) h Q:=by
 rw[ah,vD];exact⟨x,LB.ld (z.get i hi) hv hx,q⟩
theorem Z.fC (z:Z h0 h L)(i:Nat){b:Nat}{cs:δ}{e:κ}{ls:List eN}{x:bS ls}{f:bS ls->M β}{Q:β->af->Prop}
  (q:Wp (f x) h Q) (hi:L[i]?=some (.au b cs e):=by rfl) (hx:zG ls cs=some x:=by rfl) (hl:ls.length=cs.length:=by rfl):Wp (sh (aN ls ⟨b,0,none⟩) f) h Q:=
 (z.cl i hi).fC hx q hl
theorem Z.st (z:Z h0 h L)(i:Nat){b o:Nat}{cs vs cs':δ}{e:κ}{f:Unit->M β}{Q:β->af->Prop}
  (q:∀h',Z h0 h' (L.set i (.au b cs' e))->Wp (f ()) h' Q) (hi:L[i]?=some (.au b cs e):=by rfl) (hc:bf cs o vs=cs':=by rfl) (ho:o+vs.length<=cs.length:=by first|decide|simp) (hs:vs.all eZ=true:=by rfl) :
  Wp (sh (bF ⟨b,o,none⟩ vs) f) h Q:=by
 rw[ah];have l:LB h b cs e:=z.get i hi;refine l.st z.wf ho hs λh' l' fr=>q h' (z.sr (o:=.au b cs e) hi (by simp[bu.dY]) fr ?_ (.inl rfl));rw[<-hc];exact l'
theorem Z.call (z:Z h0 h L){m:M α}{P:α->af->Prop}{f:α->M β}{Q:β->af->Prop}(hm:Wp m h λr h'=>P r h'/\Fr (λ_=>False) h h')
  (q:∀r h',P r h'->Fr (λ_=>False) h h'->Z h0 h' L->Wp (f r) h' Q):Wp (sh m f) h Q:=by
 rw[ah];exact hm.mono λr h' ⟨hp,hf⟩=>q r h' hp hf (z.pure hf)
theorem Aw {γ:Type}{enc:γ->ξ}{xs:List γ}{k:Nat}{v:γ}(hk:k<xs.length):bf (xs.map enc) k [enc v]=(xs.set k v).map enc:=by
 unfold bf;rw[aho,ag2,AT (by simpa using hk)];simp
theorem Z.As (z:Z h0 h L)(i:Nat){γ:Type}{enc:γ->ξ}{xs:List γ}{b k:Nat}{e:κ}{v:γ}{f:Unit->M β}{Q:β->af->Prop}(hk:k<xs.length)
  (q:∀h',Z h0 h' (L.set i (.au b ((xs.set k v).map enc) e))->Wp (f ()) h' Q) (hi:L[i]?=some (.au b (xs.map enc) e):=by rfl) (hs:eZ (enc v)=true:=by rfl):Wp (sh (bF ⟨b,k,none⟩ [enc v]) f) h Q:=
 z.st i (λh' z'=>q h' z') hi (Aw hk) (by simp;omega) (by simp[hs])
theorem G4 {b n cap:Nat}{k:Int}{sz:Nat}(h1:0<=k)(h2:k<(n:Int)){f:Addr->M β}{Q:β->af->Prop}(q:Wp (f ⟨b,k.toNat*sz,none⟩) h Q):Wp (sh (aw ⟨some ⟨b,0,none⟩,n,cap⟩ k sz) f) h Q:=by
 rw[ah,zm];refine⟨_,rfl,h1,h2,?_⟩;unfold Addr.plus;simp only[adQ];exact q
theorem Z.RT (z:Z h0 h L)(i:Nat){s:Sl}{sz n:Nat}{e:κ}{cs new:δ}{g:Nat}{f:Sl->M β}{Q:β->af->Prop}(hi:L[i]?=some (.ps s sz e cs g))(hn:n≠0)(hl:new.length=n*sz)(hb:s.len+n<=cF)
  (q:∀s' h' g',s'.len=s.len+n->Z h0 h' (L.set i (.ps s' sz e (cs++new) g'))->Fr (·=g) h h'->Wp (f s') h' Q):Wp (sh (Ago.app false s sz e n new) f) h Q:=by
 rw[ah];have o:xF h s sz e cs g:=z.get i hi;refine o.app z.wf hn hl hb λs' h' g' h1 h2 h3 h4=>q s' h' g' h1 ?_ h4;by_cases hg:g=0
 .have h3:=h3.resolve_left (λx=>x.2 hg);have f0:Fr (λ_=>False) h h':=⟨h4.wf,h4.next,λj c g2 b e2 hj _=>h4.cells j c g2 b e2 hj λe3=>by rw[e3,hg],λg2 h5 _=>h4.oV g2 h5 λe3=>by rw[e3,hg],h4.used,h4.none,λj x hj _=>h4.maps j x hj (by omega)⟩
  have z1:=z.add f0 (o:=.ps s' sz e (cs++new) g') h2 (.inr (by simp only[bu.dY];omega));refine⟨z1.IV,z1.fr,λx hx=>z1.own x ?_,Cr ql (List.pairwise_cons.1 z1.sP).2 λj y hj hne e2=>(List.pairwise_cons.1 z1.sP).1 y (IN hj) e2⟩
  grind
 .refine z.sr (o:=.ps s sz e cs g) hi hg h4 h2 ?_
  grind [bu.dY]
theorem Z.ahj (z:Z h0 h L)(i:Nat){s:Sl}{e:κ}{cs:δ}{v:ξ}{g:Nat}{f:Sl->M β}{Q:β->af->Prop}(hi:L[i]?=some (.ps s 1 e (cs++[v]) g))
  (q:∀s',s'.len=cs.length->Z h0 h (L.set i (.ps s' 1 e cs g))->Wp (f s') h Q):Wp (sh (lu s 0 (((s.len:Nat):Int)-1) e 1) f) h Q:=by
 have o:xF h s 1 e (cs++[v]) g:=z.get i hi;refine o.cut λs' h1 h2=>q s' h1 ⟨z.IV,z.fr,λx hx=>?_,Cr ql z.sP λj y hj hne e2=>Cs (R:=λa b:bu=>a.dY=b.dY->a.dY=0) ql z.sP (x:=.ps s 1 e (cs++[v]) g) hi hj (λe3=>hne e3.symm) e2⟩;rcases ag0 hx with hx|rfl
 .exact z.own x hx
 .exact⟨h2,(z.own _ (IN hi)).2⟩
theorem Z.eC (z:Z h0 h L){n:Nat}(ks:η){f:Nat->M β}{Q:β->af->Prop}(hk:ks.all (·<n)=true)(hd:ks.Nodup)
  (q:∀b h',Z h0 h' (ks.map (λk=>.free (b+k))++L)->Wp (f b) h' Q):Wp (sh (Ago.eC n) f) h Q:=by
 rw[ah,NO];have hf:=Fr.eC (n:=n) z.wf;have z1:=z.pure hf;have hkn:∀k∈ks,k<n:=λk hm=>by simpa using List.all_eq_true.1 hk k hm
 have hle:=z.fr.next
 refine q _ _ ⟨z.IV,z1.fr,λo ho=>?_,List.pairwise_append.2 ⟨?_,z1.sP,λa ha b hb he=>?_⟩⟩
 .rcases List.mem_append.1 ho with ho|ho
  .obtain⟨k,hm,rfl⟩:=List.mem_map.1 ho;have:=hkn k hm;exact⟨⟨z.wf.used _ (by omega),by simp;omega,z.wf.get _ (by omega)⟩,.inr (by simp only[bu.dY];omega)⟩
  .exact z1.own o ho
 .grind [bu.dY]
 .obtain⟨k,hm,rfl⟩:=List.mem_map.1 ha;have:=bu.le (z.own b hb).1 z.wf;have he:h.next+k+1=b.dY:=he
  omega
theorem bu.acq {o:bu}{k:Nat}{e:κ}{cs:δ}(hk:o.ok h)(hf:G3 h k)(hne:o.dY≠k+1):o.ok (h.dA k h.next e cs):=by
 have hb:∀j c g b e,h.get j=some (.cells c g b e)->j≠k:=λj c g b e hj hjk=>by subst hjk;rw[hf.2.2] at hj;cases hj
 cases o with
 |au b cs e=>exact⟨by rw[gh (hb _ _ _ _ _ hk.get)];exact hk.get⟩
 |sl s sz e cs g=>
  obtain⟨h1,h2⟩:=hk;refine⟨h1,?_⟩;rcases h2 with h2|⟨h2,h3,h4,b,base,h5,h6,h7⟩
  .exact .inl h2
  .exact .inr ⟨h2,h3,h4,b,base,h5,by rw[gh (hb _ _ _ _ _ h6)];exact h6,by rw[yp (show g≠k+1 from hne)];exact h7⟩
 |ps s sz e cs g=>
  obtain⟨h1,h2⟩:=hk;refine⟨h1,?_⟩;rcases h2 with h2|⟨h2,h3,h4,b,base,c,h5,h6,h7⟩
  .exact .inl h2
  .exact .inr ⟨h2,h3,h4,b,base,c,h5,by rw[gh (hb _ _ _ _ _ h6)];exact h6,h7⟩
 |map m kt fn n=>exact⟨hk.ex⟩
 |free k2=>
  have hn:k2≠k:=λe=>hne (by rw[e];rfl);exact⟨by simp[af.dA,bD hn];exact hk.1,hk.2.1,by rw[gh hn];exact hk.2.2⟩
 |UY F sz e g=>
  obtain⟨h1,h2,base,h3⟩:=hk;refine⟨h1,h2,base,λx hx=>?_⟩
  grind [gh]
theorem Z.put (z:Z h0 h L){i k:Nat}(hi:L[i]?=some (.free k)){e:κ}{cs:δ}:Z h0 (h.dA k h.next e cs) (L.set i (.au k cs e)):=by
 have hmem:=IN hi;have hf:G3 h k:=(z.own _ hmem).1;have hg:h0.next<k+1:=(z.own _ hmem).2.resolve_left (by simp[bu.dY])
 have ho:∀j y,L[j]?=some y->j≠i->y.dY≠k+1:=λj y hj hne e=>by
  have:=Cs ql z.sP hj hi hne e;rw[e] at this;omega
 refine⟨z.IV,z.fr.dA z.IV (by omega) hf.2.1,λx hx=>?_,Cr ql z.sP λj y hj hne e2=>absurd e2.symm (ho j y hj hne)⟩;obtain⟨j,hj⟩:=List.mem_iff_getElem?.1 hx;rw[List.getElem?_set] at hj;split at hj
 .split at hj
  .cases hj;exact⟨⟨kO⟩,.inr hg⟩
  .cases hj
 .rename_i hne;have hmy:=IN hj;exact⟨bu.acq (z.own x hmy).1 hf (ho j x hj λe2=>hne e2.symm),(z.own x hmy).2⟩
theorem Z.newAt (z:Z h0 h L)(i:Nat){k:Nat}{e:κ}{cs:δ}{f:Nat->M β}{Q:β->af->Prop}
  (q:∀h',Z h0 h' (L.set i (.au k cs e))->Wp (f k) h' Q) (hi:L[i]?=some (.free k):=by rfl) (hs:cs.all eZ=true:=by rfl):Wp (sh (aM (some k) e cs) f) h Q:=by
 rw[ah,UL];have hf:G3 h k:=(z.own _ (IN hi)).1;exact⟨hs,hf.1,hf.2.1,hf.2.2,q _ (z.put hi)⟩
theorem Z.YP (z:Z h0 h L)(i:Nat){k:Nat}{e:κ}{c:δ}{n:Int}{f:Sl->M β}{Q:β->af->Prop}(h1:0<=n)(h2:n<=cF)
  (q:∀h',Z h0 h' (L.set i (.au k (List.replicate n.toNat c).flatten e))->Wp (f ⟨some ⟨k,0,none⟩,n.toNat,n.toNat+1⟩) h' Q) (hi:L[i]?=some (.free k):=by rfl) (hs:c.all eZ=true:=by rfl):Wp (sh (vS (some k) e c n n) f) h Q:=by
 rw[ah];have hf:G3 h k:=(z.own _ (IN hi)).1;refine UN h1 (agD _) h2 hf.1 hf.2.1 hf.2.2 ?_ hs;exact q _ (z.put hi)
def Nb (h:af)(j b:Nat):Prop:=∃c g ba e,h.get j=some (.cells c g ba e)/\g≠b+1
theorem Cl.nb {a:Addr}{vs:δ}{g b:Nat}(c:Cl h a vs g)(hg:g≠b+1):Nb h a.block b:=by
 obtain⟨_,c,base,e,h2,_⟩:=c;exact⟨_,_,_,_,h2,hg⟩
theorem Z.nb0 (z:Z h0 h L)(i:Nat){a:Addr}{vs cs:δ}{g b:Nat}{e:κ}(c:Cl h0 a vs g)(hi:L[i]?=some (.au b cs e)):Nb h a.block b:=by
 have hg:g<=h0.next:=by
  obtain⟨_,c,base,e,h2,_⟩:=c;exact z.IV.dY _ _ _ _ _ h2
 have:=(z.own _ (IN hi)).2.resolve_left (by simp[bu.dY]);simp only[bu.dY] at this;exact (c.fr z.fr λhx=>hx.elim).nb (by omega)
theorem Z.nbO (z:Z h0 h L)(i j:Nat){b b2:Nat}{cs cs2:δ}{e e2:κ}(hi:L[i]?=some (.au b cs e))(hj:L[j]?=some (.au b2 cs2 e2))(hne:j≠i):Nb h b2 b:=by
 have l:LB h b2 cs2 e2:=z.get j hj;refine⟨_,_,_,_,l.get,λe=>?_⟩
 grind [Cs,ql,z.sP,bu.dY]
theorem Z.stC (z:Z h0 h L)(i:Nat){as:List θ}{b o:Nat}{cs vs cs':δ}{e:κ}{f:Unit->M β}{Q:β->af->Prop}
  (ha:∀a,some a∈as->Nb h a.block b)
  (q:∀h',Z h0 h' (L.set i (.au b cs' e))->Wp (f ()) h' Q) (hi:L[i]?=some (.au b cs e):=by rfl) (hc:bf cs o vs=cs':=by rfl) (ho:o+vs.length<=cs.length:=by first|decide|simp) (hs:vs.all eZ=true:=by rfl) :
  Wp (sh (mY as (bF ⟨b,o,none⟩ vs)) f) h Q:=by
 rw[ah];have l:LB h b cs e:=z.get i hi;refine yq (l.st z.wf ho hs λh' l' fr=>⟨λa hm=>?_,q h' (z.sr (o:=.au b cs e) hi (by simp[bu.dY]) fr ?_ (.inl rfl))⟩)
 .obtain⟨c,g,ba,e3,h1,h2⟩:=ha a hm;rw[h1];exact fr.cells _ _ _ _ _ h1 λe=>absurd e h2
 .rw[<-hc];exact l'
theorem Z.ahk (z:Z h0 h L)(i:Nat){as:List θ}{γ:Type}{enc:γ->ξ}{xs:List γ}{b k:Nat}{e:κ}{v:γ}{f:Unit->M β}{Q:β->af->Prop}(hk:k<xs.length)
  (ha:∀a,some a∈as->Nb h a.block b)
  (q:∀h',Z h0 h' (L.set i (.au b ((xs.set k v).map enc) e))->Wp (f ()) h' Q) (hi:L[i]?=some (.au b (xs.map enc) e):=by rfl) (hs:eZ (enc v)=true:=by rfl):Wp (sh (mY as (bF ⟨b,k,none⟩ [enc v])) f) h Q:=
 z.stC i ha (λh' z'=>q h' z') hi (Aw hk) (by simp;omega) (by simp[hs])
theorem YQ {ks:η}{a:Addr}{m:M α}{Q:α->af->Prop}{g:Nat}{c:δ}{ba:Nat}{e:κ}(hg:h.get a.block=some (.cells c g ba e))(hk:∀k∈ks,a.block≠k/\g≠k+1)(q:Wp m h Q):Wp (E7 ks a m) h Q:=by
 obtain⟨x,h',e1,q⟩:=q;refine⟨x,h',?_,q⟩
 grind [okK,List.all_eq_true,bD,E7]
theorem Z.E7 (z:Z h0 h L)(i:Nat){ks:η}{b o:Nat}{cs:δ}{e:κ}{m:M α}{f:α->M β}{Q:β->af->Prop}(hk:∀k∈ks,b≠k)(q:Wp (sh m f) h Q)(hi:L[i]?=some (.au b cs e):=by rfl) :
  Wp (sh (Ago.E7 ks ⟨b,o,none⟩ m) f) h Q:=by
 rw[ah] at q⊢;have l:LB h b cs e:=z.get i hi;exact YQ l.get (λk hm=>⟨hk k hm,λe=>hk k hm (by omega)⟩) q
theorem Z.afd (z:Z h0 h L){kt:κ}{f:Nat->M β}{Q:β->af->Prop}(q:∀m h',Z h0 h' (.map m kt (λ_=>none) 0::L)->Wp (f m) h' Q):Wp (sh (Be kt) f) h Q:=by
 rw[ah];exact UO z.wf λh' l fr=>q _ h' (z.add (o:=.map h.next kt (λ_=>none) 0) fr l (.inr (aam _)))
theorem Z.jy (z:Z h0 h L)(i:Nat){m:Nat}{kt:κ}{fn:ξ->Option ξ}{n:Nat}{T:Ty}{d:T.den}{k:ξ}{f:Bool×T.den->M β}{Q:β->af->Prop}(hi:L[i]?=some (.map m kt fn n))
  (h1:∀v,fn k=some v->∃x,KM T v=some x/\Wp (f (true,x)) h Q) (h2:fn k=none->Wp (f (false,d)) h Q):Wp (sh (xA kt T d (some m) k) f) h Q:=by
 rw[ah];exact MB.ahg (z.get i hi) h1 h2
theorem Z.UW (z:Z h0 h L)(i:Nat){m:Nat}{kt:κ}{fn:ξ->Option ξ}{n:Nat}{T:Ty}{d:T.den}{k:ξ}{f:T.den×Nat->M β}{Q:β->af->Prop}(hi:L[i]?=some (.map m kt fn n))(hk:wG k k=true)
  (h1:∀v,fn k=some v->∃x,KM T v=some x/\∀st,Bu h m k st->Wp (f (x,st)) h Q)
  (h2:fn k=none->∀h' st,Z h0 h' (L.set i (.map m kt (xM fn k (De T d)) (n+1)))->Bu h' m k st->Wp (f (d,st)) h' Q):Wp (sh (wH kt T d (some m) k) f) h Q:=by
 rw[ah];exact MB.entry (z.get i hi) z.wf hk h1 λhf h' st l hs fr=>h2 hf h' st (z.sr (o:=.map m kt fn n) hi (by simp[bu.dY]) fr l (.inl rfl)) hs
theorem Z.UX (z:Z h0 h L)(i:Nat){m:Nat}{kt:κ}{fn:ξ->Option ξ}{n:Nat}{k v:ξ}{st:Nat}{f:Unit->M β}{Q:β->af->Prop}(hi:L[i]?=some (.map m kt fn n))(hs:Bu h m k st)
  (q:∀h',Z h0 h' (L.set i (.map m kt (xM fn k v) n))->Wp (f ()) h' Q):Wp (sh (wI (some m) (st:Int) v) f) h Q:=by
 rw[ah];exact MB.store (z.get i hi) z.wf hs λh' l fr=>q h' (z.sr (o:=.map m kt fn n) hi (by simp[bu.dY]) fr l (.inl rfl))
theorem Z.ne (z:Z h0 h L)(i j:Nat){o p:bu}(hi:L[i]?=some o)(hj:L[j]?=some p)(hne:i≠j)(ho:o.dY≠0):p.dY≠o.dY:=λe=>by
 grind [Cs,ql,z.sP,e.symm]
theorem RU {γ:Type}(l:List γ):(List.range l.length).filterMap (λi=>l[i]?)=l:=by
 induction l with
 |nil=>rfl
 |cons a l ih=>
  rw[aas,ail,List.filterMap_cons_some (f:=λi=>(a::l)[i]?) (b:=a) rfl,List.filterMap_map]
  conv=>rhs;rw[<-ih]
  rfl
theorem Z.td {pre:List bu}(z:Z h0 h (pre++L))(p:η)(hp:p.Perm (List.range pre.length)):Z h0 h (p.filterMap (λi=>pre[i]?)++L):=by
 refine z.perm (ahJ _ ?_);have:=hp.filterMap (λi=>pre[i]?);rw[RU] at this;exact this.symm
end Go.Ago
