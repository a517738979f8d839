
import Derived.Test.YthnfbcloepfooaaGreatDoorAgoW
set_option linter.all false
namespace Go.Ago
open Go
variable {α β:Type}{h h' h0:af}{X:Nat->Prop}
def Cl (h:af)(a:Addr)(vs:δ)(g:Nat):Prop:=
 a.spot=none/\∃c base e,h.get a.block=some (.cells c g base e)/\a.off+vs.length<=c.length/\(c.drop a.off).take vs.length=vs
theorem Cl.fr {a:Addr}{vs:δ}{g:Nat}(c:Cl h a vs g)(f:Fr X h h')(hx:X g->g=0):Cl h' a vs g:=by
 obtain⟨h1,c,base,e,h2,h3,h4⟩:=c;exact⟨h1,c,base,e,f.cells _ _ _ _ _ h2 hx,h3,h4⟩
theorem Cl.get {a:Addr}{vs:δ}{g o:Nat}{v:ξ}(c:Cl h a vs g)(hv:vs[o]?=some v){l:eh}{x:l.den}(hx:xi l v=some x):h.ld l a.block (a.off+o)=some x:=by
 obtain⟨h1,c,base,e,h2,h3,h4⟩:=c;unfold af.ld
 grind
theorem Cl.ld {a:Addr}{vs:δ}{g:Nat}(c:Cl h a vs g){o:Nat}{v:ξ}(hv:vs[o]?=some v){l:eh}{x:l.den}(hx:xi l v=some x){f:l.den->M β}{Q:β->af->Prop}
  (q:Wp (f x) h Q):Wp (AI (ar l (a.plus o)) f) h Q:=by
 rw[ag,u0];exact⟨x,c.get hv hx,q⟩
theorem Cl.uI {a:Addr}{vs:δ}{g:Nat}(c:Cl h a vs g){v:ξ}(hv:vs[0]?=some v){l:eh}{x:l.den}(hx:xi l v=some x){f:l.den->M β}{Q:β->af->Prop}
  (q:Wp (f x) h Q):Wp (AI (ar l a) f) h Q:=by
 rw[ag,u0];exact⟨x,c.get hv hx,q⟩
theorem Cl.jV {a:Addr}{vs:δ}{g:Nat}(c:Cl h a vs g){ls:List eh}{x:mF ls}(hx:vX ls vs=some x){f:mF ls->M β}{Q:β->af->Prop}
  (q:Wp (f x) h Q) (hl:ls.length=vs.length:=by rfl):Wp (AI (bh ls a) f) h Q:=by
 rw[ag,od];refine⟨x,?_,q⟩;obtain⟨h1,c,base,e,h2,h3,h4⟩:=c;unfold af.jV;rw[h2];simp only;rw[hl,BY h3,h4];exact hx
def Bb (h:af)(s:Sl)(sz:Nat)(cs:δ)(g:Nat):Prop:=
 cs.length=s.len*sz/\(s.len=0\/∃a,s.a=some a/\Cl h a cs g)
theorem Bb.fr {s:Sl}{sz:Nat}{cs:δ}{g:Nat}(r:Bb h s sz cs g)(f:Fr X h h')(hx:X g->g=0):Bb h' s sz cs g:=by
 refine⟨r.1,?_⟩;rcases r.2 with h1|⟨a,h1,h2⟩
 .exact .inl h1
 .exact .inr ⟨a,h1,h2.fr f hx⟩
theorem sF.DE {s:Sl}{sz:Nat}{e:κ}{cs:δ}{g:Nat}(o:sF h s sz e cs g):Bb h s sz cs g:=by
 refine⟨o.1,?_⟩;rcases o.2 with⟨rfl,_⟩|⟨_,_,_,b,base,h1,h2,_⟩
 .exact .inl rfl
 .exact .inr ⟨_,h1,rfl,cs,base,e,h2,by simp,by simp⟩
theorem LB.DE {b n cap sz:Nat}{cs:δ}{e:κ}(l:LB h b cs e)(hn:cs.length=n*sz):Bb h ⟨some ⟨b,0,none⟩,n,cap⟩ sz cs (b+1):=
 ⟨hn,.inr ⟨_,rfl,rfl,cs,0,e,l.get,by simp,by simp⟩⟩
theorem Bb.nil {s:Sl}{sz:Nat}(hs:s.len=0):Bb h s sz [] 0:=⟨by simp[hs],.inl hs⟩
theorem Bb.ix {s:Sl}{sz:Nat}{cs:δ}{g:Nat}(r:Bb h s sz cs g){k:Int}(h1:0<=k)(h2:k<s.len){f:Addr->M β}{Q:β->af->Prop}
  (q:∀a,Cl h a ((cs.drop (k.toNat*sz)).take sz) g->Wp (f a) h Q):Wp (AI (ao s k sz) f) h Q:=by
 rcases r.2 with h3|⟨a,h3,h4,c,base,e,h5,h6,h7⟩
 .omega
 rw[ag,sS];refine⟨a,h3,h1,h2,q _ ⟨rfl,c,base,e,h5,?_,?_⟩⟩
 .show a.off+k.toNat*sz+_<=_;rw[aaI,aaZ];have hk:k.toNat+1<=s.len:=by omega
  have:=abg sz hk;rw[abf,acL] at this;have:=r.1;omega
 .show (c.drop (a.off+k.toNat*sz)).take _=_;have hk:k.toNat+1<=s.len:=by omega
  have hm:=abg sz hk;rw[abf,acL] at hm;have hl:=r.1;have hlen:((cs.drop (k.toNat*sz)).take sz).length=sz:=by rw[aaI,aaZ];omega
  grind [List.drop_drop,List.drop_take]
theorem XR {γ:Type}{enc:γ->ξ}{xs:List γ}{i:Nat}{v:γ}(hv:xs[i]?=some v):(((xs.map enc).drop (i*1)).take 1)=[enc v]:=by
 rw[aa5]
 grind [List.getElem?_eq_some_iff,List.drop_eq_getElem_cons]
theorem Bb.Yw {γ:Type}{enc:γ->ξ}{xs:List γ}{s:Sl}{g:Nat}(r:Bb h s 1 (xs.map enc) g){k:Int}{v:γ}(h1:0<=k)(hv:xs[k.toNat]?=some v){f:Addr->M β}{Q:β->af->Prop}
  (q:∀a,Cl h a [enc v] g->Wp (f a) h Q):Wp (AI (ao s k 1) f) h Q:=by
 have hlt:=(List.getElem?_eq_some_iff.1 hv).1;have hl:=r.1;rw[aaQ,aa5] at hl;refine r.ix h1 (by omega) λa c=>q a ?_;rw[XR hv] at c;exact c
theorem Bb.Xj {γ:Type}{enc:γ->δ}{sz:Nat}(he:∀x,(enc x).length=sz){xs:List γ}{s:Sl}{g:Nat}(r:Bb h s sz (xs.flatMap enc) g){k:Int}{v:γ}(h1:0<=k)(h2:k<s.len)(hv:xs[k.toNat]?=some v)
  {f:Addr->M β} {Q:β->af->Prop} (q:∀a,Cl h a (enc v) g->Wp (f a) h Q):Wp (AI (ao s k sz) f) h Q:=by
 refine r.ix h1 h2 λa c=>q a ?_;rw[M5 he hv] at c;exact c
theorem Bb.CL {γ:Type}{enc:γ->ξ}{xs:List γ}{s:Sl}{g:Nat}(r:Bb h s 1 (xs.map enc) g):s.len=xs.length:=by
 have hl:=r.1;rw[aaQ,aa5] at hl;exact hl.symm
def vA (h:af)(s:Sl)(sz:Nat)(e:κ)(cs:δ)(g:Nat):Prop:=
 cs.length=s.len*sz/\((s=⟨none,0,0⟩/\g=0)\/(0<g/\g<=h.next/\s.cap=0/\∃b base c,s.a=some ⟨b,0,none⟩/\h.get b=some (.cells c g base e)/\c.take cs.length=cs))
theorem vA.nil {sz:Nat}{e:κ}:vA h ⟨none,0,0⟩ sz e [] 0:=⟨by simp,.inl ⟨rfl,rfl⟩⟩
theorem vA.fr {s:Sl}{sz:Nat}{e:κ}{cs:δ}{g:Nat}(o:vA h s sz e cs g)(f:Fr X h h')(hg:X g->g=0):vA h' s sz e cs g:=by
 obtain⟨h1,h2⟩:=o;refine⟨h1,?_⟩;rcases h2 with h2|⟨h2,h3,h4,b,base,c,h5,h6,h7⟩
 .exact .inl h2
 .exact .inr ⟨h2,aaX h3 f.next,h4,b,base,c,h5,f.cells _ _ _ _ _ h6 hg,h7⟩
theorem vA.le {s:Sl}{sz:Nat}{e:κ}{cs:δ}{g:Nat}(o:vA h s sz e cs g):g<=h.next:=by
 obtain⟨_,h2⟩:=o;rcases h2 with⟨_,h2⟩|⟨h2,h3,_⟩<;>omega
theorem LG {γ:Type}{c cs:List γ}(hc:c.take cs.length=cs):cs.length<=c.length:=by
 grind
theorem vA.DE {s:Sl}{sz:Nat}{e:κ}{cs:δ}{g:Nat}(o:vA h s sz e cs g):Bb h s sz cs g:=by
 refine⟨o.1,?_⟩;rcases o.2 with⟨rfl,_⟩|⟨_,_,_,b,base,c,h1,h2,h3⟩
 .exact .inl rfl
 .exact .inr ⟨_,h1,rfl,c,base,e,h2,by simpa using LG h3,by simpa using h3⟩
theorem vA.app {s:Sl}{sz:Nat}{e:κ}{cs new:δ}{g n:Nat}{Q:Sl->af->Prop}(o:vA h s sz e cs g)(hw:WF h)(hn:n≠0)(hl:new.length=n*sz)(hb:s.len+n<=cN)
  (hq:∀s' h' g',s'.len=s.len+n->vA h' s' sz e (cs++new) g'->(g'=g/\g≠0\/g'=h.next+1)->Fr (·=g) h h'->Q s' h'):Wp (Ago.app false s sz e n new) h Q:=by
 obtain⟨h1,h2⟩:=o;have hnx:=hw.get h.next (aai _)
 have key:Ago.app false s sz e n new h=kF false s sz e n new h:=by unfold Ago.app;simp
 suffices hh:∃s' h' ,kF false s sz e n new h=some (s',h')/\Q s' h' by
  obtain⟨s',h',e1,e2⟩:=hh;exact⟨s',h',by rw[key];exact e1,e2⟩
 rcases h2 with⟨rfl,rfl⟩|⟨h2,h3,h4,b,base,c,h5,h6,h7⟩
 .have hc:cs=[]:=aap (by simpa using h1);subst hc;refine⟨_,_,?_,hq ⟨some ⟨h.next,0,none⟩,n,0⟩ (h.new e new) (h.next+1) (by simp) ⟨by simp[hl],.inr ⟨by omega,by simp[af.new,af.bt],rfl,h.next,0,new,rfl,fy,acG⟩⟩ (.inr rfl) ((Fr.new hw).mono hw (λ_ hx _=>hx.elim))⟩
  unfold kF
  grind
 .have hle:=LG h7;have hcells:bj h (some ⟨b,0,none⟩) (s.len*sz)=some cs:=by simp[bj,h6,<-h1,h7,hle]
  by_cases ht:h.jY g=base+0+s.len*sz
  .refine⟨⟨some ⟨h.next,0,none⟩,s.len+n,0⟩,{ h with get:=λj=>cond (Nat.beq j h.next) (some (.cells (cs++new) g (base+0) e)) (h.get j),next:=h.next+1,jY:=λg'=>cond (Nat.beq g' g) (base+0+s.len*sz+new.length) (h.jY g'),used:=λj=>cond (Nat.beq j h.next) true (h.used j) },?_,hq _ _ g rfl ?_ (.inl ⟨rfl,by omega⟩) ?_⟩
   .unfold kF;simp only[ly]
    grind
   .exact⟨by simp[h1,hl,abf],.inr ⟨h2,by simp;omega,rfl,h.next,base+0,cs++new,rfl,by simp[fB],acG⟩⟩
   .refine⟨⟨λj hj=>?_,λj hj=>?_,λj c g' b' e' hj=>?_,λj hj=>hw.maps j (cu hj).2⟩,aaU _,?_,?_,?_,?_,λ_ _ e _=>e⟩
    .simp at hj;simp[bZ (show j≠h.next by omega)];exact hw.get j (by omega)
    .simp at hj;simp[bZ (show j≠h.next by omega)];exact hw.used j (by omega)
    .simp only at hj;by_cases hjn:j=h.next
     .subst hjn;simp[fB] at hj;simp;omega
     .simp[bZ hjn] at hj;have:=hw.bG _ _ _ _ _ hj;simp;omega
    .intro j c g' b' e' hj _;have:j≠h.next:=λhjn=>by subst hjn;rw[hnx] at hj;cases hj
     simp[bZ this];exact hj
    .grind [bZ]
    .intro j hj;simp[bZ (show j≠h.next by omega)]
    .intro j hj hx;simp[bZ (show j≠h.next by omega)];exact hx
  .refine⟨⟨some ⟨h.next,0,none⟩,s.len+n,0⟩,{ h with get:=λj=>cond (Nat.beq j h.next) (some (.cells (cs++new) g (base+0) e)) (match h.get j with|some (.cells c' g' base' elem')=>cond (Nat.beq g' g&&Nat.blt (base+0+s.len*sz) (base'+c'.length)) none (some (.cells c' g' base' elem'))|o=>o),next:=h.next+1,jY:=λg'=>cond (Nat.beq g' g) (base+0+s.len*sz+new.length) (h.jY g'),used:=λj=>cond (Nat.beq j h.next) true (h.used j) },?_,hq _ _ g rfl ?_ (.inl ⟨rfl,by omega⟩) ?_⟩
   .unfold kF;simp only[ly]
    grind
   .exact⟨by simp[h1,hl,abf],.inr ⟨h2,by simp;omega,rfl,h.next,base+0,cs++new,rfl,by simp[fB],acG⟩⟩
   .refine⟨⟨λj hj=>?_,λj hj=>?_,λj c g' b' e' hj=>?_,λj hj=>hw.maps j (cu hj).2⟩,aaU _,?_,?_,?_,?_,λ_ _ e _=>e⟩
    .simp at hj;simp[bZ (show j≠h.next by omega),hw.get j (by omega)]
    .simp at hj;simp[bZ (show j≠h.next by omega)];exact hw.used j (by omega)
    .simp only at hj;by_cases hjn:j=h.next
     .subst hjn;simp[fB] at hj;simp;omega
     .simp only[bZ hjn,abV] at hj;cases hgj:h.get j with
      |none=>rw[hgj] at hj;cases hj
      |some o=>
       rw[hgj] at hj;cases o with
       |cells c2 g2 b2 e2=>
        simp only at hj;cases hq2:(Nat.beq g2 g&&Nat.blt (base+0+s.len*sz) (b2+c2.length)) with
        |true=>rw[hq2] at hj;cases hj
        |false=>
         rw[hq2] at hj;simp only[abV,IN] at hj;cases hj;have:=hw.bG _ _ _ _ _ hgj;simp;omega
       |_=>cases hj
    .intro j c g' b' e' hj hx;have hjn:j≠h.next:=λhjn=>by subst hjn;rw[hnx] at hj;cases hj
     have:Nat.beq g' g=false:=by
      refine bZ λe=>?_;have:=hx e;omega
     simp only[bZ hjn,abV,hj,this,aco]
    .grind [bZ]
    .intro j hj;simp[bZ (show j≠h.next by omega)]
    .intro j hj hx;simp[bZ (show j≠h.next by omega),hx]
theorem vA.cut {e:κ}{s:Sl}{cs:δ}{v:ξ}{g:Nat}{β:Type}{f:Sl->M β}{Q:β->af->Prop}(o:vA h s 1 e (cs++[v]) g)(q:∀s',s'.len=cs.length->vA h s' 1 e cs g->Wp (f s') h Q) :
  Wp (AI (gf s 0 (((s.len:Nat):Int)-1) e 1) f) h Q:=by
 obtain⟨h1,h2⟩:=o;rw[aaa,aa5] at h1;simp at h1;rcases h2 with⟨rfl,_⟩|⟨h2,h3,h4,b,base,c,h5,h6,h7⟩
 .simp at h1
 rw[ag];refine rH (by omega) (by omega) (by omega) (by simp[gx,h5,h6]) (q _ (by simp;omega) ⟨by simp;omega,.inr ⟨h2,h3,by simp[h4],b,base,c,by simp[h5,Addr.plus],h6,?_⟩⟩);have:=aaL (List.take cs.length) h7
 grind
def Ut (h:af)(F:List (Sl×δ))(sz:Nat)(e:κ)(g:Nat):Prop:=
 0<g/\g<=h.next/\∃base,∀x∈F,x.2.length=x.1.len*sz/\x.1.cap=0/\∃b,x.1.a=some ⟨b,0,none⟩/\h.get b=some (.cells x.2 g base e)
theorem Ut.fr {F:List (Sl×δ)}{sz:Nat}{e:κ}{g:Nat}(o:Ut h F sz e g)(f:Fr X h h')(hg:X g->g=0):Ut h' F sz e g:=by
 obtain⟨h1,h2,base,h3⟩:=o;refine⟨h1,aaX h2 f.next,base,λx hx=>?_⟩
 obtain⟨a,b,c,d,k⟩:=h3 x hx;exact⟨a,b,c,d,f.cells _ _ _ _ _ k hg⟩
theorem Ut.app {F:List (Sl×δ)}{sz:Nat}{e:κ}{g n:Nat}{s:Sl}{cs new:δ}{Q:Sl->af->Prop}(o:Ut h F sz e g)(hw:WF h)(hm:(s,cs)∈F)(hmax:∀x∈F,x.2.length<=cs.length)(hn:n≠0)(hl:new.length=n*sz)(hb:s.len+n<=cN)
  (hq:∀s' h',s'.len=s.len+n->Ut h' ((s',cs++new)::F) sz e g->Fr (·=g) h h'->Q s' h'):Wp (Ago.app false s sz e n new) h Q:=by
 obtain⟨h2,h3,base,hF⟩:=o;obtain⟨h1,h4,b,h5,h6⟩:=hF _ hm;simp only at h1 h4 h5 h6;have hnx:=hw.get h.next (aai _)
 have key:Ago.app false s sz e n new h=kF false s sz e n new h:=by unfold Ago.app;simp
 suffices hh:∃s' h' ,kF false s sz e n new h=some (s',h')/\Q s' h' by
  obtain⟨s',h',e1,e2⟩:=hh;exact⟨s',h',by rw[key];exact e1,e2⟩
 have hcells:bj h (some ⟨b,0,none⟩) (s.len*sz)=some cs:=by simp[bj,h6,<-h1]
 have fin:∀h':af,h'.next=h.next+1->(∀j,h'.get j=cond (Nat.beq j h.next) (some (.cells (cs++new) g (base+0) e)) (match h.get j with
    |some (.cells c' g' base' elem')=>cond (Nat.beq g' g&&Nat.blt (base+0+s.len*sz) (base'+c'.length)) none (some (.cells c' g' base' elem'))
    |o=>o)\/(h'.get j=cond (Nat.beq j h.next) (some (.cells (cs++new) g (base+0) e)) (h.get j))) ->
   (∀g',g'≠g->h'.jY g'=h.jY g')->(∀j,j≠h.next->h'.used j=h.used j)->(∀j,h'.fj j=h.fj j)->Q ⟨some ⟨h.next,0,none⟩,s.len+n,0⟩ h':=by
  intro h' e1 hget e3 e4 e5;have j7:∀j k,j≠h.next->h'.get j=some k->h.get j=some k:=λj k hj hk=>by
   rcases hget j with q|q
   .rw[q,bZ hj,abV] at hk
    grind
   .rw[q,bZ hj,abV] at hk;exact hk
  have stay:∀j c g' b' e',h.get j=some (.cells c g' b' e')->(g'=g->b'+c.length<=base+s.len*sz)->h'.get j=some (.cells c g' b' e'):=λj c g' b' e' hj hc=>by
   have hjn:j≠h.next:=λq=>by subst q;rw[hnx] at hj;cases hj
   rcases hget j with q|q
   .rw[q,bZ hjn,abV,hj];simp only;by_cases hg:g'=g
    .have:Nat.blt (base+0+s.len*sz) (b'+c.length)=false:=by
      have:=hc hg;cases hq:Nat.blt (base+0+s.len*sz) (b'+c.length) with
      |false=>rfl
      |true=>
       have:=aaB hq;omega
     rw[this,acm];rfl
    .rw[bZ hg];rfl
   .rw[q,bZ hjn,abV];exact hj
  have self:h'.get h.next=some (.cells (cs++new) g (base+0) e):=by
   rcases hget h.next with q|q<;>rw[q,fB]<;>rfl
  refine hq _ _ rfl ⟨h2,by omega,base,λx hx=>?_⟩ ⟨⟨λj hj=>?_,λj hj=>?_,λj c g' b' e' hj=>?_,λj hj=>?_⟩,by omega,λj c g' b' e' hj hx=>?_,λg' _ hx=>?_,λj hj=>?_,λj hj hx=>?_,λj x hj _=>by rw[e5];exact hj⟩
  .rcases List.mem_cons.1 hx with rfl|hx
   .grind
   grind
  .cases hk:h'.get j with
   |none=>rfl
   |some k=>have:=j7 j k (by omega) hk;rw[hw.get j (by omega)] at this;cases this
  .rw[e4 j (by omega)];exact hw.used j (by omega)
  .by_cases hjn:j=h.next
   .subst hjn;rw[self] at hj;cases hj;omega
   .have:=hw.bG _ _ _ _ _ (j7 j _ hjn hj);omega
  .rw[e5];by_cases hjn:j=h.next
   .subst hjn;exact hw.maps _ (hw.used _ (aai _))
   .exact hw.maps j (by rw[<-e4 j hjn];exact hj)
  .exact stay _ _ _ _ _ hj λe=>by have:=hx e;omega
  .exact e3 g' λe=>by have:=hx e;omega
  .exact e4 j (by omega)
  .cases hk:h'.get j with
   |none=>rfl
   |some k=>have:=j7 j k (by omega) hk;rw[hx] at this;cases this
 by_cases ht:h.jY g=base+0+s.len*sz
 .refine⟨⟨some ⟨h.next,0,none⟩,s.len+n,0⟩,{ h with get:=λj=>cond (Nat.beq j h.next) (some (.cells (cs++new) g (base+0) e)) (h.get j),next:=h.next+1,jY:=λg'=>cond (Nat.beq g' g) (base+0+s.len*sz+new.length) (h.jY g'),used:=λj=>cond (Nat.beq j h.next) true (h.used j) },?_,fin _ rfl (λj=>.inr rfl) (λg' hg=>by simp[bZ hg]) (λj hj=>by simp[bZ hj]) λ_=>rfl⟩
  unfold kF;rw[By hn,By (by simp[hb,hl]),h5];simp only[ly]
  grind
 .refine⟨⟨some ⟨h.next,0,none⟩,s.len+n,0⟩,{ h with get:=λj=>cond (Nat.beq j h.next) (some (.cells (cs++new) g (base+0) e)) (match h.get j with|some (.cells c' g' base' elem')=>cond (Nat.beq g' g&&Nat.blt (base+0+s.len*sz) (base'+c'.length)) none (some (.cells c' g' base' elem'))|o=>o),next:=h.next+1,jY:=λg'=>cond (Nat.beq g' g) (base+0+s.len*sz+new.length) (h.jY g'),used:=λj=>cond (Nat.beq j h.next) true (h.used j) },?_,fin _ rfl (λj=>.inl rfl) (λg' hg=>by simp[bZ hg]) (λj hj=>by simp[bZ hj]) λ_=>rfl⟩
  unfold kF;rw[By hn,By (by simp[hb,hl]),h5];simp only[ly]
  grind
inductive dh where
 |aD (b:Nat) (cs:δ) (e:κ)
 |sl (s:Sl) (sz:Nat) (e:κ) (cs:δ) (g:Nat)
 |map (m:Nat) (kt:κ) (f:ξ->Option ξ) (n:Nat)
 |ps (s:Sl) (sz:Nat) (e:κ) (cs:δ) (g:Nat)
 |free (k:Nat)
 |Xk (F:List (Sl×δ)) (sz:Nat) (e:κ) (g:Nat)
def DU (h:af)(k:Nat):Prop:=h.used k=false/\k<h.next/\h.get k=none
theorem DU.fr {k:Nat}(f:DU h k)(r:Fr X h h'):DU h' k:=⟨by rw[r.used k f.2.1];exact f.1,aaC f.2.1 r.next,r.none k f.2.1 f.2.2⟩
def dh.ok (h:af):dh->Prop
 |.aD b cs e=>LB h b cs e
 |.sl s sz e cs g=>sF h s sz e cs g
 |.map m kt f n=>MB h m kt f n
 |.ps s sz e cs g=>vA h s sz e cs g
 |.free k=>DU h k
 |.Xk F sz e g=>Ut h F sz e g
def dh.bG:dh->Nat
 |.aD b _ _=>b+1
 |.sl _ _ _ _ g=>g
 |.map m _ _ _=>m+1
 |.ps _ _ _ _ g=>g
 |.free k=>k+1
 |.Xk _ _ _ g=>g
theorem dh.Uu {o:dh}(hk:o.ok h)(f:Fr X h h')(hx:X o.bG->o.bG=0):o.ok h':=by
 cases o with
 |aD b cs e=>exact LB.fr hk f (λhx2=>by have:=hx hx2;simp[dh.bG] at this)
 |sl s sz e cs g=>exact sF.fr hk f hx
 |map m kt fn n=>exact MB.fr hk f (λhx2=>by have:=hx hx2;simp[dh.bG] at this)
 |ps s sz e cs g=>exact vA.fr hk f hx
 |free k=>exact DU.fr hk f
 |Xk F sz e g=>exact Ut.fr hk f hx
theorem dh.le {o:dh}(hk:o.ok h)(hw:WF h):o.bG<=h.next:=by
 cases o with
 |aD b cs e=>exact LB.lt hk hw
 |sl s sz e cs g=>exact sF.le hk
 |map m kt fn n=>exact MB.lt hk hw
 |ps s sz e cs g=>exact vA.le hk
 |free k=>exact hk.2.1
 |Xk F sz e g=>exact hk.2.1
structure Z (h0 h:af) (L:List dh):Prop where
 Iy:WF h0
 fr:Fr (λ_=>False) h0 h
 own:∀o∈L,o.ok h/\(o.bG=0\/h0.next<o.bG)
 k8:L.Pairwise λa b=>a.bG=b.bG->a.bG=0
variable {L:List dh}
theorem Z.start (hw:WF h):Z h h []:=⟨hw,Fr.refl hw,by simp,.nil⟩
theorem Z.wf (z:Z h0 h L):WF h:=z.fr.wf
theorem Z.step (z:Z h0 h L)(f:Fr X h h')(hx:∀g,X g->g≠0->h0.next<g)(ho:∀o∈L,X o.bG->o.bG=0):Z h0 h' L:=
 ⟨z.Iy,z.fr.trans z.Iy f λg hg h0=>.inr (hx g hg h0),λo hm=>⟨dh.Uu (z.own o hm).1 f (ho o hm),(z.own o hm).2⟩,z.k8⟩
theorem Z.pure (z:Z h0 h L)(f:Fr (λ_=>False) h h'):Z h0 h' L:=z.step f (λ_ hx=>hx.elim) λ_ _ hx=>hx.elim
theorem Z.add (z:Z h0 h L)(f:Fr (λ_=>False) h h'){o:dh}(hk:o.ok h')(hg:o.bG=0\/h.next<o.bG):Z h0 h' (o::L):=by
 have z1:=z.pure f;have hle:=z.fr.next
 refine⟨z.Iy,z1.fr,λx hx=>?_,.cons (λx hx he=>?_) z1.k8⟩
 .rcases List.mem_cons.1 hx with rfl|hx
  .exact⟨hk,hg.imp id λh1=>by omega⟩
  .exact z1.own x hx
 .rcases hg with hg|hg
  .exact hg
  .have:=dh.le (z.own x hx).1 z.wf;omega
theorem Z.drop {o:dh}(z:Z h0 h (o::L)):Z h0 h L:=⟨z.Iy,z.fr,λx hx=>z.own x (aan _ hx),(List.pairwise_cons.1 z.k8).2⟩
theorem Z.sub {L':List dh}(z:Z h0 h L)(hs:L'.Sublist L):Z h0 h L':=⟨z.Iy,z.fr,λx hx=>z.own x (hs.subset hx),z.k8.sublist hs⟩
theorem Z.get (z:Z h0 h L)(i:Nat){o:dh}(hi:L[i]?=some o):o.ok h:=(z.own o (OF hi)).1
theorem yq {γ:Type}{R:γ->γ->Prop}(hsym:∀a b,R a b->R b a):∀{l:List γ} {i:Nat} {x:γ},l.Pairwise R->(∀j y,l[j]?=some y->j≠i->R x y)->(l.set i x).Pairwise R
 |[],i,x,_,_=>by simp
 |a::l,0,x,hp,hx=>by
  grind [List.pairwise_cons,List.mem_iff_getElem?]
 |a::l,i+1,x,hp,hx=>by
  rw[abo];obtain⟨h1,h2⟩:=List.pairwise_cons.1 hp;refine .cons (λy hy=>?_) (yq hsym h2 λj y hj hne=>hx (j+1) y (by simpa using hj) (by omega));rcases abr hy with hy|hy
  .exact h1 y hy
  .subst hy;exact hsym _ _ (hx 0 a rfl (by omega))
theorem yr {γ:Type}{R:γ->γ->Prop}(hsym:∀a b,R a b->R b a):∀{l:List γ} {i j:Nat} {x y:γ},l.Pairwise R->l[i]?=some x->l[j]?=some y->i≠j->R x y
 |[],i,j,x,y,_,hi,_,_=>by simp at hi
 |a::l,0,0,x,y,_,_,_,hn=>absurd rfl hn
 |a::l,0,j+1,x,y,hp,hi,hj,_=>by
  grind [List.pairwise_cons,List.mem_of_getElem?]
 |a::l,i+1,0,x,y,hp,hi,hj,_=>by
  grind [List.pairwise_cons,List.mem_of_getElem?]
 |a::l,i+1,j+1,x,y,hp,hi,hj,hn=>yr hsym (List.pairwise_cons.1 hp).2 (by simpa using hi) (by simpa using hj) (by omega)
theorem l5 (a b:dh)(hr:a.bG=b.bG->a.bG=0):b.bG=a.bG->b.bG=0:=λe=>by rw[e];exact hr e.symm
theorem Z.mY (z:Z h0 h L){i:Nat}{o o':dh}(hi:L[i]?=some o)(ho:o.bG≠0)(f:Fr (·=o.bG) h h')(hk:o'.ok h')(hg:o'.bG=o.bG\/o'.bG=0\/h.next<o'.bG):Z h0 h' (L.set i o'):=by
 have hmem:=OF hi;have hfresh:h0.next<o.bG:=(z.own o hmem).2.resolve_left ho
 have hothers:∀j y,L[j]?=some y->j≠i->y.bG≠o.bG:=λj y hj hne e=>ho (by rw[<-e];exact yr l5 z.k8 hj hi hne e);refine⟨z.Iy,z.fr.trans z.Iy f λg hg h0=>.inr (by rw[hg];exact hfresh),λx hx=>?_,yq l5 z.k8 λj y hj hne e=>?_⟩
 .obtain⟨j,hj⟩:=List.mem_iff_getElem?.1 hx;rw[abQ] at hj;split at hj
  .grind [Nat.lt_of_le_of_lt,z.fr.next]
  .rename_i hne;have hmy:=OF hj;exact⟨dh.Uu (z.own x hmy).1 f λe=>absurd e (hothers j x hj λe2=>hne e2.symm),(z.own x hmy).2⟩
 .rcases hg with hg|hg|hg
  .exact absurd (e.symm.trans hg) (hothers j y hj hne)
  .exact hg
  .have:=dh.le (z.own y (OF hj)).1 z.wf;omega
theorem Z.perm {L':List dh}(z:Z h0 h L)(hp:L.Perm L'):Z h0 h L':=⟨z.Iy,z.fr,λx hx=>z.own x (hp.mem_iff.2 hx),(hp.pairwise_iff λ{a b}=>l5 a b).1 z.k8⟩
theorem Z.new (z:Z h0 h L){e:κ}{cs:δ}{f:Nat->M β}{Q:β->af->Prop}
  (q:∀b h',Z h0 h' (.aD b cs e::L)->Fr (λ_=>False) h h'->Wp (f b) h' Q) (hs:cs.all fi=true:=by rfl):Wp (AI (aJ none e cs) f) h Q:=by
 rw[ag,yn];have hf:=Fr.new (e:=e) (cs:=cs) z.wf;exact⟨hs,q _ _ (z.add hf (o:=.aD h.next cs e) LB.new (.inr (aad _))) hf⟩
theorem Z.DV (z:Z h0 h L){e:κ}{c:δ}{n:Int}{f:Sl->M β}{Q:β->af->Prop}(h1:0<=n)(h2:n<=cN)
  (q:∀b h',Z h0 h' (.aD b (List.replicate n.toNat c).flatten e::L)->Fr (λ_=>False) h h'->Wp (f ⟨some ⟨b,0,none⟩,n.toNat,n.toNat+1⟩) h' Q) (hs:c.all fi=true:=by rfl):Wp (AI (pT none e c n n) f) h Q:=by
 rw[ag];refine Qa h1 (Int.le_refl _) h2 ?_ hs;have hf:=Fr.new (e:=e) (cs:=(List.replicate n.toNat c).flatten) z.wf;exact q _ _ (z.add hf (o:=.aD h.next _ e) LB.new (.inr (aad _))) hf
theorem LB.cl {b:Nat}{cs:δ}{e:κ}(l:LB h b cs e):Cl h ⟨b,0,none⟩ cs (b+1):=⟨rfl,cs,0,e,l.get,by simp,by simp⟩
theorem Z.cl (z:Z h0 h L)(i:Nat){b:Nat}{cs:δ}{e:κ}(hi:L[i]?=some (.aD b cs e)):Cl h ⟨b,0,none⟩ cs (b+1):=LB.cl (z.get i hi)
theorem Z.ld (z:Z h0 h L)(i:Nat){b o:Nat}{cs:δ}{e:κ}{l:eh}{v:ξ}{x:l.den}{f:l.den->M β}{Q:β->af->Prop}
  (q:Wp (f x) h Q) (hi:L[i]?=some (.aD b cs e):=by rfl) (hv:cs[o]?=some v:=by rfl) (hx:xi l v=some x:=by rfl):Wp (AI (ar l ⟨b,o,none⟩) f) h Q:=by
 rw[ag,u0];exact⟨x,LB.ld (z.get i hi) hv hx,q⟩
theorem Z.jV (z:Z h0 h L)(i:Nat){b:Nat}{cs:δ}{e:κ}{ls:List eh}{x:mF ls}{f:mF ls->M β}{Q:β->af->Prop}
  (q:Wp (f x) h Q) (hi:L[i]?=some (.aD b cs e):=by rfl) (hx:vX ls cs=some x:=by rfl) (hl:ls.length=cs.length:=by rfl):Wp (AI (bh ls ⟨b,0,none⟩) f) h Q:=
 (z.cl i hi).jV hx q hl
theorem Z.st (z:Z h0 h L)(i:Nat){b o:Nat}{cs vs cs':δ}{e:κ}{f:Unit->M β}{Q:β->af->Prop}
  (q:∀h',Z h0 h' (L.set i (.aD b cs' e))->Wp (f ()) h' Q) (hi:L[i]?=some (.aD b cs e):=by rfl) (hc:bB cs o vs=cs':=by rfl) (ho:o+vs.length<=cs.length:=by first|decide|simp) (hs:vs.all fi=true:=by rfl) :
  Wp (AI (bE ⟨b,o,none⟩ vs) f) h Q:=by
 rw[ag];have l:LB h b cs e:=z.get i hi;refine l.st z.wf ho hs λh' l' fr=>q h' (z.mY (o:=.aD b cs e) hi (by simp[dh.bG]) fr ?_ (.inl rfl));rw[<-hc];exact l'
theorem Z.call (z:Z h0 h L){m:M α}{P:α->af->Prop}{f:α->M β}{Q:β->af->Prop}(hm:Wp m h λr h'=>P r h'/\Fr (λ_=>False) h h')
  (q:∀r h',P r h'->Fr (λ_=>False) h h'->Z h0 h' L->Wp (f r) h' Q):Wp (AI m f) h Q:=by
 rw[ag];exact hm.mono λr h' ⟨hp,hf⟩=>q r h' hp hf (z.pure hf)
theorem yu {γ:Type}{enc:γ->ξ}{xs:List γ}{k:Nat}{v:γ}(hk:k<xs.length):bB (xs.map enc) k [enc v]=(xs.set k v).map enc:=by
 unfold bB;rw[acg,abH,BY (by simpa using hk)];simp
theorem Z.zX (z:Z h0 h L)(i:Nat){γ:Type}{enc:γ->ξ}{xs:List γ}{b k:Nat}{e:κ}{v:γ}{f:Unit->M β}{Q:β->af->Prop}(hk:k<xs.length)
  (q:∀h',Z h0 h' (L.set i (.aD b ((xs.set k v).map enc) e))->Wp (f ()) h' Q) (hi:L[i]?=some (.aD b (xs.map enc) e):=by rfl) (hs:fi (enc v)=true:=by rfl):Wp (AI (bE ⟨b,k,none⟩ [enc v]) f) h Q:=
 z.st i (λh' z'=>q h' z') hi (yu hk) (by simp;omega) (by simp[hs])
theorem Tq {b n cap:Nat}{k:Int}{sz:Nat}(h1:0<=k)(h2:k<(n:Int)){f:Addr->M β}{Q:β->af->Prop}(q:Wp (f ⟨b,k.toNat*sz,none⟩) h Q):Wp (AI (ao ⟨some ⟨b,0,none⟩,n,cap⟩ k sz) f) h Q:=by
 rw[ag,sS];refine⟨_,rfl,h1,h2,?_⟩;unfold Addr.plus;simp only[aab];exact q
theorem Z.M9 (z:Z h0 h L)(i:Nat){s:Sl}{sz n:Nat}{e:κ}{cs new:δ}{g:Nat}{f:Sl->M β}{Q:β->af->Prop}(hi:L[i]?=some (.ps s sz e cs g))(hn:n≠0)(hl:new.length=n*sz)(hb:s.len+n<=cN)
  (q:∀s' h' g',s'.len=s.len+n->Z h0 h' (L.set i (.ps s' sz e (cs++new) g'))->Fr (·=g) h h'->Wp (f s') h' Q):Wp (AI (Ago.app false s sz e n new) f) h Q:=by
 rw[ag];have o:vA h s sz e cs g:=z.get i hi;refine o.app z.wf hn hl hb λs' h' g' h1 h2 h3 h4=>q s' h' g' h1 ?_ h4;by_cases hg:g=0
 .have h3:=h3.resolve_left (λx=>x.2 hg);have f0:Fr (λ_=>False) h h':=⟨h4.wf,h4.next,λj c g2 b e2 hj _=>h4.cells j c g2 b e2 hj λe3=>by rw[e3,hg],λg2 h5 _=>h4.jY g2 h5 λe3=>by rw[e3,hg],h4.used,h4.none,λj x hj _=>h4.maps j x hj (by omega)⟩
  have z1:=z.add f0 (o:=.ps s' sz e (cs++new) g') h2 (.inr (by simp only[dh.bG];omega));refine⟨z1.Iy,z1.fr,λx hx=>z1.own x ?_,yq l5 (List.pairwise_cons.1 z1.k8).2 λj y hj hne e2=>(List.pairwise_cons.1 z1.k8).1 y (OF hj) e2⟩
  grind
 .refine z.mY (o:=.ps s sz e cs g) hi hg h4 h2 ?_
  grind [dh.bG]
theorem Z.XS (z:Z h0 h L)(i:Nat){s:Sl}{e:κ}{cs:δ}{v:ξ}{g:Nat}{f:Sl->M β}{Q:β->af->Prop}(hi:L[i]?=some (.ps s 1 e (cs++[v]) g))
  (q:∀s',s'.len=cs.length->Z h0 h (L.set i (.ps s' 1 e cs g))->Wp (f s') h Q):Wp (AI (gf s 0 (((s.len:Nat):Int)-1) e 1) f) h Q:=by
 have o:vA h s 1 e (cs++[v]) g:=z.get i hi;refine o.cut λs' h1 h2=>q s' h1 ⟨z.Iy,z.fr,λx hx=>?_,yq l5 z.k8 λj y hj hne e2=>yr (R:=λa b:dh=>a.bG=b.bG->a.bG=0) l5 z.k8 (x:=.ps s 1 e (cs++[v]) g) hi hj (λe3=>hne e3.symm) e2⟩;rcases abr hx with hx|rfl
 .exact z.own x hx
 .exact⟨h2,(z.own _ (OF hi)).2⟩
theorem Z.dT (z:Z h0 h L){n:Nat}(ks:η){f:Nat->M β}{Q:β->af->Prop}(hk:ks.all (·<n)=true)(hd:ks.Nodup)
  (q:∀b h',Z h0 h' (ks.map (λk=>.free (b+k))++L)->Wp (f b) h' Q):Wp (AI (Ago.dT n) f) h Q:=by
 rw[ag,JX];have hf:=Fr.dT (n:=n) z.wf;have z1:=z.pure hf;have hkn:∀k∈ks,k<n:=λk hm=>by simpa using List.all_eq_true.1 hk k hm
 have hle:=z.fr.next
 refine q _ _ ⟨z.Iy,z1.fr,λo ho=>?_,List.pairwise_append.2 ⟨?_,z1.k8,λa ha b hb he=>?_⟩⟩
 .rcases List.mem_append.1 ho with ho|ho
  .obtain⟨k,hm,rfl⟩:=List.mem_map.1 ho;have:=hkn k hm;exact⟨⟨z.wf.used _ (by omega),by simp;omega,z.wf.get _ (by omega)⟩,.inr (by simp only[dh.bG];omega)⟩
  .exact z1.own o ho
 .grind [dh.bG]
 .obtain⟨k,hm,rfl⟩:=List.mem_map.1 ha;have:=dh.le (z.own b hb).1 z.wf;have he:h.next+k+1=b.bG:=he
  omega
theorem dh.VW {o:dh}{k:Nat}{e:κ}{cs:δ}(hk:o.ok h)(hf:DU h k)(hne:o.bG≠k+1):o.ok (h.bt k h.next e cs):=by
 have hb:∀j c g b e,h.get j=some (.cells c g b e)->j≠k:=λj c g b e hj hjk=>by subst hjk;rw[hf.2.2] at hj;cases hj
 cases o with
 |aD b cs e=>exact⟨by rw[ei (hb _ _ _ _ _ hk.get)];exact hk.get⟩
 |sl s sz e cs g=>
  obtain⟨h1,h2⟩:=hk;refine⟨h1,?_⟩;rcases h2 with h2|⟨h2,h3,h4,b,base,h5,h6,h7⟩
  .exact .inl h2
  .exact .inr ⟨h2,h3,h4,b,base,h5,by rw[ei (hb _ _ _ _ _ h6)];exact h6,by rw[qf (show g≠k+1 from hne)];exact h7⟩
 |ps s sz e cs g=>
  obtain⟨h1,h2⟩:=hk;refine⟨h1,?_⟩;rcases h2 with h2|⟨h2,h3,h4,b,base,c,h5,h6,h7⟩
  .exact .inl h2
  .exact .inr ⟨h2,h3,h4,b,base,c,h5,by rw[ei (hb _ _ _ _ _ h6)];exact h6,h7⟩
 |map m kt fn n=>exact⟨hk.ex⟩
 |free k2=>
  have hn:k2≠k:=λe=>hne (by rw[e];rfl);exact⟨by simp[af.bt,bZ hn];exact hk.1,hk.2.1,by rw[ei hn];exact hk.2.2⟩
 |Xk F sz e g=>
  obtain⟨h1,h2,base,h3⟩:=hk;refine⟨h1,h2,base,λx hx=>?_⟩
  grind [ei]
theorem Z.put (z:Z h0 h L){i k:Nat}(hi:L[i]?=some (.free k)){e:κ}{cs:δ}:Z h0 (h.bt k h.next e cs) (L.set i (.aD k cs e)):=by
 have hmem:=OF hi;have hf:DU h k:=(z.own _ hmem).1;have hg:h0.next<k+1:=(z.own _ hmem).2.resolve_left (by simp[dh.bG])
 have ho:∀j y,L[j]?=some y->j≠i->y.bG≠k+1:=λj y hj hne e=>by
  have:=yr l5 z.k8 hj hi hne e;rw[e] at this;omega
 refine⟨z.Iy,z.fr.bt z.Iy (by omega) hf.2.1,λx hx=>?_,yq l5 z.k8 λj y hj hne e2=>absurd e2.symm (ho j y hj hne)⟩;obtain⟨j,hj⟩:=List.mem_iff_getElem?.1 hx;rw[abQ] at hj;split at hj
 .split at hj
  .cases hj;exact⟨⟨fy⟩,.inr hg⟩
  .cases hj
 .rename_i hne;have hmy:=OF hj;exact⟨dh.VW (z.own x hmy).1 hf (ho j x hj λe2=>hne e2.symm),(z.own x hmy).2⟩
theorem Z.newAt (z:Z h0 h L)(i:Nat){k:Nat}{e:κ}{cs:δ}{f:Nat->M β}{Q:β->af->Prop}
  (q:∀h',Z h0 h' (L.set i (.aD k cs e))->Wp (f k) h' Q) (hi:L[i]?=some (.free k):=by rfl) (hs:cs.all fi=true:=by rfl):Wp (AI (aJ (some k) e cs) f) h Q:=by
 rw[ag,P8];have hf:DU h k:=(z.own _ (OF hi)).1;exact⟨hs,hf.1,hf.2.1,hf.2.2,q _ (z.put hi)⟩
theorem Z.Tr (z:Z h0 h L)(i:Nat){k:Nat}{e:κ}{c:δ}{n:Int}{f:Sl->M β}{Q:β->af->Prop}(h1:0<=n)(h2:n<=cN)
  (q:∀h',Z h0 h' (L.set i (.aD k (List.replicate n.toNat c).flatten e))->Wp (f ⟨some ⟨k,0,none⟩,n.toNat,n.toNat+1⟩) h' Q) (hi:L[i]?=some (.free k):=by rfl) (hs:c.all fi=true:=by rfl):Wp (AI (pT (some k) e c n n) f) h Q:=by
 rw[ag];have hf:DU h k:=(z.own _ (OF hi)).1;refine Qb h1 (Int.le_refl _) h2 hf.1 hf.2.1 hf.2.2 ?_ hs;exact q _ (z.put hi)
def Nb (h:af)(j b:Nat):Prop:=∃c g ba e,h.get j=some (.cells c g ba e)/\g≠b+1
theorem Cl.nb {a:Addr}{vs:δ}{g b:Nat}(c:Cl h a vs g)(hg:g≠b+1):Nb h a.block b:=by
 obtain⟨_,c,base,e,h2,_⟩:=c;exact⟨_,_,_,_,h2,hg⟩
theorem Z.nb0 (z:Z h0 h L)(i:Nat){a:Addr}{vs cs:δ}{g b:Nat}{e:κ}(c:Cl h0 a vs g)(hi:L[i]?=some (.aD b cs e)):Nb h a.block b:=by
 have hg:g<=h0.next:=by
  obtain⟨_,c,base,e,h2,_⟩:=c;exact z.Iy.bG _ _ _ _ _ h2
 have:=(z.own _ (OF hi)).2.resolve_left (by simp[dh.bG]);simp only[dh.bG] at this;exact (c.fr z.fr λhx=>hx.elim).nb (by omega)
theorem Z.VX (z:Z h0 h L)(i j:Nat){b b2:Nat}{cs cs2:δ}{e e2:κ}(hi:L[i]?=some (.aD b cs e))(hj:L[j]?=some (.aD b2 cs2 e2))(hne:j≠i):Nb h b2 b:=by
 have l:LB h b2 cs2 e2:=z.get j hj;refine⟨_,_,_,_,l.get,λe=>?_⟩
 grind [yr,l5,z.k8,dh.bG]
theorem Z.XT (z:Z h0 h L)(i:Nat){as:List θ}{b o:Nat}{cs vs cs':δ}{e:κ}{f:Unit->M β}{Q:β->af->Prop}
  (ha:∀a,some a∈as->Nb h a.block b)
  (q:∀h',Z h0 h' (L.set i (.aD b cs' e))->Wp (f ()) h' Q) (hi:L[i]?=some (.aD b cs e):=by rfl) (hc:bB cs o vs=cs':=by rfl) (ho:o+vs.length<=cs.length:=by first|decide|simp) (hs:vs.all fi=true:=by rfl) :
  Wp (AI (kO as (bE ⟨b,o,none⟩ vs)) f) h Q:=by
 rw[ag];have l:LB h b cs e:=z.get i hi;refine JZ (l.st z.wf ho hs λh' l' fr=>⟨λa hm=>?_,q h' (z.mY (o:=.aD b cs e) hi (by simp[dh.bG]) fr ?_ (.inl rfl))⟩)
 .obtain⟨c,g,ba,e3,h1,h2⟩:=ha a hm;rw[h1];exact fr.cells _ _ _ _ _ h1 λe=>absurd e h2
 .rw[<-hc];exact l'
theorem Z.VY (z:Z h0 h L)(i:Nat){as:List θ}{γ:Type}{enc:γ->ξ}{xs:List γ}{b k:Nat}{e:κ}{v:γ}{f:Unit->M β}{Q:β->af->Prop}(hk:k<xs.length)
  (ha:∀a,some a∈as->Nb h a.block b)
  (q:∀h',Z h0 h' (L.set i (.aD b ((xs.set k v).map enc) e))->Wp (f ()) h' Q) (hi:L[i]?=some (.aD b (xs.map enc) e):=by rfl) (hs:fi (enc v)=true:=by rfl):Wp (AI (kO as (bE ⟨b,k,none⟩ [enc v])) f) h Q:=
 z.XT i ha (λh' z'=>q h' z') hi (yu hk) (by simp;omega) (by simp[hs])
theorem Ts {ks:η}{a:Addr}{m:M α}{Q:α->af->Prop}{g:Nat}{c:δ}{ba:Nat}{e:κ}(hg:h.get a.block=some (.cells c g ba e))(hk:∀k∈ks,a.block≠k/\g≠k+1)(q:Wp m h Q):Wp (wb ks a m) h Q:=by
 obtain⟨x,h',e1,q⟩:=q;refine⟨x,h',?_,q⟩
 grind [SD,List.all_eq_true,bZ,wb]
theorem Z.wb (z:Z h0 h L)(i:Nat){ks:η}{b o:Nat}{cs:δ}{e:κ}{m:M α}{f:α->M β}{Q:β->af->Prop}(hk:∀k∈ks,b≠k)(q:Wp (AI m f) h Q)(hi:L[i]?=some (.aD b cs e):=by rfl) :
  Wp (AI (Ago.wb ks ⟨b,o,none⟩ m) f) h Q:=by
 rw[ag] at q⊢;have l:LB h b cs e:=z.get i hi;exact Ts l.get (λk hm=>⟨hk k hm,λe=>hk k hm (by omega)⟩) q
theorem Z.Y2 (z:Z h0 h L){kt:κ}{f:Nat->M β}{Q:β->af->Prop}(q:∀m h',Z h0 h' (.map m kt (λ_=>none) 0::L)->Wp (f m) h' Q):Wp (AI (vx kt) f) h Q:=by
 rw[ag];exact Io z.wf λh' l fr=>q _ h' (z.add (o:=.map h.next kt (λ_=>none) 0) fr l (.inr (aad _)))
theorem Z.fj (z:Z h0 h L)(i:Nat){m:Nat}{kt:κ}{fn:ξ->Option ξ}{n:Nat}{T:Ty}{d:T.den}{k:ξ}{f:Bool×T.den->M β}{Q:β->af->Prop}(hi:L[i]?=some (.map m kt fn n))
  (h1:∀v,fn k=some v->∃x,DC T v=some x/\Wp (f (true,x)) h Q) (h2:fn k=none->Wp (f (false,d)) h Q):Wp (AI (rN kt T d (some m) k) f) h Q:=by
 rw[ag];exact MB.Y0 (z.get i hi) h1 h2
theorem Z.Ql (z:Z h0 h L)(i:Nat){m:Nat}{kt:κ}{fn:ξ->Option ξ}{n:Nat}{T:Ty}{d:T.den}{k:ξ}{f:T.den×Nat->M β}{Q:β->af->Prop}(hi:L[i]?=some (.map m kt fn n))(hk:vF k k=true)
  (h1:∀v,fn k=some v->∃x,DC T v=some x/\∀st,zk h m k st->Wp (f (x,st)) h Q)
  (h2:fn k=none->∀h' st,Z h0 h' (L.set i (.map m kt (zj fn k (zL T d)) (n+1)))->zk h' m k st->Wp (f (d,st)) h' Q):Wp (AI (lT kt T d (some m) k) f) h Q:=by
 rw[ag];exact MB.entry (z.get i hi) z.wf hk h1 λhf h' st l hs fr=>h2 hf h' st (z.mY (o:=.map m kt fn n) hi (by simp[dh.bG]) fr l (.inl rfl)) hs
theorem Z.Qm (z:Z h0 h L)(i:Nat){m:Nat}{kt:κ}{fn:ξ->Option ξ}{n:Nat}{k v:ξ}{st:Nat}{f:Unit->M β}{Q:β->af->Prop}(hi:L[i]?=some (.map m kt fn n))(hs:zk h m k st)
  (q:∀h',Z h0 h' (L.set i (.map m kt (zj fn k v) n))->Wp (f ()) h' Q):Wp (AI (nW (some m) (st:Int) v) f) h Q:=by
 rw[ag];exact MB.store (z.get i hi) z.wf hs λh' l fr=>q h' (z.mY (o:=.map m kt fn n) hi (by simp[dh.bG]) fr l (.inl rfl))
theorem Z.ne (z:Z h0 h L)(i j:Nat){o p:dh}(hi:L[i]?=some o)(hj:L[j]?=some p)(hne:i≠j)(ho:o.bG≠0):p.bG≠o.bG:=λe=>by
 grind [yr,l5,z.k8,e.symm]
theorem Nc {γ:Type}(l:List γ):(List.range l.length).filterMap (λi=>l[i]?)=l:=by
 induction l with
 |nil=>rfl
 |cons a l ih=>
  rw[aae,List.range_succ_eq_map,List.filterMap_cons_some (f:=λi=>(a::l)[i]?) (b:=a) rfl,List.filterMap_map]
  conv=>rhs;rw[<-ih]
  rfl
theorem Z.lA {pre:List dh}(z:Z h0 h (pre++L))(p:η)(hp:p.Perm (List.range pre.length)):Z h0 h (p.filterMap (λi=>pre[i]?)++L):=by
 refine z.perm (acM _ ?_);have:=hp.filterMap (λi=>pre[i]?);rw[Nc] at this;exact this.symm
end Go.Ago
