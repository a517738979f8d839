
import Derived.Test.YtengdffgmpghgaaGreatDoorAgoW
set_option linter.all false
namespace Go.Ago
open Go
variable {α β:Type}{h h' h0:ab}{X:Nat->Prop}
def Cl (h:ab)(a:Addr)(vs:δ)(g:Nat):Prop:=
 a.spot=none/\∃c base e,h.get a.block=some (.cells c g base e)/\a.off+vs.length<=c.length/\(c.drop a.off).take vs.length=vs
theorem Cl.fr {a:Addr}{vs:δ}{g:Nat}(c:Cl h a vs g)(f:Fr X h h')(hx:X g->g=0):Cl h' a vs g:=by
 obtain⟨h1,c,base,e,h2,h3,h4⟩:=c;exact⟨h1,c,base,e,f.cells _ _ _ _ _ h2 hx,h3,h4⟩
theorem Cl.get {a:Addr}{vs:δ}{g o:Nat}{v:ξ}(c:Cl h a vs g)(hv:vs[o]?=some v){l:eD}{x:l.den}(hx:AX l v=some x):h.ld l a.block (a.off+o)=some x:=by
 obtain⟨h1,c,base,e,h2,h3,h4⟩:=c;unfold ab.ld
 grind
theorem Cl.ld {a:Addr}{vs:δ}{g:Nat}(c:Cl h a vs g){o:Nat}{v:ξ}(hv:vs[o]?=some v){l:eD}{x:l.den}(hx:AX l v=some x){f:l.den->M β}{Q:β->ab->Prop}
  (q:Wp (f x) h Q):Wp (sh (ak l (a.plus o)) f) h Q:=by
 rw[ag,wj];exact⟨x,c.get hv hx,q⟩
theorem Cl.rz {a:Addr}{vs:δ}{g:Nat}(c:Cl h a vs g){v:ξ}(hv:vs[0]?=some v){l:eD}{x:l.den}(hx:AX l v=some x){f:l.den->M β}{Q:β->ab->Prop}
  (q:Wp (f x) h Q):Wp (sh (ak l a) f) h Q:=by
 rw[ag,wj];exact⟨x,c.get hv hx,q⟩
theorem Cl.fG {a:Addr}{vs:δ}{g:Nat}(c:Cl h a vs g){ls:List eD}{x:eI ls}(hx:Ao ls vs=some x){f:eI ls->M β}{Q:β->ab->Prop}
  (q:Wp (f x) h Q) (hl:ls.length=vs.length:=by rfl):Wp (sh (aE ls a) f) h Q:=by
 rw[ag,Ci];refine⟨x,?_,q⟩;obtain⟨h1,c,base,e,h2,h3,h4⟩:=c;unfold ab.fG;rw[h2];simp only;rw[hl,By h3,h4];exact hx
def rO (h:ab)(s:Sl)(sz:Nat)(cs:δ)(g:Nat):Prop:=
 cs.length=s.len*sz/\(s.len=0\/∃a,s.a=some a/\Cl h a cs g)
theorem rO.fr {s:Sl}{sz:Nat}{cs:δ}{g:Nat}(r:rO h s sz cs g)(f:Fr X h h')(hx:X g->g=0):rO h' s sz cs g:=by
 refine⟨r.1,?_⟩;rcases r.2 with h1|⟨a,h1,h2⟩
 .exact .inl h1
 .exact .inr ⟨a,h1,h2.fr f hx⟩
theorem wq.Fi {s:Sl}{sz:Nat}{e:κ}{cs:δ}{g:Nat}(o:wq h s sz e cs g):rO h s sz cs g:=by
 refine⟨o.1,?_⟩;rcases o.2 with⟨rfl,_⟩|⟨_,_,_,b,base,h1,h2,_⟩
 .exact .inl rfl
 .exact .inr ⟨_,h1,rfl,cs,base,e,h2,by simp,by simp⟩
theorem LB.Fi {b n cap sz:Nat}{cs:δ}{e:κ}(l:LB h b cs e)(hn:cs.length=n*sz):rO h ⟨some ⟨b,0,none⟩,n,cap⟩ sz cs (b+1):=
 ⟨hn,.inr ⟨_,rfl,rfl,cs,0,e,l.get,by simp,by simp⟩⟩
theorem rO.nil {s:Sl}{sz:Nat}(hs:s.len=0):rO h s sz [] 0:=⟨by simp[hs],.inl hs⟩
theorem rO.ix {s:Sl}{sz:Nat}{cs:δ}{g:Nat}(r:rO h s sz cs g){k:Int}(h1:0<=k)(h2:k<s.len){f:Addr->M β}{Q:β->ab->Prop}
  (q:∀a,Cl h a ((cs.drop (k.toNat*sz)).take sz) g->Wp (f a) h Q):Wp (sh (an s k sz) f) h Q:=by
 rcases r.2 with h3|⟨a,h3,h4,c,base,e,h5,h6,h7⟩
 .omega
 rw[ag,Ad];refine⟨a,h3,h1,h2,q _ ⟨rfl,c,base,e,h5,?_,?_⟩⟩
 .show a.off+k.toNat*sz+_<=_;rw[afd,ajw];have hk:k.toNat+1<=s.len:=by omega
  have:=adr sz hk;rw[ad8,aiT] at this;have:=r.1;omega
 .show (c.drop (a.off+k.toNat*sz)).take _=_;have hk:k.toNat+1<=s.len:=by omega
  have hm:=adr sz hk;rw[ad8,aiT] at hm;have hl:=r.1;have hlen:((cs.drop (k.toNat*sz)).take sz).length=sz:=by rw[afd,ajw];omega
  grind [List.drop_drop,List.drop_take]
theorem aif {γ:Type}{enc:γ->ξ}{xs:List γ}{i:Nat}{v:γ}(hv:xs[i]?=some v):(((xs.map enc).drop (i*1)).take 1)=[enc v]:=by
 rw[adp]
 grind [List.getElem?_eq_some_iff,List.drop_eq_getElem_cons]
theorem rO.ix1 {γ:Type}{enc:γ->ξ}{xs:List γ}{s:Sl}{g:Nat}(r:rO h s 1 (xs.map enc) g){k:Int}{v:γ}(h1:0<=k)(hv:xs[k.toNat]?=some v){f:Addr->M β}{Q:β->ab->Prop}
  (q:∀a,Cl h a [enc v] g->Wp (f a) h Q):Wp (sh (an s k 1) f) h Q:=by
 have hlt:=(List.getElem?_eq_some_iff.1 hv).1;have hl:=r.1;rw[ae1,adp] at hl;refine r.ix h1 (by omega) λa c=>q a ?_;rw[aif hv] at c;exact c
theorem rO.ixN {γ:Type}{enc:γ->δ}{sz:Nat}(he:∀x,(enc x).length=sz){xs:List γ}{s:Sl}{g:Nat}(r:rO h s sz (xs.flatMap enc) g){k:Int}{v:γ}(h1:0<=k)(h2:k<s.len)(hv:xs[k.toNat]?=some v)
  {f:Addr->M β} {Q:β->ab->Prop} (q:∀a,Cl h a (enc v) g->Wp (f a) h Q):Wp (sh (an s k sz) f) h Q:=by
 refine r.ix h1 h2 λa c=>q a ?_;rw[TM he hv] at c;exact c
theorem rO.GQ {γ:Type}{enc:γ->ξ}{xs:List γ}{s:Sl}{g:Nat}(r:rO h s 1 (xs.map enc) g):s.len=xs.length:=by
 have hl:=r.1;rw[ae1,adp] at hl;exact hl.symm
def yq (h:ab)(s:Sl)(sz:Nat)(e:κ)(cs:δ)(g:Nat):Prop:=
 cs.length=s.len*sz/\((s=⟨none,0,0⟩/\g=0)\/(0<g/\g<=h.next/\s.cap=0/\∃b base c,s.a=some ⟨b,0,none⟩/\h.get b=some (.cells c g base e)/\c.take cs.length=cs))
theorem yq.nil {sz:Nat}{e:κ}:yq h ⟨none,0,0⟩ sz e [] 0:=⟨by simp,.inl ⟨rfl,rfl⟩⟩
theorem yq.fr {s:Sl}{sz:Nat}{e:κ}{cs:δ}{g:Nat}(o:yq h s sz e cs g)(f:Fr X h h')(hg:X g->g=0):yq h' s sz e cs g:=by
 obtain⟨h1,h2⟩:=o;refine⟨h1,?_⟩;rcases h2 with h2|⟨h2,h3,h4,b,base,c,h5,h6,h7⟩
 .exact .inl h2
 .exact .inr ⟨h2,abi h3 f.next,h4,b,base,c,h5,f.cells _ _ _ _ _ h6 hg,h7⟩
theorem yq.le {s:Sl}{sz:Nat}{e:κ}{cs:δ}{g:Nat}(o:yq h s sz e cs g):g<=h.next:=by
 obtain⟨_,h2⟩:=o;rcases h2 with⟨_,h2⟩|⟨h2,h3,_⟩<;>omega
theorem RI {γ:Type}{c cs:List γ}(hc:c.take cs.length=cs):cs.length<=c.length:=by
 grind
theorem yq.Fi {s:Sl}{sz:Nat}{e:κ}{cs:δ}{g:Nat}(o:yq h s sz e cs g):rO h s sz cs g:=by
 refine⟨o.1,?_⟩;rcases o.2 with⟨rfl,_⟩|⟨_,_,_,b,base,c,h1,h2,h3⟩
 .exact .inl rfl
 .exact .inr ⟨_,h1,rfl,c,base,e,h2,by simpa using RI h3,by simpa using h3⟩
theorem yq.app {s:Sl}{sz:Nat}{e:κ}{cs new:δ}{g n:Nat}{Q:Sl->ab->Prop}(o:yq h s sz e cs g)(hw:WF h)(hn:n≠0)(hl:new.length=n*sz)(hb:s.len+n<=cT)
  (hq:∀s' h' g',s'.len=s.len+n->yq h' s' sz e (cs++new) g'->(g'=g/\g≠0\/g'=h.next+1)->Fr (·=g) h h'->Q s' h'):Wp (Ago.app false s sz e n new) h Q:=by
 obtain⟨h1,h2⟩:=o;have hnx:=hw.get h.next (aae _)
 have key:Ago.app false s sz e n new h=uJ false s sz e n new h:=by unfold Ago.app;simp
 suffices hh:∃s' h' ,uJ false s sz e n new h=some (s',h')/\Q s' h' by
  obtain⟨s',h',e1,e2⟩:=hh;exact⟨s',h',by rw[key];exact e1,e2⟩
 rcases h2 with⟨rfl,rfl⟩|⟨h2,h3,h4,b,base,c,h5,h6,h7⟩
 .have hc:cs=[]:=acu (by simpa using h1);subst hc;refine⟨_,_,?_,hq ⟨some ⟨h.next,0,none⟩,n,0⟩ (h.new e new) (h.next+1) (by simp) ⟨by simp[hl],.inr ⟨by omega,by simp[ab.new,ab.cS],rfl,h.next,0,new,rfl,kL,ajP⟩⟩ (.inr rfl) ((Fr.new hw).mono hw (λ_ hx _=>hx.elim))⟩
  unfold uJ
  grind
 .have hle:=RI h7;have hcells:aX h (some ⟨b,0,none⟩) (s.len*sz)=some cs:=by simp[aX,h6,<-h1,h7,hle]
  by_cases ht:h.ot g=base+0+s.len*sz
  .refine⟨⟨some ⟨h.next,0,none⟩,s.len+n,0⟩,{ h with get:=λj=>cond (Nat.beq j h.next) (some (.cells (cs++new) g (base+0) e)) (h.get j),next:=h.next+1,ot:=λg'=>cond (Nat.beq g' g) (base+0+s.len*sz+new.length) (h.ot g'),used:=λj=>cond (Nat.beq j h.next) true (h.used j) },?_,hq _ _ g rfl ?_ (.inl ⟨rfl,by omega⟩) ?_⟩
   .unfold uJ;simp only[xj]
    grind
   .exact⟨by simp[h1,hl,ad8],.inr ⟨h2,by simp;omega,rfl,h.next,base+0,cs++new,rfl,by simp[gO],ajP⟩⟩
   .refine⟨⟨λj hj=>?_,λj hj=>?_,λj c g' b' e' hj=>?_,λj hj=>hw.maps j (by simp at hj;omega)⟩,air _,?_,?_,?_,?_,λ_ _ e _=>e⟩
    .simp at hj;simp[bw (show j≠h.next by omega)];exact hw.get j (by omega)
    .simp at hj;simp[bw (show j≠h.next by omega)];exact hw.used j (by omega)
    .simp only at hj;by_cases hjn:j=h.next
     .subst hjn;simp[gO] at hj;simp;omega
     .simp[bw hjn] at hj;have:=hw.eJ _ _ _ _ _ hj;simp;omega
    .intro j c g' b' e' hj _;have:j≠h.next:=λhjn=>by subst hjn;rw[hnx] at hj;cases hj
     simp[bw this];exact hj
    .grind [bw]
    .intro j hj;simp[bw (show j≠h.next by omega)]
    .intro j hj hx;simp[bw (show j≠h.next by omega)];exact hx
  .refine⟨⟨some ⟨h.next,0,none⟩,s.len+n,0⟩,{ h with get:=λj=>cond (Nat.beq j h.next) (some (.cells (cs++new) g (base+0) e)) (match h.get j with|some (.cells c' g' base' elem')=>cond (Nat.beq g' g&&Nat.blt (base+0+s.len*sz) (base'+c'.length)) none (some (.cells c' g' base' elem'))|o=>o),next:=h.next+1,ot:=λg'=>cond (Nat.beq g' g) (base+0+s.len*sz+new.length) (h.ot g'),used:=λj=>cond (Nat.beq j h.next) true (h.used j) },?_,hq _ _ g rfl ?_ (.inl ⟨rfl,by omega⟩) ?_⟩
   .unfold uJ;simp only[xj]
    grind
   .exact⟨by simp[h1,hl,ad8],.inr ⟨h2,by simp;omega,rfl,h.next,base+0,cs++new,rfl,by simp[gO],ajP⟩⟩
   .refine⟨⟨λj hj=>?_,λj hj=>?_,λj c g' b' e' hj=>?_,λj hj=>hw.maps j (by simp at hj;omega)⟩,air _,?_,?_,?_,?_,λ_ _ e _=>e⟩
    .simp at hj;simp[bw (show j≠h.next by omega),hw.get j (by omega)]
    .simp at hj;simp[bw (show j≠h.next by omega)];exact hw.used j (by omega)
    .simp only at hj;by_cases hjn:j=h.next
     .subst hjn;simp[gO] at hj;simp;omega
     .simp only[bw hjn,ait] at hj;cases hgj:h.get j with
      |none=>rw[hgj] at hj;cases hj
      |some o=>
       rw[hgj] at hj;cases o with
       |cells c2 g2 b2 e2=>
        simp only at hj;cases hq2:(Nat.beq g2 g&&Nat.blt (base+0+s.len*sz) (b2+c2.length)) with
        |true=>rw[hq2] at hj;cases hj
        |false=>
         rw[hq2] at hj;simp only[ait,aai] at hj;cases hj;have:=hw.eJ _ _ _ _ _ hgj;simp;omega
       |_=>cases hj
    .intro j c g' b' e' hj hx;have hjn:j≠h.next:=λhjn=>by subst hjn;rw[hnx] at hj;cases hj
     have:Nat.beq g' g=false:=by
      refine bw λe=>?_;have:=hx e;omega
     simp only[bw hjn,ait,hj,this,akX]
    .grind [bw]
    .intro j hj;simp[bw (show j≠h.next by omega)]
    .intro j hj hx;simp[bw (show j≠h.next by omega),hx]
theorem yq.cut {e:κ}{s:Sl}{cs:δ}{v:ξ}{g:Nat}{β:Type}{f:Sl->M β}{Q:β->ab->Prop}(o:yq h s 1 e (cs++[v]) g)(q:∀s',s'.len=cs.length->yq h s' 1 e cs g->Wp (f s') h Q) :
  Wp (sh (jT s 0 (((s.len:Nat):Int)-1) e 1) f) h Q:=by
 obtain⟨h1,h2⟩:=o;rw[aa8,adp] at h1;simp at h1;rcases h2 with⟨rfl,_⟩|⟨h2,h3,h4,b,base,c,h5,h6,h7⟩
 .simp at h1
 rw[ag];refine wT (by omega) (by omega) (by omega) (by simp[jd,h5,h6]) (q _ (by simp;omega) ⟨by simp;omega,.inr ⟨h2,h3,by simp[h4],b,base,c,by simp[h5,Addr.plus],h6,?_⟩⟩);have:=ahv (List.take cs.length) h7
 grind
def Fam (h:ab)(F:List (Sl×δ))(sz:Nat)(e:κ)(g:Nat):Prop:=
 0<g/\g<=h.next/\∃base,∀x∈F,x.2.length=x.1.len*sz/\x.1.cap=0/\∃b,x.1.a=some ⟨b,0,none⟩/\h.get b=some (.cells x.2 g base e)
theorem Fam.fr {F:List (Sl×δ)}{sz:Nat}{e:κ}{g:Nat}(o:Fam h F sz e g)(f:Fr X h h')(hg:X g->g=0):Fam h' F sz e g:=by
 obtain⟨h1,h2,base,h3⟩:=o;refine⟨h1,abi h2 f.next,base,λx hx=>?_⟩
 obtain⟨a,b,c,d,k⟩:=h3 x hx;exact⟨a,b,c,d,f.cells _ _ _ _ _ k hg⟩
theorem Fam.app {F:List (Sl×δ)}{sz:Nat}{e:κ}{g n:Nat}{s:Sl}{cs new:δ}{Q:Sl->ab->Prop}(o:Fam h F sz e g)(hw:WF h)(hm:(s,cs)∈F)(hmax:∀x∈F,x.2.length<=cs.length)(hn:n≠0)(hl:new.length=n*sz)(hb:s.len+n<=cT)
  (hq:∀s' h',s'.len=s.len+n->Fam h' ((s',cs++new)::F) sz e g->Fr (·=g) h h'->Q s' h'):Wp (Ago.app false s sz e n new) h Q:=by
 obtain⟨h2,h3,base,hF⟩:=o;obtain⟨h1,h4,b,h5,h6⟩:=hF _ hm;simp only at h1 h4 h5 h6;have hnx:=hw.get h.next (aae _)
 have key:Ago.app false s sz e n new h=uJ false s sz e n new h:=by unfold Ago.app;simp
 suffices hh:∃s' h' ,uJ false s sz e n new h=some (s',h')/\Q s' h' by
  obtain⟨s',h',e1,e2⟩:=hh;exact⟨s',h',by rw[key];exact e1,e2⟩
 have hcells:aX h (some ⟨b,0,none⟩) (s.len*sz)=some cs:=by simp[aX,h6,<-h1]
 have fin:∀h':ab,h'.next=h.next+1->(∀j,h'.get j=cond (Nat.beq j h.next) (some (.cells (cs++new) g (base+0) e)) (match h.get j with
    |some (.cells c' g' base' elem')=>cond (Nat.beq g' g&&Nat.blt (base+0+s.len*sz) (base'+c'.length)) none (some (.cells c' g' base' elem'))
    |o=>o)\/(h'.get j=cond (Nat.beq j h.next) (some (.cells (cs++new) g (base+0) e)) (h.get j))) ->
   (∀g',g'≠g->h'.ot g'=h.ot g')->(∀j,j≠h.next->h'.used j=h.used j)->(∀j,h'.kZ j=h.kZ j)->Q ⟨some ⟨h.next,0,none⟩,s.len+n,0⟩ h':=by
  intro h' e1 hget e3 e4 e5;have na:∀j k,j≠h.next->h'.get j=some k->h.get j=some k:=λj k hj hk=>by
   rcases hget j with q|q
   .rw[q,bw hj,ait] at hk
    grind
   .rw[q,bw hj,ait] at hk;exact hk
  have stay:∀j c g' b' e',h.get j=some (.cells c g' b' e')->(g'=g->b'+c.length<=base+s.len*sz)->h'.get j=some (.cells c g' b' e'):=λj c g' b' e' hj hc=>by
   have hjn:j≠h.next:=λq=>by subst q;rw[hnx] at hj;cases hj
   rcases hget j with q|q
   .rw[q,bw hjn,ait,hj];simp only;by_cases hg:g'=g
    .have:Nat.blt (base+0+s.len*sz) (b'+c.length)=false:=by
      have:=hc hg;cases hq:Nat.blt (base+0+s.len*sz) (b'+c.length) with
      |false=>rfl
      |true=>
       have:=ae6 hq;omega
     rw[this,Bool.and_false];rfl
    .rw[bw hg];rfl
   .rw[q,bw hjn,ait];exact hj
  have self:h'.get h.next=some (.cells (cs++new) g (base+0) e):=by
   rcases hget h.next with q|q<;>rw[q,gO]<;>rfl
  refine hq _ _ rfl ⟨h2,by omega,base,λx hx=>?_⟩ ⟨⟨λj hj=>?_,λj hj=>?_,λj c g' b' e' hj=>?_,λj hj=>?_⟩,by omega,λj c g' b' e' hj hx=>?_,λg' _ hx=>?_,λj hj=>?_,λj hj hx=>?_,λj x hj _=>by rw[e5];exact hj⟩
  .rcases List.mem_cons.1 hx with rfl|hx
   .grind
   grind
  .cases hk:h'.get j with
   |none=>rfl
   |some k=>have:=na j k (by omega) hk;rw[hw.get j (by omega)] at this;cases this
  .rw[e4 j (by omega)];exact hw.used j (by omega)
  .by_cases hjn:j=h.next
   .subst hjn;rw[self] at hj;cases hj;omega
   .have:=hw.eJ _ _ _ _ _ (na j _ hjn hj);omega
  .rw[e5];exact hw.maps j (by omega)
  .exact stay _ _ _ _ _ hj λe=>by have:=hx e;omega
  .exact e3 g' λe=>by have:=hx e;omega
  .exact e4 j (by omega)
  .cases hk:h'.get j with
   |none=>rfl
   |some k=>have:=na j k (by omega) hk;rw[hx] at this;cases this
 by_cases ht:h.ot g=base+0+s.len*sz
 .refine⟨⟨some ⟨h.next,0,none⟩,s.len+n,0⟩,{ h with get:=λj=>cond (Nat.beq j h.next) (some (.cells (cs++new) g (base+0) e)) (h.get j),next:=h.next+1,ot:=λg'=>cond (Nat.beq g' g) (base+0+s.len*sz+new.length) (h.ot g'),used:=λj=>cond (Nat.beq j h.next) true (h.used j) },?_,fin _ rfl (λj=>.inr rfl) (λg' hg=>by simp[bw hg]) (λj hj=>by simp[bw hj]) λ_=>rfl⟩
  unfold uJ;rw[AT hn,AT (by simp[hb,hl]),h5];simp only[xj]
  grind
 .refine⟨⟨some ⟨h.next,0,none⟩,s.len+n,0⟩,{ h with get:=λj=>cond (Nat.beq j h.next) (some (.cells (cs++new) g (base+0) e)) (match h.get j with|some (.cells c' g' base' elem')=>cond (Nat.beq g' g&&Nat.blt (base+0+s.len*sz) (base'+c'.length)) none (some (.cells c' g' base' elem'))|o=>o),next:=h.next+1,ot:=λg'=>cond (Nat.beq g' g) (base+0+s.len*sz+new.length) (h.ot g'),used:=λj=>cond (Nat.beq j h.next) true (h.used j) },?_,fin _ rfl (λj=>.inl rfl) (λg' hg=>by simp[bw hg]) (λj hj=>by simp[bw hj]) λ_=>rfl⟩
  unfold uJ;rw[AT hn,AT (by simp[hb,hl]),h5];simp only[xj]
  grind
inductive bA where
 |av (b:Nat) (cs:δ) (e:κ)
 |sl (s:Sl) (sz:Nat) (e:κ) (cs:δ) (g:Nat)
 |map (m:Nat) (kt:κ) (f:ξ->Option ξ) (n:Nat)
 |ps (s:Sl) (sz:Nat) (e:κ) (cs:δ) (g:Nat)
 |free (k:Nat)
 |fam (F:List (Sl×δ)) (sz:Nat) (e:κ) (g:Nat)
def H6 (h:ab)(k:Nat):Prop:=h.used k=false/\k<h.next/\h.get k=none
theorem H6.fr {k:Nat}(f:H6 h k)(r:Fr X h h'):H6 h' k:=⟨by rw[r.used k f.2.1];exact f.1,aiq f.2.1 r.next,r.none k f.2.1 f.2.2⟩
def bA.ok (h:ab):bA->Prop
 |.av b cs e=>LB h b cs e
 |.sl s sz e cs g=>wq h s sz e cs g
 |.map m kt f n=>MB h m kt f n
 |.ps s sz e cs g=>yq h s sz e cs g
 |.free k=>H6 h k
 |.fam F sz e g=>Fam h F sz e g
def bA.eJ:bA->Nat
 |.av b _ _=>b+1
 |.sl _ _ _ _ g=>g
 |.map m _ _ _=>m+1
 |.ps _ _ _ _ g=>g
 |.free k=>k+1
 |.fam _ _ _ g=>g
theorem bA.adt {o:bA}(hk:o.ok h)(f:Fr X h h')(hx:X o.eJ->o.eJ=0):o.ok h':=by
 cases o with
 |av b cs e=>exact LB.fr hk f (λhx2=>by have:=hx hx2;simp[bA.eJ] at this)
 |sl s sz e cs g=>exact wq.fr hk f hx
 |map m kt fn n=>exact MB.fr hk f (λhx2=>by have:=hx hx2;simp[bA.eJ] at this)
 |ps s sz e cs g=>exact yq.fr hk f hx
 |free k=>exact H6.fr hk f
 |fam F sz e g=>exact Fam.fr hk f hx
theorem bA.le {o:bA}(hk:o.ok h)(hw:WF h):o.eJ<=h.next:=by
 cases o with
 |av b cs e=>exact LB.lt hk hw
 |sl s sz e cs g=>exact wq.le hk
 |map m kt fn n=>exact MB.lt hk hw
 |ps s sz e cs g=>exact yq.le hk
 |free k=>exact hk.2.1
 |fam F sz e g=>exact hk.2.1
structure Z (h0 h:ab) (L:List bA):Prop where
 PC:WF h0
 fr:Fr (λ_=>False) h0 h
 own:∀o∈L,o.ok h/\(o.eJ=0\/h0.next<o.eJ)
 uo:L.Pairwise λa b=>a.eJ=b.eJ->a.eJ=0
variable {L:List bA}
theorem Z.start (hw:WF h):Z h h []:=⟨hw,Fr.refl hw,by simp,.nil⟩
theorem Z.wf (z:Z h0 h L):WF h:=z.fr.wf
theorem Z.step (z:Z h0 h L)(f:Fr X h h')(hx:∀g,X g->g≠0->h0.next<g)(ho:∀o∈L,X o.eJ->o.eJ=0):Z h0 h' L:=
 ⟨z.PC,z.fr.trans z.PC f λg hg h0=>.inr (hx g hg h0),λo hm=>⟨bA.adt (z.own o hm).1 f (ho o hm),(z.own o hm).2⟩,z.uo⟩
theorem Z.pure (z:Z h0 h L)(f:Fr (λ_=>False) h h'):Z h0 h' L:=z.step f (λ_ hx=>hx.elim) λ_ _ hx=>hx.elim
theorem Z.add (z:Z h0 h L)(f:Fr (λ_=>False) h h'){o:bA}(hk:o.ok h')(hg:o.eJ=0\/h.next<o.eJ):Z h0 h' (o::L):=by
 have z1:=z.pure f;have hle:=z.fr.next
 refine⟨z.PC,z1.fr,λx hx=>?_,.cons (λx hx he=>?_) z1.uo⟩
 .rcases List.mem_cons.1 hx with rfl|hx
  .exact⟨hk,hg.imp id λh1=>by omega⟩
  .exact z1.own x hx
 .rcases hg with hg|hg
  .exact hg
  .have:=bA.le (z.own x hx).1 z.wf;omega
theorem Z.drop {o:bA}(z:Z h0 h (o::L)):Z h0 h L:=⟨z.PC,z.fr,λx hx=>z.own x (IN _ hx),(List.pairwise_cons.1 z.uo).2⟩
theorem Z.sub {L':List bA}(z:Z h0 h L)(hs:L'.Sublist L):Z h0 h L':=⟨z.PC,z.fr,λx hx=>z.own x (hs.subset hx),z.uo.sublist hs⟩
theorem Z.get (z:Z h0 h L)(i:Nat){o:bA}(hi:L[i]?=some o):o.ok h:=(z.own o (BY hi)).1
theorem Dt {γ:Type}{R:γ->γ->Prop}(hsym:∀a b,R a b->R b a):∀{l:List γ} {i:Nat} {x:γ},l.Pairwise R->(∀j y,l[j]?=some y->j≠i->R x y)->(l.set i x).Pairwise R
 |[],i,x,_,_=>by simp
 |a::l,0,x,hp,hx=>by
  grind [List.pairwise_cons,List.mem_iff_getElem?]
 |a::l,i+1,x,hp,hx=>by
  rw[ai6];obtain⟨h1,h2⟩:=List.pairwise_cons.1 hp;refine .cons (λy hy=>?_) (Dt hsym h2 λj y hj hne=>hx (j+1) y (by simpa using hj) (by omega));rcases ahS hy with hy|hy
  .exact h1 y hy
  .subst hy;exact hsym _ _ (hx 0 a rfl (by omega))
theorem Du {γ:Type}{R:γ->γ->Prop}(hsym:∀a b,R a b->R b a):∀{l:List γ} {i j:Nat} {x y:γ},l.Pairwise R->l[i]?=some x->l[j]?=some y->i≠j->R x y
 |[],i,j,x,y,_,hi,_,_=>by simp at hi
 |a::l,0,0,x,y,_,_,_,hn=>absurd rfl hn
 |a::l,0,j+1,x,y,hp,hi,hj,_=>by
  grind [List.pairwise_cons,List.mem_of_getElem?]
 |a::l,i+1,0,x,y,hp,hi,hj,_=>by
  grind [List.pairwise_cons,List.mem_of_getElem?]
 |a::l,i+1,j+1,x,y,hp,hi,hj,hn=>Du hsym (List.pairwise_cons.1 hp).2 (by simpa using hi) (by simpa using hj) (by omega)
theorem qq (a b:bA)(hr:a.eJ=b.eJ->a.eJ=0):b.eJ=a.eJ->b.eJ=0:=λe=>by rw[e];exact hr e.symm
theorem Z.sW (z:Z h0 h L){i:Nat}{o o':bA}(hi:L[i]?=some o)(ho:o.eJ≠0)(f:Fr (·=o.eJ) h h')(hk:o'.ok h')(hg:o'.eJ=o.eJ\/o'.eJ=0\/h.next<o'.eJ):Z h0 h' (L.set i o'):=by
 have hmem:=BY hi;have hfresh:h0.next<o.eJ:=(z.own o hmem).2.resolve_left ho
 have hothers:∀j y,L[j]?=some y->j≠i->y.eJ≠o.eJ:=λj y hj hne e=>ho (by rw[<-e];exact Du qq z.uo hj hi hne e);refine⟨z.PC,z.fr.trans z.PC f λg hg h0=>.inr (by rw[hg];exact hfresh),λx hx=>?_,Dt qq z.uo λj y hj hne e=>?_⟩
 .obtain⟨j,hj⟩:=List.mem_iff_getElem?.1 hx;rw[List.getElem?_set] at hj;split at hj
  .grind [Nat.lt_of_le_of_lt,z.fr.next]
  .rename_i hne;have hmy:=BY hj;exact⟨bA.adt (z.own x hmy).1 f λe=>absurd e (hothers j x hj λe2=>hne e2.symm),(z.own x hmy).2⟩
 .rcases hg with hg|hg|hg
  .exact absurd (e.symm.trans hg) (hothers j y hj hne)
  .exact hg
  .have:=bA.le (z.own y (BY hj)).1 z.wf;omega
theorem Z.perm {L':List bA}(z:Z h0 h L)(hp:L.Perm L'):Z h0 h L':=⟨z.PC,z.fr,λx hx=>z.own x (hp.mem_iff.2 hx),(hp.pairwise_iff λ{a b}=>qq a b).1 z.uo⟩
theorem Z.new (z:Z h0 h L){e:κ}{cs:δ}{f:Nat->M β}{Q:β->ab->Prop}
  (q:∀b h',Z h0 h' (.av b cs e::L)->Fr (λ_=>False) h h'->Wp (f b) h' Q) (hs:cs.all eB=true:=by rfl):Wp (sh (aJ none e cs) f) h Q:=by
 rw[ag,Bi];have hf:=Fr.new (e:=e) (cs:=cs) z.wf;exact⟨hs,q _ _ (z.add hf (o:=.av h.next cs e) LB.new (.inr (aad _))) hf⟩
theorem Z.JE (z:Z h0 h L){e:κ}{c:δ}{n:Int}{f:Sl->M β}{Q:β->ab->Prop}(h1:0<=n)(h2:n<=cT)
  (q:∀b h',Z h0 h' (.av b (List.replicate n.toNat c).flatten e::L)->Fr (λ_=>False) h h'->Wp (f ⟨some ⟨b,0,none⟩,n.toNat,n.toNat+1⟩) h' Q) (hs:c.all eB=true:=by rfl):Wp (sh (vG none e c n n) f) h Q:=by
 rw[ag];refine Jy h1 (ai0 _) h2 ?_ hs;have hf:=Fr.new (e:=e) (cs:=(List.replicate n.toNat c).flatten) z.wf;exact q _ _ (z.add hf (o:=.av h.next _ e) LB.new (.inr (aad _))) hf
theorem LB.cl {b:Nat}{cs:δ}{e:κ}(l:LB h b cs e):Cl h ⟨b,0,none⟩ cs (b+1):=⟨rfl,cs,0,e,l.get,by simp,by simp⟩
theorem Z.cl (z:Z h0 h L)(i:Nat){b:Nat}{cs:δ}{e:κ}(hi:L[i]?=some (.av b cs e)):Cl h ⟨b,0,none⟩ cs (b+1):=LB.cl (z.get i hi)
theorem Z.ld (z:Z h0 h L)(i:Nat){b o:Nat}{cs:δ}{e:κ}{l:eD}{v:ξ}{x:l.den}{f:l.den->M β}{Q:β->ab->Prop}
  (q:Wp (f x) h Q) (hi:L[i]?=some (.av b cs e):=by rfl) (hv:cs[o]?=some v:=by rfl) (hx:AX l v=some x:=by rfl):Wp (sh (ak l ⟨b,o,none⟩) f) h Q:=by
 rw[ag,wj];exact⟨x,LB.ld (z.get i hi) hv hx,q⟩
theorem Z.fG (z:Z h0 h L)(i:Nat){b:Nat}{cs:δ}{e:κ}{ls:List eD}{x:eI ls}{f:eI ls->M β}{Q:β->ab->Prop}
  (q:Wp (f x) h Q) (hi:L[i]?=some (.av b cs e):=by rfl) (hx:Ao ls cs=some x:=by rfl) (hl:ls.length=cs.length:=by rfl):Wp (sh (aE ls ⟨b,0,none⟩) f) h Q:=
 (z.cl i hi).fG hx q hl
theorem Z.st (z:Z h0 h L)(i:Nat){b o:Nat}{cs vs cs':δ}{e:κ}{f:Unit->M β}{Q:β->ab->Prop}
  (q:∀h',Z h0 h' (L.set i (.av b cs' e))->Wp (f ()) h' Q) (hi:L[i]?=some (.av b cs e):=by rfl) (hc:bh cs o vs=cs':=by rfl) (ho:o+vs.length<=cs.length:=by first|decide|simp) (hs:vs.all eB=true:=by rfl) :
  Wp (sh (bD ⟨b,o,none⟩ vs) f) h Q:=by
 rw[ag];have l:LB h b cs e:=z.get i hi;refine l.st z.wf ho hs λh' l' fr=>q h' (z.sW (o:=.av b cs e) hi (by simp[bA.eJ]) fr ?_ (.inl rfl));rw[<-hc];exact l'
theorem Z.call (z:Z h0 h L){m:M α}{P:α->ab->Prop}{f:α->M β}{Q:β->ab->Prop}(hm:Wp m h λr h'=>P r h'/\Fr (λ_=>False) h h')
  (q:∀r h',P r h'->Fr (λ_=>False) h h'->Z h0 h' L->Wp (f r) h' Q):Wp (sh m f) h Q:=by
 rw[ag];exact hm.mono λr h' ⟨hp,hf⟩=>q r h' hp hf (z.pure hf)
theorem Bj {γ:Type}{enc:γ->ξ}{xs:List γ}{k:Nat}{v:γ}(hk:k<xs.length):bh (xs.map enc) k [enc v]=(xs.set k v).map enc:=by
 unfold bh;rw[ajV,aj1,By (by simpa using hk)];simp
theorem Z.A2 (z:Z h0 h L)(i:Nat){γ:Type}{enc:γ->ξ}{xs:List γ}{b k:Nat}{e:κ}{v:γ}{f:Unit->M β}{Q:β->ab->Prop}(hk:k<xs.length)
  (q:∀h',Z h0 h' (L.set i (.av b ((xs.set k v).map enc) e))->Wp (f ()) h' Q) (hi:L[i]?=some (.av b (xs.map enc) e):=by rfl) (hs:eB (enc v)=true:=by rfl):Wp (sh (bD ⟨b,k,none⟩ [enc v]) f) h Q:=
 z.st i (λh' z'=>q h' z') hi (Bj hk) (by simp;omega) (by simp[hs])
theorem JF {b n cap:Nat}{k:Int}{sz:Nat}(h1:0<=k)(h2:k<(n:Int)){f:Addr->M β}{Q:β->ab->Prop}(q:Wp (f ⟨b,k.toNat*sz,none⟩) h Q):Wp (sh (an ⟨some ⟨b,0,none⟩,n,cap⟩ k sz) f) h Q:=by
 rw[ag,Ad];refine⟨_,rfl,h1,h2,?_⟩;unfold Addr.plus;simp only[adj];exact q
theorem Z.TO (z:Z h0 h L)(i:Nat){s:Sl}{sz n:Nat}{e:κ}{cs new:δ}{g:Nat}{f:Sl->M β}{Q:β->ab->Prop}(hi:L[i]?=some (.ps s sz e cs g))(hn:n≠0)(hl:new.length=n*sz)(hb:s.len+n<=cT)
  (q:∀s' h' g',s'.len=s.len+n->Z h0 h' (L.set i (.ps s' sz e (cs++new) g'))->Fr (·=g) h h'->Wp (f s') h' Q):Wp (sh (Ago.app false s sz e n new) f) h Q:=by
 rw[ag];have o:yq h s sz e cs g:=z.get i hi;refine o.app z.wf hn hl hb λs' h' g' h1 h2 h3 h4=>q s' h' g' h1 ?_ h4;by_cases hg:g=0
 .have h3:=h3.resolve_left (λx=>x.2 hg);have f0:Fr (λ_=>False) h h':=⟨h4.wf,h4.next,λj c g2 b e2 hj _=>h4.cells j c g2 b e2 hj λe3=>by rw[e3,hg],λg2 h5 _=>h4.ot g2 h5 λe3=>by rw[e3,hg],h4.used,h4.none,λj x hj _=>h4.maps j x hj (by omega)⟩
  have z1:=z.add f0 (o:=.ps s' sz e (cs++new) g') h2 (.inr (by simp only[bA.eJ];omega));refine⟨z1.PC,z1.fr,λx hx=>z1.own x ?_,Dt qq (List.pairwise_cons.1 z1.uo).2 λj y hj hne e2=>(List.pairwise_cons.1 z1.uo).1 y (BY hj) e2⟩
  grind
 .refine z.sW (o:=.ps s sz e cs g) hi hg h4 h2 ?_
  grind [bA.eJ]
theorem Z.akf (z:Z h0 h L)(i:Nat){s:Sl}{e:κ}{cs:δ}{v:ξ}{g:Nat}{f:Sl->M β}{Q:β->ab->Prop}(hi:L[i]?=some (.ps s 1 e (cs++[v]) g))
  (q:∀s',s'.len=cs.length->Z h0 h (L.set i (.ps s' 1 e cs g))->Wp (f s') h Q):Wp (sh (jT s 0 (((s.len:Nat):Int)-1) e 1) f) h Q:=by
 have o:yq h s 1 e (cs++[v]) g:=z.get i hi;refine o.cut λs' h1 h2=>q s' h1 ⟨z.PC,z.fr,λx hx=>?_,Dt qq z.uo λj y hj hne e2=>Du (R:=λa b:bA=>a.eJ=b.eJ->a.eJ=0) qq z.uo (x:=.ps s 1 e (cs++[v]) g) hi hj (λe3=>hne e3.symm) e2⟩;rcases ahS hx with hx|rfl
 .exact z.own x hx
 .exact⟨h2,(z.own _ (BY hi)).2⟩
theorem Z.eU (z:Z h0 h L){n:Nat}(ks:η){f:Nat->M β}{Q:β->ab->Prop}(hk:ks.all (·<n)=true)(hd:ks.Nodup)
  (q:∀b h',Z h0 h' (ks.map (λk=>.free (b+k))++L)->Wp (f b) h' Q):Wp (sh (Ago.eU n) f) h Q:=by
 rw[ag,Pz];have hf:=Fr.eU (n:=n) z.wf;have z1:=z.pure hf;have hkn:∀k∈ks,k<n:=λk hm=>by simpa using List.all_eq_true.1 hk k hm
 have hle:=z.fr.next
 refine q _ _ ⟨z.PC,z1.fr,λo ho=>?_,List.pairwise_append.2 ⟨?_,z1.uo,λa ha b hb he=>?_⟩⟩
 .rcases List.mem_append.1 ho with ho|ho
  .obtain⟨k,hm,rfl⟩:=List.mem_map.1 ho;have:=hkn k hm;exact⟨⟨z.wf.used _ (by omega),by simp;omega,z.wf.get _ (by omega)⟩,.inr (by simp only[bA.eJ];omega)⟩
  .exact z1.own o ho
 .grind [bA.eJ]
 .obtain⟨k,hm,rfl⟩:=List.mem_map.1 ha;have:=bA.le (z.own b hb).1 z.wf;have he:h.next+k+1=b.eJ:=he
  omega
theorem bA.aft {o:bA}{k:Nat}{e:κ}{cs:δ}(hk:o.ok h)(hf:H6 h k)(hne:o.eJ≠k+1):o.ok (h.cS k h.next e cs):=by
 have hb:∀j c g b e,h.get j=some (.cells c g b e)->j≠k:=λj c g b e hj hjk=>by subst hjk;rw[hf.2.2] at hj;cases hj
 cases o with
 |av b cs e=>exact⟨by rw[fX (hb _ _ _ _ _ hk.get)];exact hk.get⟩
 |sl s sz e cs g=>
  obtain⟨h1,h2⟩:=hk;refine⟨h1,?_⟩;rcases h2 with h2|⟨h2,h3,h4,b,base,h5,h6,h7⟩
  .exact .inl h2
  .exact .inr ⟨h2,h3,h4,b,base,h5,by rw[fX (hb _ _ _ _ _ h6)];exact h6,by rw[zf (show g≠k+1 from hne)];exact h7⟩
 |ps s sz e cs g=>
  obtain⟨h1,h2⟩:=hk;refine⟨h1,?_⟩;rcases h2 with h2|⟨h2,h3,h4,b,base,c,h5,h6,h7⟩
  .exact .inl h2
  .exact .inr ⟨h2,h3,h4,b,base,c,h5,by rw[fX (hb _ _ _ _ _ h6)];exact h6,h7⟩
 |map m kt fn n=>exact⟨hk.ex⟩
 |free k2=>
  have hn:k2≠k:=λe=>hne (by rw[e];rfl);exact⟨by simp[ab.cS,bw hn];exact hk.1,hk.2.1,by rw[fX hn];exact hk.2.2⟩
 |fam F sz e g=>
  obtain⟨h1,h2,base,h3⟩:=hk;refine⟨h1,h2,base,λx hx=>?_⟩
  grind [fX]
theorem Z.put (z:Z h0 h L){i k:Nat}(hi:L[i]?=some (.free k)){e:κ}{cs:δ}:Z h0 (h.cS k h.next e cs) (L.set i (.av k cs e)):=by
 have hmem:=BY hi;have hf:H6 h k:=(z.own _ hmem).1;have hg:h0.next<k+1:=(z.own _ hmem).2.resolve_left (by simp[bA.eJ])
 have ho:∀j y,L[j]?=some y->j≠i->y.eJ≠k+1:=λj y hj hne e=>by
  have:=Du qq z.uo hj hi hne e;rw[e] at this;omega
 refine⟨z.PC,z.fr.cS z.PC (by omega) hf.2.1,λx hx=>?_,Dt qq z.uo λj y hj hne e2=>absurd e2.symm (ho j y hj hne)⟩;obtain⟨j,hj⟩:=List.mem_iff_getElem?.1 hx;rw[List.getElem?_set] at hj;split at hj
 .split at hj
  .cases hj;exact⟨⟨kL⟩,.inr hg⟩
  .cases hj
 .rename_i hne;have hmy:=BY hj;exact⟨bA.aft (z.own x hmy).1 hf (ho j x hj λe2=>hne e2.symm),(z.own x hmy).2⟩
theorem Z.newAt (z:Z h0 h L)(i:Nat){k:Nat}{e:κ}{cs:δ}{f:Nat->M β}{Q:β->ab->Prop}
  (q:∀h',Z h0 h' (L.set i (.av k cs e))->Wp (f k) h' Q) (hi:L[i]?=some (.free k):=by rfl) (hs:cs.all eB=true:=by rfl):Wp (sh (aJ (some k) e cs) f) h Q:=by
 rw[ag,WS];have hf:H6 h k:=(z.own _ (BY hi)).1;exact⟨hs,hf.1,hf.2.1,hf.2.2,q _ (z.put hi)⟩
theorem Z.aa9 (z:Z h0 h L)(i:Nat){k:Nat}{e:κ}{c:δ}{n:Int}{f:Sl->M β}{Q:β->ab->Prop}(h1:0<=n)(h2:n<=cT)
  (q:∀h',Z h0 h' (L.set i (.av k (List.replicate n.toNat c).flatten e))->Wp (f ⟨some ⟨k,0,none⟩,n.toNat,n.toNat+1⟩) h' Q) (hi:L[i]?=some (.free k):=by rfl) (hs:c.all eB=true:=by rfl):Wp (sh (vG (some k) e c n n) f) h Q:=by
 rw[ag];have hf:H6 h k:=(z.own _ (BY hi)).1;refine WT h1 (ai0 _) h2 hf.1 hf.2.1 hf.2.2 ?_ hs;exact q _ (z.put hi)
def Nb (h:ab)(j b:Nat):Prop:=∃c g ba e,h.get j=some (.cells c g ba e)/\g≠b+1
theorem Cl.nb {a:Addr}{vs:δ}{g b:Nat}(c:Cl h a vs g)(hg:g≠b+1):Nb h a.block b:=by
 obtain⟨_,c,base,e,h2,_⟩:=c;exact⟨_,_,_,_,h2,hg⟩
theorem Z.nb0 (z:Z h0 h L)(i:Nat){a:Addr}{vs cs:δ}{g b:Nat}{e:κ}(c:Cl h0 a vs g)(hi:L[i]?=some (.av b cs e)):Nb h a.block b:=by
 have hg:g<=h0.next:=by
  obtain⟨_,c,base,e,h2,_⟩:=c;exact z.PC.eJ _ _ _ _ _ h2
 have:=(z.own _ (BY hi)).2.resolve_left (by simp[bA.eJ]);simp only[bA.eJ] at this;exact (c.fr z.fr λhx=>hx.elim).nb (by omega)
theorem Z.nbO (z:Z h0 h L)(i j:Nat){b b2:Nat}{cs cs2:δ}{e e2:κ}(hi:L[i]?=some (.av b cs e))(hj:L[j]?=some (.av b2 cs2 e2))(hne:j≠i):Nb h b2 b:=by
 have l:LB h b2 cs2 e2:=z.get j hj;refine⟨_,_,_,_,l.get,λe=>?_⟩
 grind [Du,qq,z.uo,bA.eJ]
theorem Z.stC (z:Z h0 h L)(i:Nat){as:List θ}{b o:Nat}{cs vs cs':δ}{e:κ}{f:Unit->M β}{Q:β->ab->Prop}
  (ha:∀a,some a∈as->Nb h a.block b)
  (q:∀h',Z h0 h' (L.set i (.av b cs' e))->Wp (f ()) h' Q) (hi:L[i]?=some (.av b cs e):=by rfl) (hc:bh cs o vs=cs':=by rfl) (ho:o+vs.length<=cs.length:=by first|decide|simp) (hs:vs.all eB=true:=by rfl) :
  Wp (sh (oo as (bD ⟨b,o,none⟩ vs)) f) h Q:=by
 rw[ag];have l:LB h b cs e:=z.get i hi;refine zg (l.st z.wf ho hs λh' l' fr=>⟨λa hm=>?_,q h' (z.sW (o:=.av b cs e) hi (by simp[bA.eJ]) fr ?_ (.inl rfl))⟩)
 .obtain⟨c,g,ba,e3,h1,h2⟩:=ha a hm;rw[h1];exact fr.cells _ _ _ _ _ h1 λe=>absurd e h2
 .rw[<-hc];exact l'
theorem Z.akg (z:Z h0 h L)(i:Nat){as:List θ}{γ:Type}{enc:γ->ξ}{xs:List γ}{b k:Nat}{e:κ}{v:γ}{f:Unit->M β}{Q:β->ab->Prop}(hk:k<xs.length)
  (ha:∀a,some a∈as->Nb h a.block b)
  (q:∀h',Z h0 h' (L.set i (.av b ((xs.set k v).map enc) e))->Wp (f ()) h' Q) (hi:L[i]?=some (.av b (xs.map enc) e):=by rfl) (hs:eB (enc v)=true:=by rfl):Wp (sh (oo as (bD ⟨b,k,none⟩ [enc v])) f) h Q:=
 z.stC i ha (λh' z'=>q h' z') hi (Bj hk) (by simp;omega) (by simp[hs])
theorem aba {ks:η}{a:Addr}{m:M α}{Q:α->ab->Prop}{g:Nat}{c:δ}{ba:Nat}{e:κ}(hg:h.get a.block=some (.cells c g ba e))(hk:∀k∈ks,a.block≠k/\g≠k+1)(q:Wp m h Q):Wp (Gd ks a m) h Q:=by
 obtain⟨x,h',e1,q⟩:=q;refine⟨x,h',?_,q⟩
 grind [okK,List.all_eq_true,bw,Gd]
theorem Z.Gd (z:Z h0 h L)(i:Nat){ks:η}{b o:Nat}{cs:δ}{e:κ}{m:M α}{f:α->M β}{Q:β->ab->Prop}(hk:∀k∈ks,b≠k)(q:Wp (sh m f) h Q)(hi:L[i]?=some (.av b cs e):=by rfl) :
  Wp (sh (Ago.Gd ks ⟨b,o,none⟩ m) f) h Q:=by
 rw[ag] at q⊢;have l:LB h b cs e:=z.get i hi;exact aba l.get (λk hm=>⟨hk k hm,λe=>hk k hm (by omega)⟩) q
theorem Z.aih (z:Z h0 h L){kt:κ}{f:Nat->M β}{Q:β->ab->Prop}(q:∀m h',Z h0 h' (.map m kt (λ_=>none) 0::L)->Wp (f m) h' Q):Wp (sh (B5 kt) f) h Q:=by
 rw[ag];exact WU z.wf λh' l fr=>q _ h' (z.add (o:=.map h.next kt (λ_=>none) 0) fr l (.inr (aad _)))
theorem Z.kZ (z:Z h0 h L)(i:Nat){m:Nat}{kt:κ}{fn:ξ->Option ξ}{n:Nat}{T:Ty}{d:T.den}{k:ξ}{f:Bool×T.den->M β}{Q:β->ab->Prop}(hi:L[i]?=some (.map m kt fn n))
  (h1:∀v,fn k=some v->∃x,Mv T v=some x/\Wp (f (true,x)) h Q) (h2:fn k=none->Wp (f (false,d)) h Q):Wp (sh (rK kt T d (some m) k) f) h Q:=by
 rw[ag];exact MB.aid (z.get i hi) h1 h2
theorem Z.W4 (z:Z h0 h L)(i:Nat){m:Nat}{kt:κ}{fn:ξ->Option ξ}{n:Nat}{T:Ty}{d:T.den}{k:ξ}{f:T.den×Nat->M β}{Q:β->ab->Prop}(hi:L[i]?=some (.map m kt fn n))(hk:y5 k k=true)
  (h1:∀v,fn k=some v->∃x,Mv T v=some x/\∀st,Cm h m k st->Wp (f (x,st)) h Q)
  (h2:fn k=none->∀h' st,Z h0 h' (L.set i (.map m kt (yE fn k (Ec T d)) (n+1)))->Cm h' m k st->Wp (f (d,st)) h' Q):Wp (sh (xk kt T d (some m) k) f) h Q:=by
 rw[ag];exact MB.entry (z.get i hi) z.wf hk h1 λhf h' st l hs fr=>h2 hf h' st (z.sW (o:=.map m kt fn n) hi (by simp[bA.eJ]) fr l (.inl rfl)) hs
theorem Z.W5 (z:Z h0 h L)(i:Nat){m:Nat}{kt:κ}{fn:ξ->Option ξ}{n:Nat}{k v:ξ}{st:Nat}{f:Unit->M β}{Q:β->ab->Prop}(hi:L[i]?=some (.map m kt fn n))(hs:Cm h m k st)
  (q:∀h',Z h0 h' (L.set i (.map m kt (yE fn k v) n))->Wp (f ()) h' Q):Wp (sh (xl (some m) (st:Int) v) f) h Q:=by
 rw[ag];exact MB.store (z.get i hi) z.wf hs λh' l fr=>q h' (z.sW (o:=.map m kt fn n) hi (by simp[bA.eJ]) fr l (.inl rfl))
theorem Z.ne (z:Z h0 h L)(i j:Nat){o p:bA}(hi:L[i]?=some o)(hj:L[j]?=some p)(hne:i≠j)(ho:o.eJ≠0):p.eJ≠o.eJ:=λe=>by
 grind [Du,qq,z.uo,e.symm]
theorem TQ {γ:Type}(l:List γ):(List.range l.length).filterMap (λi=>l[i]?)=l:=by
 induction l with
 |nil=>rfl
 |cons a l ih=>
  rw[aac,akQ,List.filterMap_cons_some (f:=λi=>(a::l)[i]?) (b:=a) rfl,List.filterMap_map]
  conv=>rhs;rw[<-ih]
  rfl
theorem Z.rU {pre:List bA}(z:Z h0 h (pre++L))(p:η)(hp:p.Perm (List.range pre.length)):Z h0 h (p.filterMap (λi=>pre[i]?)++L):=by
 refine z.perm (aj2 _ ?_);have:=hp.filterMap (λi=>pre[i]?);rw[TQ] at this;exact this.symm
end Go.Ago
