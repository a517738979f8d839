
import Derived.Test.YtpojbnjkkkiccaaGreatDoorAgoW
set_option linter.all false
namespace Go.Ago
open Go
variable {α β:Type}{h h' h0:ai}{X:Nat->Prop}
def Cl (h:ai)(a:Addr)(vs:δ)(g:Nat):Prop:=
 a.spot=none/\∃c base e,h.get a.block=some (.cells c g base e)/\a.off+vs.length<=c.length/\(c.drop a.off).take vs.length=vs
def Cl.fr {a}{vs}{g}(c:Cl h a vs g)(f:Fr X h h')(hx:X g->g=0):Cl h' a vs g:=by
 obtain⟨h1,c,base,e,h2,h3,h4⟩:=c;exact⟨h1,c,base,e,f.cells _ _ _ _ _ h2 hx,h3,h4⟩
theorem Cl.get {a}{vs}{g o}{v}(c:Cl h a vs g)(hv:vs[o]?=some v){l}{x}(hx:D6 l v=some x):h.ld l a.block (a.off+o)=some x:=by
 obtain⟨h1,c,base,e,h2,h3,h4⟩:=c;unfold ai.ld
 grind
def Cl.ld {a}{vs}{g}(c:Cl h a vs g){o}{v}(hv:vs[o]?=some v){l}{x}(hx:D6 l v=some x){f:l.den->M β}{Q}
  (q:Wp (f x) h Q):Wp (sh (dL l (a.plus o)) f) h Q:=by
 rw[ah,yH];exact⟨x,c.get hv hx,q⟩
def Cl.sL {a}{vs}{g}(c:Cl h a vs g){v}(hv:vs[0]?=some v){l}{x}(hx:D6 l v=some x){f:l.den->M β}{Q}
  (q:Wp (f x) h Q):Wp (sh (dL l a) f) h Q:=by
 rw[ah,yH];exact⟨x,c.get hv hx,q⟩
theorem Cl.gh {a}{vs}{g}(c:Cl h a vs g){ls}{x}(hx:D7 ls vs=some x){f:j9 ls->M β}{Q}
  (q:Wp (f x) h Q) (hl:ls.length=vs.length:=by rfl):Wp (sh (cT ls a) f) h Q:=by
 rw[ah,FG];refine⟨x,?_,q⟩;obtain⟨h1,c,base,e,h2,h3,h4⟩:=c;unfold ai.gh
 grind
def vR (h:ai)(s:Sl)(sz:Nat)(cs:δ)(g:Nat):Prop:=
 cs.length=s.len*sz/\(s.len=0\/∃a,s.a=some a/\Cl h a cs g)
def vR.fr {s}{sz}{cs}{g}(r:vR h s sz cs g)(f:Fr X h h')(hx:X g->g=0):vR h' s sz cs g:=by
 refine⟨r.1,?_⟩;rcases r.2 with h1|⟨a,h1,h2⟩
 .exact .inl h1
 .exact .inr ⟨a,h1,h2.fr f hx⟩
def uq.GD {s}{sz}{e}{cs}{g}(o:uq h s sz e cs g):vR h s sz cs g:=by
 refine⟨o.1,?_⟩;rcases o.2 with⟨rfl,_⟩|⟨_,_,_,b,base,h1,h2,_⟩
 .exact .inl rfl
 .exact .inr ⟨_,h1,rfl,cs,base,e,h2,by simp,by simp⟩
def LB.GD {b n cap sz}{cs}{e}(l:LB h b cs e)(hn:cs.length=n*sz):vR h ⟨some ⟨b,0,none⟩,n,cap⟩ sz cs (b+1):=
 ⟨hn,.inr ⟨_,rfl,rfl,cs,0,e,l.get,by simp,by simp⟩⟩
def vR.nil {s}{sz}(hs:s.len=0):vR h s sz [] 0:=⟨by simp[hs],.inl hs⟩
theorem vR.ix {s}{sz}{cs}{g}(r:vR h s sz cs g){k:Int}(h1:0<=k)(h2:k<s.len){f:Addr->M β}{Q}
  (q:∀a,Cl h a ((cs.drop (k.toNat*sz)).take sz) g->Wp (f a) h Q):Wp (sh (mz s k sz) f) h Q:=by
 rcases r.2 with h3|⟨a,h3,h4,c,base,e,h5,h6,h7⟩
 .omega
 rw[ah,zY];refine⟨a,h3,h1,h2,q _ ⟨rfl,c,base,e,h5,?_,?_⟩⟩
 .show a.off+k.toNat*sz+_<=_;rw[ahT,alx];have hk:k.toNat+1<=s.len:=by omega
  have:=ag8 sz hk;rw[ale,aoy] at this;have:=r.1;omega
 .show (c.drop (a.off+k.toNat*sz)).take _=_;have hk:k.toNat+1<=s.len:=by omega
  have hm:=ag8 sz hk;rw[ale,aoy] at hm
  grind [List.length_take,List.length_drop,List.drop_drop,List.drop_take]
theorem ams {γ:Type}{enc:γ->ξ}{xs:List γ}{i}{v}(hv:xs[i]?=some v):(((xs.map enc).drop (i*1)).take 1)=[enc v]:=by
 rw[ahS]
 grind [List.getElem?_eq_some_iff,List.drop_eq_getElem_cons]
theorem vR.Ys {γ:Type}{enc}{xs:List γ}{s}{g}(r:vR h s 1 (xs.map enc) g){k}{v}(h1:0<=k)(hv:xs[k.toNat]?=some v){f:Addr->M β}{Q}
  (q:∀a,Cl h a [enc v] g->Wp (f a) h Q):Wp (sh (mz s k 1) f) h Q:=by
 have hlt:=(List.getElem?_eq_some_iff.1 hv).1;have hl:=r.1;rw[acL,ahS] at hl;refine r.ix h1 (by omega) λa c=>q a ?_
 grind [ams]
theorem vR.ixN {γ:Type}{enc}{sz}(he:∀x,(enc x).length=sz){xs:List γ}{s}{g}(r:vR h s sz (xs.flatMap enc) g){k:Int}{v}(h1:0<=k)(h2:k<s.len)(hv:xs[k.toNat]?=some v)
  {f:Addr->M β} {Q} (q:∀a,Cl h a (enc v) g->Wp (f a) h Q):Wp (sh (mz s k sz) f) h Q:=by
 refine r.ix h1 h2 λa c=>q a ?_
 grind [V7]
theorem vR.Aa {γ:Type}{enc}{xs:List γ}{s}{g}(r:vR h s 1 (xs.map enc) g):s.len=xs.length:=by
 have hl:=r.1
 grind
def zb (h:ai)(s:Sl)(sz:Nat)(e:κ)(cs:δ)(g:Nat):Prop:=
 cs.length=s.len*sz/\((s=⟨none,0,0⟩/\g=0)\/(0<g/\g<=h.next/\s.cap=0/\∃b base c,s.a=some ⟨b,0,none⟩/\h.get b=some (.cells c g base e)/\c.take cs.length=cs))
def zb.nil {sz}{e}:zb h ⟨none,0,0⟩ sz e [] 0:=⟨by simp,.inl ⟨rfl,rfl⟩⟩
def zb.fr {s}{sz}{e}{cs}{g}(o:zb h s sz e cs g)(f:Fr X h h')(hg:X g->g=0):zb h' s sz e cs g:=by
 obtain⟨h1,h2⟩:=o;refine⟨h1,?_⟩;rcases h2 with h2|⟨h2,h3,h4,b,base,c,h5,h6,h7⟩
 .exact .inl h2
 .exact .inr ⟨h2,acY h3 f.next,h4,b,base,c,h5,f.cells _ _ _ _ _ h6 hg,h7⟩
theorem zb.le {s}{sz}{e}{cs}{g}(o:zb h s sz e cs g):g<=h.next:=by
 obtain⟨_,h2⟩:=o
 grind
theorem Ud {γ:Type}{c cs:List γ}(hc:c.take cs.length=cs):cs.length<=c.length:=by
 grind
def zb.GD {s}{sz}{e}{cs}{g}(o:zb h s sz e cs g):vR h s sz cs g:=by
 refine⟨o.1,?_⟩;rcases o.2 with⟨rfl,_⟩|⟨_,_,_,b,base,c,h1,h2,h3⟩
 .exact .inl rfl
 .exact .inr ⟨_,h1,rfl,c,base,e,h2,by simpa using Ud h3,by simpa using h3⟩
theorem zb.app {s}{sz}{e}{cs new}{g n}{Q}(o:zb h s sz e cs g)(hw:WF h)(hn:n≠0)(hl:new.length=n*sz)(hb:s.len+n<=da)
  (hq:∀s' h' g',s'.len=s.len+n->zb h' s' sz e (cs++new) g'->(g'=g/\g≠0\/g'=h.next+1)->Fr (·=g) h h'->Q s' h'):Wp (Ago.app false s sz e n new) h Q:=by
 obtain⟨h1,h2⟩:=o;have hnx:=hw.get h.next (abi _)
 have key:Ago.app false s sz e n new h=AW false s sz e n new h:=by unfold Ago.app;simp
 suffices hh:∃s' h' ,AW false s sz e n new h=some (s',h')/\Q s' h' by
  obtain⟨s',h',e1,e2⟩:=hh;exact⟨s',h',by rw[key];exact e1,e2⟩
 rcases h2 with⟨rfl,rfl⟩|⟨h2,h3,h4,b,base,c,h5,h6,h7⟩
 .have hc:cs=[]:=ac4 (by simpa using h1);subst hc;refine⟨_,_,?_,hq ⟨some ⟨h.next,0,none⟩,n,0⟩ (h.new e new) (h.next+1) (by simp) ⟨by simp[hl],.inr ⟨by omega,by simp[ai.new,ai.cM],rfl,h.next,0,new,rfl,qX,anR⟩⟩ (.inr rfl) ((Fr.new hw).mono hw (λ_ hx _=>hx.elim))⟩
  unfold AW
  grind
 .have hle:=Ud h7;have hcells:bu h (some ⟨b,0,none⟩) (s.len*sz)=some cs:=by grind [bu]
  by_cases ht:h.qI g=base+0+s.len*sz
  .refine⟨⟨some ⟨h.next,0,none⟩,s.len+n,0⟩,{ h with get:=λj=>cond (Nat.beq j h.next) (some (.cells (cs++new) g (base+0) e)) (h.get j),next:=h.next+1,qI:=λg'=>cond (Nat.beq g' g) (base+0+s.len*sz+new.length) (h.qI g'),used:=λj=>cond (Nat.beq j h.next) true (h.used j) },?_,hq _ _ g rfl ?_ (.inl ⟨rfl,by omega⟩) ?_⟩
   .unfold AW;simp only[D8]
    grind
   .exact⟨by grind,.inr ⟨h2,by simp;omega,rfl,h.next,base+0,cs++new,rfl,by simp[lC],anR⟩⟩
   .refine⟨⟨λj hj=>?_,λj hj=>?_,λj c g' b' e' hj=>?_,λj hj=>hw.maps j (cu hj).2⟩,ane _,?_,?_,?_,?_,λ_ _ e _=>e⟩
    .simp at hj;simp[cQ (show j≠h.next by omega)];exact hw.get j (by omega)
    .simp at hj;simp[cQ (show j≠h.next by omega)];exact hw.used j (by omega)
    .simp only at hj;by_cases hjn:j=h.next
     .grind
     .simp[cQ hjn] at hj;have:=hw.jo _ _ _ _ _ hj;simp;omega
    .grind [cQ]
    .grind [cQ]
    .grind [cQ]
    grind [cQ]
  .refine⟨⟨some ⟨h.next,0,none⟩,s.len+n,0⟩,{ h with get:=λj=>cond (Nat.beq j h.next) (some (.cells (cs++new) g (base+0) e)) (match h.get j with|some (.cells c' g' base' elem')=>cond (Nat.beq g' g&&Nat.blt (base+0+s.len*sz) (base'+c'.length)) none (some (.cells c' g' base' elem'))|o=>o),next:=h.next+1,qI:=λg'=>cond (Nat.beq g' g) (base+0+s.len*sz+new.length) (h.qI g'),used:=λj=>cond (Nat.beq j h.next) true (h.used j) },?_,hq _ _ g rfl ?_ (.inl ⟨rfl,by omega⟩) ?_⟩
   .unfold AW;simp only[D8]
    grind
   .exact⟨by grind,.inr ⟨h2,by simp;omega,rfl,h.next,base+0,cs++new,rfl,by simp[lC],anR⟩⟩
   .refine⟨⟨λj hj=>?_,λj hj=>?_,λj c g' b' e' hj=>?_,λj hj=>hw.maps j (cu hj).2⟩,ane _,?_,?_,?_,?_,λ_ _ e _=>e⟩
    .simp at hj;simp[cQ (show j≠h.next by omega),hw.get j (by omega)]
    .simp at hj;simp[cQ (show j≠h.next by omega)];exact hw.used j (by omega)
    .simp only at hj;by_cases hjn:j=h.next
     .grind
     .simp only[cQ hjn,aos] at hj;cases hgj:h.get j with
      |none=>rw[hgj] at hj;cases hj
      |some o=>
       rw[hgj] at hj;cases o with
       |cells c2 g2 b2 e2=>
        simp only at hj;cases hq2:(Nat.beq g2 g&&Nat.blt (base+0+s.len*sz) (b2+c2.length)) with
        |true=>rw[hq2] at hj;cases hj
        |false=>
         rw[hq2] at hj;simp only[aos,acU] at hj;cases hj;have:=hw.jo _ _ _ _ _ hgj;simp;omega
       |_=>cases hj
    .intro j c g' b' e' hj hx;have hjn:j≠h.next:=λhjn=>by grind
     have:Nat.beq g' g=false:=by
      grind [cQ]
     simp[cQ hjn,aos,hj,this,apm]
    .grind [cQ]
    .grind [cQ]
    grind [cQ]
theorem zb.cut {e}{s}{cs}{v}{g}{β}{f:Sl->M β}{Q}(o:zb h s 1 e (cs++[v]) g)(q:∀s',s'.len=cs.length->zb h s' 1 e cs g->Wp (f s') h Q) :
  Wp (sh (iM s 0 (((s.len:Nat):Int)-1) e 1) f) h Q:=by
 obtain⟨h1,h2⟩:=o;rw[aby,ahS] at h1;simp at h1;rcases h2 with⟨rfl,_⟩|⟨h2,h3,h4,b,base,c,h5,h6,h7⟩
 .simp at h1
 rw[ah];refine sB (by omega) (by omega) (by omega) (by simp[lO,h5,h6]) (q _ (by simp;omega) ⟨by simp;omega,.inr ⟨h2,h3,by simp[h4],b,base,c,by simp[h5,Addr.plus],h6,?_⟩⟩);have:=alZ (List.take cs.length) h7
 grind
def Fam (h:ai)(F:List (Sl×δ))(sz:Nat)(e:κ)(g:Nat):Prop:=
 0<g/\g<=h.next/\∃base,∀x∈F,x.2.length=x.1.len*sz/\x.1.cap=0/\∃b,x.1.a=some ⟨b,0,none⟩/\h.get b=some (.cells x.2 g base e)
def Fam.fr {F}{sz}{e}{g}(o:Fam h F sz e g)(f:Fr X h h')(hg:X g->g=0):Fam h' F sz e g:=by
 obtain⟨h1,h2,base,h3⟩:=o;refine⟨h1,acY h2 f.next,base,λx hx=>?_⟩
 obtain⟨a,b,c,d,k⟩:=h3 x hx;exact⟨a,b,c,d,f.cells _ _ _ _ _ k hg⟩
inductive aZ where
 |ar (b:Nat) (cs:δ) (e:κ)
 |sl (s:Sl) (sz:Nat) (e:κ) (cs:δ) (g:Nat)
 |map (m:Nat) (kt:κ) (f:ξ->Option ξ) (n:Nat)
 |ps (s:Sl) (sz:Nat) (e:κ) (cs:δ) (g:Nat)
 |free (k:Nat)
 |fam (F:List (Sl×δ)) (sz:Nat) (e:κ) (g:Nat)
def FL (h:ai)(k:Nat):Prop:=h.used k=false/\k<h.next/\h.get k=none
def FL.fr {k}(f:FL h k)(r:Fr X h h'):FL h' k:=⟨by rw[r.used k f.2.1];exact f.1,amX f.2.1 r.next,r.none k f.2.1 f.2.2⟩
def aZ.ok (h:ai):aZ->Prop
 |.ar b cs e=>LB h b cs e
 |.sl s sz e cs g=>uq h s sz e cs g
 |.map m kt f n=>MB h m kt f n
 |.ps s sz e cs g=>zb h s sz e cs g
 |.free k=>FL h k
 |.fam F sz e g=>Fam h F sz e g
def aZ.jo:aZ->Nat
 |.ar b _ _=>b+1
 |.sl _ _ _ _ g=>g
 |.map m _ _ _=>m+1
 |.ps _ _ _ _ g=>g
 |.free k=>k+1
 |.fam _ _ _ g=>g
def aZ.ags {o:aZ}(hk:o.ok h)(f:Fr X h h')(hx:X o.jo->o.jo=0):o.ok h':=by
 cases o with
 |ar b cs e=>exact LB.fr hk f (λhx2=>by have:=hx hx2;simp[aZ.jo] at this)
 |sl s sz e cs g=>exact uq.fr hk f hx
 |map m kt fn n=>exact MB.fr hk f (λhx2=>by have:=hx hx2;simp[aZ.jo] at this)
 |ps s sz e cs g=>exact zb.fr hk f hx
 |free k=>exact FL.fr hk f
 |fam F sz e g=>exact Fam.fr hk f hx
def aZ.le {o:aZ}(hk:o.ok h)(hw:WF h):o.jo<=h.next:=by
 cases o with
 |ar b cs e=>exact LB.lt hk hw
 |sl s sz e cs g=>exact uq.le hk
 |map m kt fn n=>exact MB.lt hk hw
 |ps s sz e cs g=>exact zb.le hk
 |free k=>exact hk.2.1
 |fam F sz e g=>exact hk.2.1
structure Z (h0 h:ai) (L:List aZ):Prop where
 PT:WF h0
 fr:Fr (λ_=>False) h0 h
 own:∀o∈L,o.ok h/\(o.jo=0\/h0.next<o.jo)
 yJ:L.Pairwise λa b=>a.jo=b.jo->a.jo=0
variable {L:List aZ}
def Z.start (hw:WF h):Z h h []:=⟨hw,Fr.refl hw,by simp,.nil⟩
def Z.wf (z:Z h0 h L):WF h:=z.fr.wf
def Z.step (z:Z h0 h L)(f:Fr X h h')(hx:∀g,X g->g≠0->h0.next<g)(ho:∀o∈L,X o.jo->o.jo=0):Z h0 h' L:=
 ⟨z.PT,z.fr.trans z.PT f λg hg h0=>.inr (hx g hg h0),λo hm=>⟨aZ.ags (z.own o hm).1 f (ho o hm),(z.own o hm).2⟩,z.yJ⟩
def Z.pure (z:Z h0 h L)(f:Fr (λ_=>False) h h'):Z h0 h' L:=z.step f (λ_ hx=>hx.elim) λ_ _ hx=>hx.elim
theorem Z.add (z:Z h0 h L)(f:Fr (λ_=>False) h h'){o}(hk:o.ok h')(hg:o.jo=0\/h.next<o.jo):Z h0 h' (o::L):=by
 have z1:=z.pure f;have hle:=z.fr.next
 refine⟨z.PT,z1.fr,λx hx=>?_,.cons (λx hx he=>?_) z1.yJ⟩
 .rcases List.mem_cons.1 hx with rfl|hx
  .grind
  .exact z1.own x hx
 .rcases hg with hg|hg
  .exact hg
  .have:=aZ.le (z.own x hx).1 z.wf;omega
theorem Z.drop {o}(z:Z h0 h (o::L)):Z h0 h L:=⟨z.PT,z.fr,λx hx=>z.own x (BY _ hx),(List.pairwise_cons.1 z.yJ).2⟩
def Z.sub {L'}(z:Z h0 h L)(hs:L'.Sublist L):Z h0 h L':=⟨z.PT,z.fr,λx hx=>z.own x (hs.subset hx),z.yJ.sublist hs⟩
def Z.get (z:Z h0 h L)(i:Nat){o}(hi:L[i]?=some o):o.ok h:=(z.own o (IN hi)).1
theorem Em {γ:Type}{R}(hsym:∀a b,R a b->R b a):∀{l:List γ} {i} {x},l.Pairwise R->(∀j y,l[j]?=some y->j≠i->R x y)->(l.set i x).Pairwise R
 |[],i,x,_,_=>by simp
 |a::l,0,x,hp,hx=>by
  grind [List.pairwise_cons,List.mem_iff_getElem?]
 |a::l,i+1,x,hp,hx=>by
  rw[anL];obtain⟨h1,h2⟩:=List.pairwise_cons.1 hp;refine .cons (λy hy=>?_) (Em hsym h2 λj y hj hne=>hx (j+1) y (by simpa using hj) (by omega));rcases al7 hy with hy|hy
  .exact h1 y hy
  .subst hy;exact hsym _ _ (hx 0 a rfl (by omega))
theorem En {γ:Type}{R}(hsym:∀a b,R a b->R b a):∀{l:List γ} {i j:Nat} {x y},l.Pairwise R->l[i]?=some x->l[j]?=some y->i≠j->R x y
 |[],i,j,x,y,_,hi,_,_=>by simp at hi
 |a::l,0,0,x,y,_,_,_,hn=>absurd rfl hn
 |a::l,0,j+1,x,y,hp,hi,hj,_=>by
  grind [List.pairwise_cons,List.mem_of_getElem?]
 |a::l,i+1,0,x,y,hp,hi,hj,_=>by
  grind [List.pairwise_cons,List.mem_of_getElem?]
 |a::l,i+1,j+1,x,y,hp,hi,hj,hn=>En hsym (List.pairwise_cons.1 hp).2 (by simpa using hi) (by simpa using hj) (by omega)
theorem qp (a b:aZ)(hr:a.jo=b.jo->a.jo=0):b.jo=a.jo->b.jo=0:=λe=>by rw[e];exact hr e.symm
theorem Z.wj (z:Z h0 h L){i}{o o'}(hi:L[i]?=some o)(ho:o.jo≠0)(f:Fr (·=o.jo) h h')(hk:o'.ok h')(hg:o'.jo=o.jo\/o'.jo=0\/h.next<o'.jo):Z h0 h' (L.set i o'):=by
 have hmem:=IN hi;have hfresh:h0.next<o.jo:=(z.own o hmem).2.resolve_left ho
 have hothers:∀j y,L[j]?=some y->j≠i->y.jo≠o.jo:=λj y hj hne e=>ho (by rw[<-e];exact En qp z.yJ hj hi hne e);refine⟨z.PT,z.fr.trans z.PT f λg hg h0=>.inr (by rw[hg];exact hfresh),λx hx=>?_,Em qp z.yJ λj y hj hne e=>?_⟩
 .obtain⟨j,hj⟩:=List.mem_iff_getElem?.1 hx;rw[apw] at hj;split at hj
  .grind [Nat.lt_of_le_of_lt,z.fr.next]
  .rename_i hne;have hmy:=IN hj;exact⟨aZ.ags (z.own x hmy).1 f λe=>absurd e (hothers j x hj λe2=>hne e2.symm),(z.own x hmy).2⟩
 .rcases hg with hg|hg|hg
  .grind
  .exact hg
  .have:=aZ.le (z.own y (IN hj)).1 z.wf;omega
def Z.perm {L'}(z:Z h0 h L)(hp:L.Perm L'):Z h0 h L':=⟨z.PT,z.fr,λx hx=>z.own x (hp.mem_iff.2 hx),(hp.pairwise_iff λ{a b}=>qp a b).1 z.yJ⟩
theorem Z.new (z:Z h0 h L){e}{cs}{f:Nat->M β}{Q}
  (q:∀b h',Z h0 h' (.ar b cs e::L)->Fr (λ_=>False) h h'->Wp (f b) h' Q) (hs:cs.all fk=true:=by rfl):Wp (sh (iI none e cs) f) h Q:=by
 rw[ah,JP];have hf:=Fr.new (e:=e) (cs:=cs) z.wf;exact⟨hs,q _ _ (z.add hf LB.new (.inr (ais _))) hf⟩
def Z.Mi (z:Z h0 h L){e}{c}{n:Int}{f:Sl->M β}{Q}(h1:0<=n)(h2:n<=da)
  (q:∀b h',Z h0 h' (.ar b (List.replicate n.toNat c).flatten e::L)->Fr (λ_=>False) h h'->Wp (f ⟨some ⟨b,0,none⟩,n.toNat,n.toNat+1⟩) h' Q) (hs:c.all fk=true:=by rfl):Wp (sh (w9 none e c n n) f) h Q:=by
 rw[ah];refine RH h1 (akz _) h2 ?_ hs;have hf:=Fr.new (e:=e) (cs:=(List.replicate n.toNat c).flatten) z.wf;exact q _ _ (z.add hf LB.new (.inr (ais _))) hf
def LB.cl {b}{cs}{e}(l:LB h b cs e):Cl h ⟨b,0,none⟩ cs (b+1):=⟨rfl,cs,0,e,l.get,by simp,by simp⟩
def Z.cl (z:Z h0 h L)(i:Nat){b}{cs}{e}(hi:L[i]?=some (.ar b cs e)):Cl h ⟨b,0,none⟩ cs (b+1):=LB.cl (z.get i hi)
def Z.ld (z:Z h0 h L)(i:Nat){b o}{cs}{e}{l}{v}{x}{f:l.den->M β}{Q}
  (q:Wp (f x) h Q) (hi:L[i]?=some (.ar b cs e):=by rfl) (hv:cs[o]?=some v:=by rfl) (hx:D6 l v=some x:=by rfl):Wp (sh (dL l ⟨b,o,none⟩) f) h Q:=by
 rw[ah,yH];exact⟨x,LB.ld (z.get i hi) hv hx,q⟩
def Z.gh (z:Z h0 h L)(i:Nat){b}{cs}{e}{ls}{x}{f:j9 ls->M β}{Q}
  (q:Wp (f x) h Q) (hi:L[i]?=some (.ar b cs e):=by rfl) (hx:D7 ls cs=some x:=by rfl) (hl:ls.length=cs.length:=by rfl):Wp (sh (cT ls ⟨b,0,none⟩) f) h Q:=
 (z.cl i hi).gh hx q hl
def Z.st (z:Z h0 h L) i {b o}{cs vs cs'}{e}{f:Unit->M β}{Q}
  (q:∀h',Z h0 h' (L.set i (.ar b cs' e))->Wp (f ()) h' Q) (hi:L[i]?=some (.ar b cs e):=by rfl) (hc:aM cs o vs=cs':=by rfl) (ho:o+vs.length<=cs.length:=by first|decide|simp) (hs:vs.all fk=true:=by rfl) :
  Wp (sh (rN ⟨b,o,none⟩ vs) f) h Q:=by
 rw[ah];have l:LB h b cs e:=z.get i hi;refine l.st z.wf ho hs λh' l' fr=>q h' (z.wj hi (by simp[aZ.jo]) fr ?_ (.inl rfl));rw[<-hc];exact l'
def Z.call (z:Z h0 h L){m}{P:α->ai->Prop}{f:α->M β}{Q}(hm:Wp m h λr h'=>P r h'/\Fr (λ_=>False) h h')
  (q:∀r h',P r h'->Fr (λ_=>False) h h'->Z h0 h' L->Wp (f r) h' Q):Wp (sh m f) h Q:=by
 rw[ah];exact hm.mono λr h' ⟨hp,hf⟩=>q r h' hp hf (z.pure hf)
def Eo {γ:Type}{enc}{xs:List γ}{k}{v}(hk:k<xs.length):aM (xs.map enc) k [enc v]=(xs.set k v).map enc:=by
 unfold aM;rw[an3,aoA,By (by simpa using hk)];simp
def Z.DV (z:Z h0 h L) i {γ:Type}{enc}{xs:List γ}{b k}{e}{v}{f:Unit->M β}{Q}(hk:k<xs.length)
  (q:∀h',Z h0 h' (L.set i (.ar b ((xs.set k v).map enc) e))->Wp (f ()) h' Q) (hi:L[i]?=some (.ar b (xs.map enc) e):=by rfl) (hs:fk (enc v)=true:=by rfl):Wp (sh (rN ⟨b,k,none⟩ [enc v]) f) h Q:=
 z.st i (λh' z'=>q h' z') hi (Eo hk) (by simp;omega) (by simp[hs])
def GF {b n cap:Nat}{k}{sz}(h1:0<=k)(h2:k<(n:Int)){f:Addr->M β}{Q}(q:Wp (f ⟨b,k.toNat*sz,none⟩) h Q):Wp (sh (mz ⟨some ⟨b,0,none⟩,n,cap⟩ k sz) f) h Q:=by
 rw[ah,zY];refine⟨_,rfl,h1,h2,?_⟩;unfold Addr.plus;simp;exact q
theorem Z.V9 (z:Z h0 h L) i {s}{sz n}{e}{cs new}{g}{f:Sl->M β}{Q}(hi:L[i]?=some (.ps s sz e cs g))(hn:n≠0)(hl:new.length=n*sz)(hb:s.len+n<=da)
  (q:∀s' h' g',s'.len=s.len+n->Z h0 h' (L.set i (.ps s' sz e (cs++new) g'))->Fr (·=g) h h'->Wp (f s') h' Q):Wp (sh (Ago.app false s sz e n new) f) h Q:=by
 rw[ah];have o:zb h s sz e cs g:=z.get i hi;refine o.app z.wf hn hl hb λs' h' g' h1 h2 h3 h4=>q s' h' g' h1 ?_ h4;by_cases hg:g=0
 .have h3:=h3.resolve_left (λx=>x.2 hg);have f0:Fr (λ_=>False) h h':=⟨h4.wf,h4.next,λj c g2 b e2 hj _=>h4.cells j c g2 b e2 hj λe3=>by rw[e3,hg],λg2 h5 _=>h4.qI g2 h5 λe3=>by rw[e3,hg],h4.used,h4.none,λj x hj _=>h4.maps j x hj (by omega)⟩
  have z1:=z.add f0 (o:=.ps s' sz e (cs++new) g') h2 (.inr (by simp[aZ.jo];omega));refine⟨z1.PT,z1.fr,λx hx=>z1.own x ?_,Em qp (List.pairwise_cons.1 z1.yJ).2 λj y hj hne e2=>(List.pairwise_cons.1 z1.yJ).1 y (IN hj) e2⟩
  grind
 .refine z.wj hi hg h4 h2 ?_
  grind [aZ.jo]
def Z.adJ (z:Z h0 h L) i {s}{e}{cs}{v}{g}{f:Sl->M β}{Q}(hi:L[i]?=some (.ps s 1 e (cs++[v]) g))
  (q:∀s',s'.len=cs.length->Z h0 h (L.set i (.ps s' 1 e cs g))->Wp (f s') h Q):Wp (sh (iM s 0 (((s.len:Nat):Int)-1) e 1) f) h Q:=by
 have o:zb h s 1 e (cs++[v]) g:=z.get i hi;refine o.cut λs' h1 h2=>q s' h1 ⟨z.PT,z.fr,λx hx=>?_,Em qp z.yJ λj y hj hne e2=>En qp z.yJ (x:=.ps s 1 e (cs++[v]) g) hi hj (λe3=>hne e3.symm) e2⟩;rcases al7 hx with hx|rfl
 .exact z.own x hx
 .exact⟨h2,(z.own _ (IN hi)).2⟩
theorem Z.dP (z:Z h0 h L){n}(ks:η){f:Nat->M β}{Q}(hk:ks.all (·<n)=true)(hd:ks.Nodup)
  (q:∀b h',Z h0 h' (ks.map (λk=>.free (b+k))++L)->Wp (f b) h' Q):Wp (sh (Ago.dP n) f) h Q:=by
 rw[ah,RF];have hf:=Fr.dP (n:=n) z.wf;have z1:=z.pure hf;have hkn:∀k∈ks,k<n:=λk hm=>by grind
 have hle:=z.fr.next
 refine q _ _ ⟨z.PT,z1.fr,λo ho=>?_,List.pairwise_append.2 ⟨?_,z1.yJ,λa ha b hb he=>?_⟩⟩
 .rcases List.mem_append.1 ho with ho|ho
  .obtain⟨k,hm,rfl⟩:=List.mem_map.1 ho;have:=hkn k hm;exact⟨⟨z.wf.used _ (by omega),by simp;omega,z.wf.get _ (by omega)⟩,.inr (by simp[aZ.jo];omega)⟩
  .exact z1.own o ho
 .grind [aZ.jo]
 .obtain⟨k,hm,rfl⟩:=List.mem_map.1 ha;have:=aZ.le (z.own b hb).1 z.wf;have he:h.next+k+1=b.jo:=he
  omega
theorem aZ.ain {o:aZ}{k}{e}{cs}(hk:o.ok h)(hf:FL h k)(hne:o.jo≠k+1):o.ok (h.cM k h.next e cs):=by
 have hb:∀j c g b e,h.get j=some (.cells c g b e)->j≠k:=λj c g b e hj hjk=>by subst hjk;rw[hf.2.2] at hj;cases hj
 cases o with
 |ar b cs e=>exact⟨by rw[ie (hb _ _ _ _ _ hk.get)];exact hk.get⟩
 |sl s sz e cs g=>
  obtain⟨h1,h2⟩:=hk;refine⟨h1,?_⟩;rcases h2 with h2|⟨h2,h3,h4,b,base,h5,h6,h7⟩
  .exact .inl h2
  .exact .inr ⟨h2,h3,h4,b,base,h5,by grind [ie],by rw[BG (show g≠k+1 from hne)];exact h7⟩
 |ps s sz e cs g=>
  obtain⟨h1,h2⟩:=hk;refine⟨h1,?_⟩;rcases h2 with h2|⟨h2,h3,h4,b,base,c,h5,h6,h7⟩
  .exact .inl h2
  .exact .inr ⟨h2,h3,h4,b,base,c,h5,by grind [ie],h7⟩
 |map m kt fn n=>exact⟨hk.ex⟩
 |free k2=>
  have hn:k2≠k:=λe=>hne (by rw[e];rfl);exact⟨by simp[ai.cM,cQ hn];exact hk.1,hk.2.1,by rw[ie hn];exact hk.2.2⟩
 |fam F sz e g=>
  obtain⟨h1,h2,base,h3⟩:=hk;refine⟨h1,h2,base,λx hx=>?_⟩
  grind [ie]
theorem Z.put (z:Z h0 h L){i k}(hi:L[i]?=some (.free k)){e}{cs}:Z h0 (h.cM k h.next e cs) (L.set i (.ar k cs e)):=by
 have hmem:=IN hi;have hf:FL h k:=(z.own _ hmem).1;have hg:h0.next<k+1:=(z.own _ hmem).2.resolve_left (by simp[aZ.jo])
 have ho:∀j y,L[j]?=some y->j≠i->y.jo≠k+1:=λj y hj hne e=>by
  have:=En qp z.yJ hj hi hne e;rw[e] at this;omega
 refine⟨z.PT,z.fr.cM z.PT (by omega) hf.2.1,λx hx=>?_,Em qp z.yJ λj y hj hne e2=>absurd e2.symm (ho j y hj hne)⟩;obtain⟨j,hj⟩:=List.mem_iff_getElem?.1 hx;rw[apw] at hj;split at hj
 .split at hj
  .cases hj;exact⟨⟨qX⟩,.inr hg⟩
  .cases hj
 .rename_i hne;have hmy:=IN hj;exact⟨aZ.ain (z.own x hmy).1 hf (ho j x hj λe2=>hne e2.symm),(z.own x hmy).2⟩
def Z.newAt (z:Z h0 h L) i {k}{e}{cs}{f:Nat->M β}{Q}
  (q:∀h',Z h0 h' (L.set i (.ar k cs e))->Wp (f k) h' Q) (hi:L[i]?=some (.free k):=by rfl) (hs:cs.all fk=true:=by rfl):Wp (sh (iI (some k) e cs) f) h Q:=by
 rw[ah,PF];have hf:FL h k:=(z.own _ (IN hi)).1;exact⟨hs,hf.1,hf.2.1,hf.2.2,q _ (z.put hi)⟩
def Z.adK (z:Z h0 h L) i {k}{e}{c}{n:Int}{f:Sl->M β}{Q}(h1:0<=n)(h2:n<=da)
  (q:∀h',Z h0 h' (L.set i (.ar k (List.replicate n.toNat c).flatten e))->Wp (f ⟨some ⟨k,0,none⟩,n.toNat,n.toNat+1⟩) h' Q) (hi:L[i]?=some (.free k):=by rfl) (hs:c.all fk=true:=by rfl):Wp (sh (w9 (some k) e c n n) f) h Q:=by
 rw[ah];have hf:FL h k:=(z.own _ (IN hi)).1;refine Zh h1 (akz _) h2 hf.1 hf.2.1 hf.2.2 ?_ hs;exact q _ (z.put hi)
def Nb (h:ai)(j b:Nat):Prop:=∃c g ba e,h.get j=some (.cells c g ba e)/\g≠b+1
def Cl.nb {a}{vs}{g b}(c:Cl h a vs g)(hg:g≠b+1):Nb h a.block b:=by
 obtain⟨_,c,base,e,h2,_⟩:=c;exact⟨_,_,_,_,h2,hg⟩
def Z.nb0 (z:Z h0 h L)(i:Nat){a}{vs cs}{g b}{e}(c:Cl h0 a vs g)(hi:L[i]?=some (.ar b cs e)):Nb h a.block b:=by
 have hg:g<=h0.next:=by
  obtain⟨_,c,base,e,h2,_⟩:=c;exact z.PT.jo _ _ _ _ _ h2
 have:=(z.own _ (IN hi)).2.resolve_left (by simp[aZ.jo]);simp[aZ.jo] at this;exact (c.fr z.fr λhx=>hx.elim).nb (by omega)
theorem Z.nbO (z:Z h0 h L)(i j:Nat){b b2}{cs cs2}{e e2}(hi:L[i]?=some (.ar b cs e))(hj:L[j]?=some (.ar b2 cs2 e2))(hne:j≠i):Nb h b2 b:=by
 have l:LB h b2 cs2 e2:=z.get j hj;refine⟨_,_,_,_,l.get,λe=>?_⟩
 grind [En,qp,z.yJ,aZ.jo]
def Z.stC (z:Z h0 h L) i {as}{b o}{cs vs cs'}{e}{f:Unit->M β}{Q}
  (ha:∀a,some a∈as->Nb h a.block b)
  (q:∀h',Z h0 h' (L.set i (.ar b cs' e))->Wp (f ()) h' Q) (hi:L[i]?=some (.ar b cs e):=by rfl) (hc:aM cs o vs=cs':=by rfl) (ho:o+vs.length<=cs.length:=by first|decide|simp) (hs:vs.all fk=true:=by rfl) :
  Wp (sh (tX as (rN ⟨b,o,none⟩ vs)) f) h Q:=by
 rw[ah];have l:LB h b cs e:=z.get i hi;refine JQ (l.st z.wf ho hs λh' l' fr=>⟨λa hm=>?_,q h' (z.wj hi (by simp[aZ.jo]) fr ?_ (.inl rfl))⟩)
 .obtain⟨c,g,ba,e3,h1,h2⟩:=ha a hm;rw[h1];exact fr.cells _ _ _ _ _ h1 λe=>absurd e h2
 .rw[<-hc];exact l'
def Z.aip (z:Z h0 h L) i {as}{γ:Type}{enc}{xs:List γ}{b k}{e}{v}{f:Unit->M β}{Q}(hk:k<xs.length)
  (ha:∀a,some a∈as->Nb h a.block b)
  (q:∀h',Z h0 h' (L.set i (.ar b ((xs.set k v).map enc) e))->Wp (f ()) h' Q) (hi:L[i]?=some (.ar b (xs.map enc) e):=by rfl) (hs:fk (enc v)=true:=by rfl):Wp (sh (tX as (rN ⟨b,k,none⟩ [enc v])) f) h Q:=
 z.stC i ha (λh' z'=>q h' z') hi (Eo hk) (by simp;omega) (by simp[hs])
theorem adL {ks}{a}{m:M α}{Q}{g}{c}{ba}{e}(hg:h.get a.block=some (.cells c g ba e))(hk:∀k∈ks,a.block≠k/\g≠k+1)(q:Wp m h Q):Wp (Jj ks a m) h Q:=by
 obtain⟨x,h',e1,q⟩:=q;refine⟨x,h',?_,q⟩
 grind [okK,List.all_eq_true,cQ,Jj]
theorem Z.Jj (z:Z h0 h L)(i:Nat){ks}{b o}{cs}{e}{m}{f:α->M β}{Q}(hk:∀k∈ks,b≠k)(q:Wp (sh m f) h Q)(hi:L[i]?=some (.ar b cs e):=by rfl) :
  Wp (sh (Ago.Jj ks ⟨b,o,none⟩ m) f) h Q:=by
 rw[ah] at q⊢;have l:LB h b cs e:=z.get i hi;exact adL l.get (λk hm=>⟨hk k hm,λe=>hk k hm (by omega)⟩) q
def Z.aob (z:Z h0 h L){kt}{f:Nat->M β}{Q}(q:∀m h',Z h0 h' (.map m kt (λ_=>none) 0::L)->Wp (f m) h' Q):Wp (sh (Bs kt) f) h Q:=by
 rw[ah];exact Zi z.wf λh' l fr=>q _ h' (z.add fr l (.inr (ais _)))
def Z.jz (z:Z h0 h L)(i:Nat){m}{kt}{fn}{n}{T}{d}{k}{f:Bool×T.den->M β}{Q}(hi:L[i]?=some (.map m kt fn n))
  (h1:∀v,fn k=some v->∃x,Ox T v=some x/\Wp (f (true,x)) h Q) (h2:fn k=none->Wp (f (false,d)) h Q):Wp (sh (vx kt T d (some m) k) f) h Q:=by
 rw[ah];exact MB.an9 (z.get i hi) h1 h2
def Z.Zp (z:Z h0 h L) i {m}{kt}{fn}{n}{T}{d}{k}{f:T.den×Nat->M β}{Q}(hi:L[i]?=some (.map m kt fn n))(hk:DO k k=true)
  (h1:∀v,fn k=some v->∃x,Ox T v=some x/\∀st,FJ h m k st->Wp (f (x,st)) h Q)
  (h2:fn k=none->∀h' st,Z h0 h' (L.set i (.map m kt (Ek fn k (GH T d)) (n+1)))->FJ h' m k st->Wp (f (d,st)) h' Q):Wp (sh (zK kt T d (some m) k) f) h Q:=by
 rw[ah];exact MB.entry (z.get i hi) z.wf hk h1 λhf h' st l hs fr=>h2 hf h' st (z.wj hi (by simp[aZ.jo]) fr l (.inl rfl)) hs
def Z.Zq (z:Z h0 h L) i {m}{kt}{fn}{n}{k v}{st}{f:Unit->M β}{Q}(hi:L[i]?=some (.map m kt fn n))(hs:FJ h m k st)
  (q:∀h',Z h0 h' (L.set i (.map m kt (Ek fn k v) n))->Wp (f ()) h' Q):Wp (sh (zL (some m) (st:Int) v) f) h Q:=by
 rw[ah];exact MB.store (z.get i hi) z.wf hs λh' l fr=>q h' (z.wj hi (by simp[aZ.jo]) fr l (.inl rfl))
theorem Z.ne (z:Z h0 h L)(i j:Nat){o p}(hi:L[i]?=some o)(hj:L[j]?=some p)(hne:i≠j)(ho:o.jo≠0):p.jo≠o.jo:=λe=>by
 grind [En,qp,z.yJ,e.symm]
def Wa {γ:Type}(l:List γ):(List.range l.length).filterMap (λi=>l[i]?)=l:=by
 induction l with
 |nil=>rfl
 |cons a l ih=>
  rw[abK,apO,List.filterMap_cons_some (f:=λi=>(a::l)[i]?) rfl,List.filterMap_map]
  conv=>rhs;rw[<-ih]
  rfl
def Z.nK {pre}(z:Z h0 h (pre++L))(p:η)(hp:p.Perm (List.range pre.length)):Z h0 h (p.filterMap (λi=>pre[i]?)++L):=by
 refine z.perm (aow _ ?_);have:=hp.filterMap (λi=>pre[i]?);rw[Wa] at this;exact this.symm
end Go.Ago
