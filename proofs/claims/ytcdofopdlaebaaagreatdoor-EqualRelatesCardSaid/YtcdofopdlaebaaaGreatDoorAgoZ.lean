
import Derived.Test.YtcdofopdlaebaaaGreatDoorAgoW
namespace Go.Ago
open Go
variable {α β:Type}{h h' h0:af}{X:Nat->Prop}
def Cl (h:af)(a:Addr)(vs:List Value)(g:Nat):Prop:=
 a.spot=none/\∃c base e,h.get a.block=some (.cells c g base e)/\a.off+vs.length<=c.length/\(c.drop a.off).take vs.length=vs
theorem Cl.fr {a:Addr}{vs:List Value}{g:Nat}(c:Cl h a vs g)(f:Fr X h h')(hx:X g->g=0):Cl h' a vs g:=by
 obtain⟨h1,c,base,e,h2,h3,h4⟩:=c;exact⟨h1,c,base,e,f.cells _ _ _ _ _ h2 hx,h3,h4⟩
theorem Cl.get {a:Addr}{vs:List Value}{g o:Nat}{v:Value}(c:Cl h a vs g)(hv:vs[o]?=some v){l:eF}{x:l.den}(hx:yI l v=some x):h.ld l a.block (a.off+o)=some x:=by
 obtain⟨h1,c,base,e,h2,h3,h4⟩:=c;unfold af.ld;rw[h2];have:c[a.off+o]?=some v:=by
  rw[<-h4,aeA] at hv;split at hv
  .rwa [ady] at hv
  .cases hv
 simp only[this];exact hx
theorem Cl.ld {a:Addr}{vs:List Value}{g:Nat}(c:Cl h a vs g){o:Nat}{v:Value}(hv:vs[o]?=some v){l:eF}{x:l.den}(hx:yI l v=some x){f:l.den->M β}{Q:β->af->Prop}
  (q:Wp (f x) h Q):Wp (sh (aq l (a.plus o)) f) h Q:=by
 rw[ah,uT];exact⟨x,c.get hv hx,q⟩
theorem Cl.pL {a:Addr}{vs:List Value}{g:Nat}(c:Cl h a vs g){v:Value}(hv:vs[0]?=some v){l:eF}{x:l.den}(hx:yI l v=some x){f:l.den->M β}{Q:β->af->Prop}
  (q:Wp (f x) h Q):Wp (sh (aq l a) f) h Q:=by
 rw[ah,uT];exact⟨x,c.get hv hx,q⟩
theorem Cl.fI {a:Addr}{vs:List Value}{g:Nat}(c:Cl h a vs g){ls:List eF}{x:bN ls}(hx:vF ls vs=some x){f:bN ls->M β}{Q:β->af->Prop}
  (q:Wp (f x) h Q) (hl:ls.length=vs.length:=by rfl):Wp (sh (aI ls a) f) h Q:=by
 rw[ah,yv];refine⟨x,?_,q⟩;obtain⟨h1,c,base,e,h2,h3,h4⟩:=c;unfold af.fI;rw[h2];simp only;rw[hl,if_pos h3,h4];exact hx
def qy (h:af)(s:Sl)(sz:Nat)(cs:List Value)(g:Nat):Prop:=
 cs.length=s.len*sz/\(s.len=0\/∃a,s.a=some a/\Cl h a cs g)
theorem qy.fr {s:Sl}{sz:Nat}{cs:List Value}{g:Nat}(r:qy h s sz cs g)(f:Fr X h h')(hx:X g->g=0):qy h' s sz cs g:=by
 refine⟨r.1,?_⟩;rcases r.2 with h1|⟨a,h1,h2⟩
 .exact .inl h1
 .exact .inr ⟨a,h1,h2.fr f hx⟩
theorem qQ.BB {s:Sl}{sz:Nat}{e:TypeId}{cs:List Value}{g:Nat}(o:qQ h s sz e cs g):qy h s sz cs g:=by
 refine⟨o.1,?_⟩;rcases o.2 with⟨rfl,_⟩|⟨_,_,_,b,base,h1,h2,_⟩
 .exact .inl rfl
 .exact .inr ⟨_,h1,rfl,cs,base,e,h2,by simp,by simp⟩
theorem LB.BB {b n cap sz:Nat}{cs:List Value}{e:TypeId}(l:LB h b cs e)(hn:cs.length=n*sz):qy h ⟨some ⟨b,0,none⟩,n,cap⟩ sz cs (b+1):=
 ⟨hn,.inr ⟨_,rfl,rfl,cs,0,e,l.get,by simp,by simp⟩⟩
theorem qy.nil {s:Sl}{sz:Nat}(hs:s.len=0):qy h s sz [] 0:=⟨by simp[hs],.inl hs⟩
theorem qy.ix {s:Sl}{sz:Nat}{cs:List Value}{g:Nat}(r:qy h s sz cs g){k:Int}(h1:0<=k)(h2:k<s.len){f:Addr->M β}{Q:β->af->Prop}
  (q:∀a,Cl h a ((cs.drop (k.toNat*sz)).take sz) g->Wp (f a) h Q):Wp (sh (av s k sz) f) h Q:=by
 rcases r.2 with h3|⟨a,h3,h4,c,base,e,h5,h6,h7⟩
 .omega
 rw[ah,yw];refine⟨a,h3,h1,h2,q _ ⟨rfl,c,base,e,h5,?_,?_⟩⟩
 .show a.off+k.toNat*sz+_<=_;rw[adw,af5];have hk:k.toNat+1<=s.len:=by omega
  have:=adz sz hk;rw[adv,afB] at this;have:=r.1;omega
 .show (c.drop (a.off+k.toNat*sz)).take _=_;have hk:k.toNat+1<=s.len:=by omega
  have hm:=adz sz hk;rw[adv,afB] at hm;have hl:=r.1;have hlen:((cs.drop (k.toNat*sz)).take sz).length=sz:=by rw[adw,af5];omega
  rw[hlen]
  conv=>rhs;rw[<-h7]
  rw[<-afK,List.drop_take,List.take_take]
  congr 1
  omega
theorem ad5 {γ:Type}{enc:γ->Value}{xs:List γ}{i:Nat}{v:γ}(hv:xs[i]?=some v):(((xs.map enc).drop (i*1)).take 1)=[enc v]:=by
 rw[acq];have hlt:=(List.getElem?_eq_some_iff.1 hv).1;rw[aee (by simpa using hlt)];simp[(List.getElem?_eq_some_iff.1 hv).2]
theorem qy.Ua {γ:Type}{enc:γ->Value}{xs:List γ}{s:Sl}{g:Nat}(r:qy h s 1 (xs.map enc) g){k:Int}{v:γ}(h1:0<=k)(hv:xs[k.toNat]?=some v){f:Addr->M β}{Q:β->af->Prop}
  (q:∀a,Cl h a [enc v] g->Wp (f a) h Q):Wp (sh (av s k 1) f) h Q:=by
 have hlt:=(List.getElem?_eq_some_iff.1 hv).1;have hl:=r.1;rw[adq,acq] at hl;refine r.ix h1 (by omega) λa c=>q a ?_;rw[ad5 hv] at c;exact c
theorem qy.ixN {γ:Type}{enc:γ->List Value}{sz:Nat}(he:∀x,(enc x).length=sz){xs:List γ}{s:Sl}{g:Nat}(r:qy h s sz (xs.flatMap enc) g){k:Int}{v:γ}(h1:0<=k)(h2:k<s.len)(hv:xs[k.toNat]?=some v)
  {f:Addr->M β} {Q:β->af->Prop} (q:∀a,Cl h a (enc v) g->Wp (f a) h Q):Wp (sh (av s k sz) f) h Q:=by
 refine r.ix h1 h2 λa c=>q a ?_;rw[Q0 he hv] at c;exact c
theorem qy.F6 {γ:Type}{enc:γ->Value}{xs:List γ}{s:Sl}{g:Nat}(r:qy h s 1 (xs.map enc) g):s.len=xs.length:=by
 have hl:=r.1;rw[adq,acq] at hl;exact hl.symm
def wS (h:af)(s:Sl)(sz:Nat)(e:TypeId)(cs:List Value)(g:Nat):Prop:=
 cs.length=s.len*sz/\((s=⟨none,0,0⟩/\g=0)\/(0<g/\g<=h.next/\s.cap=0/\∃b base c,s.a=some ⟨b,0,none⟩/\h.get b=some (.cells c g base e)/\c.take cs.length=cs))
theorem wS.nil {sz:Nat}{e:TypeId}:wS h ⟨none,0,0⟩ sz e [] 0:=⟨by simp,.inl ⟨rfl,rfl⟩⟩
theorem wS.fr {s:Sl}{sz:Nat}{e:TypeId}{cs:List Value}{g:Nat}(o:wS h s sz e cs g)(f:Fr X h h')(hg:X g->g=0):wS h' s sz e cs g:=by
 obtain⟨h1,h2⟩:=o;refine⟨h1,?_⟩;rcases h2 with h2|⟨h2,h3,h4,b,base,c,h5,h6,h7⟩
 .exact .inl h2
 .exact .inr ⟨h2,abU h3 f.next,h4,b,base,c,h5,f.cells _ _ _ _ _ h6 hg,h7⟩
theorem wS.le {s:Sl}{sz:Nat}{e:TypeId}{cs:List Value}{g:Nat}(o:wS h s sz e cs g):g<=h.next:=by
 obtain⟨_,h2⟩:=o;rcases h2 with⟨_,h2⟩|⟨h2,h3,_⟩<;>omega
theorem O8 {γ:Type}{c cs:List γ}(hc:c.take cs.length=cs):cs.length<=c.length:=by
 have:=congrArg List.length hc;rw[adw] at this;omega
theorem wS.BB {s:Sl}{sz:Nat}{e:TypeId}{cs:List Value}{g:Nat}(o:wS h s sz e cs g):qy h s sz cs g:=by
 refine⟨o.1,?_⟩;rcases o.2 with⟨rfl,_⟩|⟨_,_,_,b,base,c,h1,h2,h3⟩
 .exact .inl rfl
 .exact .inr ⟨_,h1,rfl,c,base,e,h2,by simpa using O8 h3,by simpa using h3⟩
theorem wS.app {s:Sl}{sz:Nat}{e:TypeId}{cs new:List Value}{g n:Nat}{Q:Sl->af->Prop}(o:wS h s sz e cs g)(hw:WF h)(hn:n≠0)(hl:new.length=n*sz)(hb:s.len+n<=cK)
  (hq:∀s' h' g',s'.len=s.len+n->wS h' s' sz e (cs++new) g'->(g'=g/\g≠0\/g'=h.next+1)->Fr (·=g) h h'->Q s' h'):Wp (Ago.app false s sz e n new) h Q:=by
 obtain⟨h1,h2⟩:=o;have hnx:=hw.get h.next (aaR _)
 have key:Ago.app false s sz e n new h=tB false s sz e n new h:=by unfold Ago.app;simp
 suffices hh:∃s' h' ,tB false s sz e n new h=some (s',h')/\Q s' h' by
  obtain⟨s',h',e1,e2⟩:=hh;exact⟨s',h',by rw[key];exact e1,e2⟩
 rcases h2 with⟨rfl,rfl⟩|⟨h2,h3,h4,b,base,c,h5,h6,h7⟩
 .have hc:cs=[]:=abn (by simpa using h1);subst hc;refine⟨_,_,?_,hq ⟨some ⟨h.next,0,none⟩,n,0⟩ (h.new e new) (h.next+1) (by simp) ⟨by simp[hl],.inr ⟨by omega,by simp[af.new,af.dQ],rfl,h.next,0,new,rfl,ki,af8⟩⟩ (.inr rfl) ((Fr.new hw).mono hw (λ_ hx _=>hx.elim))⟩
  unfold tB;rw[if_neg hn];simp only[adr] at hb⊢;rw[if_neg (by simp[hb,hl])];simp
 .have hle:=O8 h7;have hcells:aX h (some ⟨b,0,none⟩) (s.len*sz)=some cs:=by simp[aX,h6,<-h1,h7,hle]
  by_cases ht:h.oi g=base+0+s.len*sz
  .refine⟨⟨some ⟨h.next,0,none⟩,s.len+n,0⟩,{ h with get:=λj=>cond (Nat.beq j h.next) (some (.cells (cs++new) g (base+0) e)) (h.get j),next:=h.next+1,oi:=λg'=>cond (Nat.beq g' g) (base+0+s.len*sz+new.length) (h.oi g'),used:=λj=>cond (Nat.beq j h.next) true (h.used j) },?_,hq _ _ g rfl ?_ (.inl ⟨rfl,by omega⟩) ?_⟩
   .unfold tB;rw[if_neg hn,if_neg (by simp[hb,hl]),h5];simp only[hcells,h6];rw[if_neg (by simp[h4]),if_neg (by simp[h4])];rw[if_pos ⟨by omega,trivial⟩];rw[if_pos ht]
   .exact⟨by simp[h1,hl,adv],.inr ⟨h2,by simp;omega,rfl,h.next,base+0,cs++new,rfl,by simp[gm],af8⟩⟩
   .refine⟨⟨λj hj=>?_,λj hj=>?_,λj c g' b' e' hj=>?_,λj hj=>hw.maps j (by simp at hj;omega)⟩,afr _,?_,?_,?_,?_,λ_ _ e _=>e⟩
    .simp at hj;simp[bB (show j≠h.next by omega)];exact hw.get j (by omega)
    .simp at hj;simp[bB (show j≠h.next by omega)];exact hw.used j (by omega)
    .simp only at hj;by_cases hjn:j=h.next
     .subst hjn;simp[gm] at hj;simp;omega
     .simp[bB hjn] at hj;have:=hw.dW _ _ _ _ _ hj;simp;omega
    .intro j c g' b' e' hj _;have:j≠h.next:=λhjn=>by subst hjn;rw[hnx] at hj;cases hj
     simp[bB this];exact hj
    .intro g' _ hx;have:g'≠g:=λhx2=>(by have:=hx hx2;omega);simp[bB this]
    .intro j hj;simp[bB (show j≠h.next by omega)]
    .intro j hj hx;simp[bB (show j≠h.next by omega)];exact hx
  .refine⟨⟨some ⟨h.next,0,none⟩,s.len+n,0⟩,{ h with get:=λj=>cond (Nat.beq j h.next) (some (.cells (cs++new) g (base+0) e)) (match h.get j with|some (.cells c' g' base' elem')=>cond (Nat.beq g' g&&Nat.blt (base+0+s.len*sz) (base'+c'.length)) none (some (.cells c' g' base' elem'))|o=>o),next:=h.next+1,oi:=λg'=>cond (Nat.beq g' g) (base+0+s.len*sz+new.length) (h.oi g'),used:=λj=>cond (Nat.beq j h.next) true (h.used j) },?_,hq _ _ g rfl ?_ (.inl ⟨rfl,by omega⟩) ?_⟩
   .unfold tB;rw[if_neg hn,if_neg (by simp[hb,hl]),h5];simp only[hcells,h6];rw[if_neg (by simp[h4]),if_neg (by simp[h4])];rw[if_pos ⟨by omega,trivial⟩];rw[if_neg ht,if_pos trivial];rfl
   .exact⟨by simp[h1,hl,adv],.inr ⟨h2,by simp;omega,rfl,h.next,base+0,cs++new,rfl,by simp[gm],af8⟩⟩
   .refine⟨⟨λj hj=>?_,λj hj=>?_,λj c g' b' e' hj=>?_,λj hj=>hw.maps j (by simp at hj;omega)⟩,afr _,?_,?_,?_,?_,λ_ _ e _=>e⟩
    .simp at hj;simp[bB (show j≠h.next by omega),hw.get j (by omega)]
    .simp at hj;simp[bB (show j≠h.next by omega)];exact hw.used j (by omega)
    .simp only at hj;by_cases hjn:j=h.next
     .subst hjn;simp[gm] at hj;simp;omega
     .simp only[bB hjn,cond_false] at hj;cases hgj:h.get j with
      |none=>rw[hgj] at hj;cases hj
      |some o=>
       rw[hgj] at hj;cases o with
       |cells c2 g2 b2 e2=>
        simp only at hj;cases hq2:(Nat.beq g2 g&&Nat.blt (base+0+s.len*sz) (b2+c2.length)) with
        |true=>rw[hq2] at hj;cases hj
        |false=>
         rw[hq2] at hj;simp only[cond_false,aaM] at hj;cases hj;have:=hw.dW _ _ _ _ _ hgj;simp;omega
       |_=>cases hj
    .intro j c g' b' e' hj hx;have hjn:j≠h.next:=λhjn=>by subst hjn;rw[hnx] at hj;cases hj
     have:Nat.beq g' g=false:=by
      refine bB λe=>?_;have:=hx e;omega
     simp only[bB hjn,cond_false,hj,this,ag6]
    .intro g' _ hx;have:g'≠g:=λhx2=>(by have:=hx hx2;omega);simp[bB this]
    .intro j hj;simp[bB (show j≠h.next by omega)]
    .intro j hj hx;simp[bB (show j≠h.next by omega),hx]
theorem wS.cut {e:TypeId}{s:Sl}{cs:List Value}{v:Value}{g:Nat}{β:Type}{f:Sl->M β}{Q:β->af->Prop}(o:wS h s 1 e (cs++[v]) g)(q:∀s',s'.len=cs.length->wS h s' 1 e cs g->Wp (f s') h Q) :
  Wp (sh (kJ s 0 (((s.len:Nat):Int)-1) e 1) f) h Q:=by
 obtain⟨h1,h2⟩:=o;rw[aaQ,acq] at h1;simp at h1;rcases h2 with⟨rfl,_⟩|⟨h2,h3,h4,b,base,c,h5,h6,h7⟩
 .simp at h1
 rw[ah];refine Bx (by omega) (by omega) (by omega) (by simp[np,h5,h6]) (q _ (by simp;omega) ⟨by simp;omega,.inr ⟨h2,h3,by simp[h4],b,base,c,by simp[h5,Addr.plus],h6,?_⟩⟩);have:=congrArg (List.take cs.length) h7;rw[List.take_take] at this;simpa[agp] using this
def MT (h:af)(F:List (Sl×List Value))(sz:Nat)(e:TypeId)(g:Nat):Prop:=
 0<g/\g<=h.next/\∃base,∀x∈F,x.2.length=x.1.len*sz/\x.1.cap=0/\∃b,x.1.a=some ⟨b,0,none⟩/\h.get b=some (.cells x.2 g base e)
theorem MT.fr {F:List (Sl×List Value)}{sz:Nat}{e:TypeId}{g:Nat}(o:MT h F sz e g)(f:Fr X h h')(hg:X g->g=0):MT h' F sz e g:=by
 obtain⟨h1,h2,base,h3⟩:=o;refine⟨h1,abU h2 f.next,base,λx hx=>?_⟩
 obtain⟨a,b,c,d,k⟩:=h3 x hx;exact⟨a,b,c,d,f.cells _ _ _ _ _ k hg⟩
theorem MT.app {F:List (Sl×List Value)}{sz:Nat}{e:TypeId}{g n:Nat}{s:Sl}{cs new:List Value}{Q:Sl->af->Prop}(o:MT h F sz e g)(hw:WF h)(hm:(s,cs)∈F)(hmax:∀x∈F,x.2.length<=cs.length)(hn:n≠0)(hl:new.length=n*sz)(hb:s.len+n<=cK)
  (hq:∀s' h',s'.len=s.len+n->MT h' ((s',cs++new)::F) sz e g->Fr (·=g) h h'->Q s' h'):Wp (Ago.app false s sz e n new) h Q:=by
 obtain⟨h2,h3,base,hF⟩:=o;obtain⟨h1,h4,b,h5,h6⟩:=hF _ hm;simp only at h1 h4 h5 h6;have hnx:=hw.get h.next (aaR _)
 have key:Ago.app false s sz e n new h=tB false s sz e n new h:=by unfold Ago.app;simp
 suffices hh:∃s' h' ,tB false s sz e n new h=some (s',h')/\Q s' h' by
  obtain⟨s',h',e1,e2⟩:=hh;exact⟨s',h',by rw[key];exact e1,e2⟩
 have hcells:aX h (some ⟨b,0,none⟩) (s.len*sz)=some cs:=by simp[aX,h6,<-h1]
 have fin:∀h':af,h'.next=h.next+1->(∀j,h'.get j=cond (Nat.beq j h.next) (some (.cells (cs++new) g (base+0) e)) (match h.get j with
    |some (.cells c' g' base' elem')=>cond (Nat.beq g' g&&Nat.blt (base+0+s.len*sz) (base'+c'.length)) none (some (.cells c' g' base' elem'))
    |o=>o)\/(h'.get j=cond (Nat.beq j h.next) (some (.cells (cs++new) g (base+0) e)) (h.get j))) ->
   (∀g',g'≠g->h'.oi g'=h.oi g')->(∀j,j≠h.next->h'.used j=h.used j)->(∀j,h'.jf j=h.jf j)->Q ⟨some ⟨h.next,0,none⟩,s.len+n,0⟩ h':=by
  intro h' e1 hget e3 e4 e5;have nr:∀j k,j≠h.next->h'.get j=some k->h.get j=some k:=λj k hj hk=>by
   rcases hget j with q|q
   .rw[q,bB hj,cond_false] at hk;cases hgj:h.get j with
    |none=>rw[hgj] at hk;cases hk
    |some o=>
     rw[hgj] at hk;cases o with
     |cells c2 g2 b2 e2=>
      simp only at hk;cases hq2:(Nat.beq g2 g&&Nat.blt (base+0+s.len*sz) (b2+c2.length)) with
      |true=>rw[hq2] at hk;cases hk
      |false=>rw[hq2] at hk;exact hk
     |_=>exact hk
   .rw[q,bB hj,cond_false] at hk;exact hk
  have stay:∀j c g' b' e',h.get j=some (.cells c g' b' e')->(g'=g->b'+c.length<=base+s.len*sz)->h'.get j=some (.cells c g' b' e'):=λj c g' b' e' hj hc=>by
   have hjn:j≠h.next:=λq=>by subst q;rw[hnx] at hj;cases hj
   rcases hget j with q|q
   .rw[q,bB hjn,cond_false,hj];simp only;by_cases hg:g'=g
    .have:Nat.blt (base+0+s.len*sz) (b'+c.length)=false:=by
      have:=hc hg;cases hq:Nat.blt (base+0+s.len*sz) (b'+c.length) with
      |false=>rfl
      |true=>
       have:=adA hq;omega
     rw[this,Bool.and_false];rfl
    .rw[bB hg];rfl
   .rw[q,bB hjn,cond_false];exact hj
  have self:h'.get h.next=some (.cells (cs++new) g (base+0) e):=by
   rcases hget h.next with q|q<;>rw[q,gm]<;>rfl
  refine hq _ _ rfl ⟨h2,by omega,base,λx hx=>?_⟩ ⟨⟨λj hj=>?_,λj hj=>?_,λj c g' b' e' hj=>?_,λj hj=>?_⟩,by omega,λj c g' b' e' hj hx=>?_,λg' _ hx=>?_,λj hj=>?_,λj hj hx=>?_,λj x hj _=>by rw[e5];exact hj⟩
  .rcases List.mem_cons.1 hx with rfl|hx
   .exact⟨by simp[h1,hl,adv],rfl,h.next,rfl,by simpa using self⟩
   .obtain⟨p1,p2,b3,p3,p4⟩:=hF x hx;exact⟨p1,p2,b3,p3,stay _ _ _ _ _ p4 λ_=>by have:=hmax x hx;omega⟩
  .cases hk:h'.get j with
   |none=>rfl
   |some k=>have:=nr j k (by omega) hk;rw[hw.get j (by omega)] at this;cases this
  .rw[e4 j (by omega)];exact hw.used j (by omega)
  .by_cases hjn:j=h.next
   .subst hjn;rw[self] at hj;cases hj;omega
   .have:=hw.dW _ _ _ _ _ (nr j _ hjn hj);omega
  .rw[e5];exact hw.maps j (by omega)
  .exact stay _ _ _ _ _ hj λe=>by have:=hx e;omega
  .exact e3 g' λe=>by have:=hx e;omega
  .exact e4 j (by omega)
  .cases hk:h'.get j with
   |none=>rfl
   |some k=>have:=nr j k (by omega) hk;rw[hx] at this;cases this
 by_cases ht:h.oi g=base+0+s.len*sz
 .refine⟨⟨some ⟨h.next,0,none⟩,s.len+n,0⟩,{ h with get:=λj=>cond (Nat.beq j h.next) (some (.cells (cs++new) g (base+0) e)) (h.get j),next:=h.next+1,oi:=λg'=>cond (Nat.beq g' g) (base+0+s.len*sz+new.length) (h.oi g'),used:=λj=>cond (Nat.beq j h.next) true (h.used j) },?_,fin _ rfl (λj=>.inr rfl) (λg' hg=>by simp[bB hg]) (λj hj=>by simp[bB hj]) λ_=>rfl⟩
  unfold tB;rw[if_neg hn,if_neg (by simp[hb,hl]),h5];simp only[hcells,h6];rw[if_neg (by simp[h4]),if_neg (by simp[h4])];rw[if_pos ⟨by omega,trivial⟩];rw[if_pos ht]
 .refine⟨⟨some ⟨h.next,0,none⟩,s.len+n,0⟩,{ h with get:=λj=>cond (Nat.beq j h.next) (some (.cells (cs++new) g (base+0) e)) (match h.get j with|some (.cells c' g' base' elem')=>cond (Nat.beq g' g&&Nat.blt (base+0+s.len*sz) (base'+c'.length)) none (some (.cells c' g' base' elem'))|o=>o),next:=h.next+1,oi:=λg'=>cond (Nat.beq g' g) (base+0+s.len*sz+new.length) (h.oi g'),used:=λj=>cond (Nat.beq j h.next) true (h.used j) },?_,fin _ rfl (λj=>.inl rfl) (λg' hg=>by simp[bB hg]) (λj hj=>by simp[bB hj]) λ_=>rfl⟩
  unfold tB;rw[if_neg hn,if_neg (by simp[hb,hl]),h5];simp only[hcells,h6];rw[if_neg (by simp[h4]),if_neg (by simp[h4])];rw[if_pos ⟨by omega,trivial⟩];rw[if_neg ht,if_pos trivial];rfl
inductive bj where
 |ar (b:Nat) (cs:List Value) (e:TypeId)
 |sl (s:Sl) (sz:Nat) (e:TypeId) (cs:List Value) (g:Nat)
 |map (m:Nat) (kt:TypeId) (f:Value->Option Value) (n:Nat)
 |ps (s:Sl) (sz:Nat) (e:TypeId) (cs:List Value) (g:Nat)
 |free (k:Nat)
 |Ud (F:List (Sl×List Value)) (sz:Nat) (e:TypeId) (g:Nat)
def F7 (h:af)(k:Nat):Prop:=h.used k=false/\k<h.next/\h.get k=none
theorem F7.fr {k:Nat}(f:F7 h k)(r:Fr X h h'):F7 h' k:=⟨by rw[r.used k f.2.1];exact f.1,afm f.2.1 r.next,r.none k f.2.1 f.2.2⟩
def bj.ok (h:af):bj->Prop
 |.ar b cs e=>LB h b cs e
 |.sl s sz e cs g=>qQ h s sz e cs g
 |.map m kt f n=>MB h m kt f n
 |.ps s sz e cs g=>wS h s sz e cs g
 |.free k=>F7 h k
 |.Ud F sz e g=>MT h F sz e g
def bj.dW:bj->Nat
 |.ar b _ _=>b+1
 |.sl _ _ _ _ g=>g
 |.map m _ _ _=>m+1
 |.ps _ _ _ _ g=>g
 |.free k=>k+1
 |.Ud _ _ _ g=>g
theorem bj.ZE {o:bj}(hk:o.ok h)(f:Fr X h h')(hx:X o.dW->o.dW=0):o.ok h':=by
 cases o with
 |ar b cs e=>exact LB.fr hk f (λhx2=>by have:=hx hx2;simp[bj.dW] at this)
 |sl s sz e cs g=>exact qQ.fr hk f hx
 |map m kt fn n=>exact MB.fr hk f (λhx2=>by have:=hx hx2;simp[bj.dW] at this)
 |ps s sz e cs g=>exact wS.fr hk f hx
 |free k=>exact F7.fr hk f
 |Ud F sz e g=>exact MT.fr hk f hx
theorem bj.le {o:bj}(hk:o.ok h)(hw:WF h):o.dW<=h.next:=by
 cases o with
 |ar b cs e=>exact LB.lt hk hw
 |sl s sz e cs g=>exact qQ.le hk
 |map m kt fn n=>exact MB.lt hk hw
 |ps s sz e cs g=>exact wS.le hk
 |free k=>exact hk.2.1
 |Ud F sz e g=>exact hk.2.1
structure Z (h0 h:af) (L:List bj):Prop where
 HX:WF h0
 fr:Fr (λ_=>False) h0 h
 own:∀o∈L,o.ok h/\(o.dW=0\/h0.next<o.dW)
 rV:L.Pairwise λa b=>a.dW=b.dW->a.dW=0
variable {L:List bj}
theorem Z.start (hw:WF h):Z h h []:=⟨hw,Fr.refl hw,by simp,.nil⟩
theorem Z.wf (z:Z h0 h L):WF h:=z.fr.wf
theorem Z.step (z:Z h0 h L)(f:Fr X h h')(hx:∀g,X g->g≠0->h0.next<g)(ho:∀o∈L,X o.dW->o.dW=0):Z h0 h' L:=
 ⟨z.HX,z.fr.trans z.HX f λg hg h0=>.inr (hx g hg h0),λo hm=>⟨bj.ZE (z.own o hm).1 f (ho o hm),(z.own o hm).2⟩,z.rV⟩
theorem Z.pure (z:Z h0 h L)(f:Fr (λ_=>False) h h'):Z h0 h' L:=z.step f (λ_ hx=>hx.elim) λ_ _ hx=>hx.elim
theorem Z.add (z:Z h0 h L)(f:Fr (λ_=>False) h h'){o:bj}(hk:o.ok h')(hg:o.dW=0\/h.next<o.dW):Z h0 h' (o::L):=by
 have z1:=z.pure f;have hle:=z.fr.next
 refine⟨z.HX,z1.fr,λx hx=>?_,.cons (λx hx he=>?_) z1.rV⟩
 .rcases List.mem_cons.1 hx with rfl|hx
  .exact⟨hk,hg.imp id λh1=>by omega⟩
  .exact z1.own x hx
 .rcases hg with hg|hg
  .exact hg
  .have:=bj.le (z.own x hx).1 z.wf;omega
theorem Z.drop {o:bj}(z:Z h0 h (o::L)):Z h0 h L:=⟨z.HX,z.fr,λx hx=>z.own x (AT _ hx),(List.pairwise_cons.1 z.rV).2⟩
theorem Z.sub {L':List bj}(z:Z h0 h L)(hs:L'.Sublist L):Z h0 h L':=⟨z.HX,z.fr,λx hx=>z.own x (hs.subset hx),z.rV.sublist hs⟩
theorem Z.get (z:Z h0 h L)(i:Nat){o:bj}(hi:L[i]?=some o):o.ok h:=(z.own o (IN hi)).1
theorem BC {γ:Type}{R:γ->γ->Prop}(hsym:∀a b,R a b->R b a):∀{l:List γ} {i:Nat} {x:γ},l.Pairwise R->(∀j y,l[j]?=some y->j≠i->R x y)->(l.set i x).Pairwise R
 |[],i,x,_,_=>by simp
 |a::l,0,x,hp,hx=>by
  rw[aeg];refine .cons (λy hy=>?_) (List.pairwise_cons.1 hp).2;obtain⟨j,hj⟩:=List.mem_iff_getElem?.1 hy;exact hx (j+1) y (by simpa using hj) (by omega)
 |a::l,i+1,x,hp,hx=>by
  rw[afD];obtain⟨h1,h2⟩:=List.pairwise_cons.1 hp;refine .cons (λy hy=>?_) (BC hsym h2 λj y hj hne=>hx (j+1) y (by simpa using hj) (by omega));rcases aef hy with hy|hy
  .exact h1 y hy
  .subst hy;exact hsym _ _ (hx 0 a rfl (by omega))
theorem BD {γ:Type}{R:γ->γ->Prop}(hsym:∀a b,R a b->R b a):∀{l:List γ} {i j:Nat} {x y:γ},l.Pairwise R->l[i]?=some x->l[j]?=some y->i≠j->R x y
 |[],i,j,x,y,_,hi,_,_=>by simp at hi
 |a::l,0,0,x,y,_,_,_,hn=>absurd rfl hn
 |a::l,0,j+1,x,y,hp,hi,hj,_=>by
  simp at hi hj;subst hi;exact (List.pairwise_cons.1 hp).1 y (IN hj)
 |a::l,i+1,0,x,y,hp,hi,hj,_=>by
  simp at hi hj;subst hj;exact hsym _ _ ((List.pairwise_cons.1 hp).1 x (IN hi))
 |a::l,i+1,j+1,x,y,hp,hi,hj,hn=>BD hsym (List.pairwise_cons.1 hp).2 (by simpa using hi) (by simpa using hj) (by omega)
theorem pM (a b:bj)(hr:a.dW=b.dW->a.dW=0):b.dW=a.dW->b.dW=0:=λe=>by rw[e];exact hr e.symm
theorem Z.rC (z:Z h0 h L){i:Nat}{o o':bj}(hi:L[i]?=some o)(ho:o.dW≠0)(f:Fr (·=o.dW) h h')(hk:o'.ok h')(hg:o'.dW=o.dW\/o'.dW=0\/h.next<o'.dW):Z h0 h' (L.set i o'):=by
 have hmem:=IN hi;have hfresh:h0.next<o.dW:=(z.own o hmem).2.resolve_left ho
 have hothers:∀j y,L[j]?=some y->j≠i->y.dW≠o.dW:=λj y hj hne e=>ho (by rw[<-e];exact BD pM z.rV hj hi hne e);refine⟨z.HX,z.fr.trans z.HX f λg hg h0=>.inr (by rw[hg];exact hfresh),λx hx=>?_,BC pM z.rV λj y hj hne e=>?_⟩
 .obtain⟨j,hj⟩:=List.mem_iff_getElem?.1 hx;rw[agv] at hj;split at hj
  .split at hj
   .cases hj;refine⟨hk,?_⟩;rcases hg with hg|hg|hg
    .exact .inr (by rw[hg];exact hfresh)
    .exact .inl hg
    .exact .inr (ags z.fr.next hg)
   .cases hj
  .rename_i hne;have hmy:=IN hj;exact⟨bj.ZE (z.own x hmy).1 f λe=>absurd e (hothers j x hj λe2=>hne e2.symm),(z.own x hmy).2⟩
 .rcases hg with hg|hg|hg
  .exact absurd (e.symm.trans hg) (hothers j y hj hne)
  .exact hg
  .have:=bj.le (z.own y (IN hj)).1 z.wf;omega
theorem Z.perm {L':List bj}(z:Z h0 h L)(hp:L.Perm L'):Z h0 h L':=⟨z.HX,z.fr,λx hx=>z.own x (hp.mem_iff.2 hx),(hp.pairwise_iff λ{a b}=>pM a b).1 z.rV⟩
theorem Z.new (z:Z h0 h L){e:TypeId}{cs:List Value}{f:Nat->M β}{Q:β->af->Prop}
  (q:∀b h',Z h0 h' (.ar b cs e::L)->Fr (λ_=>False) h h'->Wp (f b) h' Q) (hs:cs.all eQ=true:=by rfl):Wp (sh (aO none e cs) f) h Q:=by
 rw[ah,zF];have hf:=Fr.new (e:=e) (cs:=cs) z.wf;exact⟨hs,q _ _ (z.add hf (o:=.ar h.next cs e) LB.new (.inr (aar _))) hf⟩
theorem Z.Lh (z:Z h0 h L){e:TypeId}{c:List Value}{n:Int}{f:Sl->M β}{Q:β->af->Prop}(h1:0<=n)(h2:n<=cK)
  (q:∀b h',Z h0 h' (.ar b (List.replicate n.toNat c).flatten e::L)->Fr (λ_=>False) h h'->Wp (f ⟨some ⟨b,0,none⟩,n.toNat,n.toNat+1⟩) h' Q) (hs:c.all eQ=true:=by rfl):Wp (sh (vc none e c n n) f) h Q:=by
 rw[ah];refine HQ h1 (agJ _) h2 ?_ hs;have hf:=Fr.new (e:=e) (cs:=(List.replicate n.toNat c).flatten) z.wf;exact q _ _ (z.add hf (o:=.ar h.next _ e) LB.new (.inr (aar _))) hf
theorem LB.cl {b:Nat}{cs:List Value}{e:TypeId}(l:LB h b cs e):Cl h ⟨b,0,none⟩ cs (b+1):=⟨rfl,cs,0,e,l.get,by simp,by simp⟩
theorem Z.cl (z:Z h0 h L)(i:Nat){b:Nat}{cs:List Value}{e:TypeId}(hi:L[i]?=some (.ar b cs e)):Cl h ⟨b,0,none⟩ cs (b+1):=LB.cl (z.get i hi)
theorem Z.ld (z:Z h0 h L)(i:Nat){b o:Nat}{cs:List Value}{e:TypeId}{l:eF}{v:Value}{x:l.den}{f:l.den->M β}{Q:β->af->Prop}
  (q:Wp (f x) h Q) (hi:L[i]?=some (.ar b cs e):=by rfl) (hv:cs[o]?=some v:=by rfl) (hx:yI l v=some x:=by rfl):Wp (sh (aq l ⟨b,o,none⟩) f) h Q:=by
 rw[ah,uT];exact⟨x,LB.ld (z.get i hi) hv hx,q⟩
theorem Z.fI (z:Z h0 h L)(i:Nat){b:Nat}{cs:List Value}{e:TypeId}{ls:List eF}{x:bN ls}{f:bN ls->M β}{Q:β->af->Prop}
  (q:Wp (f x) h Q) (hi:L[i]?=some (.ar b cs e):=by rfl) (hx:vF ls cs=some x:=by rfl) (hl:ls.length=cs.length:=by rfl):Wp (sh (aI ls ⟨b,0,none⟩) f) h Q:=
 (z.cl i hi).fI hx q hl
theorem Z.st (z:Z h0 h L)(i:Nat){b o:Nat}{cs vs cs':List Value}{e:TypeId}{f:Unit->M β}{Q:β->af->Prop}
  (q:∀h',Z h0 h' (L.set i (.ar b cs' e))->Wp (f ()) h' Q) (hi:L[i]?=some (.ar b cs e):=by rfl) (hc:aY cs o vs=cs':=by rfl) (ho:o+vs.length<=cs.length:=by first|decide|simp) (hs:vs.all eQ=true:=by rfl) :
  Wp (sh (bG ⟨b,o,none⟩ vs) f) h Q:=by
 rw[ah];have l:LB h b cs e:=z.get i hi;refine l.st z.wf ho hs λh' l' fr=>q h' (z.rC (o:=.ar b cs e) hi (by simp[bj.dW]) fr ?_ (.inl rfl));rw[<-hc];exact l'
theorem Z.call (z:Z h0 h L){m:M α}{P:α->af->Prop}{f:α->M β}{Q:β->af->Prop}(hm:Wp m h λr h'=>P r h'/\Fr (λ_=>False) h h')
  (q:∀r h',P r h'->Fr (λ_=>False) h h'->Z h0 h' L->Wp (f r) h' Q):Wp (sh m f) h Q:=by
 rw[ah];exact hm.mono λr h' ⟨hp,hf⟩=>q r h' hp hf (z.pure hf)
theorem zH {γ:Type}{enc:γ->Value}{xs:List γ}{k:Nat}{v:γ}(hk:k<xs.length):aY (xs.map enc) k [enc v]=(xs.set k v).map enc:=by
 unfold aY;rw[afX,afJ,if_pos (by simpa using hk)];simp
theorem Z.zA (z:Z h0 h L)(i:Nat){γ:Type}{enc:γ->Value}{xs:List γ}{b k:Nat}{e:TypeId}{v:γ}{f:Unit->M β}{Q:β->af->Prop}(hk:k<xs.length)
  (q:∀h',Z h0 h' (L.set i (.ar b ((xs.set k v).map enc) e))->Wp (f ()) h' Q) (hi:L[i]?=some (.ar b (xs.map enc) e):=by rfl) (hs:eQ (enc v)=true:=by rfl):Wp (sh (bG ⟨b,k,none⟩ [enc v]) f) h Q:=
 z.st i (λh' z'=>q h' z') hi (zH hk) (by simp;omega) (by simp[hs])
theorem F8 {b n cap:Nat}{k:Int}{sz:Nat}(h1:0<=k)(h2:k<(n:Int)){f:Addr->M β}{Q:β->af->Prop}(q:Wp (f ⟨b,k.toNat*sz,none⟩) h Q):Wp (sh (av ⟨some ⟨b,0,none⟩,n,cap⟩ k sz) f) h Q:=by
 rw[ah,yw];refine⟨_,rfl,h1,h2,?_⟩;unfold Addr.plus;simp only[adr];exact q
theorem Z.Q3 (z:Z h0 h L)(i:Nat){s:Sl}{sz n:Nat}{e:TypeId}{cs new:List Value}{g:Nat}{f:Sl->M β}{Q:β->af->Prop}(hi:L[i]?=some (.ps s sz e cs g))(hn:n≠0)(hl:new.length=n*sz)(hb:s.len+n<=cK)
  (q:∀s' h' g',s'.len=s.len+n->Z h0 h' (L.set i (.ps s' sz e (cs++new) g'))->Fr (·=g) h h'->Wp (f s') h' Q):Wp (sh (Ago.app false s sz e n new) f) h Q:=by
 rw[ah];have o:wS h s sz e cs g:=z.get i hi;refine o.app z.wf hn hl hb λs' h' g' h1 h2 h3 h4=>q s' h' g' h1 ?_ h4;by_cases hg:g=0
 .have h3:=h3.resolve_left (λx=>x.2 hg);have f0:Fr (λ_=>False) h h':=⟨h4.wf,h4.next,λj c g2 b e2 hj _=>h4.cells j c g2 b e2 hj λe3=>by rw[e3,hg],λg2 h5 _=>h4.oi g2 h5 λe3=>by rw[e3,hg],h4.used,h4.none,λj x hj _=>h4.maps j x hj (by omega)⟩
  have z1:=z.add f0 (o:=.ps s' sz e (cs++new) g') h2 (.inr (by simp only[bj.dW];omega));refine⟨z1.HX,z1.fr,λx hx=>z1.own x ?_,BC pM (List.pairwise_cons.1 z1.rV).2 λj y hj hne e2=>(List.pairwise_cons.1 z1.rV).1 y (IN hj) e2⟩;rcases aef hx with hx|rfl
  .exact AT _ hx
  .exact By
 .refine z.rC (o:=.ps s sz e cs g) hi hg h4 h2 ?_;rcases h3 with h3|h3
  .exact .inl h3.1
  .exact .inr (.inr (by simp only[bj.dW];omega))
theorem Z.af6 (z:Z h0 h L)(i:Nat){s:Sl}{e:TypeId}{cs:List Value}{v:Value}{g:Nat}{f:Sl->M β}{Q:β->af->Prop}(hi:L[i]?=some (.ps s 1 e (cs++[v]) g))
  (q:∀s',s'.len=cs.length->Z h0 h (L.set i (.ps s' 1 e cs g))->Wp (f s') h Q):Wp (sh (kJ s 0 (((s.len:Nat):Int)-1) e 1) f) h Q:=by
 have o:wS h s 1 e (cs++[v]) g:=z.get i hi;refine o.cut λs' h1 h2=>q s' h1 ⟨z.HX,z.fr,λx hx=>?_,BC pM z.rV λj y hj hne e2=>BD (R:=λa b:bj=>a.dW=b.dW->a.dW=0) pM z.rV (x:=.ps s 1 e (cs++[v]) g) hi hj (λe3=>hne e3.symm) e2⟩;rcases aef hx with hx|rfl
 .exact z.own x hx
 .exact⟨h2,(z.own _ (IN hi)).2⟩
theorem Z.eS (z:Z h0 h L){n:Nat}(ks:List Nat){f:Nat->M β}{Q:β->af->Prop}(hk:ks.all (·<n)=true)(hd:ks.Nodup)
  (q:∀b h',Z h0 h' (ks.map (λk=>.free (b+k))++L)->Wp (f b) h' Q):Wp (sh (Ago.eS n) f) h Q:=by
 rw[ah,MR];have hf:=Fr.eS (n:=n) z.wf;have z1:=z.pure hf;have hkn:∀k∈ks,k<n:=λk hm=>by simpa using List.all_eq_true.1 hk k hm
 have hle:=z.fr.next
 refine q _ _ ⟨z.HX,z1.fr,λo ho=>?_,List.pairwise_append.2 ⟨?_,z1.rV,λa ha b hb he=>?_⟩⟩
 .rcases List.mem_append.1 ho with ho|ho
  .obtain⟨k,hm,rfl⟩:=List.mem_map.1 ho;have:=hkn k hm;exact⟨⟨z.wf.used _ (by omega),by simp;omega,z.wf.get _ (by omega)⟩,.inr (by simp only[bj.dW];omega)⟩
  .exact z1.own o ho
 .refine List.pairwise_map.2 (hd.imp λ{a b} hne he=>?_);simp only[bj.dW] at he;omega
 .obtain⟨k,hm,rfl⟩:=List.mem_map.1 ha;have:=bj.le (z.own b hb).1 z.wf;have he:h.next+k+1=b.dW:=he
  omega
theorem bj.abk {o:bj}{k:Nat}{e:TypeId}{cs:List Value}(hk:o.ok h)(hf:F7 h k)(hne:o.dW≠k+1):o.ok (h.dQ k h.next e cs):=by
 have hb:∀j c g b e,h.get j=some (.cells c g b e)->j≠k:=λj c g b e hj hjk=>by subst hjk;rw[hf.2.2] at hj;cases hj
 cases o with
 |ar b cs e=>exact⟨by rw[fR (hb _ _ _ _ _ hk.get)];exact hk.get⟩
 |sl s sz e cs g=>
  obtain⟨h1,h2⟩:=hk;refine⟨h1,?_⟩;rcases h2 with h2|⟨h2,h3,h4,b,base,h5,h6,h7⟩
  .exact .inl h2
  .exact .inr ⟨h2,h3,h4,b,base,h5,by rw[fR (hb _ _ _ _ _ h6)];exact h6,by rw[xx (show g≠k+1 from hne)];exact h7⟩
 |ps s sz e cs g=>
  obtain⟨h1,h2⟩:=hk;refine⟨h1,?_⟩;rcases h2 with h2|⟨h2,h3,h4,b,base,c,h5,h6,h7⟩
  .exact .inl h2
  .exact .inr ⟨h2,h3,h4,b,base,c,h5,by rw[fR (hb _ _ _ _ _ h6)];exact h6,h7⟩
 |map m kt fn n=>exact⟨hk.ex⟩
 |free k2=>
  have hn:k2≠k:=λe=>hne (by rw[e];rfl);exact⟨by simp[af.dQ,bB hn];exact hk.1,hk.2.1,by rw[fR hn];exact hk.2.2⟩
 |Ud F sz e g=>
  obtain⟨h1,h2,base,h3⟩:=hk;refine⟨h1,h2,base,λx hx=>?_⟩;obtain⟨a,b,c,d,q⟩:=h3 x hx;exact⟨a,b,c,d,by rw[fR (hb _ _ _ _ _ q)];exact q⟩
theorem Z.put (z:Z h0 h L){i k:Nat}(hi:L[i]?=some (.free k)){e:TypeId}{cs:List Value}:Z h0 (h.dQ k h.next e cs) (L.set i (.ar k cs e)):=by
 have hmem:=IN hi;have hf:F7 h k:=(z.own _ hmem).1;have hg:h0.next<k+1:=(z.own _ hmem).2.resolve_left (by simp[bj.dW])
 have ho:∀j y,L[j]?=some y->j≠i->y.dW≠k+1:=λj y hj hne e=>by
  have:=BD pM z.rV hj hi hne e;rw[e] at this;omega
 refine⟨z.HX,z.fr.dQ z.HX (by omega) hf.2.1,λx hx=>?_,BC pM z.rV λj y hj hne e2=>absurd e2.symm (ho j y hj hne)⟩;obtain⟨j,hj⟩:=List.mem_iff_getElem?.1 hx;rw[agv] at hj;split at hj
 .split at hj
  .cases hj;exact⟨⟨ki⟩,.inr hg⟩
  .cases hj
 .rename_i hne;have hmy:=IN hj;exact⟨bj.abk (z.own x hmy).1 hf (ho j x hj λe2=>hne e2.symm),(z.own x hmy).2⟩
theorem Z.newAt (z:Z h0 h L)(i:Nat){k:Nat}{e:TypeId}{cs:List Value}{f:Nat->M β}{Q:β->af->Prop}
  (q:∀h',Z h0 h' (L.set i (.ar k cs e))->Wp (f k) h' Q) (hi:L[i]?=some (.free k):=by rfl) (hs:cs.all eQ=true:=by rfl):Wp (sh (aO (some k) e cs) f) h Q:=by
 rw[ah,TY];have hf:F7 h k:=(z.own _ (IN hi)).1;exact⟨hs,hf.1,hf.2.1,hf.2.2,q _ (z.put hi)⟩
theorem Z.XZ (z:Z h0 h L)(i:Nat){k:Nat}{e:TypeId}{c:List Value}{n:Int}{f:Sl->M β}{Q:β->af->Prop}(h1:0<=n)(h2:n<=cK)
  (q:∀h',Z h0 h' (L.set i (.ar k (List.replicate n.toNat c).flatten e))->Wp (f ⟨some ⟨k,0,none⟩,n.toNat,n.toNat+1⟩) h' Q) (hi:L[i]?=some (.free k):=by rfl) (hs:c.all eQ=true:=by rfl):Wp (sh (vc (some k) e c n n) f) h Q:=by
 rw[ah];have hf:F7 h k:=(z.own _ (IN hi)).1;refine T0 h1 (agJ _) h2 hf.1 hf.2.1 hf.2.2 ?_ hs;exact q _ (z.put hi)
def Nb (h:af)(j b:Nat):Prop:=∃c g ba e,h.get j=some (.cells c g ba e)/\g≠b+1
theorem Cl.nb {a:Addr}{vs:List Value}{g b:Nat}(c:Cl h a vs g)(hg:g≠b+1):Nb h a.block b:=by
 obtain⟨_,c,base,e,h2,_⟩:=c;exact⟨_,_,_,_,h2,hg⟩
theorem Z.nb0 (z:Z h0 h L)(i:Nat){a:Addr}{vs cs:List Value}{g b:Nat}{e:TypeId}(c:Cl h0 a vs g)(hi:L[i]?=some (.ar b cs e)):Nb h a.block b:=by
 have hg:g<=h0.next:=by
  obtain⟨_,c,base,e,h2,_⟩:=c;exact z.HX.dW _ _ _ _ _ h2
 have:=(z.own _ (IN hi)).2.resolve_left (by simp[bj.dW]);simp only[bj.dW] at this;exact (c.fr z.fr λhx=>hx.elim).nb (by omega)
theorem Z.nbO (z:Z h0 h L)(i j:Nat){b b2:Nat}{cs cs2:List Value}{e e2:TypeId}(hi:L[i]?=some (.ar b cs e))(hj:L[j]?=some (.ar b2 cs2 e2))(hne:j≠i):Nb h b2 b:=by
 have l:LB h b2 cs2 e2:=z.get j hj;refine⟨_,_,_,_,l.get,λe=>?_⟩;have:=BD pM z.rV hj hi hne e;simp[bj.dW] at this
theorem Z.stC (z:Z h0 h L)(i:Nat){as:List (Option Addr)}{b o:Nat}{cs vs cs':List Value}{e:TypeId}{f:Unit->M β}{Q:β->af->Prop}
  (ha:∀a,some a∈as->Nb h a.block b)
  (q:∀h',Z h0 h' (L.set i (.ar b cs' e))->Wp (f ()) h' Q) (hi:L[i]?=some (.ar b cs e):=by rfl) (hc:aY cs o vs=cs':=by rfl) (ho:o+vs.length<=cs.length:=by first|decide|simp) (hs:vs.all eQ=true:=by rfl) :
  Wp (sh (kG as (bG ⟨b,o,none⟩ vs)) f) h Q:=by
 rw[ah];have l:LB h b cs e:=z.get i hi;refine xy (l.st z.wf ho hs λh' l' fr=>⟨λa hm=>?_,q h' (z.rC (o:=.ar b cs e) hi (by simp[bj.dW]) fr ?_ (.inl rfl))⟩)
 .obtain⟨c,g,ba,e3,h1,h2⟩:=ha a hm;rw[h1];exact fr.cells _ _ _ _ _ h1 λe=>absurd e h2
 .rw[<-hc];exact l'
theorem Z.af7 (z:Z h0 h L)(i:Nat){as:List (Option Addr)}{γ:Type}{enc:γ->Value}{xs:List γ}{b k:Nat}{e:TypeId}{v:γ}{f:Unit->M β}{Q:β->af->Prop}(hk:k<xs.length)
  (ha:∀a,some a∈as->Nb h a.block b)
  (q:∀h',Z h0 h' (L.set i (.ar b ((xs.set k v).map enc) e))->Wp (f ()) h' Q) (hi:L[i]?=some (.ar b (xs.map enc) e):=by rfl) (hs:eQ (enc v)=true:=by rfl):Wp (sh (kG as (bG ⟨b,k,none⟩ [enc v])) f) h Q:=
 z.stC i ha (λh' z'=>q h' z') hi (zH hk) (by simp;omega) (by simp[hs])
theorem X0 {ks:List Nat}{a:Addr}{m:M α}{Q:α->af->Prop}{g:Nat}{c:List Value}{ba:Nat}{e:TypeId}(hg:h.get a.block=some (.cells c g ba e))(hk:∀k∈ks,a.block≠k/\g≠k+1)(q:Wp m h Q):Wp (Ed ks a m) h Q:=by
 obtain⟨x,h',e1,q⟩:=q;refine⟨x,h',?_,q⟩;have:okK h a ks=true:=by
  unfold okK;rw[hg];simp only[adx];intro k hm;obtain⟨h1,h2⟩:=hk k hm;simp[bB h1,bB h2]
 unfold Ed;rw[this];exact e1
theorem Z.Ed (z:Z h0 h L)(i:Nat){ks:List Nat}{b o:Nat}{cs:List Value}{e:TypeId}{m:M α}{f:α->M β}{Q:β->af->Prop}(hk:∀k∈ks,b≠k)(q:Wp (sh m f) h Q)(hi:L[i]?=some (.ar b cs e):=by rfl) :
  Wp (sh (Ago.Ed ks ⟨b,o,none⟩ m) f) h Q:=by
 rw[ah] at q⊢;have l:LB h b cs e:=z.get i hi;exact X0 l.get (λk hm=>⟨hk k hm,λe=>hk k hm (by omega)⟩) q
theorem Z.ad7 (z:Z h0 h L){kt:TypeId}{f:Nat->M β}{Q:β->af->Prop}(q:∀m h',Z h0 h' (.map m kt (λ_=>none) 0::L)->Wp (f m) h' Q):Wp (sh (At kt) f) h Q:=by
 rw[ah];exact T4 z.wf λh' l fr=>q _ h' (z.add (o:=.map h.next kt (λ_=>none) 0) fr l (.inr (aar _)))
theorem Z.jf (z:Z h0 h L)(i:Nat){m:Nat}{kt:TypeId}{fn:Value->Option Value}{n:Nat}{T:Ty}{d:T.den}{k:Value}{f:Bool×T.den->M β}{Q:β->af->Prop}(hi:L[i]?=some (.map m kt fn n))
  (h1:∀v,fn k=some v->∃x,JQ T v=some x/\Wp (f (true,x)) h Q) (h2:fn k=none->Wp (f (false,d)) h Q):Wp (sh (wN kt T d (some m) k) f) h Q:=by
 rw[ah];exact MB.af3 (z.get i hi) h1 h2
theorem Z.Ub (z:Z h0 h L)(i:Nat){m:Nat}{kt:TypeId}{fn:Value->Option Value}{n:Nat}{T:Ty}{d:T.den}{k:Value}{f:T.den×Nat->M β}{Q:β->af->Prop}(hi:L[i]?=some (.map m kt fn n))(hk:vG k k=true)
  (h1:∀v,fn k=some v->∃x,JQ T v=some x/\∀st,AN h m k st->Wp (f (x,st)) h Q)
  (h2:fn k=none->∀h' st,Z h0 h' (L.set i (.map m kt (wX fn k (Cg T d)) (n+1)))->AN h' m k st->Wp (f (d,st)) h' Q):Wp (sh (vH kt T d (some m) k) f) h Q:=by
 rw[ah];exact MB.entry (z.get i hi) z.wf hk h1 λhf h' st l hs fr=>h2 hf h' st (z.rC (o:=.map m kt fn n) hi (by simp[bj.dW]) fr l (.inl rfl)) hs
theorem Z.Uc (z:Z h0 h L)(i:Nat){m:Nat}{kt:TypeId}{fn:Value->Option Value}{n:Nat}{k v:Value}{st:Nat}{f:Unit->M β}{Q:β->af->Prop}(hi:L[i]?=some (.map m kt fn n))(hs:AN h m k st)
  (q:∀h',Z h0 h' (L.set i (.map m kt (wX fn k v) n))->Wp (f ()) h' Q):Wp (sh (vI (some m) (st:Int) v) f) h Q:=by
 rw[ah];exact MB.store (z.get i hi) z.wf hs λh' l fr=>q h' (z.rC (o:=.map m kt fn n) hi (by simp[bj.dW]) fr l (.inl rfl))
theorem Z.ne (z:Z h0 h L)(i j:Nat){o p:bj}(hi:L[i]?=some o)(hj:L[j]?=some p)(hne:i≠j)(ho:o.dW≠0):p.dW≠o.dW:=λe=>by
 have:=BD pM z.rV hj hi (λe=>hne e.symm) e;exact ho (by rw[<-e];exact this)
theorem Q4 {γ:Type}(l:List γ):(List.range l.length).filterMap (λi=>l[i]?)=l:=by
 induction l with
 |nil=>rfl
 |cons a l ih=>
  rw[OF,List.range_succ_eq_map,List.filterMap_cons_some (f:=λi=>(a::l)[i]?) (b:=a) rfl,List.filterMap_map]
  conv=>rhs;rw[<-ih]
  rfl
theorem Z.sy {pre:List bj}(z:Z h0 h (pre++L))(p:List Nat)(hp:p.Perm (List.range pre.length)):Z h0 h (p.filterMap (λi=>pre[i]?)++L):=by
 refine z.perm (agy _ ?_);have:=hp.filterMap (λi=>pre[i]?);rw[Q4] at this;exact this.symm
end Go.Ago
