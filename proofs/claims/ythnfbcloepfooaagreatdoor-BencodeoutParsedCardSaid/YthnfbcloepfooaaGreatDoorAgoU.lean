
import Derived.Test.YthnfbcloepfooaaGreatDoorAgoT
set_option linter.all false
namespace Go.Ago
open Go
variable {P:Program}{h h' h1:af}{C:eI}
def eI.ok (C:eI):eI:={ C with
 st:=λf vs=>match C.st f vs with
  |some ca=>some ca
  |none=>(match C.sp f vs with
   |some ca=>some ⟨ca.α,λh=>match ca.m h with|some (.inl x,h')=>some (x,h')|_=>none,ca.pk⟩
   |none=>none)
 mo:=C.MG
 sp:=λ_ _=>none
 Hh:=λ_=>false }
def mark {α:Type}:α⊕ξ->ξ
 |.inl _=>.tuple #[]
 |.inr v=>.tuple #[v]
def eI.mk' (C:eI):eI:={ C with
 st:=λf vs=>match C.st f vs with
  |some ca=>some ca
  |none=>(match C.sp f vs with
   |some ca=>some ⟨ca.α⊕ξ,ca.m,mark⟩
   |none=>none)
 mo:=C.MG }
theorem H8 {R:Type}{C':eI}(h1:∀f vs ca,C.st f vs=some ca->C'.st f vs=some ca)(h2:C'.dy=C.dy)(h3:C'.VB=C.VB){W:Wr}{nm:μ}{cks:List θ}{ks:η}{ops:Array Oper}{E:Env}{L:cK}{o:Oper}{K:Env->cK->M R}{r:R×af}
  (hx:jU P C W nm cks ks ops E L o K h=some r):jU P C' W nm cks ks ops E L o K h=some r:=by
 have hd:∀c,iQ C' c=iQ C c:=λc=>by unfold iQ;rw[h3]
 generalize hm:jU P C W nm cks ks ops E L o K=m at hx;unfold jU at hm⊢;cases hW:xk W o.dst
 .rw[hW] at hm;subst hm;simp[AT] at hx
 rw[hW] at hm;cases hop:o.op<;>simp only[hop] at hm⊢<;>try (subst hm;exact hx)
 case call c=>
  simp only[hd,h2];cases hb:isBuiltin c<;>simp only[hb] at hm⊢
  .cases hs:iQ C c with
   |some t=>rw[hs] at hm;subst hm;exact hx
   |none=>
    rw[hs] at hm;simp only at hm⊢;cases hc:callee E c with
    |none=>rw[hc] at hm;subst hm;simp[AT] at hx
    |some q=>
     obtain⟨f,vs⟩:=q;rw[hc] at hm;simp only at hm⊢;cases hst:C.st f vs with
     |none=>rw[hst] at hm;subst hm;simp[AT] at hx
     |some ca=>rw[hst] at hm;rw[h1 _ _ _ hst];subst hm;exact hx
  .subst hm;exact hx
theorem H9 (f:FuncId)(vs:δ)(ca:nf)(h:C.st f vs=some ca):C.ok.st f vs=some ca:=by simp only[eI.ok,h]
theorem PU (f:FuncId)(vs:δ)(ca:nf)(h:C.st f vs=some ca):C.mk'.st f vs=some ca:=by simp only[eI.mk',h]
theorem Fh {E:Env}{o:Oper}{ca:Po}(hp:pV C E o=some ca):dp C o=true/\∃c f vs,o.op=.call c/\c.callee=.value (.func f)/\C.Hh f=true/\callee E c=some (f,vs)/\C.sp f vs=some ca:=by
 unfold pV at hp;cases hi:dp C o with
 |false=>rw[hi] at hp;cases hp
 |true=>
  rw[hi] at hp;refine⟨rfl,?_⟩;unfold dp at hi;cases hop:o.op<;>simp only[hop] at hi hp<;>try (cases hi;done)
  rename_i c;split at hi
  .rename_i f hf;cases hcal:callee E c with
   |none=>rw[hcal] at hp;cases hp
   |some q=>
    obtain⟨g,vs⟩:=q;rw[hcal] at hp;have:g=f:=by
     unfold callee at hcal;rw[hf] at hcal;cases he:E.D9 c.args.toList with
     |none=>rw[he] at hcal;cases hcal
     |some ws=>rw[he] at hcal;simp[Env.ev] at hcal;exact hcal.1.symm
    grind
  .cases hi
theorem sR {c:Call}{f:FuncId}(hf:c.callee=.value (.func f)):isBuiltin c=false/\iQ C c=none:=by
 unfold isBuiltin iQ;rw[hf];exact⟨rfl,rfl⟩
theorem Fi {R:Type}(hdis:∀f vs,C.Hh f=true->C.st f vs=none){W:Wr}{nm:μ}{cks:List θ}{ks:η}{ops:Array Oper}{E:Env}{L:cK}{o:Oper}{eA:ξ->M R}{K:Env->cK->M R}{r:R×af}
  (hx:yd P C W nm cks ks ops E L o eA K h=some r) :
  jU P C W nm cks ks ops E L o K h=some r\/(dp C o=true/\jU P C.ok W nm cks ks ops E L o K h=some r) \/
  (dp C o=true/\∀Kp:Env->cK->M R,(∀E' L' h' v,(∀d,o.dst=some d->E' d=some (.tuple #[v]))->eA v h'=some r->Kp E' L' h'=some r)->jU P C.mk' W nm cks ks ops E L o Kp h=some r):=by
 generalize hm:yd P C W nm cks ks ops E L o eA K=m at hx;unfold yd at hm;cases hp:pV C E o with
 |none=>rw[hp] at hm;subst hm;exact .inl hx
 |some ca=>
  rw[hp] at hm;obtain⟨hi,c,f,vs,hop,hf,hisp,hcal,hsp⟩:=Fh hp;have hst:=hdis f vs hisp;have hok:C.ok.st f vs=some ⟨ca.α,λh=>match ca.m h with|some (.inl x,h')=>some (x,h')|_=>none,ca.pk⟩:=by simp only[eI.ok,hst,hsp]
  have hmk:C.mk'.st f vs=some ⟨ca.α⊕ξ,ca.m,mark⟩:=by simp only[eI.mk',hst,hsp]
  obtain⟨hb,hds⟩:=sR (C:=C) hf;have hds1:iQ C.ok c=none:=(sR hf).2;have hds2:iQ C.mk' c=none:=(sR hf).2;cases hW:xk W o.dst with
  |false=>rw[hW] at hm;subst hm;simp[AT] at hx
  |true=>
   rw[hW] at hm;subst hm;simp only[AI] at hx;split at hx
   .rename_i y h2 hy;obtain⟨hy1,hy2⟩:=yh hy;cases y with
    |inl x=>
     refine .inr (.inl ⟨hi,?_⟩);unfold jU;simp only[hW,hop,hb,hds1,hcal,hok,AI];have:wrapM cks (λh=>match ca.m h with|some (.inl x,h')=>some (x,h')|_=>none) h=some (x,h2):=by
      unfold wrapM;cases cks with
      |nil=>simp only[hy1]
      |cons a as=>
       grind [sameAt,kO]
     rw[this];exact hx
    |inr v=>
     refine .inr (.inr ⟨hi,λKp hKp=>?_⟩);unfold jU;simp only[hW,hop,hb,hds2,hcal,hmk,AI,hy];refine hKp _ _ _ v (λd hd=>?_) hx;rw[hd];show Env.set E d _ d=_;simp[Env.set,mark]
   .cases hx
def wk {R:Type}(eA:ξ->M R)(d:μ):Env->M R:=λE=>match d with
 |some d=>(match E d with
  |some (.tuple cs)=>(match cs.toList with | [v]=>eA v|_=>AT)
  |_=>AT)
 |none=>AT
theorem MW {R:Type}{eA:ξ->M R}{d:Nat}{E:Env}{v:ξ}{r:R×af}(he:E d=some (.tuple #[v]))(hx:eA v h=some r):wk eA (some d) E h=some r:=by
 simp only[wk,he];exact hx
theorem MX {R:Type}{eA:ξ->M R}{d:μ}{E:Env}{r:R×af}(hx:wk eA d E h=some r):∃d0 v,d=some d0/\E d0=some (.tuple #[v])/\eA v h=some r:=by
 cases d with
 |none=>simp[wk,AT] at hx
 |some d=>
  unfold wk at hx;cases he:E d with
  |none=>simp[he,AT] at hx
  |some cv=>
   simp only[he] at hx;cases cv<;>try (simp[AT] at hx;done)
   rename_i cs;simp only at hx;cases hc:cs.toList with
   |nil=>simp[hc,AT] at hx
   |cons v vs=>
    cases vs with
    |nil=>
     simp only[hc] at hx;refine⟨d,v,rfl,?_,hx⟩;have:cs=#[v]:=aaS (by simpa using hc);rw[he,this]
    |cons u us=>simp[hc,AT] at hx
theorem Cz {R:Type}{W:Wr}{nm:μ}{cks:List θ}{ks:η}{ops:Array Oper}{E:Env}{L:cK}{o:Oper}{K:Env->cK->M R}{r:R×af}
  (hx:jU P C W nm cks ks ops E L o K h=some r):∃E' L' h',K E' L' h'=some r/\∀(R2:Type) (K2:Env->cK->M R2) (r2:R2×af),K2 E' L' h'=some r2->jU P C W nm cks ks ops E L o K2 h=some r2:=by
 have run:∀A:Act,A.run (λv=>K (E.put o.dst v) (L.del o.dst)) h=some r->∃E' L' h',K E' L' h'=some r/\∀(R2:Type) (K2:Env->cK->M R2) (r2:R2×af),K2 E' L' h'=some r2->A.run (λv=>K2 (E.put o.dst v) (L.del o.dst)) h=some r2:=by
  grind [za]
 unfold jU at hx⊢;cases hW:xk W o.dst
 .rw[hW] at hx;simp[AT] at hx
 rw[hW] at hx;cases hop:o.op<;>simp only[hop] at hx⊢<;>try (exact run _ hx)
 case pick c a b=>
  cases hc:E.ev c with
  |none=>rw[hc] at hx;simp[AT] at hx
  |some cv=>
   rw[hc] at hx;cases cv<;>simp only at hx⊢<;>try (simp[AT] at hx;done)
   rename_i t;cases t
   .simp only[kG,aag,aar] at hx⊢;cases hv:(E.nY c false).ev b with
    |none=>rw[hv] at hx;simp[AT] at hx
    |some v=>rw[hv] at hx;exact⟨_,_,h,hx,λR2 K2 r2 q=>q⟩
   .simp only[kG,aav] at hx⊢;cases hv:(E.nY c true).ev a with
    |none=>rw[hv] at hx;simp[AT] at hx
    |some v=>rw[hv] at hx;exact⟨_,_,h,hx,λR2 K2 r2 q=>q⟩
 case call c=>
  have bind:∀(ca:nf),(AI (wrapM cks ca.m) λx=>K (E.put o.dst (ca.pk x)) (L.del o.dst)) h=some r->∃E' L' h',K E' L' h'=some r/\∀(R2:Type) (K2:Env->cK->M R2) (r2:R2×af),K2 E' L' h'=some r2 ->
    (AI (wrapM cks ca.m) λx=>K2 (E.put o.dst (ca.pk x)) (L.del o.dst)) h=some r2:=by
   grind [AI]
  cases hb:isBuiltin c<;>simp only[hb] at hx⊢
  .cases hs:iQ C c with
   |some t=>
    rw[hs] at hx;simp only at hx⊢;cases hc:pU E t c with
    |none=>rw[hc] at hx;simp[AT] at hx
    |some q=>
     obtain⟨x,vs⟩:=q;rw[hc] at hx;simp only at hx⊢;cases hd:C.dy t x vs with
     |none=>rw[hd] at hx;simp[AT] at hx
     |some ca=>rw[hd] at hx;exact bind ca hx
   |none=>
    rw[hs] at hx;simp only at hx⊢;cases hc:callee E c with
    |none=>rw[hc] at hx;simp[AT] at hx
    |some q=>
     obtain⟨f,vs⟩:=q;rw[hc] at hx;simp only at hx⊢;cases hd:C.st f vs with
     |none=>rw[hd] at hx;simp[AT] at hx
     |some ca=>rw[hd] at hx;exact bind ca hx
  .cases hl:qt L c with
   |none=>
    rw[hl] at hx;simp only at hx⊢;cases hlx:vG ops o<;>rw[hlx] at hx
    .exact run _ hx
    .simp[AT] at hx
   |some q=>obtain⟨n,cs⟩:=q;rw[hl] at hx;exact run _ hx
 case store t x v=>
  cases ks with
  |nil=>exact run _ hx
  |cons k ks=>
   simp only at hx⊢;cases hv:E.ev x with
   |none=>rw[hv] at hx;simp[AT] at hx
   |some xv=>
    rw[hv] at hx;cases xv<;>try (simp[AT] at hx;done)
    rename_i pa;cases pa with
    |none=>simp[AT] at hx
    |some a=>exact run _ hx
 case buildSlice t n ps=>
  cases hl:tX P ops E o with
  |none=>rw[hl] at hx;exact run _ hx
  |some q=>rw[hl] at hx;exact⟨_,_,h,hx,λR2 K2 r2 q=>q⟩
def qv (C:eI)(ops:Array Oper)(i:Nat):Bool:=match ops[i]? with|some o=>dp C o|none=>false
theorem xU {R:Type}(hdis:∀f vs,C.Hh f=true->C.st f vs=none){W:Wr}{nb:μ}{ops:Array Oper}{eA:ξ->M R}{K:Env->M R}{r:R×af}(hdst:∀(i:Nat) o,ops[i]?=some o->dp C o=true->o.dst.isSome=true) :
  ∀(l:List (Nat×η)) (E:Env) (L:cK) (A:Hr) (h:af),l.Pairwise (λa b=>qv C ops a.1=true->qv C ops b.1=false)->kS P C W nb ops eA l E L A K h=some r ->
   dP P C.ok W nb ops l E L A K h=some r \/
   ∃l1 i c l2 o,l=l1++(i,c)::l2/\ops[i]?=some o/\dp C o=true/\dP P C.mk' W nb ops (l1++[(i,c)]) E L A (wk eA o.dst) h=some r
 |[],E,L,A,h,_,hx=>.inl hx
 |(i,c)::l,E,L,A,h,hpw,hx=>by
  have ih:=xU hdis (W:=W) (nb:=nb) (eA:=eA) (K:=K) (r:=r) hdst l;obtain⟨hp1,hp2⟩:=List.pairwise_cons.1 hpw;have byRun:∀(o:Oper) (E1:Env) (A':Hr),ops[i]?=some o->(∀(X:eI) (t:List (Nat×η)) (K':Env->M R),dP P X W nb ops ((i,c)::t) E L A K'=jU P X W (nb.map (·+i)) (c.map A) (vI P ops nb c) ops E1 L o λE' L'=>dP P X W nb ops t E' L' A' K') ->
    yd P C W (nb.map (·+i)) (c.map A) (vI P ops nb c) ops E1 L o eA (λE' L'=>kS P C W nb ops eA l E' L' A' K) h=some r ->
    dP P C.ok W nb ops ((i,c)::l) E L A K h=some r \/
    ∃l1 i1 c1 l2 o,(i,c)::l=l1++(i1,c1)::l2/\ops[i1]?=some o/\dp C o=true/\dP P C.mk' W nb ops (l1++[(i1,c1)]) E L A (wk eA o.dst) h=some r:=by
   intro o E1 A' ho heq hx;rcases Fi hdis hx with q|⟨hi,q⟩|⟨hi,q⟩
   .obtain⟨E',L',h',q1,q2⟩:=Cz q;rcases ih E' L' A' h' hp2 q1 with hl|⟨l1,i1,c1,l2,o1,e1,e2,e3,e4⟩
    .exact .inl (by rw[heq];exact H8 H9 rfl rfl (q2 _ _ _ hl))
    .exact .inr ⟨(i,c)::l1,i1,c1,l2,o1,by rw[e1];rfl,e2,e3,by rw[aaq,heq];exact H8 PU rfl rfl (q2 _ _ _ e4)⟩
   .obtain⟨E',L',h',q1,q2⟩:=Cz q;rcases ih E' L' A' h' hp2 q1 with hl|⟨l1,i1,c1,l2,o1,e1,e2,e3,e4⟩
    .exact .inl (by rw[heq];exact q2 _ _ _ hl)
    .have:=hp1 (i1,c1) (by rw[e1];simp) (by simp only[qv,ho,hi]);simp only[qv,e2,e3] at this;cases this
   .refine .inr ⟨[],i,c,l,o,rfl,ho,hi,?_⟩;rw[aaP,heq];refine q _ λE' L' h' v hv hpv=>?_;have hd:=hdst i o ho hi;cases hod:o.dst with
    |none=>rw[hod] at hd;cases hd
    |some d=>exact MW (hv d hod) hpv
  have bySkip:∀(E2:Env) (L2:cK),(∀(X:eI) (t:List (Nat×η)) (K':Env->M R),dP P X W nb ops ((i,c)::t) E L A K'=dP P X W nb ops t E2 L2 A K') ->
    kS P C W nb ops eA l E2 L2 A K h=some r ->
    dP P C.ok W nb ops ((i,c)::l) E L A K h=some r \/
    ∃l1 i1 c1 l2 o,(i,c)::l=l1++(i1,c1)::l2/\ops[i1]?=some o/\dp C o=true/\dP P C.mk' W nb ops (l1++[(i1,c1)]) E L A (wk eA o.dst) h=some r:=by
   intro E2 L2 heq hx;rcases ih E2 L2 A h hp2 hx with hl|⟨l1,i1,c1,l2,o1,e1,e2,e3,e4⟩
   .exact .inl (by rw[heq];exact hl)
   .exact .inr ⟨(i,c)::l1,i1,c1,l2,o1,by rw[e1];rfl,e2,e3,by rw[aaq,heq];exact e4⟩
  generalize hm:kS P C W nb ops eA ((i,c)::l) E L A K=m at hx;unfold kS at hm;cases ho:ops[i]? with
  |none=>rw[ho] at hm;subst hm;simp[AT] at hx
  |some o=>
   rw[ho] at hm;simp only at hm;cases hg:o.guard with
   |none=>
    rw[hg] at hm;subst hm;exact byRun o E _ ho (λX t K'=>by rw[dP];simp only[ho,hg]) hx
   |some jw=>
    obtain⟨j,w⟩:=jw;rw[hg] at hm;simp only at hm;cases ht:(ops[j]?).bind (·.dst) with
    |none=>rw[ht] at hm;subst hm;simp[AT] at hx
    |some t0=>
     rw[ht] at hm;simp only at hm;cases hE:E t0 with
     |none=>rw[hE] at hm;subst hm;simp[AT] at hx
     |some v=>
      rw[hE] at hm;cases v<;>simp only at hm<;>try (subst hm;simp[AT] at hx;done)
      .rename_i b;cases w<;>cases b<;>simp only[kG,aag,aar,aav] at hm
       .subst hm;exact byRun o _ _ ho (λX t K'=>by rw[dP];simp only[ho,hg,ht,hE,kG,aag,aar]) hx
       .cases hW:xk W o.dst with
        |false=>rw[hW] at hm;subst hm;simp[AT] at hx
        |true=>
         rw[hW] at hm;subst hm;exact bySkip _ _ (λX t K'=>by rw[dP];simp only[ho,hg,ht,hE,kG,aav,hW]) hx
       .cases hW:xk W o.dst with
        |false=>rw[hW] at hm;subst hm;simp[AT] at hx
        |true=>
         rw[hW] at hm;subst hm;exact bySkip _ _ (λX t K'=>by rw[dP];simp only[ho,hg,ht,hE,kG,aag,aar,hW]) hx
       .subst hm;exact byRun o _ _ ho (λX t K'=>by rw[dP];simp only[ho,hg,ht,hE,kG,aav]) hx
      .cases hW:xk W o.dst with
       |false=>rw[hW] at hm;subst hm;simp[AT] at hx
       |true=>
        rw[hW] at hm;subst hm;exact bySkip _ _ (λX t K'=>by rw[dP];simp only[ho,hg,ht,hE,hW]) hx
theorem CA {ops:Array Oper}{o:Oper}(hn:neutral (cls P ops o)=true):yb o=none:=by
 unfold yb;cases hop:o.op<;>simp only<;>try rfl
 .rename_i c;split
  .rename_i x hc ha;exfalso;unfold cls at hn;simp only[hop,hc] at hn;cases hn
  .rfl
 .exfalso;unfold cls at hn;simp only[hop] at hn;cases hn
theorem Fj {ops:Array Oper}{o:Oper}(hn:neutral (cls P ops o)=true){c:Call}(hop:o.op=.call c):isBuiltin c=true:=by
 unfold cls at hn;simp only[hop] at hn;unfold isBuiltin;cases hc:c.callee<;>simp only[hc] at hn⊢<;>first|rfl|cases hn
theorem AY {ops:Array Oper}{o:Oper}(hi:dp C o=true):cls P ops o=.eff:=by
 unfold dp at hi;cases hop:o.op<;>simp only[hop] at hi<;>try (cases hi;done)
 grind [cls]
theorem CB {ops:Array Oper}{o:Oper}(hn:neutral (cls P ops o)=true){nm:Nat}{E:Env}{L:cK}:ex P C.mk' nm ops E L o h=ex P C nm ops E L o h:=by
 unfold ex;cases hop:o.op<;>simp only;rename_i c;simp only[Fj hn hop]
theorem Ia {ops:Array Oper}{o:Oper}(hn:neutral (cls P ops o)=true){nm:Nat}{E:Env}{L:cK}{r:ud}(hx:act P C nm ops E L o h=some (r,h')):h'=h:=by
 cases hc:cls P ops o<;>rw[hc] at hn<;>try (cases hn;done)
 .exact (sP hc hx).1
 .exact (Cv hc hx).1
 .exact (w9 hc hx).1
theorem xR.split {S:Type}{St:Nat->S->S->Prop}:∀(a:η) {b:η} {s f:S},xR St (a++b) s f->∃m,xR St a s m/\xR St b m f
 |[],b,s,f,hr=>⟨s,.nil s,hr⟩
 |x::a,b,s,f,.cons h1 h2=>
  let ⟨m,q1,q2⟩:=xR.split a h2
  ⟨m,.cons h1 q1,q2⟩
section
variable {R:Type}{W:Wr}{nb:Nat}{ops:Array Oper}{Af:Nat->θ}{Ck:Nat->List θ}{Kk:Nat->η}
theorem AZ {d:Nat}:∀{l:η} {s f:St},(∀j∈l,∃p,ops[j]?=some p/\neutral (cls P ops p)=true)->(∀j∈l,∀p,ops[j]?=some p->p.dst≠some d)->xR (Step P C W nb ops Af Ck Kk) l s f->f.2.2=s.2.2/\f.1 d=s.1 d
 |[],s,f,_,_,hr=>by cases hr;exact⟨rfl,rfl⟩
 |j::l,s,f,h1,h2,.cons (s1:=s1) ⟨o,r,ho,hW,_,hact,e1,e2,_⟩ hr=>by
  obtain⟨q1,q2⟩:=AZ (λj hj=>h1 j (aan _ hj)) (λj hj=>h2 j (aan _ hj)) hr;obtain⟨p,hp,hn⟩:=h1 j (aaz ..);rw[ho] at hp;cases hp;refine⟨q1.trans (Ia hn hact),q2.trans ?_⟩;rw[e1];exact (gh (L:=s.2.1) (h2 j (aaz ..) o ho)).1
theorem XG {eA:ξ->M R}{K:Env->M R}{q:R×af}{rest:η}:∀(l:η) (s m:St),(∀j∈l,∃p,ops[j]?=some p/\neutral (cls P ops p)=true)->xR (Step P C.mk' W nb ops Af Ck Kk) l s m->fZ P C W (some nb) ops eA rest m.1 m.2.1 K m.2.2=some q ->
  fZ P C W (some nb) ops eA (l++rest) s.1 s.2.1 K s.2.2=some q
 |[],s,m,_,hr,hx=>by cases hr;exact hx
 |i::l,(E,L,h),m,h1,.cons (s1:=(E1,L1,h2)) ⟨o,r,ho,hW,_,hact,e1,e2,_⟩ hr,hx=>by
  obtain⟨p,hp,hn⟩:=h1 i (aaz ..);simp only at e1 e2 hact;rw[ho] at hp;cases hp;subst e1;subst e2;have ih:=XG (eA:=eA) (K:=K) (q:=q) (rest:=rest) l _ _ (λj hj=>h1 j (aan _ hj)) hr hx;have hpc:∀E',pV C E' o=none:=λE'=>by
   unfold pV;cases hi:dp C o with
   |false=>rfl
   |true=>rw[AY (P:=P) (ops:=ops) hi] at hn;cases hn
  have one:∀{E1:Env} {r:ud} {h2:af},ex P C (nb+i) ops E1 L o h=some (r,h2)->fZ P C W (some nb) ops eA (l++rest) (E1.res o.dst r) (L.res o.dst r) K h2=some q ->
    rP P C W ((some nb).map (·+i)) ops E1 L o eA (λE' L'=>fZ P C W (some nb) ops eA (l++rest) E' L' K) h=some q:=by
   intro E1 r h2 he hk;unfold rP;simp only[CA hn,hpc];exact w7 hW he hk
  rw[aaq];unfold fZ;simp only[ho];unfold act at hact;unfold want at hact;cases hg:o.guard with
  |none=>
   grind [CB]
  |some jw=>
   obtain⟨j,w⟩:=jw;simp only[hg] at hact⊢;cases ht:(ops[j]?).bind (·.dst) with
   |none=>simp[ht] at hact
   |some t=>
    simp only[ht] at hact⊢;split at hact
    .rename_i hwt;rw[CB hn] at hact;split at hwt
     .rename_i b hb;simp only[hb];cases w<;>cases b<;>simp at hwt
      .simp only[kG,aag,aar,k7 hb];exact one hact ih
      .simp only[kG,aav,k7 hb];exact one hact ih
     .simp at hwt
     .cases hwt
    .rename_i hwt;cases hact;split at hwt
     .rename_i b hb;simp only[hb];cases w<;>cases b<;>simp at hwt
      .simp only[kG,aav,k7 hb,hW];exact ih
      .simp only[kG,aag,aar,k7 hb,hW];exact ih
     .rename_i vs hb;simp only[hb,hW];exact ih
     .cases hwt
    .cases hact
end
theorem CC {o:Oper}(hi:dp C o=true):yb o=none:=by
 unfold dp at hi;unfold yb
 grind
theorem PW {R:Type}{W:Wr}{nb:Nat}{ops:Array Oper}{Af:Nat->θ}{Ck:Nat->List θ}{Kk:Nat->η}(hdis:∀f vs,C.Hh f=true->C.st f vs=none){o:Oper}{i:Nat}(ho:ops[i]?=some o)(hi:dp C o=true){m m1:St}
  (hs:Step P C.mk' W nb ops Af Ck Kk i m m1) {d:Nat} {v:ξ} (hd:o.dst=some d) (he:m1.1 d=some (.tuple #[v])) {eA:ξ->M R} {K:Env->M R} {q:R×af} {rest:η} (hp:eA v m1.2.2=some q) :
  fZ P C W (some nb) ops eA (i::rest) m.1 m.2.1 K m.2.2=some q:=by
 obtain⟨E,L,h⟩:=m;obtain⟨o',r,ho',hW,_,hact,e1,_,_⟩:=hs;rw[ho] at ho';cases ho';simp only at e1 hact⊢;have hr:r=.val (.tuple #[v]):=by
  rw[e1,hd] at he;cases r with
  |val u=>simp[Env.res,Env.put,Env.set] at he;rw[he]
  |lit x=>simp[Env.res,Env.del] at he
 subst hr;have hex:∀{h2:af},ex P C.mk' (nb+i) ops E L o h=some (.val (.tuple #[v]),h2)->∃ca,pV C E o=some ca/\ca.m h=some (.inr v,h2):=by
  intro h2 hx;have hi2:=hi;unfold dp at hi2;unfold ex at hx;cases hop:o.op<;>simp only[hop] at hi2 hx<;>try (cases hi2;done)
  rename_i c;split at hi2
  .rename_i f hf;obtain⟨hb,hds⟩:=sR (C:=C.mk') hf;simp only[hb,hds] at hx;cases hcal:callee E c with
   |none=>simp only[hcal] at hx;cases hx
   |some fv=>
    obtain⟨g,vs⟩:=fv;have hg:g=f:=by
     unfold callee at hcal;rw[hf] at hcal;cases hev:E.D9 c.args.toList with
     |none=>rw[hev] at hcal;cases hcal
     |some ws=>rw[hev] at hcal;simp[Env.ev] at hcal;exact hcal.1.symm
    subst hg;simp only[hcal] at hx;have hst:=hdis g vs hi2;cases hsp:C.sp g vs with
    |none=>
     grind [eI.mk']
    |some ca=>
     have:C.mk'.st g vs=some ⟨ca.α⊕ξ,ca.m,mark⟩:=by simp only[eI.mk',hst,hsp]
     grind [pV,mark,Option.some.injEq,Prod.mk.injEq,ud.val.injEq,Value.tuple.injEq]
  .cases hi2
 have one:ex P C.mk' (nb+i) ops E L o h=some (.val (.tuple #[v]),m1.2.2)->rP P C W ((some nb).map (·+i)) ops E L o eA (λE' L'=>fZ P C W (some nb) ops eA rest E' L' K) h=some q:=by
  intro hx;obtain⟨ca,hc,hm⟩:=hex hx;unfold rP;simp only[CC hi,hc,hW,AI,hm];exact hp
 have hun:undef≠.tuple #[v]:=by
  intro e;simp[undef] at e
 unfold fZ;simp only[ho];unfold act at hact;unfold want at hact;cases hg:o.guard with
 |none=>
  simp only[hg] at hact;exact one hact
 |some jw=>
  obtain⟨j,w⟩:=jw;simp only[hg] at hact⊢;cases ht:(ops[j]?).bind (·.dst) with
  |none=>simp[ht] at hact
  |some t=>
   simp only[ht] at hact⊢;split at hact
   .rename_i hwt;split at hwt
    .rename_i b hb;simp only[hb];cases w<;>cases b<;>simp at hwt
     .simp only[kG,aag,aar,k7 hb];exact one hact
     .simp only[kG,aav,k7 hb];exact one hact
    .simp at hwt
    .cases hwt
   .grind
   .cases hact
theorem yl {ops:Array Oper}{pr:List η}:∀(l1:η) (i:Nat) (l2 pre:η),yW P C ops pr pre (l1++i::l2)=true->qv C ops i=true ->
  (∀j∈l2,i∈pr.getD j [])/\(∀j,j∈pre\/j∈l1->∃p,ops[j]?=some p/\neutral (cls P ops p)=true)
 |[],i,l2,pre,h,hi=>by
  rw[aaP,yW,aaf] at h;have h:=h.1;unfold qv at hi;cases ho:ops[i]? with
  |none=>rw[ho] at hi;cases hi
  |some o=>
   rw[ho] at h hi;simp only at h hi;rw[hi,aaW,abX,aaf,aaR,aaR] at h;refine⟨λj hj=>mI.1 (h.1 j hj),λj hj=>?_⟩
   grind
 |a::l1,i,l2,pre,h,hi=>by
  rw[aaq,yW,aaf] at h;obtain⟨q1,q2⟩:=yl l1 i l2 (a::pre) h.2 hi
  grind
theorem A0 {mo:FuncId->Bool}{ops:Array Oper}{pr:List η}:∀{a b:List (Nat×η)},qY P mo ops pr (a++b)=true->qY P mo ops pr a=true
 |[],b,h=>rfl
 |(i,c)::a,b,h=>by
  rw[aaq,qY,aaf,acI,aaf] at h;rw[qY,aaf];exact⟨h.1.1,A0 h.2⟩
theorem MY {ops:Array Oper}{o p:Oper}(h:apart ops o p=true){d:Nat}(hd:p.dst=some d):o.dst≠some d:=by
 intro e;unfold apart at h
 simp_all
theorem Ic {R:Type}{W:Wr}{nb:Nat}{ops:Array Oper}{l:List (Nat×η)}{E:Env}{eA:ξ->M R}{K:Env->M R}{r:R×af}(HM:∀f vs ca,C.mo f=true->C.st f vs=some ca->xK ca.m)
  (HB:∀(j:Nat) cs (i:Nat) o p f,(j,cs)∈l->i∈cs->ops[i]?=some o->wa (cls P ops o)=true->ops[j]?=some p->qQ p=some f->C.Hh f=false/\∀vs ca,C.st f vs=some ca->ze (nb+i) ca.m)
  (hdis:∀f vs,C.Hh f=true->C.st f vs=none) (hsp:∀f vs ca,C.sp f vs=some ca->C.Hh f=true) (hok:Ca P C.MG ops l=true) (hpo:yW P C ops (BJ ops.toList) [] (l.map (·.1))=true)
  (hdst:∀(i:Nat) o,ops[i]?=some o->dp C o=true->o.dst.isSome=true) (t:Nat)
  (hx:kS P C W (some nb) ops eA l E cK.emp (λ_=>none) K h=some r) :
  dP P C.ok W (some nb) ops ((Region.schedule (P.follows .mixedOrders) ops t).map λi=>(i,[])) E cK.emp (λ_=>none) K h=some r \/
  fZ P C W (some nb) ops eA (Region.schedule (P.follows .mixedOrders) ops t) E cK.emp K h=some r:=by
 have hmo:∀{f vs ca},C.MG f=true->C.sp f vs=some ca->False:=λ{f vs ca} h1 h2=>by
  grind [eI.MG]
 have hmo1:∀{f},C.MG f=true->C.mo f=true:=λ{f} h1=>by
  unfold eI.MG at h1;rw[aaf] at h1;exact h1.1
 have HMok:∀f vs ca,C.ok.mo f=true->C.ok.st f vs=some ca->xK ca.m:=λf vs ca h1 h2=>by
  have h1:C.MG f=true:=h1
  grind [H9,eI.ok]
 have HMmk:∀f vs ca,C.MG f=true->C.mk'.st f vs=some ca->xK ca.m:=λf vs ca h1 h2=>by
  grind [PU,eI.mk']
 have HBok:∀(j:Nat) cs (i:Nat) o p f,(j,cs)∈l->i∈cs->ops[i]?=some o->wa (cls P ops o)=true->ops[j]?=some p->qQ p=some f->∀vs ca,C.ok.st f vs=some ca->ze (nb+i) ca.m:=
  λj cs i o p f a1 a2 a3 a4 a5 a6 vs ca h2=>by
   obtain⟨hp,hB⟩:=HB j cs i o p f a1 a2 a3 a4 a5 a6;cases hst:C.st f vs with
   |some ca'=>rw[H9 _ _ _ hst] at h2;cases h2;exact hB vs _ hst
   |none=>
    grind [eI.ok]
 have HBmk:∀(j:Nat) cs (i:Nat) o p f,(j,cs)∈l->i∈cs->ops[i]?=some o->wa (cls P ops o)=true->ops[j]?=some p->qQ p=some f->∀vs ca,C.mk'.st f vs=some ca->ze (nb+i) ca.m:=
  λj cs i o p f a1 a2 a3 a4 a5 a6 vs ca h2=>by
   obtain⟨hp,hB⟩:=HB j cs i o p f a1 a2 a3 a4 a5 a6;cases hst:C.st f vs with
   |some ca'=>rw[PU _ _ _ hst] at h2;cases h2;exact hB vs _ hst
   |none=>
    simp only[eI.mk',hst] at h2;cases hs:C.sp f vs with
    |none=>rw[hs] at h2;cases h2
    |some ca'=>rw[hsp _ _ _ hs] at hp;cases hp
 have hpw:l.Pairwise (λa b=>qv C ops a.1=true->qv C ops b.1=false):=by
  rw[List.pairwise_iff_getElem];intro i j hi hj hij ha;cases hb:qv C ops l[j].1 with
  |false=>rfl
  |true=>
   exfalso;have e:l.map (·.1)=(l.map (·.1)).take j++l[j].1::(l.map (·.1)).drop (j+1):=by
    grind [List.take_append_drop,List.drop_eq_getElem_cons]
   rw[e] at hpo;obtain⟨_,q⟩:=yl _ _ _ _ hpo hb;have hm:l[i].1∈(l.map (·.1)).take j:=by
    rw[List.mem_take_iff_getElem];exact⟨i,by simp;omega,by simp⟩
   obtain⟨p,hp,hn⟩:=q _ (.inr hm);unfold qv at ha;rw[hp] at ha;rw[AY ha] at hn;cases hn
 rcases xU hdis hdst l E cK.emp (λ_=>none) h hpw hx with hl|⟨l1,i,c,l2,o,rfl,ho,hi,hr⟩
 .exact .inl (JR HMok HBok hok t hl)
 right;unfold Ca at hok;simp only[aaf] at hok;obtain⟨⟨⟨hmx,hpm⟩,hed⟩,hpr⟩:=hok;rw[Region.schedule,hmx,acF,BY rfl];have hpm:=List.isPerm_iff.1 hpm;have hlt:∀i o e,ops[i]?=some o->e∈o.after.toList->Region.binds .any e=true->e.on<i:=by
  intro i o e ho he hb;rw[aaR] at hed;have h1:=hed (o,i) (by
   rw[acn];simpa using ho)
  simp only[aaR] at h1;have h2:=h1 e he;rw[sQ,hb] at h2;have h3:Nat.blt e.on i=true:=by simpa using h2
  exact aaB h3
 obtain⟨s1,s2,s3⟩:=wj hlt t;generalize Region.linearise .any ops t=σ at s1 s2 s3;have hnd:((l1++(i,c)::l2).map (·.1)).Nodup:=(hpm.nodup_iff).2 ab8
 have hmap:(l1++(i,c)::l2).map (·.1)=l1.map (·.1)++i::l2.map (·.1):=by simp
 rw[hmap] at hnd hpm hpo;have hpre:((l1++[(i,c)]).map (·.1))=l1.map (·.1)++[i]:=by simp
 have hnd1:(l1.map (·.1)++[i]).Nodup:=by
  refine hnd.sublist ?_;exact abJ (List.Sublist.cons_cons _ (List.nil_sublist _)) _
 have hip:qv C ops i=true:=by unfold qv;rw[ho];exact hi
 obtain⟨p1,p2⟩:=yl _ _ _ _ hpo hip;have hp:=yk (ops:=ops) s1 (λi o e a b c=>s3 i o e a b (by rw[<-sQ];exact c)) ops.toList [] (by simp) (by simp);have hmem:∀x,x∈σ↔x∈l1.map (·.1)++i::l2.map (·.1):=λx=>(s2.mem_iff).trans (hpm.mem_iff).symm
 obtain⟨S,T,rfl⟩:=List.append_of_mem ((hmem i).2 (by simp));have hS:∀x∈S,x∈l1.map (·.1):=by
  intro x hxS;have h1:=(hmem x).1 (aaT _ hxS);rcases List.mem_append.1 h1 with h1|h1
  .exact h1
  .exfalso;have hb:DO (S++i::T) x i:=(List.Sublist.append (List.singleton_sublist.2 hxS) (List.singleton_sublist.2 (aaz ..)):List.Sublist ([x]++[i]) _);rcases List.mem_cons.1 h1 with rfl|h1
   .exact nG s1 hb hb
   .exact nG s1 hb (hp x i (p1 x h1))
 let T':=T.filter λx=>decide (x∈l1.map (·.1))
 have hT':List.Sublist T' T:=List.filter_sublist;have hsub:List.Sublist (S++i::T') (S++i::T):=abJ (List.Sublist.cons_cons _ hT') _;have hperm:(l1.map (·.1)++[i]).Perm (S++i::T'):=by
  refine (acx hnd1 (s1.sublist hsub)).2 λx=>?_;constructor
  .intro hxm;rcases List.mem_append.1 hxm with h1|h1
   .have h2:=(hmem x).2 (aaT _ h1);rcases List.mem_append.1 h2 with h2|h2
    .exact aaT _ h2
    .refine aaE _ ?_;rcases List.mem_cons.1 h2 with rfl|h2
     .exact aaz ..
     .exact aan _ (List.mem_filter.2 ⟨h2,by simpa using h1⟩)
   .rw[aat] at h1;subst h1;simp
  .intro hxm;rcases List.mem_append.1 hxm with h1|h1
   .exact aaT _ (hS x h1)
   .rcases List.mem_cons.1 h1 with rfl|h1
    .simp
    grind
 have hnd2:((l1++[(i,c)]).map (·.1)).Nodup:=by rw[hpre];exact hnd1
 obtain⟨Af,Ck,Kk,E',L',h',hrun,hK,hks⟩:=yj (l1++[(i,c)]) E cK.emp (λ_=>none) h hnd2 hr;have hprs:qY P C.MG ops (BJ ops.toList) (l1++[(i,c)])=true:=A0 (b:=l2) (by simpa using hpr);have hany:=xR.any (S++i::T') ((l1++[(i,c)]).map (·.1)) (by rw[hpre];exact hperm) (λa b hab hba s s1' s2' q1 q2=>by
  obtain⟨cj,hm,hc⟩:=uX hprs a b hab;rcases hc with hc|⟨oa,ob,hoa,hob,hsw⟩
  .exact absurd (hba.trans hsub) λhba=>nG s1 (hp b a hc) hba
  .refine Lq (C:=C.mk') HMmk (λhck hal f hf=>HBmk b cj a oa ob f (aaT _ hm|>λx=>by simpa using x) (mI.1 hck) hoa hal hob hf) hoa hob ?_ hsw ?_ ?_ q1 q2
   .rintro rfl;exact nG hnd2 hab hab
   .intro hck;exact (hks b cj hm a (mI.1 hck)).1 hab
   .intro hck hal;have hmem:=mI.1 hck;rw[(hks b cj hm a hmem).2.2];unfold vI;refine List.mem_map.2 ⟨a,List.mem_filter.2 ⟨hmem,?_⟩,rfl⟩;rw[hoa];exact hal) hrun
 obtain⟨m,r1,r2⟩:=xR.split S hany;cases r2 with
 |cons r2 r3=>
  rename_i m1;obtain⟨d0,v,e1,e2,e3⟩:=MX hK;have hTn:∀j∈T',∃p,ops[j]?=some p/\neutral (cls P ops p)=true:=λj hj=>p2 j (.inr (by simpa using (List.mem_filter.1 hj).2));have hTd:∀j∈T',∀p,ops[j]?=some p->p.dst≠some d0:=by
   intro j hj p hjp;have hjl:j∈l1.map (·.1):=by simpa using (List.mem_filter.1 hj).2
   have hab:DO ((l1++[(i,c)]).map (·.1)) j i:=by
    rw[hpre];exact (List.Sublist.append (List.singleton_sublist.2 hjl) (List.Sublist.refl _):List.Sublist ([j]++[i]) _)
   obtain⟨cj,hm,hc⟩:=uX hprs j i hab;rcases hc with hc|⟨oa,ob,hoa,hob,hsw⟩
   .exfalso;have hb:DO (S++i::T) i j:=by
     have:List.Sublist (i::[j]) (i::T):=List.Sublist.cons_cons _ (List.singleton_sublist.2 (hT'.subset hj));exact this.trans (ab1 _ _)
    exact nG s1 (hp i j hc) hb
   .rw[hjp] at hoa;cases hoa;rw[ho] at hob;cases hob;unfold Hs at hsw;rw[aaf] at hsw;exact MY hsw.1 e1
  obtain⟨n1,n2⟩:=AZ (C:=C.mk') (d:=d0) hTn hTd r3;have hend:fZ P C W (some nb) ops eA (i::T) m.1 m.2.1 K m.2.2=some r:=by
   refine PW (v:=v) hdis ho hi r2 e1 ?_ ?_
   .rw[<-n2];exact e2
   .rw[<-n1];exact e3
  exact XG S _ m (λj hj=>p2 j (.inr (hS j hj))) r1 hend
theorem VK {nb:Nat}{ops:Array Oper}{l:List (Nat×η)}(hb:YU P C ops l=true):∀(j:Nat) cs (i:Nat) o p f,(j,cs)∈l->i∈cs->ops[i]?=some o->wa (cls P ops o)=true->ops[j]?=some p->qQ p=some f ->
  (C.kO P nb ops l).Hh f=false/\∀vs ca,(C.kO P nb ops l).st f vs=some ca->ze (nb+i) ca.m:=by
 intro j cs i o p f a1 a2 a3 a4 a5 a6;unfold YU at hb;have h1:=List.all_eq_true.1 hb _ a1;simp only[a5,a6] at h1;have h2:=List.all_eq_true.1 h1 _ a2;have h3:BH P ops i=true:=by unfold BH;rw[a3];exact a4
 rw[h3] at h2;simp only[aaW,abX,aaf,abC] at h2;refine⟨h2.1,λvs ca hca=>?_⟩
 grind [eI.kO,Nat.eq_of_beq_eq_true,MU]
theorem zZ {nb:Nat}{ops os:Array Oper}{l0:List (Nat×η)}{pr:List η}:∀(l pre:η),yW P (C.kO P nb os l0) ops pr pre l=yW P C ops pr pre l
 |[],_=>rfl
 |i::l,pre=>by
  unfold yW;rw[zZ l (i::pre)];rfl
theorem qu.XH (H:qu P C):qu P C.ok:=by
 refine⟨λf vs ca h1=>?_,H.dy,λf vs ca h1 h2=>?_,λf vs ca h=>(by cases h),λf vs ca h=>(by cases h),λf vs h=>(by cases h)⟩
 .cases hst:C.st f vs with
  |some ca'=>rw[H9 _ _ _ hst] at h1;cases h1;exact H.st f vs _ hst
  |none=>
   simp only[eI.ok,hst] at h1;cases hs:C.sp f vs with
   |none=>rw[hs] at h1;cases h1
   |some ca'=>
    rw[hs] at h1;simp only[IN] at h1;subst h1;obtain⟨q1,q2,_⟩:=H.sp f vs ca' hs;refine iS.of q1 λF h x h1 hx=>q2 F h x h1 ?_
    grind
 .have h1:C.MG f=true:=h1;unfold eI.MG at h1;rw[aaf] at h1;cases hst:C.st f vs with
  |some ca'=>rw[H9 _ _ _ hst] at h2;cases h2;exact H.mo f vs _ h1.1 hst
  |none=>
   simp only[eI.ok,hst] at h2;cases hs:C.sp f vs with
   |none=>rw[hs] at h2;cases h2
   |some ca'=>
    have:=H.Hh f vs ca' hs;rw[this] at h1;simp at h1
end Go.Ago
