
import Derived.Test.YtcdofopdlaebaaaGreatDoorAgoT
namespace Go.Ago
open Go
variable {P:Program}{h h' h1:af}{C:fB}
def fB.ok (C:fB):fB:={ C with
 st:=λf vs=>match C.st f vs with
  |some ca=>some ca
  |none=>(match C.sp f vs with
   |some ca=>some ⟨ca.α,λh=>match ca.m h with|some (.inl x,h')=>some (x,h')|_=>none,ca.pk⟩
   |none=>none)
 mo:=C.QD
 sp:=λ_ _=>none
 JN:=λ_=>false }
def mark {α:Type}:α⊕Value->Value
 |.inl _=>.tuple #[]
 |.inr v=>.tuple #[v]
def fB.mk' (C:fB):fB:={ C with
 st:=λf vs=>match C.st f vs with
  |some ca=>some ca
  |none=>(match C.sp f vs with
   |some ca=>some ⟨ca.α⊕Value,ca.m,mark⟩
   |none=>none)
 mo:=C.QD }
theorem KH {R:Type}{C':fB}(h1:∀f vs ca,C.st f vs=some ca->C'.st f vs=some ca)(h2:C'.dy=C.dy)(h3:C'.aa2=C.aa2){W:Wr}{nm:Option Nat}{cks:List (Option Addr)}{ks:List Nat}{ops:Array Oper}{E:Env}{L:cP}{o:Oper}{K:Env->cP->M R}{r:R×af}
  (hx:kD P C W nm cks ks ops E L o K h=some r):kD P C' W nm cks ks ops E L o K h=some r:=by
 have hd:∀c,jD C' c=jD C c:=λc=>by unfold jD;rw[h3]
 generalize hm:kD P C W nm cks ks ops E L o K=m at hx;unfold kD at hm⊢;cases hW:yJ W o.dst
 .rw[hW] at hm;subst hm;simp[AS] at hx
 rw[hW] at hm;cases hop:o.op<;>simp only[hop] at hm⊢<;>try (subst hm;exact hx)
 case call c=>
  simp only[hd,h2];cases hb:isBuiltin c<;>simp only[hb] at hm⊢
  .cases hs:jD C c with
   |some t=>rw[hs] at hm;subst hm;exact hx
   |none=>
    rw[hs] at hm;simp only at hm⊢;cases hc:callee E c with
    |none=>rw[hc] at hm;subst hm;simp[AS] at hx
    |some q=>
     obtain⟨f,vs⟩:=q;rw[hc] at hm;simp only at hm⊢;cases hst:C.st f vs with
     |none=>rw[hst] at hm;subst hm;simp[AS] at hx
     |some ca=>rw[hst] at hm;rw[h1 _ _ _ hst];subst hm;exact hx
  .subst hm;exact hx
theorem KI (f:FuncId)(vs:List Value)(ca:oK)(h:C.st f vs=some ca):C.ok.st f vs=some ca:=by simp only[fB.ok,h]
theorem TJ (f:FuncId)(vs:List Value)(ca:oK)(h:C.st f vs=some ca):C.mk'.st f vs=some ca:=by simp only[fB.mk',h]
theorem HI {E:Env}{o:Oper}{ca:Tj}(hp:rE C E o=some ca):dA C o=true/\∃c f vs,o.op=.call c/\c.callee=.value (.func f)/\C.JN f=true/\callee E c=some (f,vs)/\C.sp f vs=some ca:=by
 unfold rE at hp;cases hi:dA C o with
 |false=>rw[hi] at hp;cases hp
 |true=>
  rw[hi] at hp;refine⟨rfl,?_⟩;unfold dA at hi;cases hop:o.op<;>simp only[hop] at hi hp<;>try (cases hi;done)
  rename_i c;split at hi
  .rename_i f hf;cases hcal:callee E c with
   |none=>rw[hcal] at hp;cases hp
   |some q=>
    obtain⟨g,vs⟩:=q;rw[hcal] at hp;have:g=f:=by
     unfold callee at hcal;rw[hf] at hcal;cases he:E.JP c.args.toList with
     |none=>rw[he] at hcal;cases hcal
     |some ws=>rw[he] at hcal;simp[Env.ev] at hcal;exact hcal.1.symm
    subst this;exact⟨c,g,vs,rfl,hf,hi,hcal,hp⟩
  .cases hi
theorem uD {c:Call}{f:FuncId}(hf:c.callee=.value (.func f)):isBuiltin c=false/\jD C c=none:=by
 unfold isBuiltin jD;rw[hf];exact⟨rfl,rfl⟩
theorem HJ {R:Type}(hdis:∀f vs,C.JN f=true->C.st f vs=none){W:Wr}{nm:Option Nat}{cks:List (Option Addr)}{ks:List Nat}{ops:Array Oper}{E:Env}{L:cP}{o:Oper}{fj:Value->M R}{K:Env->cP->M R}{r:R×af}
  (hx:zt P C W nm cks ks ops E L o fj K h=some r) :
  kD P C W nm cks ks ops E L o K h=some r\/(dA C o=true/\kD P C.ok W nm cks ks ops E L o K h=some r) \/
  (dA C o=true/\∀Kp:Env->cP->M R,(∀E' L' h' v,(∀d,o.dst=some d->E' d=some (.tuple #[v]))->fj v h'=some r->Kp E' L' h'=some r)->kD P C.mk' W nm cks ks ops E L o Kp h=some r):=by
 generalize hm:zt P C W nm cks ks ops E L o fj K=m at hx;unfold zt at hm;cases hp:rE C E o with
 |none=>rw[hp] at hm;subst hm;exact .inl hx
 |some ca=>
  rw[hp] at hm;obtain⟨hi,c,f,vs,hop,hf,hisp,hcal,hsp⟩:=HI hp;have hst:=hdis f vs hisp;have hok:C.ok.st f vs=some ⟨ca.α,λh=>match ca.m h with|some (.inl x,h')=>some (x,h')|_=>none,ca.pk⟩:=by simp only[fB.ok,hst,hsp]
  have hmk:C.mk'.st f vs=some ⟨ca.α⊕Value,ca.m,mark⟩:=by simp only[fB.mk',hst,hsp]
  obtain⟨hb,hds⟩:=uD (C:=C) hf;have hds1:jD C.ok c=none:=(uD hf).2;have hds2:jD C.mk' c=none:=(uD hf).2;cases hW:yJ W o.dst with
  |false=>rw[hW] at hm;subst hm;simp[AS] at hx
  |true=>
   rw[hW] at hm;subst hm;simp only[sh] at hx;split at hx
   .rename_i y h2 hy;obtain⟨hy1,hy2⟩:=zy hy;cases y with
    |inl x=>
     refine .inr (.inl ⟨hi,?_⟩);unfold kD;simp only[hW,hop,hb,hds1,hcal,hok,sh];have:wrapM cks (λh=>match ca.m h with|some (.inl x,h')=>some (x,h')|_=>none) h=some (x,h2):=by
      unfold wrapM;cases cks with
      |nil=>simp only[hy1]
      |cons a as=>
       have hy3:sameAt h h2 (a::as)=true:=hy2;simp only[kG,hy1,hy3]
     rw[this];exact hx
    |inr v=>
     refine .inr (.inr ⟨hi,λKp hKp=>?_⟩);unfold kD;simp only[hW,hop,hb,hds2,hcal,hmk,sh,hy];refine hKp _ _ _ v (λd hd=>?_) hx;rw[hd];show Env.set E d _ d=_;simp[Env.set,mark]
   .cases hx
def xu {R:Type}(fj:Value->M R)(d:Option Nat):Env->M R:=λE=>match d with
 |some d=>(match E d with
  |some (.tuple cs)=>(match cs.toList with | [v]=>fj v|_=>AS)
  |_=>AS)
 |none=>AS
theorem QT {R:Type}{fj:Value->M R}{d:Nat}{E:Env}{v:Value}{r:R×af}(he:E d=some (.tuple #[v]))(hx:fj v h=some r):xu fj (some d) E h=some r:=by
 simp only[xu,he];exact hx
theorem QU {R:Type}{fj:Value->M R}{d:Option Nat}{E:Env}{r:R×af}(hx:xu fj d E h=some r):∃d0 v,d=some d0/\E d0=some (.tuple #[v])/\fj v h=some r:=by
 cases d with
 |none=>simp[xu,AS] at hx
 |some d=>
  unfold xu at hx;cases he:E d with
  |none=>simp[he,AS] at hx
  |some cv=>
   simp only[he] at hx;cases cv<;>try (simp[AS] at hx;done)
   rename_i cs;simp only at hx;cases hc:cs.toList with
   |nil=>simp[hc,AS] at hx
   |cons v vs=>
    cases vs with
    |nil=>
     simp only[hc] at hx;refine⟨d,v,rfl,?_,hx⟩;have:cs=#[v]:=adI (by simpa using hc);rw[he,this]
    |cons u us=>simp[hc,AS] at hx
theorem EE {R:Type}{W:Wr}{nm:Option Nat}{cks:List (Option Addr)}{ks:List Nat}{ops:Array Oper}{E:Env}{L:cP}{o:Oper}{K:Env->cP->M R}{r:R×af}
  (hx:kD P C W nm cks ks ops E L o K h=some r):∃E' L' h',K E' L' h'=some r/\∀(R2:Type) (K2:Env->cP->M R2) (r2:R2×af),K2 E' L' h'=some r2->kD P C W nm cks ks ops E L o K2 h=some r2:=by
 have run:∀A:Act,A.run (λv=>K (E.put o.dst v) (L.del o.dst)) h=some r->∃E' L' h',K E' L' h'=some r/\∀(R2:Type) (K2:Env->cP->M R2) (r2:R2×af),K2 E' L' h'=some r2->A.run (λv=>K2 (E.put o.dst v) (L.del o.dst)) h=some r2:=by
  intro A hA;obtain⟨v,h',q1,q2⟩:=xt.1 hA;exact⟨_,_,h',q2,λR2 K2 r2 q3=>xt.2 ⟨v,h',q1,q3⟩⟩
 unfold kD at hx⊢;cases hW:yJ W o.dst
 .rw[hW] at hx;simp[AS] at hx
 rw[hW] at hx;cases hop:o.op<;>simp only[hop] at hx⊢<;>try (exact run _ hx)
 case pick c a b=>
  cases hc:E.ev c with
  |none=>rw[hc] at hx;simp[AS] at hx
  |some cv=>
   rw[hc] at hx;cases cv<;>simp only at hx⊢<;>try (simp[AS] at hx;done)
   rename_i t;cases t
   .simp only[lG,aa1,if_false] at hx⊢;cases hv:(E.pA c false).ev b with
    |none=>rw[hv] at hx;simp[AS] at hx
    |some v=>rw[hv] at hx;exact⟨_,_,h,hx,λR2 K2 r2 q=>q⟩
   .simp only[lG,if_true] at hx⊢;cases hv:(E.pA c true).ev a with
    |none=>rw[hv] at hx;simp[AS] at hx
    |some v=>rw[hv] at hx;exact⟨_,_,h,hx,λR2 K2 r2 q=>q⟩
 case call c=>
  have bind:∀(ca:oK),(sh (wrapM cks ca.m) λx=>K (E.put o.dst (ca.pk x)) (L.del o.dst)) h=some r->∃E' L' h',K E' L' h'=some r/\∀(R2:Type) (K2:Env->cP->M R2) (r2:R2×af),K2 E' L' h'=some r2 ->
    (sh (wrapM cks ca.m) λx=>K2 (E.put o.dst (ca.pk x)) (L.del o.dst)) h=some r2:=by
   intro ca hx;simp only[sh] at hx⊢;split at hx
   .rename_i x h2 hm;exact⟨_,_,h2,hx,λR2 K2 r2 q=>q⟩
   .cases hx
  cases hb:isBuiltin c<;>simp only[hb] at hx⊢
  .cases hs:jD C c with
   |some t=>
    rw[hs] at hx;simp only at hx⊢;cases hc:rD E t c with
    |none=>rw[hc] at hx;simp[AS] at hx
    |some q=>
     obtain⟨x,vs⟩:=q;rw[hc] at hx;simp only at hx⊢;cases hd:C.dy t x vs with
     |none=>rw[hd] at hx;simp[AS] at hx
     |some ca=>rw[hd] at hx;exact bind ca hx
   |none=>
    rw[hs] at hx;simp only at hx⊢;cases hc:callee E c with
    |none=>rw[hc] at hx;simp[AS] at hx
    |some q=>
     obtain⟨f,vs⟩:=q;rw[hc] at hx;simp only at hx⊢;cases hd:C.st f vs with
     |none=>rw[hd] at hx;simp[AS] at hx
     |some ca=>rw[hd] at hx;exact bind ca hx
  .cases hl:su L c with
   |none=>
    rw[hl] at hx;simp only at hx⊢;cases hlx:yK ops o<;>rw[hlx] at hx
    .exact run _ hx
    .simp[AS] at hx
   |some q=>obtain⟨n,cs⟩:=q;rw[hl] at hx;exact run _ hx
 case store t x v=>
  cases ks with
  |nil=>exact run _ hx
  |cons k ks=>
   simp only at hx⊢;cases hv:E.ev x with
   |none=>rw[hv] at hx;simp[AS] at hx
   |some xv=>
    rw[hv] at hx;cases xv<;>try (simp[AS] at hx;done)
    rename_i pa;cases pa with
    |none=>simp[AS] at hx
    |some a=>exact run _ hx
 case buildSlice t n ps=>
  cases hl:vf P ops E o with
  |none=>rw[hl] at hx;exact run _ hx
  |some q=>rw[hl] at hx;exact⟨_,_,h,hx,λR2 K2 r2 q=>q⟩
def sx (C:fB)(ops:Array Oper)(i:Nat):Bool:=match ops[i]? with|some o=>dA C o|none=>false
theorem zi {R:Type}(hdis:∀f vs,C.JN f=true->C.st f vs=none){W:Wr}{nb:Option Nat}{ops:Array Oper}{fj:Value->M R}{K:Env->M R}{r:R×af}(hdst:∀(i:Nat) o,ops[i]?=some o->dA C o=true->o.dst.isSome=true) :
  ∀(l:List (Nat×List Nat)) (E:Env) (L:cP) (A:J3) (h:af),l.Pairwise (λa b=>sx C ops a.1=true->sx C ops b.1=false)->lM P C W nb ops fj l E L A K h=some r ->
   dS P C.ok W nb ops l E L A K h=some r \/
   ∃l1 i c l2 o,l=l1++(i,c)::l2/\ops[i]?=some o/\dA C o=true/\dS P C.mk' W nb ops (l1++[(i,c)]) E L A (xu fj o.dst) h=some r
 |[],E,L,A,h,_,hx=>.inl hx
 |(i,c)::l,E,L,A,h,hpw,hx=>by
  have ih:=zi hdis (W:=W) (nb:=nb) (fj:=fj) (K:=K) (r:=r) hdst l;obtain⟨hp1,hp2⟩:=List.pairwise_cons.1 hpw;have byRun:∀(o:Oper) (E1:Env) (A':J3),ops[i]?=some o->(∀(X:fB) (t:List (Nat×List Nat)) (K':Env->M R),dS P X W nb ops ((i,c)::t) E L A K'=kD P X W (nb.map (·+i)) (c.map A) (wV P ops nb c) ops E1 L o λE' L'=>dS P X W nb ops t E' L' A' K') ->
    zt P C W (nb.map (·+i)) (c.map A) (wV P ops nb c) ops E1 L o fj (λE' L'=>lM P C W nb ops fj l E' L' A' K) h=some r ->
    dS P C.ok W nb ops ((i,c)::l) E L A K h=some r \/
    ∃l1 i1 c1 l2 o,(i,c)::l=l1++(i1,c1)::l2/\ops[i1]?=some o/\dA C o=true/\dS P C.mk' W nb ops (l1++[(i1,c1)]) E L A (xu fj o.dst) h=some r:=by
   intro o E1 A' ho heq hx;rcases HJ hdis hx with q|⟨hi,q⟩|⟨hi,q⟩
   .obtain⟨E',L',h',q1,q2⟩:=EE q;rcases ih E' L' A' h' hp2 q1 with hl|⟨l1,i1,c1,l2,o1,e1,e2,e3,e4⟩
    .exact .inl (by rw[heq];exact KH KI rfl rfl (q2 _ _ _ hl))
    .exact .inr ⟨(i,c)::l1,i1,c1,l2,o1,by rw[e1];rfl,e2,e3,by rw[acJ,heq];exact KH TJ rfl rfl (q2 _ _ _ e4)⟩
   .obtain⟨E',L',h',q1,q2⟩:=EE q;rcases ih E' L' A' h' hp2 q1 with hl|⟨l1,i1,c1,l2,o1,e1,e2,e3,e4⟩
    .exact .inl (by rw[heq];exact q2 _ _ _ hl)
    .have:=hp1 (i1,c1) (by rw[e1];simp) (by simp only[sx,ho,hi]);simp only[sx,e2,e3] at this;cases this
   .refine .inr ⟨[],i,c,l,o,rfl,ho,hi,?_⟩;rw[ad6,heq];refine q _ λE' L' h' v hv hpv=>?_;have hd:=hdst i o ho hi;cases hod:o.dst with
    |none=>rw[hod] at hd;cases hd
    |some d=>exact QT (hv d hod) hpv
  have bySkip:∀(E2:Env) (L2:cP),(∀(X:fB) (t:List (Nat×List Nat)) (K':Env->M R),dS P X W nb ops ((i,c)::t) E L A K'=dS P X W nb ops t E2 L2 A K') ->
    lM P C W nb ops fj l E2 L2 A K h=some r ->
    dS P C.ok W nb ops ((i,c)::l) E L A K h=some r \/
    ∃l1 i1 c1 l2 o,(i,c)::l=l1++(i1,c1)::l2/\ops[i1]?=some o/\dA C o=true/\dS P C.mk' W nb ops (l1++[(i1,c1)]) E L A (xu fj o.dst) h=some r:=by
   intro E2 L2 heq hx;rcases ih E2 L2 A h hp2 hx with hl|⟨l1,i1,c1,l2,o1,e1,e2,e3,e4⟩
   .exact .inl (by rw[heq];exact hl)
   .exact .inr ⟨(i,c)::l1,i1,c1,l2,o1,by rw[e1];rfl,e2,e3,by rw[acJ,heq];exact e4⟩
  generalize hm:lM P C W nb ops fj ((i,c)::l) E L A K=m at hx;unfold lM at hm;cases ho:ops[i]? with
  |none=>rw[ho] at hm;subst hm;simp[AS] at hx
  |some o=>
   rw[ho] at hm;simp only at hm;cases hg:o.guard with
   |none=>
    rw[hg] at hm;subst hm;exact byRun o E _ ho (λX t K'=>by rw[dS];simp only[ho,hg]) hx
   |some jw=>
    obtain⟨j,w⟩:=jw;rw[hg] at hm;simp only at hm;cases ht:(ops[j]?).bind (·.dst) with
    |none=>rw[ht] at hm;subst hm;simp[AS] at hx
    |some t0=>
     rw[ht] at hm;simp only at hm;cases hE:E t0 with
     |none=>rw[hE] at hm;subst hm;simp[AS] at hx
     |some v=>
      rw[hE] at hm;cases v<;>simp only at hm<;>try (subst hm;simp[AS] at hx;done)
      .rename_i b;cases w<;>cases b<;>simp only[lG,aa1,if_false,if_true] at hm
       .subst hm;exact byRun o _ _ ho (λX t K'=>by rw[dS];simp only[ho,hg,ht,hE,lG,aa1,if_false]) hx
       .cases hW:yJ W o.dst with
        |false=>rw[hW] at hm;subst hm;simp[AS] at hx
        |true=>
         rw[hW] at hm;subst hm;exact bySkip _ _ (λX t K'=>by rw[dS];simp only[ho,hg,ht,hE,lG,if_true,hW]) hx
       .cases hW:yJ W o.dst with
        |false=>rw[hW] at hm;subst hm;simp[AS] at hx
        |true=>
         rw[hW] at hm;subst hm;exact bySkip _ _ (λX t K'=>by rw[dS];simp only[ho,hg,ht,hE,lG,aa1,if_false,hW]) hx
       .subst hm;exact byRun o _ _ ho (λX t K'=>by rw[dS];simp only[ho,hg,ht,hE,lG,if_true]) hx
      .cases hW:yJ W o.dst with
       |false=>rw[hW] at hm;subst hm;simp[AS] at hx
       |true=>
        rw[hW] at hm;subst hm;exact bySkip _ _ (λX t K'=>by rw[dS];simp only[ho,hg,ht,hE,hW]) hx
theorem EF {ops:Array Oper}{o:Oper}(hn:neutral (cls P ops o)=true):zr o=none:=by
 unfold zr;cases hop:o.op<;>simp only<;>try rfl
 .rename_i c;split
  .rename_i x hc ha;exfalso;unfold cls at hn;simp only[hop,hc] at hn;cases hn
  .rfl
 .exfalso;unfold cls at hn;simp only[hop] at hn;cases hn
theorem HK {ops:Array Oper}{o:Oper}(hn:neutral (cls P ops o)=true){c:Call}(hop:o.op=.call c):isBuiltin c=true:=by
 unfold cls at hn;simp only[hop] at hn;unfold isBuiltin;cases hc:c.callee<;>simp only[hc] at hn⊢<;>first|rfl|cases hn
theorem Cu {ops:Array Oper}{o:Oper}(hi:dA C o=true):cls P ops o=.eff:=by
 unfold dA at hi;cases hop:o.op<;>simp only[hop] at hi<;>try (cases hi;done)
 rename_i c;split at hi
 .rename_i f hf;unfold cls;simp only[hop,hf]
 .cases hi
theorem EG {ops:Array Oper}{o:Oper}(hn:neutral (cls P ops o)=true){nm:Nat}{E:Env}{L:cP}:ex P C.mk' nm ops E L o h=ex P C nm ops E L o h:=by
 unfold ex;cases hop:o.op<;>simp only;rename_i c;simp only[HK hn hop]
theorem KJ {ops:Array Oper}{o:Oper}(hn:neutral (cls P ops o)=true){nm:Nat}{E:Env}{L:cP}{r:Bi}(hx:act P C nm ops E L o h=some (r,h')):h'=h:=by
 cases hc:cls P ops o<;>rw[hc] at hn<;>try (cases hn;done)
 .exact (uB hc hx).1
 .exact (EC hc hx).1
 .exact (yu hc hx).1
theorem zg.split {S:Type}{St:Nat->S->S->Prop}:∀(a:List Nat) {b:List Nat} {s f:S},zg St (a++b) s f->∃m,zg St a s m/\zg St b m f
 |[],b,s,f,hr=>⟨s,.nil s,hr⟩
 |x::a,b,s,f,.cons h1 h2=>
  let ⟨m,q1,q2⟩:=zg.split a h2
  ⟨m,.cons h1 q1,q2⟩
section
variable {R:Type}{W:Wr}{nb:Nat}{ops:Array Oper}{Af:Nat->Option Addr}{Ck:Nat->List (Option Addr)}{Kk:Nat->List Nat}
theorem Cv {d:Nat}:∀{l:List Nat} {s f:St},(∀j∈l,∃p,ops[j]?=some p/\neutral (cls P ops p)=true)->(∀j∈l,∀p,ops[j]?=some p->p.dst≠some d)->zg (Step P C W nb ops Af Ck Kk) l s f->f.2.2=s.2.2/\f.1 d=s.1 d
 |[],s,f,_,_,hr=>by cases hr;exact⟨rfl,rfl⟩
 |j::l,s,f,h1,h2,.cons (s1:=s1) ⟨o,r,ho,hW,_,hact,e1,e2,_⟩ hr=>by
  obtain⟨q1,q2⟩:=Cv (λj hj=>h1 j (AT _ hj)) (λj hj=>h2 j (AT _ hj)) hr;obtain⟨p,hp,hn⟩:=h1 j (By ..);rw[ho] at hp;cases hp;refine⟨q1.trans (KJ hn hact),q2.trans ?_⟩;rw[e1];exact (gO (L:=s.2.1) (h2 j (By ..) o ho)).1
theorem adW {fj:Value->M R}{K:Env->M R}{q:R×af}{rest:List Nat}:∀(l:List Nat) (s m:St),(∀j∈l,∃p,ops[j]?=some p/\neutral (cls P ops p)=true)->zg (Step P C.mk' W nb ops Af Ck Kk) l s m->gH P C W (some nb) ops fj rest m.1 m.2.1 K m.2.2=some q ->
  gH P C W (some nb) ops fj (l++rest) s.1 s.2.1 K s.2.2=some q
 |[],s,m,_,hr,hx=>by cases hr;exact hx
 |i::l,(E,L,h),m,h1,.cons (s1:=(E1,L1,h2)) ⟨o,r,ho,hW,_,hact,e1,e2,_⟩ hr,hx=>by
  obtain⟨p,hp,hn⟩:=h1 i (By ..);simp only at e1 e2 hact;rw[ho] at hp;cases hp;subst e1;subst e2;have ih:=adW (fj:=fj) (K:=K) (q:=q) (rest:=rest) l _ _ (λj hj=>h1 j (AT _ hj)) hr hx;have hpc:∀E',rE C E' o=none:=λE'=>by
   unfold rE;cases hi:dA C o with
   |false=>rfl
   |true=>rw[Cu (P:=P) (ops:=ops) hi] at hn;cases hn
  have one:∀{E1:Env} {r:Bi} {h2:af},ex P C (nb+i) ops E1 L o h=some (r,h2)->gH P C W (some nb) ops fj (l++rest) (E1.res o.dst r) (L.res o.dst r) K h2=some q ->
    tF P C W ((some nb).map (·+i)) ops E1 L o fj (λE' L'=>gH P C W (some nb) ops fj (l++rest) E' L' K) h=some q:=by
   intro E1 r h2 he hk;unfold tF;simp only[EF hn,hpc];exact yr hW he hk
  rw[acJ];unfold gH;simp only[ho];unfold act at hact;unfold want at hact;cases hg:o.guard with
  |none=>
   simp only[hg] at hact;rw[EG hn] at hact;exact one hact ih
  |some jw=>
   obtain⟨j,w⟩:=jw;simp only[hg] at hact⊢;cases ht:(ops[j]?).bind (·.dst) with
   |none=>simp[ht] at hact
   |some t=>
    simp only[ht] at hact⊢;split at hact
    .rename_i hwt;rw[EG hn] at hact;split at hwt
     .rename_i b hb;simp only[hb];cases w<;>cases b<;>simp at hwt
      .simp only[lG,aa1,if_false,mi hb];exact one hact ih
      .simp only[lG,if_true,mi hb];exact one hact ih
     .simp at hwt
     .cases hwt
    .rename_i hwt;cases hact;split at hwt
     .rename_i b hb;simp only[hb];cases w<;>cases b<;>simp at hwt
      .simp only[lG,if_true,mi hb,hW];exact ih
      .simp only[lG,aa1,if_false,mi hb,hW];exact ih
     .rename_i vs hb;simp only[hb,hW];exact ih
     .cases hwt
    .cases hact
end
theorem EH {o:Oper}(hi:dA C o=true):zr o=none:=by
 unfold dA at hi;unfold zr;cases hop:o.op<;>simp only[hop] at hi⊢<;>try (cases hi;done)
 rename_i c;split at hi
 .rename_i f hf;simp only[hf]
 .cases hi
theorem TK {R:Type}{W:Wr}{nb:Nat}{ops:Array Oper}{Af:Nat->Option Addr}{Ck:Nat->List (Option Addr)}{Kk:Nat->List Nat}(hdis:∀f vs,C.JN f=true->C.st f vs=none){o:Oper}{i:Nat}(ho:ops[i]?=some o)(hi:dA C o=true){m m1:St}
  (hs:Step P C.mk' W nb ops Af Ck Kk i m m1) {d:Nat} {v:Value} (hd:o.dst=some d) (he:m1.1 d=some (.tuple #[v])) {fj:Value->M R} {K:Env->M R} {q:R×af} {rest:List Nat} (hp:fj v m1.2.2=some q) :
  gH P C W (some nb) ops fj (i::rest) m.1 m.2.1 K m.2.2=some q:=by
 obtain⟨E,L,h⟩:=m;obtain⟨o',r,ho',hW,_,hact,e1,_,_⟩:=hs;rw[ho] at ho';cases ho';simp only at e1 hact⊢;have hr:r=.val (.tuple #[v]):=by
  rw[e1,hd] at he;cases r with
  |val u=>simp[Env.res,Env.put,Env.set] at he;rw[he]
  |lit x=>simp[Env.res,Env.del] at he
 subst hr;have hex:∀{h2:af},ex P C.mk' (nb+i) ops E L o h=some (.val (.tuple #[v]),h2)->∃ca,rE C E o=some ca/\ca.m h=some (.inr v,h2):=by
  intro h2 hx;have hi2:=hi;unfold dA at hi2;unfold ex at hx;cases hop:o.op<;>simp only[hop] at hi2 hx<;>try (cases hi2;done)
  rename_i c;split at hi2
  .rename_i f hf;obtain⟨hb,hds⟩:=uD (C:=C.mk') hf;simp only[hb,hds] at hx;cases hcal:callee E c with
   |none=>simp only[hcal] at hx;cases hx
   |some fv=>
    obtain⟨g,vs⟩:=fv;have hg:g=f:=by
     unfold callee at hcal;rw[hf] at hcal;cases hev:E.JP c.args.toList with
     |none=>rw[hev] at hcal;cases hcal
     |some ws=>rw[hev] at hcal;simp[Env.ev] at hcal;exact hcal.1.symm
    subst hg;simp only[hcal] at hx;have hst:=hdis g vs hi2;cases hsp:C.sp g vs with
    |none=>
     have:C.mk'.st g vs=none:=(by simp only[fB.mk',hst,hsp]);simp only[this] at hx;cases hx
    |some ca=>
     have:C.mk'.st g vs=some ⟨ca.α⊕Value,ca.m,mark⟩:=(by simp only[fB.mk',hst,hsp]);simp only[this] at hx;refine⟨ca,?_,?_⟩
     .unfold rE;simp only[hi,hop,hcal,hsp]
     .split at hx
      .rename_i x h3 hm;cases x with
       |inl y=>simp[mark] at hx
       |inr u=>
        simp only[mark,aaM,aez,Bi.val.injEq,Value.tuple.injEq] at hx;obtain⟨hx1,rfl⟩:=hx;have:u=v:=(by simpa using hx1);subst this;exact hm
      .cases hx
  .cases hi2
 have one:ex P C.mk' (nb+i) ops E L o h=some (.val (.tuple #[v]),m1.2.2)->tF P C W ((some nb).map (·+i)) ops E L o fj (λE' L'=>gH P C W (some nb) ops fj rest E' L' K) h=some q:=by
  intro hx;obtain⟨ca,hc,hm⟩:=hex hx;unfold tF;simp only[EH hi,hc,hW,sh,hm];exact hp
 have hun:undef≠.tuple #[v]:=by
  intro e;simp[undef] at e
 unfold gH;simp only[ho];unfold act at hact;unfold want at hact;cases hg:o.guard with
 |none=>
  simp only[hg] at hact;exact one hact
 |some jw=>
  obtain⟨j,w⟩:=jw;simp only[hg] at hact⊢;cases ht:(ops[j]?).bind (·.dst) with
  |none=>simp[ht] at hact
  |some t=>
   simp only[ht] at hact⊢;split at hact
   .rename_i hwt;split at hwt
    .rename_i b hb;simp only[hb];cases w<;>cases b<;>simp at hwt
     .simp only[lG,aa1,if_false,mi hb];exact one hact
     .simp only[lG,if_true,mi hb];exact one hact
    .simp at hwt
    .cases hwt
   .simp only[aaM,aez,Bi.val.injEq] at hact;exact absurd hact.1 hun
   .cases hact
theorem zD {ops:Array Oper}{pr:List (List Nat)}:∀(l1:List Nat) (i:Nat) (l2 pre:List Nat),Aw P C ops pr pre (l1++i::l2)=true->sx C ops i=true ->
  (∀j∈l2,i∈pr.getD j [])/\(∀j,j∈pre\/j∈l1->∃p,ops[j]?=some p/\neutral (cls P ops p)=true)
 |[],i,l2,pre,h,hi=>by
  rw[ad6,Aw,IT] at h;have h:=h.1;unfold sx at hi;cases ho:ops[i]? with
  |none=>rw[ho] at hi;cases hi
  |some o=>
   rw[ho] at h hi;simp only at h hi;rw[hi,agh,agP,IT,adx,adx] at h;refine⟨λj hj=>oB.1 (h.1 j hj),λj hj=>?_⟩;have hj:j∈pre:=hj.resolve_right (by simp);have:=h.2 j hj;cases hp:ops[j]? with
   |none=>rw[hp] at this;cases this
   |some p=>rw[hp] at this;exact⟨p,rfl,this⟩
 |a::l1,i,l2,pre,h,hi=>by
  rw[acJ,Aw,IT] at h;obtain⟨q1,q2⟩:=zD l1 i l2 (a::pre) h.2 hi;refine⟨q1,λj hj=>q2 j ?_⟩;rcases hj with hj|hj
  .exact .inl (AT _ hj)
  .rcases List.mem_cons.1 hj with rfl|hj
   .exact .inl (By ..)
   .exact .inr hj
theorem Cw {mo:FuncId->Bool}{ops:Array Oper}{pr:List (List Nat)}:∀{a b:List (Nat×List Nat)},sV P mo ops pr (a++b)=true->sV P mo ops pr a=true
 |[],b,h=>rfl
 |(i,c)::a,b,h=>by
  rw[acJ,sV,IT,List.all_append,IT] at h;rw[sV,IT];exact⟨h.1.1,Cw h.2⟩
theorem QV {ops:Array Oper}{o p:Oper}(h:apart ops o p=true){d:Nat}(hd:p.dst=some d):o.dst≠some d:=by
 intro e;unfold apart at h;simp only[IT] at h;have:=h.2;rw[e,hd] at this;simp at this
theorem KK {R:Type}{W:Wr}{nb:Nat}{ops:Array Oper}{l:List (Nat×List Nat)}{E:Env}{fj:Value->M R}{K:Env->M R}{r:R×af}(HM:∀f vs ca,C.mo f=true->C.st f vs=some ca->FT ca.m)
  (HB:∀(j:Nat) cs (i:Nat) o p f,(j,cs)∈l->i∈cs->ops[i]?=some o->xm (cls P ops o)=true->ops[j]?=some p->sS p=some f->C.JN f=false/\∀vs ca,C.st f vs=some ca->AH (nb+i) ca.m)
  (hdis:∀f vs,C.JN f=true->C.st f vs=none) (hsp:∀f vs ca,C.sp f vs=some ca->C.JN f=true) (hok:Ef P C.QD ops l=true) (hpo:Aw P C ops (Dm ops.toList) [] (l.map (·.1))=true)
  (hdst:∀(i:Nat) o,ops[i]?=some o->dA C o=true->o.dst.isSome=true) (t:Nat)
  (hx:lM P C W (some nb) ops fj l E cP.emp (λ_=>none) K h=some r) :
  dS P C.ok W (some nb) ops ((Region.schedule (P.follows .mixedOrders) ops t).map λi=>(i,[])) E cP.emp (λ_=>none) K h=some r \/
  gH P C W (some nb) ops fj (Region.schedule (P.follows .mixedOrders) ops t) E cP.emp K h=some r:=by
 have hmo:∀{f vs ca},C.QD f=true->C.sp f vs=some ca->False:=λ{f vs ca} h1 h2=>by
  unfold fB.QD at h1;rw[hsp _ _ _ h2] at h1;simp at h1
 have hmo1:∀{f},C.QD f=true->C.mo f=true:=λ{f} h1=>by
  unfold fB.QD at h1;rw[IT] at h1;exact h1.1
 have HMok:∀f vs ca,C.ok.mo f=true->C.ok.st f vs=some ca->FT ca.m:=λf vs ca h1 h2=>by
  have h1:C.QD f=true:=h1;cases hst:C.st f vs with
  |some ca'=>rw[KI _ _ _ hst] at h2;cases h2;exact HM f vs _ (hmo1 h1) hst
  |none=>
   simp only[fB.ok,hst] at h2;cases hs:C.sp f vs with
   |none=>rw[hs] at h2;cases h2
   |some ca'=>exact (hmo h1 hs).elim
 have HMmk:∀f vs ca,C.QD f=true->C.mk'.st f vs=some ca->FT ca.m:=λf vs ca h1 h2=>by
  cases hst:C.st f vs with
  |some ca'=>rw[TJ _ _ _ hst] at h2;cases h2;exact HM f vs _ (hmo1 h1) hst
  |none=>
   simp only[fB.mk',hst] at h2;cases hs:C.sp f vs with
   |none=>rw[hs] at h2;cases h2
   |some ca'=>exact (hmo h1 hs).elim
 have HBok:∀(j:Nat) cs (i:Nat) o p f,(j,cs)∈l->i∈cs->ops[i]?=some o->xm (cls P ops o)=true->ops[j]?=some p->sS p=some f->∀vs ca,C.ok.st f vs=some ca->AH (nb+i) ca.m:=
  λj cs i o p f a1 a2 a3 a4 a5 a6 vs ca h2=>by
   obtain⟨hp,hB⟩:=HB j cs i o p f a1 a2 a3 a4 a5 a6;cases hst:C.st f vs with
   |some ca'=>rw[KI _ _ _ hst] at h2;cases h2;exact hB vs _ hst
   |none=>
    simp only[fB.ok,hst] at h2;cases hs:C.sp f vs with
    |none=>rw[hs] at h2;cases h2
    |some ca'=>rw[hsp _ _ _ hs] at hp;cases hp
 have HBmk:∀(j:Nat) cs (i:Nat) o p f,(j,cs)∈l->i∈cs->ops[i]?=some o->xm (cls P ops o)=true->ops[j]?=some p->sS p=some f->∀vs ca,C.mk'.st f vs=some ca->AH (nb+i) ca.m:=
  λj cs i o p f a1 a2 a3 a4 a5 a6 vs ca h2=>by
   obtain⟨hp,hB⟩:=HB j cs i o p f a1 a2 a3 a4 a5 a6;cases hst:C.st f vs with
   |some ca'=>rw[TJ _ _ _ hst] at h2;cases h2;exact hB vs _ hst
   |none=>
    simp only[fB.mk',hst] at h2;cases hs:C.sp f vs with
    |none=>rw[hs] at h2;cases h2
    |some ca'=>rw[hsp _ _ _ hs] at hp;cases hp
 have hpw:l.Pairwise (λa b=>sx C ops a.1=true->sx C ops b.1=false):=by
  rw[List.pairwise_iff_getElem];intro i j hi hj hij ha;cases hb:sx C ops l[j].1 with
  |false=>rfl
  |true=>
   exfalso;have e:l.map (·.1)=(l.map (·.1)).take j++l[j].1::(l.map (·.1)).drop (j+1):=by
    have hj':j<(l.map (·.1)).length:=by simpa using hj
    have:=(agC j (l.map (·.1))).symm
    rw[aee hj'] at this;simpa using this
   rw[e] at hpo;obtain⟨_,q⟩:=zD _ _ _ _ hpo hb;have hm:l[i].1∈(l.map (·.1)).take j:=by
    rw[List.mem_take_iff_getElem];exact⟨i,by simp;omega,by simp⟩
   obtain⟨p,hp,hn⟩:=q _ (.inr hm);unfold sx at ha;rw[hp] at ha;rw[Cu ha] at hn;cases hn
 rcases zi hdis hdst l E cP.emp (λ_=>none) h hpw hx with hl|⟨l1,i,c,l2,o,rfl,ho,hi,hr⟩
 .exact .inl (MH HMok HBok hok t hl)
 right;unfold Ef at hok;simp only[IT] at hok;obtain⟨⟨⟨hmx,hpm⟩,hed⟩,hpr⟩:=hok;rw[Region.schedule,hmx,ahj,if_pos rfl];have hpm:=List.isPerm_iff.1 hpm;have hlt:∀i o e,ops[i]?=some o->e∈o.after.toList->Region.binds .any e=true->e.on<i:=by
  intro i o e ho he hb;rw[adx] at hed;have h1:=hed (o,i) (by
   rw[agH];simpa using ho)
  simp only[adx] at h1;have h2:=h1 e he;rw[uC,hb] at h2;have h3:Nat.blt e.on i=true:=by simpa using h2
  exact adA h3
 obtain⟨s1,s2,s3⟩:=xr hlt t;generalize Region.linearise .any ops t=σ at s1 s2 s3;have hnd:((l1++(i,c)::l2).map (·.1)).Nodup:=(hpm.nodup_iff).2 af2
 have hmap:(l1++(i,c)::l2).map (·.1)=l1.map (·.1)++i::l2.map (·.1):=by simp
 rw[hmap] at hnd hpm hpo;have hpre:((l1++[(i,c)]).map (·.1))=l1.map (·.1)++[i]:=by simp
 have hnd1:(l1.map (·.1)++[i]).Nodup:=by
  refine hnd.sublist ?_;exact agW (List.Sublist.cons_cons _ (List.nil_sublist _)) _
 have hip:sx C ops i=true:=by unfold sx;rw[ho];exact hi
 obtain⟨p1,p2⟩:=zD _ _ _ _ hpo hip;have hp:=zC (ops:=ops) s1 (λi o e a b c=>s3 i o e a b (by rw[<-uC];exact c)) ops.toList [] (by simp) (by simp);have hmem:∀x,x∈σ↔x∈l1.map (·.1)++i::l2.map (·.1):=λx=>(s2.mem_iff).trans (hpm.mem_iff).symm
 obtain⟨S,T,rfl⟩:=List.append_of_mem ((hmem i).2 (by simp));have hS:∀x∈S,x∈l1.map (·.1):=by
  intro x hxS;have h1:=(hmem x).1 (abQ _ hxS);rcases List.mem_append.1 h1 with h1|h1
  .exact h1
  .exfalso;have hb:F4 (S++i::T) x i:=(aeQ (List.singleton_sublist.2 hxS) (List.singleton_sublist.2 (By ..)):List.Sublist ([x]++[i]) _);rcases List.mem_cons.1 h1 with rfl|h1
   .exact ph s1 hb hb
   .exact ph s1 hb (hp x i (p1 x h1))
 let T':=T.filter λx=>decide (x∈l1.map (·.1))
 have hT':List.Sublist T' T:=List.filter_sublist;have hsub:List.Sublist (S++i::T') (S++i::T):=agW (List.Sublist.cons_cons _ hT') _;have hperm:(l1.map (·.1)++[i]).Perm (S++i::T'):=by
  refine (agR hnd1 (s1.sublist hsub)).2 λx=>?_;constructor
  .intro hxm;rcases List.mem_append.1 hxm with h1|h1
   .have h2:=(hmem x).2 (abQ _ h1);rcases List.mem_append.1 h2 with h2|h2
    .exact abQ _ h2
    .refine aa5 _ ?_;rcases List.mem_cons.1 h2 with rfl|h2
     .exact By ..
     .exact AT _ (List.mem_filter.2 ⟨h2,by simpa using h1⟩)
   .rw[afC] at h1;subst h1;simp
  .intro hxm;rcases List.mem_append.1 hxm with h1|h1
   .exact abQ _ (hS x h1)
   .rcases List.mem_cons.1 h1 with rfl|h1
    .simp
    .exact abQ _ (by simpa using (List.mem_filter.1 h1).2)
 have hnd2:((l1++[(i,c)]).map (·.1)).Nodup:=by rw[hpre];exact hnd1
 obtain⟨Af,Ck,Kk,E',L',h',hrun,hK,hks⟩:=zB (l1++[(i,c)]) E cP.emp (λ_=>none) h hnd2 hr;have hprs:sV P C.QD ops (Dm ops.toList) (l1++[(i,c)])=true:=Cw (b:=l2) (by simpa using hpr);have hany:=zg.any (S++i::T') ((l1++[(i,c)]).map (·.1)) (by rw[hpre];exact hperm) (λa b hab hba s s1' s2' q1 q2=>by
  obtain⟨cj,hm,hc⟩:=vS hprs a b hab;rcases hc with hc|⟨oa,ob,hoa,hob,hsw⟩
  .exact absurd (hba.trans hsub) λhba=>ph s1 (hp b a hc) hba
  .refine O1 (C:=C.mk') HMmk (λhck hal f hf=>HBmk b cj a oa ob f (abQ _ hm|>λx=>by simpa using x) (oB.1 hck) hoa hal hob hf) hoa hob ?_ hsw ?_ ?_ q1 q2
   .rintro rfl;exact ph hnd2 hab hab
   .intro hck;exact (hks b cj hm a (oB.1 hck)).1 hab
   .intro hck hal;have hmem:=oB.1 hck;rw[(hks b cj hm a hmem).2.2];unfold wV;refine List.mem_map.2 ⟨a,List.mem_filter.2 ⟨hmem,?_⟩,rfl⟩;rw[hoa];exact hal) hrun
 obtain⟨m,r1,r2⟩:=zg.split S hany;cases r2 with
 |cons r2 r3=>
  rename_i m1;obtain⟨d0,v,e1,e2,e3⟩:=QU hK;have hTn:∀j∈T',∃p,ops[j]?=some p/\neutral (cls P ops p)=true:=λj hj=>p2 j (.inr (by simpa using (List.mem_filter.1 hj).2));have hTd:∀j∈T',∀p,ops[j]?=some p->p.dst≠some d0:=by
   intro j hj p hjp;have hjl:j∈l1.map (·.1):=by simpa using (List.mem_filter.1 hj).2
   have hab:F4 ((l1++[(i,c)]).map (·.1)) j i:=by
    rw[hpre];exact (aeQ (List.singleton_sublist.2 hjl) (adB _):List.Sublist ([j]++[i]) _)
   obtain⟨cj,hm,hc⟩:=vS hprs j i hab;rcases hc with hc|⟨oa,ob,hoa,hob,hsw⟩
   .exfalso;have hb:F4 (S++i::T) i j:=by
     have:List.Sublist (i::[j]) (i::T):=List.Sublist.cons_cons _ (List.singleton_sublist.2 (hT'.subset hj));exact this.trans (aeN _ _)
    exact ph s1 (hp i j hc) hb
   .rw[hjp] at hoa;cases hoa;rw[ho] at hob;cases hob;unfold J4 at hsw;rw[IT] at hsw;exact QV hsw.1 e1
  obtain⟨n1,n2⟩:=Cv (C:=C.mk') (d:=d0) hTn hTd r3;have hend:gH P C W (some nb) ops fj (i::T) m.1 m.2.1 K m.2.2=some r:=by
   refine TK (v:=v) hdis ho hi r2 e1 ?_ ?_
   .rw[<-n2];exact e2
   .rw[<-n1];exact e3
  exact adW S _ m (λj hj=>p2 j (.inr (hS j hj))) r1 hend
theorem abc {nb:Nat}{ops:Array Oper}{l:List (Nat×List Nat)}(hb:bOK P C ops l=true):∀(j:Nat) cs (i:Nat) o p f,(j,cs)∈l->i∈cs->ops[i]?=some o->xm (cls P ops o)=true->ops[j]?=some p->sS p=some f ->
  (C.kG P nb ops l).JN f=false/\∀vs ca,(C.kG P nb ops l).st f vs=some ca->AH (nb+i) ca.m:=by
 intro j cs i o p f a1 a2 a3 a4 a5 a6;unfold bOK at hb;have h1:=List.all_eq_true.1 hb _ a1;simp only[a5,a6] at h1;have h2:=List.all_eq_true.1 h1 _ a2;have h3:Dl P ops i=true:=by unfold Dl;rw[a3];exact a4
 rw[h3] at h2;simp only[agh,agP,IT,afS] at h2;refine⟨h2.1,λvs ca hca=>?_⟩;have h4:=h2.2;simp only[fB.kG] at hca;split at h4
 .rename_i i' hi';rw[hi'] at hca;simp only at hca;have e:=BY h4;subst e;split at hca
  .cases hca;exact QR _ _
  .cases hca
 .cases h4
theorem Bt {nb:Nat}{ops os:Array Oper}{l0:List (Nat×List Nat)}{pr:List (List Nat)}:∀(l pre:List Nat),Aw P (C.kG P nb os l0) ops pr pre l=Aw P C ops pr pre l
 |[],_=>rfl
 |i::l,pre=>by
  unfold Aw;rw[Bt l (i::pre)];rfl
theorem sw.adX (H:sw P C):sw P C.ok:=by
 refine⟨λf vs ca h1=>?_,H.dy,λf vs ca h1 h2=>?_,λf vs ca h=>(by cases h),λf vs ca h=>(by cases h),λf vs h=>(by cases h)⟩
 .cases hst:C.st f vs with
  |some ca'=>rw[KI _ _ _ hst] at h1;cases h1;exact H.st f vs _ hst
  |none=>
   simp only[fB.ok,hst] at h1;cases hs:C.sp f vs with
   |none=>rw[hs] at h1;cases h1
   |some ca'=>
    rw[hs] at h1;simp only[aaM] at h1;subst h1;obtain⟨q1,q2,_⟩:=H.sp f vs ca' hs;refine gF.of q1 λF h x h1 hx=>q2 F h x h1 ?_;simp only at hx;split at hx
    .rename_i y h2 hm;cases hx;exact hm
    .cases hx
 .have h1:C.QD f=true:=h1;unfold fB.QD at h1;rw[IT] at h1;cases hst:C.st f vs with
  |some ca'=>rw[KI _ _ _ hst] at h2;cases h2;exact H.mo f vs _ h1.1 hst
  |none=>
   simp only[fB.ok,hst] at h2;cases hs:C.sp f vs with
   |none=>rw[hs] at h2;cases h2
   |some ca'=>
    have:=H.JN f vs ca' hs;rw[this] at h1;simp at h1
end Go.Ago
