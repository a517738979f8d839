
import Derived.Test.YtmfkngdglbcngaaGreatDoorAgoF
set_option linter.all false
namespace Go.Ago
open Go
variable {P:Program}{h h' h1:af}
section Trace
variable {S:Type}
inductive B4 (Step:Nat->S->S->Prop):η->S->S->Prop where
 |nil (s:S):B4 Step [] s s
 |cons {i:Nat} {l:η} {s s1 s2:S}:Step i s s1->B4 Step l s1 s2->B4 Step (i::l) s s2
theorem B4.mono {St St':Nat->S->S->Prop}:∀{l:η} {s f:S},(∀i∈l,∀s s',St i s s'->St' i s s')->B4 St l s f->B4 St' l s f
 |[],_,_,_,.nil _=>.nil _
 |_::_,_,_,hc,.cons h1 h2=>.cons (hc _ (IS ..) _ _ h1) (B4.mono (λi hi=>hc i (BY _ hi)) h2)
abbrev KI (l:η)(i j:Nat):Prop:=[i,j].Sublist l
theorem B4.front {Step:Nat->S->S->Prop}{x:Nat}:∀(t1:η) {t2:η} {s f:S},(∀y∈t1,∀s s1 s2,Step y s s1->Step x s1 s2->∃s1',Step x s s1'/\Step y s1' s2) ->
  B4 Step (t1++x::t2) s f->B4 Step (x::(t1++t2)) s f
 |[],t2,s,f,_,hr=>hr
 |y::t1,t2,s,f,hc,hr=>by
  cases hr with
  |cons h1 h2=>
   have ih:=B4.front t1 (λz hz=>hc z (BY _ hz)) h2;cases ih with
   |cons h3 h4=>
    obtain⟨s1',q1,q2⟩:=hc y (IS ..) _ _ _ h1 h3;exact .cons q1 (.cons q2 h4)
theorem B4.any {Step:Nat->S->S->Prop}:∀(σ τ:η) {s f:S},τ.Perm σ ->
  (∀i j,KI τ i j->KI σ j i->∀s s1 s2,Step i s s1->Step j s1 s2->∃s1',Step j s s1'/\Step i s1' s2)->B4 Step τ s f->B4 Step σ s f
 |[],τ,s,f,hp,_,hr=>by
  have:=hp.eq_nil;subst this;exact hr
 |x::σ,τ,s,f,hp,hc,hr=>by
  have hx:x∈τ:=hp.symm.subset (IS ..);obtain⟨t1,t2,rfl⟩:=List.append_of_mem hx;have hp':(t1++t2).Perm σ:=by
   have h1:(x::(t1++t2)).Perm (x::σ):=(List.perm_middle.symm).trans hp;exact h1.cons_inv
  have hf:=B4.front t1 (λy hy=>?_) hr
  .cases hf with
   |cons h1 h2=>
    refine .cons h1 (B4.any σ (t1++t2) hp' (λi j hij hji=>hc i j ?_ ?_) h2)
    .grind
    .exact hji.trans (ag9 ..)
  grind
end Trace
theorem Cf:∀{l:η} {i j:Nat},l.Nodup->KI l i j->KI l j i->False
 |[],_,_,_,h,_=>by cases h
 |x::l,i,j,hn,h1,h2=>by
  obtain⟨hx,hn⟩:=List.nodup_cons.1 hn;cases h1 with
  |cons _ h1=>
   cases h2 with
   |cons _ h2=>exact Cf hn h1 h2
   |cons_cons _ h2=>exact hx (h1.subset (by simp))
  |cons_cons _ h1=>
   grind
theorem HG:∀{l:η} {i j k:Nat},l.Nodup->KI l i j->KI l j k->KI l i k
 |[],_,_,_,_,h,_=>by cases h
 |x::l,i,j,k,hn,h1,h2=>by
  obtain⟨hx,hn⟩:=List.nodup_cons.1 hn;cases h1 with
  |cons _ h1=>
   cases h2 with
   |cons _ h2=>exact .cons _ (HG hn h1 h2)
   |cons_cons _ h2=>exact absurd (h1.subset (by simp)) hx
  |cons_cons _ h1=>
   grind
theorem Nx:∀{l1 l2:η},l1.Nodup->(∀i∈l1,i∈l2)->l1.length<=l2.length
 |[],_,_,_=>agQ _
 |x::l,l2,hn,hs=>by
  obtain⟨hx,hn⟩:=List.nodup_cons.1 hn;have h1:=Nx (l2:=l2.erase x) hn λi hi=>(List.mem_erase_of_ne (λe=>hx (by subst e;exact hi))).2 (hs i (BY _ hi))
  grind
section Orders
variable {ops:Array Oper}
theorem PY (hlt:∀i o e,ops[i]?=some o->e∈o.after.toList->Region.binds .any e=true->e.on<i) :
  ∀(fuel t:Nat) (listed:Array Bool) (acc:η),fuel+acc.length=ops.size->listed.size=ops.size->acc.Nodup ->
   (∀i,i<ops.size->(listed.getD i true=true↔i∈acc))->(∀i∈acc,i<ops.size) ->
   (∀i o e,ops[i]?=some o->i∈acc->e∈o.after.toList->Region.binds .any e=true->KI acc.reverse e.on i) ->
   ∃l,Region.linearise.go .any ops fuel t listed acc=l/\l.length=ops.size/\l.Nodup/\(∀i∈l,i<ops.size) /\
    (∀i o e,ops[i]?=some o->i∈l->e∈o.after.toList->Region.binds .any e=true->KI l e.on i)
 |0,t,listed,acc,hl,hs,hn,hm,hb,hr=>⟨acc.reverse,rfl,by simp;omega,by simpa[List.Nodup,List.pairwise_reverse,ne_comm] using hn,by simpa using hb,λi o e h1 h2 h3 h4=>hr i o e h1 (by simpa using h2) h3 h4⟩
 |fuel+1,t,listed,acc,hl,hs,hn,hm,hb,hr=>by
  unfold Region.linearise.go;generalize hrs:((List.range ops.size).filter λi=>!listed.getD i true&&((ops[i]?).map (·.after.all λe=>!Region.binds .any e||listed.getD e.on false)).getD false)=rs
  have hmem:∀i,i∈rs↔i<ops.size/\i∉acc/\∃o,ops[i]?=some o/\∀e∈o.after.toList,Region.binds .any e=true->e.on∈acc:=by
   intro i;subst hrs;rw[aii,aiq];refine and_congr_right λhi=>?_;have ho:ops[i]?=some ops[i]:=by simp[hi]
   rw[ho];have h1:(!listed.getD i true)=true↔i∉acc:=by
    rw[<-hm i hi];cases listed.getD i true<;>simp
   rw[aau,h1];refine and_congr_right λ_=>?_;simp only[afk,aie,abG,exists_eq_left',Array.all_eq_true',ahE,ahd,afZ]
   grind
  have hne:rs≠[]:=by
   have hex:∃i,i<ops.size/\i∉acc:=by
    by_cases hc:∃i,i<ops.size/\i∉acc
    .exact hc
    .exfalso;have:=Nx agP (l2:=acc) λi hi=>by
      by_cases hia:i∈acc
      .exact hia
      .exact absurd ⟨i,List.mem_range.1 hi,hia⟩ hc
     simp at this;omega
   obtain⟨i,hi⟩:=hex;have hmin:∀n i,i<=n->i<ops.size/\i∉acc->∃k,k<ops.size/\k∉acc/\∀m,m<k->m∈acc:=by
    intro n
    induction n with
    |zero=>
     grind
    |succ n ih=>
     intro i h0 hi;by_cases hc:∃m,m<=n/\m<i/\m∉acc
     .obtain⟨m,h1,h2,h3⟩:=hc;exact ih m h1 ⟨by omega,h3⟩
     grind
   obtain⟨k,h1,h2,h3⟩:=hmin i i (aao _) hi;have:k∈rs:=(hmem k).2 ⟨h1,h2,ops[k],by simp[h1],λe he hbd=>h3 _ (hlt k _ e (by simp[h1]) he hbd)⟩;intro e;rw[e] at this;cases this
  have hlen:0<rs.length:=List.length_pos_iff.2 hne;have hget:rs[t%rs.length]?=some (rs[t%rs.length]'(ahR _ hlen)):=abi _;simp only[hget];have hi:=(hmem _).1 (agM (ahR t hlen));generalize rs[t%rs.length]'(ahR _ hlen)=i at hi;obtain⟨h1,h2,o,ho,h3⟩:=hi;refine PY hlt fuel _ _ (i::acc) (by simp;omega) (by simp[hs]) (List.nodup_cons.2 ⟨h2,hn⟩) (λj hj=>?_) (λj hj=>?_) (λj o' e hj hjm he hbd=>?_)
  .by_cases hij:i=j
   .subst hij;simp[afm,agO,hs,hj]
   .rw[agu];have:(listed.setIfInBounds i true).getD j true=listed.getD j true:=by
     simp[afm,agO,hij]
    grind
  .grind
  .rw[List.reverse_cons]
   grind
theorem Fq (hlt:∀i o e,ops[i]?=some o->e∈o.after.toList->Region.binds .any e=true->e.on<i)(t:Nat) :
  (Region.linearise .any ops t).Nodup/\(Region.linearise .any ops t).Perm (List.range ops.size) /\
   (∀i o e,ops[i]?=some o->e∈o.after.toList->Region.binds .any e=true->KI (Region.linearise .any ops t) e.on i):=by
 obtain⟨l,e,hl,hn,hb,hr⟩:=PY hlt ops.size t (Array.replicate ops.size false) [] (by simp) (by simp) List.nodup_nil
  (λi hi=>by simp[afm,hi]) (by simp) (by simp)
 rw[Region.linearise,e];have hp:l.Perm (List.range ops.size):=(List.perm_ext_iff_of_nodup hn agP).2 λi=>⟨λhi=>List.mem_range.2 (hb i hi),λhi=>by
  by_cases hc:i∈l
  .exact hc
  .have:=Nx (List.nodup_cons.2 ⟨hc,hn⟩) (l2:=List.range ops.size) λj hj=>by
    grind
   simp at this;omega⟩
 grind
end Orders
inductive Cg where
 |val (v:ξ)
 |lit (x:Nat×δ)
def Env.res (E:Env)(d:μ):Cg->Env
 |.val v=>E.put d v
 |.lit _=>E.del d
def fU.res (L:fU)(d:μ):Cg->fU
 |.val _=>L.del d
 |.lit x=>L.put d x
def kY (m:Option (ξ×af)):Option (Cg×af):=match m with
 |some (v,h)=>some (.val v,h)
 |none=>none
def ex (P:Program)(C:nX)(nm:Nat)(ops:Array Oper)(E:Env)(L:fU)(o:Oper):M Cg:=λh=>
 match o.op with
 |.pick c a b=>(match E.ev c with
  |some (.bool true)=>(match E.ev a with|some v=>some (.val v,h)|none=>none)
  |some (.bool false)=>(match E.ev b with|some v=>some (.val v,h)|none=>none)
  |_=>none)
 |.call c=>(match isBuiltin c with
  |true=>(match uw L c with
   |some (n,cs)=>kY ((xK (Bg ops o) E c (p8 P (!yj ops o) E c n cs)).exec h)
   |none=>(match yj ops o with
    |true=>none
    |false=>kY ((xK (Bg ops o) E c (wJ P (some nm) E o)).exec h)))
  |false=>(match ta C c with
   |some t=>(match tR E t c with
    |some (x,vs)=>(match C.dy t x vs with
     |some ca=>(match ca.m h with|some (x,h')=>some (.val (ca.pk x),h')|none=>none)
     |none=>none)
    |none=>none)
   |none=>(match callee E c with
    |some (f,vs)=>(match C.st f vs with
     |some ca=>(match ca.m h with|some (x,h')=>some (.val (ca.pk x),h')|none=>none)
     |none=>none)
    |none=>none)))
 |.buildSlice _ _ _=>(match xD P ops E o with
  |some x=>some (.lit x,h)
  |none=>kY ((wJ P (some nm) E o).exec h))
 |_=>kY ((wJ P (some nm) E o).exec h)
def want (ops:Array Oper)(E:Env)(o:Oper):Option Bool:=
 match o.guard with
 |none=>some true
 |some (j,w)=>(match (ops[j]?).bind (·.dst) with
  |some t=>(match E t with
   |some (.bool b)=>some (b==w)
   |some (.tuple _)=>some false
   |_=>none)
  |none=>none)
def act (P:Program)(C:nX)(nm:Nat)(ops:Array Oper)(E:Env)(L:fU)(o:Oper):M Cg:=λh=>
 match want ops E o with
 |some true=>ex P C nm ops E L o h
 |some false=>some (.val undef,h)
 |none=>none
abbrev St:=Env×fU×af
def As (E:Env)(o:Oper):θ:=
 match o.op with
 |.store _ x _=>(match E.ev x with|some (.pointer p)=>p|_=>none)
 |_=>none
def wQ (E:Env)(o:Oper)(h:af)(ks:η):Prop:=vT o=true->ks≠[]->∃a,As E o=some a/\okK h a ks=true
def Step (P:Program)(C:nX)(W:Wr)(nb:Nat)(ops:Array Oper)(Af:Nat->θ)(Ck:Nat->List θ)(Kk:Nat->η)(i:Nat)(s s':St):Prop:=
 ∃o r,ops[i]?=some o/\KH W o.dst=true/\(want ops s.1 o=some true->lA s.1 o=Af i)/\act P C (nb+i) ops s.1 s.2.1 o s.2.2=some (r,s'.2.2) /\
  s'.1=s.1.res o.dst r/\s'.2.1=s.2.1.res o.dst r/\(yk ops o=true->sameAt s.2.2 s'.2.2 (Ck i)=true)/\(want ops s.1 o=some true->wQ s.1 o s.2.2 (Kk i))
theorem sameAt_refl (h:af):∀l,sameAt h h l=true
 |[]=>rfl
 |none::r=>sameAt_refl h r
 |some b::r=>by
  unfold sameAt;split
  .exact sameAt_refl h r
  .rename_i q _;exact absurd rfl q
theorem rI {h h':af}:∀{l:List θ} {a:Addr},sameAt h h' l=true->some a∈l->h'.get a.block=h.get a.block
 |[],_,_,hm=>by cases hm
 |none::r,a,hs,hm=>by
  rcases List.mem_cons.1 hm with q|q
  .cases q
  .exact rI (l:=r) hs q
 |some b::r,a,hs,hm=>by
  unfold sameAt at hs;split at hs
  .rename_i q _;rcases List.mem_cons.1 hm with e|e
   .cases e;exact q.symm
   .exact rI (l:=r) hs e
  .cases hs
theorem qf {E:Env}{t:Nat}{v:ξ}(h:E t=some v):E.set t v=E:=by
 funext j;unfold Env.set;cases hj:Nat.beq j t
 .rfl
 .have:=aab hj;subst this;exact h.symm
theorem wR {E:Env}{c:Operand}{b:Bool}(h:E.ev c=some (.bool b)):E.sJ c b=E:=by
 unfold Env.sJ;split
 .exact qf h
 .rfl
theorem Fs {R:Type}{r:R×af}{K:ξ->M R}:∀{A:Act} {h:af},A.run K h=some r↔∃v h',A.exec h=some (v,h')/\K v h'=some r
 |.val v,h=>by
  simp only[Act.run,Act.exec,abG,afr]
  grind
 |.none,h=>by simp[Act.run,Act.exec,AS]
 |.ask α m k,h=>by
  simp only[Act.run,Act.exec,sh];cases hm:m h with
  |none=>simp
  |some x=>exact Fs (A:=k x.1) (h:=x.2)
theorem LN {α:Type}{as:List θ}{m:M α}{h:af}{x:α×af}(hx:mY as m h=some x):m h=some x/\sameAt h x.2 as=true:=by
 grind [mY]
theorem Ft {α:Type}{as:List θ}{m:M α}{h:af}{x:α×af}(hx:wrapM as m h=some x):m h=some x/\sameAt h x.2 as=true:=by
 unfold wrapM at hx;split at hx
 .exact⟨hx,rfl⟩
 .exact LN hx
theorem Ny {as:List θ}{A:Act}{h:af}{x:ξ×af}(hx:(rB as A).exec h=some x) :
  A.exec h=some x/\(∀α m (v:α->ξ),A=.ask α m (λy=>.val (v y))->sameAt h x.2 as=true):=by
 unfold rB at hx;split at hx
 .split at hx
  .exact⟨hx,λ_ _ _ _=>rfl⟩
  .simp only[Act.exec] at hx⊢;split at hx
   .rename_i m k _ _ _ y h2 hc;obtain⟨h1,h2⟩:=LN hc;rw[h1];refine⟨hx,λα' m' v e=>?_⟩;cases e;simp only[Act.exec] at hx;cases hx;exact h2
   .cases hx
 grind
theorem At {b:Bool}(h:Am b=.sil):False:=by cases b<;>cases h
theorem uj {b:Bool}(h:Am b=.ro):False:=by cases b<;>cases h
theorem pH {b:Bool}(h:Am b=.mro):False:=by cases b<;>cases h
theorem ov {b:Bool}(h:Am b=.alloc):False:=by cases b<;>cases h
theorem rJ {b:Bool}(h:Am b=.mka):False:=by cases b<;>cases h
theorem Fu {b:Bool}(h:Am b=.add):b=false:=by cases b<;>first|rfl|cases h
theorem Ch {h:af}{b:Bool}{E:Env}{c:Call}{A:Act}{r:Cg×af}(e:kY ((xK b E c A).exec h)=some r):xK b E c A=A:=by
 cases q:(xK b E c A).exec h with
 |none=>rw[q] at e;cases e
 |some v=>exact B8 q
theorem LO {E:Env}{c:Call}{n:Nat}{cs:δ}(b:Bool):(∃α m,∃v:α->ξ,p8 P b E c n cs=.ask α m (λy=>.val (v y)))\/p8 P b E c n cs=.none:=by
 unfold p8
 repeat' (first|exact .inr rfl|exact .inl ⟨_,_,_,rfl⟩|split)
theorem RB {R:Type}{C:nX}{W:Wr}{nm:Nat}{cks:List θ}{ks:η}{ops:Array Oper}{E:Env}{L:fU}{o:Oper}{K:Env->fU->M R}{h:af}{q:R×af}
  (hx:vU P C W (some nm) cks ks ops E L o K h=some q):KH W o.dst=true/\∃r h',ex P C nm ops E L o h=some (r,h') /\
   (yk ops o=true->sameAt h h' cks=true)/\wQ E o h ks/\K (E.res o.dst r) (L.res o.dst r) h'=some q:=by
 have gen:∀A:Act,(rB cks A).run (λv=>K (E.put o.dst v) (L.del o.dst)) h=some q->∃r h',kY (A.exec h)=some (r,h') /\
   ((∃α m,∃v:α->ξ,A=.ask α m (λy=>.val (v y)))->sameAt h h' cks=true)/\K (E.res o.dst r) (L.res o.dst r) h'=some q:=by
  intro A hA;obtain⟨v,h',h1,h2⟩:=Fs.1 hA;obtain⟨h3,h4⟩:=Ny h1;exact⟨.val v,h',by rw[h3];rfl,λ⟨α,m,v,e⟩=>h4 α m v e,h2⟩
 generalize hm:vU P C W (some nm) cks ks ops E L o K=m at hx;unfold vU at hm;cases hW:KH W o.dst
 .rw[hW] at hm;subst hm;simp[AS] at hx
 rw[hW] at hm;refine⟨rfl,?_⟩;have noSt:vT o=false->wQ E o h ks:=λhs e=>by rw[hs] at e;cases e
 unfold ex yk;cases hop:o.op<;>simp only[hop] at hm⊢
 case pick c a b=>
  split at hm
  .rename_i t ht;cases t
   .simp only[vz,adZ,aeL,wR ht] at hm;split at hm
    .rename_i v hv;subst hm;exact⟨.val v,h,by simp[ht,hv],by simp,noSt (by simp[vT,hop]),hx⟩
    .subst hm;simp[AS] at hx
   .simp only[vz,agN,wR ht] at hm;split at hm
    .rename_i v hv;subst hm;exact⟨.val v,h,by simp[ht,hv],by simp,noSt (by simp[vT,hop]),hx⟩
    .subst hm;simp[AS] at hx
  .subst hm;simp[AS] at hx
 case call c=>
  cases hb:isBuiltin c<;>simp only[hb] at hm⊢
  .split at hm
   .rename_i t hds;split at hm
    .rename_i xv vs hcl;split at hm
     .rename_i ca hca;subst hm;simp only[sh] at hx;split at hx
      .rename_i x h' hm;obtain⟨h3,h4⟩:=Ft hm;exact⟨.val (ca.pk x),h',by simp[hds,hcl,hca,h3],λ_=>h4,noSt (by simp[vT,hop]),hx⟩
      .cases hx
     .subst hm;simp[AS] at hx
    .subst hm;simp[AS] at hx
   .rename_i hds;split at hm
    .rename_i f vs hcl;split at hm
     .rename_i ca hca;subst hm;simp only[sh] at hx;split at hx
      .rename_i x h' hm;obtain⟨h3,h4⟩:=Ft hm;exact⟨.val (ca.pk x),h',by simp[hds,hcl,hca,h3],λ_=>h4,noSt (by simp[vT,hop]),hx⟩
      .cases hx
     .subst hm;simp[AS] at hx
    .subst hm;simp[AS] at hx
  .split at hm
   .rename_i n cs hl;subst hm;rw[Nl] at hx;obtain⟨r,h',h1,h2,h3⟩:=gen _ hx;refine⟨r,h',by simpa[hl] using h1,λ_=>h2 ?_,noSt (by simp[vT,hop]),h3⟩;rcases LO (P:=P) (E:=E) (c:=c) (n:=n) (cs:=cs) ((some nm).isSome&&!yj ops o) with h4|h4
    .rw[Ch h1];exact h4
    .rw[Ch h1,h4] at h1;simp[Act.exec,kY] at h1
   .rename_i hl;cases hlx:yj ops o<;>rw[hlx] at hm
    .subst hm
     grind [vT]
    .subst hm;simp[AS] at hx
 case buildSlice t l ps=>
  split at hm
  .rename_i x hl;subst hm;exact⟨.lit x,h,by simp[hl],by simp,noSt (by simp[vT,hop]),hx⟩
  .rename_i hl;subst hm
   grind [vT]
 case store t x y=>
  have fin:(rB cks (wJ P (some nm) E o)).run (λv=>K (E.put o.dst v) (L.del o.dst)) h=some q->wQ E o h ks->∃r h',kY ((wJ P (some nm) E o).exec h)=some (r,h') /\
    (True->sameAt h h' cks=true)/\wQ E o h ks/\K (E.res o.dst r) (L.res o.dst r) h'=some q:=by
   intro hx hs;obtain⟨r,h',h1,h2,h3⟩:=gen _ hx;refine⟨r,h',h1,λ_=>h2 ?_,hs,h3⟩;unfold wJ at h1⊢;simp only[hop] at h1⊢;split at h1
   .unfold yi at h1⊢;split at h1
    .simp only at h1;split at h1
     .grind
     .simp[Act.exec,kY] at h1
    .simp[Act.exec,kY] at h1
   .simp[Act.exec,kY] at h1
  split at hm
  .subst hm;obtain⟨r,h',h1,h2,h3,h4⟩:=fin hx (λ_ e=>absurd rfl e);exact⟨r,h',h1,λ_=>h2 trivial,h3,h4⟩
  .split at hm
   .rename_i a ha;subst hm;have hok:wQ E o h ks:=by
     intro _ _;refine⟨a,by simp only[As,hop,ha],?_⟩;cases hA:rB cks (wJ P (some nm) E o) with
     |val v=>
      exfalso;have h1:∀v,wJ P (some nm) E o≠.val v:=by
       intro v e;unfold wJ at e;simp only[hop] at e
       grind [yi]
      cases hB:wJ P (some nm) E o with
      |val v'=>exact h1 v' hB
      |none=>rw[hB] at hA;simp[rB] at hA
      |ask α m k=>rw[hB] at hA;cases cks<;>simp[rB] at hA
     |none=>rw[hA] at hx;simp[KZ,Act.run,AS] at hx
     |ask α m k=>
      rw[hA] at hx;simp only[KZ,Act.run,sh] at hx
      grind [HC]
    obtain⟨r,h',h1,h2,h3,h4⟩:=fin (Fp hx) hok;exact⟨r,h',h1,λ_=>h2 trivial,h3,h4⟩
   .subst hm;simp[AS] at hx
 all_goals
  subst hm;obtain⟨r,h',h1,_,h3⟩:=gen _ hx;exact⟨r,h',h1,by simp,noSt (by simp[vT,hop]),h3⟩
theorem Ci {R:Type}{C:nX}{W:Wr}{nm:Nat}{ops:Array Oper}{E:Env}{L:fU}{o:Oper}{K:Env->fU->M R}{h h':af}{r:Cg}{q:R×af}
  (hW:KH W o.dst=true) (he:ex P C nm ops E L o h=some (r,h')) (hx:K (E.res o.dst r) (L.res o.dst r) h'=some q) :
  vU P C W (some nm) [] [] ops E L o K h=some q:=by
 have gen:∀A:Act,kY (A.exec h)=some (r,h')->(rB [] A).run (λv=>K (E.put o.dst v) (L.del o.dst)) h=some q:=by
  intro A hA;have:rB [] A=A:=by cases A<;>rfl
  rw[this];unfold kY at hA;split at hA
  .rename_i v h2 hv;cases hA;exact Fs.2 ⟨v,_,hv,hx⟩
  .cases hA
 unfold vU;rw[hW];unfold ex at he;cases hop:o.op<;>simp only[hop] at he⊢
 case pick c a b=>
  split at he
  .rename_i ht;simp only[ht,vz,agN,wR ht];split at he
   .rename_i v hv;cases he;simp only[hv];exact hx
   .cases he
  .rename_i ht;simp only[ht,vz,adZ,aeL,wR ht];split at he
   .rename_i v hv;cases he;simp only[hv];exact hx
   .cases he
  .cases he
 case call c=>
  cases hb:isBuiltin c<;>simp only[hb] at he⊢
  .split at he
   .rename_i t hds;simp only[hds];split at he
    .rename_i xv vs hcl;simp only[hcl];split at he
     .rename_i ca hca;split at he
      .rename_i x h2 hm;cases he;simp only[hca,sh,wrapM,hm];exact hx
      .cases he
     .cases he
    .cases he
   .rename_i hds;simp only[hds];split at he
    .rename_i f vs hcl;simp only[hcl];split at he
     .rename_i ca hca;split at he
      .rename_i x h2 hm;cases he;simp only[hca,sh,wrapM,hm];exact hx
      .cases he
     .cases he
    .cases he
  .split at he
   .rename_i n cs hl;simp only[hl,Nl];exact gen _ he
   .rename_i hl;cases hlx:yj ops o<;>simp only[hlx] at he⊢
    .simp only[hl];exact gen _ he
    .cases he
 case buildSlice t l ps=>
  split at he
  .rename_i x hl;cases he;simp only[hl];exact hx
  .rename_i hl;simp only[hl];exact gen _ he
 all_goals exact gen _ he
section Traces
variable {R:Type}{C:nX}{W:Wr}{nb:Nat}{ops:Array Oper}{K:Env->M R}{q:R×af}
theorem Step.congr {Af Af':Nat->θ}{Ck Ck':Nat->List θ}{Kk Kk':Nat->η}{i:Nat}{s s':St}(h1:Af i=Af' i)(h2:Ck i=Ck' i)(h3:Kk i=Kk' i)
  (hs:Step P C W nb ops Af Ck Kk i s s'):Step P C W nb ops Af' Ck' Kk' i s s':=by
 obtain⟨o,r,a,b,c,d,e,f,g,k⟩:=hs;exact⟨o,r,a,b,λw=>h1▸c w,d,e,f,λw=>h2▸g w,λw=>h3▸k w⟩
theorem Fv:∀(l:List (Nat×η)) (E:Env) (L:fU) (A:Uc) (h:af),(l.map (·.1)).Nodup->iM P C W (some nb) ops l E L A K h=some q ->
  ∃(Af:Nat->θ) (Ck:Nat->List θ) (Kk:Nat->η) (E':Env) (L':fU) (h':af),B4 (Step P C W nb ops Af Ck Kk) (l.map (·.1)) (E,L,h) (E',L',h')/\K E' h'=some q /\
   ∀j cs,(j,cs)∈l->∀k∈cs,(KI (l.map (·.1)) k j->Af k∈Ck j)/\(k∉l.map (·.1)->A k∈Ck j)/\Kk j=DI P ops (some nb) cs
 |[],E,L,A,h,_,hx=>⟨λ_=>none,λ_=>[],λ_=>[],E,L,h,.nil _,hx,by simp⟩
 |(i,c0)::rest,E,L,A,h,hn,hx=>by
  rw[acw,List.nodup_cons] at hn;obtain⟨hni,hn⟩:=hn;generalize hm:iM P C W (some nb) ops ((i,c0)::rest) E L A K=m at hx;unfold iM at hm;have fin:∀(o:Oper) (r:Cg) (A':Uc) (h2:af),ops[i]?=some o->KH W o.dst=true->(∀k,k≠i->A' k=A k)->(want ops E o=some true->lA E o=A' i) ->
    act P C (nb+i) ops E L o h=some (r,h2)->(yk ops o=true->sameAt h h2 (c0.map A)=true)->(want ops E o=some true->wQ E o h (DI P ops (some nb) c0))->iM P C W (some nb) ops rest (E.res o.dst r) (L.res o.dst r) A' K h2=some q ->
    ∃(Af:Nat->θ) (Ck:Nat->List θ) (Kk:Nat->η) (E':Env) (L':fU) (h':af),B4 (Step P C W nb ops Af Ck Kk) (i::rest.map (·.1)) (E,L,h) (E',L',h')/\K E' h'=some q /\
     ∀j cs,(j,cs)∈(i,c0)::rest->∀k∈cs,(KI (i::rest.map (·.1)) k j->Af k∈Ck j)/\(k∉i::rest.map (·.1)->A k∈Ck j)/\Kk j=DI P ops (some nb) cs:=by
   intro o r A' h2 ho hW hA hrd hact hck hst hx2;obtain⟨Af,Ck,Kk,E',L',h',hrun,hK,hks⟩:=Fv rest _ _ _ _ hn hx2;refine⟨λk=>if k=i then A' i else Af k,λk=>if k=i then c0.map A else Ck k,λk=>if k=i then DI P ops (some nb) c0 else Kk k,E',L',h',.cons ⟨o,r,ho,hW,?_,hact,rfl,rfl,?_,?_⟩ (B4.mono (λk hk s s' hs=>hs.congr ?_ ?_ ?_) hrun),hK,?_⟩
   .simpa using hrd
   .simpa using hck
   .simpa using hst
   rotate_left
   .rw[By];rintro rfl;exact hni hk
   .rw[By];rintro rfl;exact hni hk
   .rw[By];rintro rfl;exact hni hk
   .intro j cs hj k hk;rcases List.mem_cons.1 hj with e|hj
    .grind
    .have hjm:j∈rest.map (·.1):=List.mem_map.2 ⟨(j,cs),hj,rfl⟩
     have hji:j≠i:=(by rintro rfl;exact hni hjm);obtain⟨h1,h2,h2b⟩:=hks j cs hj k hk;simp only[By hji];refine⟨λhb=>?_,λhb=>?_,h2b⟩
     .cases hb with
      |cons _ hb=>
       grind
      |cons_cons _ hb=>rw[AT rfl];exact h2 hni
     grind
  split at hm
  .subst hm;simp[AS] at hx
  .rename_i o ho;have run:want ops E o=some true->vU P C W (some (nb+i)) (c0.map A) (DI P ops (some nb) c0) ops E L o (λE' L'=>iM P C W (some nb) ops rest E' L' (λj=>cond (Nat.beq j i) (lA E o) (A j)) K) h=some q ->
     ∃(Af:Nat->θ) (Ck:Nat->List θ) (Kk:Nat->η) (E':Env) (L':fU) (h':af),B4 (Step P C W nb ops Af Ck Kk) (i::rest.map (·.1)) (E,L,h) (E',L',h')/\K E' h'=some q /\
      ∀j cs,(j,cs)∈(i,c0)::rest->∀k∈cs,(KI (i::rest.map (·.1)) k j->Af k∈Ck j)/\(k∉i::rest.map (·.1)->A k∈Ck j)/\Kk j=DI P ops (some nb) cs:=by
    intro hw hx;obtain⟨hW,r,h2,he,hck,hst,hk⟩:=RB hx;refine fin o r _ h2 ho hW ?_ ?_ (by simp only[act,hw];exact he) hck (λ_=>hst) hk
    .grind [absurd,Nat.eq_of_beq_eq_true]
    .intro _;simp
   have skip:want ops E o=some false->(match KH W o.dst with|true=>iM P C W (some nb) ops rest (E.put o.dst undef) (L.del o.dst) A K|false=>AS) h=some q ->
     ∃(Af:Nat->θ) (Ck:Nat->List θ) (Kk:Nat->η) (E':Env) (L':fU) (h':af),B4 (Step P C W nb ops Af Ck Kk) (i::rest.map (·.1)) (E,L,h) (E',L',h')/\K E' h'=some q /\
      ∀j cs,(j,cs)∈(i,c0)::rest->∀k∈cs,(KI (i::rest.map (·.1)) k j->Af k∈Ck j)/\(k∉i::rest.map (·.1)->A k∈Ck j)/\Kk j=DI P ops (some nb) cs:=by
    intro hw hx;cases hW:KH W o.dst<;>rw[hW] at hx
    .simp[AS] at hx
    .exact fin o (.val undef) A h ho hW (λ_ _=>rfl) (by rw[hw];simp) (by simp only[act,hw]) (λ_=>sameAt_refl _ _) (λhw2=>by rw[hw] at hw2;cases hw2) hx
   split at hm
   .rename_i hg;subst hm;exact run (by simp only[want,hg]) hx
   .rename_i j w hg;split at hm
    .rename_i t ht;split at hm
     .rename_i b hb;have hwant:want ops E o=some (b==w):=(by simp only[want,hg,ht,hb]);cases w<;>cases b<;>simp only[vz,adZ,aeL,agN,qf hb] at hm<;>subst hm
      .exact run hwant hx
      .exact skip hwant hx
      .exact skip hwant hx
      .exact run hwant hx
     .rename_i vs hb;subst hm;exact skip (by simp only[want,hg,ht,hb]) hx
     .subst hm;simp[AS] at hx
    .subst hm;simp[AS] at hx
theorem Fw {Af:Nat->θ}{Ck:Nat->List θ}{Kk:Nat->η}:∀(l:η) (A:Uc) (s f:St),B4 (Step P C W nb ops Af Ck Kk) l s f->K f.1 f.2.2=some q ->
  iM P C W (some nb) ops (l.map λi=>(i,[])) s.1 s.2.1 A K s.2.2=some q
 |[],A,s,f,hr,hK=>by cases hr;exact hK
 |i::l,A,(E,L,h),f,.cons (s1:=(E1,L1,h1)) ⟨o,r,ho,hW,_,hact,e1,e2,_⟩ hr,hK=>by
  simp only at e1 e2 hact;subst e1;subst e2;have ih:=λA=>Fw l A _ _ hr hK;simp only[acw] at ih⊢;unfold iM;simp only[ho];unfold act at hact;unfold want at hact;cases hg:o.guard with
  |none=>
   simp only[hg] at hact;exact Ci hW hact (ih _)
  |some jw=>
   obtain⟨j,w⟩:=jw;simp only[hg] at hact⊢;cases ht:(ops[j]?).bind (·.dst) with
   |none=>simp[ht] at hact
   |some t=>
    simp only[ht] at hact⊢;split at hact
    .rename_i hwt;split at hwt
     .rename_i b hb;simp only[hb];cases w<;>cases b<;>simp at hwt
      .simp only[vz,adZ,aeL,qf hb];exact Ci hW hact (ih _)
      .simp only[vz,agN,qf hb];exact Ci hW hact (ih _)
     .simp at hwt
     .cases hwt
    .rename_i hwt;cases hact;split at hwt
     .rename_i b hb;simp only[hb];cases w<;>cases b<;>simp at hwt
      .simp only[vz,agN,qf hb,hW];exact ih _
      .simp only[vz,adZ,aeL,qf hb,hW];exact ih _
     .rename_i vs hb;simp only[hb,hW];exact ih _
     .cases hwt
    .cases hact
end Traces
section Congr
variable {E E':Env}{L L':fU}{ops:Array Oper}{o:Oper}{C:nX}
theorem uk:∀{xs:List Operand},(∀x∈xs,E.ev x=E'.ev x)->E.KK xs=E'.KK xs
 |[],_=>rfl
 |x::xs,h=>by
  simp only[Env.KK];rw[h x (IS ..),uk λy hy=>h y (BY _ hy)]
theorem vh:∀{xs:List (Nat×Operand)},(∀x∈xs.map (·.2),E.ev x=E'.ev x)->partsOf E xs=partsOf E' xs
 |[],_=>rfl
 |(i,x)::xs,h=>by
  simp only[partsOf];rw[h x (by simp),vh λy hy=>h y (by simp at hy⊢;exact .inr hy)]
theorem wS {x:Option Operand}(h:∀y,x=some y->E.ev y=E'.ev y):DH E x=DH E' x:=by
 cases x with
 |none=>rfl
 |some y=>simp only[DH];rw[h y rfl]
theorem RC {nm:μ}(h:∀x∈o.op.operands,E.ev x=E'.ev x):wJ P nm E o=wJ P nm E' o:=by
 unfold wJ;cases hop:o.op<;>simp only[hop] at h⊢
 case build t ps=>grind [vh,Op.operands]
 case buildSlice t l ps=>grind [vh,Op.operands]
 case makeFunc f a b=>
  rw[uk (xs:=a.toList) λx hx=>h x (by grind [Op.operands]),
   uk (xs:=b.toList) λx hx=>h x (by grind [Op.operands])]
 case makeMap t r=>grind [wS,Op.operands]
 case call c=>
  rw[uk (xs:=c.args.toList) λx hx=>h x (by grind [Op.operands,Call.operands])]
 case slice t x lo hi mx=>
  rw[h x (by simp[Op.operands]),wS (x:=lo) λy hy=>h y (by simp[Op.operands,hy]),
   wS (x:=hi) λy hy=>h y (by simp[Op.operands,hy]),wS (x:=mx) λy hy=>h y (by simp[Op.operands,hy])]
 all_goals simp[Op.operands] at h
 all_goals simp only[h]
theorem Ae {x:Operand}{t:Nat}(hx:x∈o.op.operands)(e:x=.tmp t):t∈jf ops o:=by
 unfold jf;refine ab3 _ (List.mem_filterMap.2 ⟨x,Array.mem_toList_iff.2 hx,?_⟩);subst e;rfl
theorem Bm (h:∀t∈jf ops o,E t=E' t):∀x∈o.op.operands,E.ev x=E'.ev x:=by
 intro x hx;cases x<;>simp only[Env.ev];exact h _ (Ae hx rfl)
theorem uB (h:∀t∈jf ops o,E t=E' t):want ops E o=want ops E' o:=by
 grind [want,jf,List.mem_append_right]
theorem Bn (h:∀t∈jf ops o,E t=E' t):lA E o=lA E' o:=by
 have h:=Bm h;unfold lA;cases hop:o.op<;>simp only[hop,Op.operands] at h⊢
 all_goals first|rfl|(rw[h _ (by simp)])
theorem RD {c:Call}(hop:o.op=.call c)(h:∀t∈jf ops o,L t=L' t):uw L c=uw L' c:=by
 unfold uw;split
 .rename_i x t hc ha;refine h t (Ae (x:=.tmp t) ?_ rfl);rw[hop];simp only[Op.operands,Call.operands,agv];exact .inr (Array.mem_toList_iff.1 (by rw[ha];simp))
 .rfl
theorem HH {nm:Nat}(h:∀t∈jf ops o,E t=E' t)(hL:∀t∈jf ops o,L t=L' t):act P C nm ops E L o=act P C nm ops E' L' o:=by
 funext hp;unfold act;rw[uB h];have he:ex P C nm ops E L o hp=ex P C nm ops E' L' o hp:=by
  have ha:=RC (P:=P) (nm:=some nm) (Bm h);have hv:=Bm h;unfold ex;cases hop:o.op<;>simp only
  case pick c a b=>
   grind [Op.operands]
  case call c=>
   rw[ha,RD hop hL];rw[hop] at hv;have hcw:∀A,xK (Bg ops o) E c A=xK (Bg ops o) E' c A:=λA=>by
    unfold xK;cases hca:c.args.toList with
    |nil=>rfl
    |cons s ss=>simp only[hv s (by simp only[Op.operands,Call.operands,agv];exact .inr (Array.mem_toList_iff.1 (by rw[hca];simp)))]
   simp only[hcw];have h1:callee E c=callee E' c:=by
    unfold callee;rw[uk (xs:=c.args.toList) λx hx=>hv x (by grind [Op.operands,Call.operands])]
    grind [Op.operands,Call.operands]
   have h3:∀t,ta C c=some t->tR E t c=tR E' t c:=by
    intro t ht;unfold tR;rw[uk (xs:=c.args.toList) λx hx=>hv x (by grind [Op.operands,Call.operands])];have hcal:c.callee=.value (.tmp t):=by
     grind [ta]
    have:E t=E' t:=hv (.tmp t) (by simp[Op.operands,Call.operands,hcal]);rw[this]
   have h4:(match ta C c with
     |some t=>(match tR E t c with
      |some (x,vs)=>(match C.dy t x vs with
       |some ca=>(match ca.m hp with|some (x,h')=>some (Cg.val (ca.pk x),h')|none=>none)
       |none=>none)
      |none=>none)
     |none=>(match callee E c with
      |some (f,vs)=>(match C.st f vs with
       |some ca=>(match ca.m hp with|some (x,h')=>some (.val (ca.pk x),h')|none=>none)
       |none=>none)
      |none=>none))=(match ta C c with
     |some t=>(match tR E' t c with
      |some (x,vs)=>(match C.dy t x vs with
       |some ca=>(match ca.m hp with|some (x,h')=>some (Cg.val (ca.pk x),h')|none=>none)
       |none=>none)
      |none=>none)
     |none=>(match callee E' c with
      |some (f,vs)=>(match C.st f vs with
       |some ca=>(match ca.m hp with|some (x,h')=>some (.val (ca.pk x),h')|none=>none)
       |none=>none)
      |none=>none)):=by
    grind
   have h2:∀b n cs,p8 P b E c n cs=p8 P b E' c n cs:=by
    intro b n cs;unfold p8;split
    .rename_i t t' s u e1 e2;rw[hv s (by simp only[Op.operands,Call.operands,agv];exact .inr (Array.mem_toList_iff.1 (by rw[e2];simp)))]
    .rfl
   simp only[h4,h2]
  case buildSlice t l ps=>
   rw[ha];have:xD P ops E o=xD P ops E' o:=by
    unfold xD;rw[hop] at hv⊢;have hp:=vh (xs:=ps.toList) λx hx=>hv x (by simpa[Op.operands] using hx);cases o.dst
    .rfl
    .simp only[hp]
   rw[this]
  all_goals rw[ha]
 rw[he]
end Congr
section Classes
variable {E E':Env}{L L':fU}{ops:Array Oper}{o:Oper}{C:nX}
def Pm {α:Type}(m:M α):Prop:=∀h x h',m h=some (x,h')->h'=h/\∀h2,m h2=some (x,h2)
def Pa (A:Act):Prop:=∀h x h',A.exec h=some (x,h')->h'=h/\∀h2,A.exec h2=some (x,h2)
def Rm (a:θ){α:Type}(m:M α):Prop:=∀h x h',m h=some (x,h')->h'=h /\
 ((∀h2,m h2=some (x,h2))\/∃b,a=some b/\h.get b.block≠none/\∀h2,h2.get b.block=h.get b.block->m h2=some (x,h2))
def Ra (a:θ)(A:Act):Prop:=∀h x h',A.exec h=some (x,h')->h'=h /\
 ((∀h2,A.exec h2=some (x,h2))\/∃b,a=some b/\h.get b.block≠none/\∀h2,h2.get b.block=h.get b.block->A.exec h2=some (x,h2))
theorem Pa.val {v:ξ}:Pa (.val v):=λh x h' e=>by cases e;exact⟨rfl,λ_=>rfl⟩
theorem Pa.none:Pa .none:=λh x h' e=>by cases e
theorem Pa.ask {α:Type}{m:M α}{k:α->Act}(hm:Pm m)(hk:∀x,Pa (k x)):Pa (.ask α m k):=λh x h' e=>by
 simp only[Act.exec] at e;split at e
 .rename_i y h1 he;obtain⟨rfl,h2⟩:=hm _ _ _ he;obtain⟨rfl,h3⟩:=hk _ _ _ _ e;exact⟨rfl,λh2'=>by simp only[Act.exec,h2 h2'];exact h3 h2'⟩
 .cases e
theorem Ra.of {a:θ}{A:Act}(h:Pa A):Ra a A:=λh0 x h' e=>⟨(h _ _ _ e).1,.inl (h _ _ _ e).2⟩
theorem Ra.ask {a:θ}{α:Type}{m:M α}{k:α->Act}(hm:Rm a m)(hk:∀x,Ra a (k x)):Ra a (.ask α m k):=λh x h' e=>by
 simp only[Act.exec] at e;split at e
 .rename_i y h1 he;obtain⟨rfl,h2⟩:=hm _ _ _ he;obtain⟨rfl,h3⟩:=hk _ _ _ _ e;refine⟨rfl,?_⟩
  grind [Act.exec]
 .cases e
theorem Pm.oq (b:Bool):Pm (oq b):=λh x h' e=>by
 cases b<;>simp only[Ago.oq] at e
 .cases e
 .cases e;exact⟨rfl,λ_=>rfl⟩
theorem Pm.nn (p:θ):Pm (nn p):=λh x h' e=>by
 cases p<;>simp only[Ago.nn] at e
 .cases e
 .cases e;exact⟨rfl,λ_=>rfl⟩
theorem Pm.XW (a b:θ):Pm (XW a b):=λh x h' e=>by
 obtain⟨rfl,rfl,x,y,rfl,rfl,he⟩:=Lh e;exact⟨rfl,λh2=>by unfold Ago.XW;simp only[he]⟩
theorem Pm.Dh (p:θ)(n:Nat):Pm (Dh p n):=λh x h' e=>by
 unfold Ago.Dh at e⊢
 grind
theorem Pm.nnF (x:ξ):Pm (nnF x):=λh y h' e=>by
 unfold Ago.nnF at e;split at e
 .cases e;exact⟨rfl,λ_=>rfl⟩
 .cases e
theorem Pm.kM (v:ξ):Pm (kM v):=λh x h' e=>by
 unfold Ago.kM at e;split at e
 .cases e;exact⟨rfl,λ_=>rfl⟩
 .cases e;exact⟨rfl,λ_=>rfl⟩
 .cases e
theorem Pm.kA (x y:ζ):Pm (kA x y):=λh z h' e=>by
 unfold Ago.kA at e⊢;grind
theorem Pm.jx (s:ζ)(i:Int):Pm (jx s i):=λh z h' e=>by
 unfold Ago.jx at e⊢;split at e
 .grind
 .cases e
theorem Pm.Ia (l:eN)(n:Nat)(cs:δ)(i:Int):Pm (Ia l n cs i):=λh z h' e=>by
 unfold Ago.Ia at e⊢;split at e
 .rename_i hb;split at e
  .rename_i hc;split at e
   .grind
   .cases e
  .cases e
 .cases e
theorem Pm.aw (s:Sl)(i:Int)(z:Nat):Pm (aw s i z):=λh x h' e=>by
 unfold Ago.aw at e⊢;split at e
 .grind
 .cases e
theorem Pm.je (s:ζ)(l u:Int):Pm (je s l u):=λh z h' e=>by
 unfold Ago.je at e⊢;grind
theorem Pm.nB (a:Addr)(n:Nat)(l u:Int)(z:Nat):Pm (nB a n l u z):=λh x h' e=>by
 unfold Ago.nB at e⊢;grind
theorem Pm.GQ (o:μ):Pm (GQ o):=λh z h' e=>by
 unfold Ago.GQ at e⊢;split at e
 .cases e;exact⟨rfl,λ_=>rfl⟩
 .cases e
theorem Nz (op:BinOp)(a b:Nat):Pa (KV op a b):=by
 unfold KV
 grind [Pa.val,Pa.none,Pa.ask,Pm.GQ,aeU,aeV,KU,aeW]
theorem NA (op:BinOp)(k:IntKind)(a:Int)(k':IntKind)(b:Int):Pa (KQ op k a k' b):=by
 unfold KQ
 grind [Pa.val,Pa.none,Pa.ask,Pm.oq]
theorem NB (op:BinOp)(a b:ζ):Pa (KS op a b):=by
 unfold KS
 grind [Pa.val,Pa.none,Pa.ask,Pm.kA]
theorem Fx (op:BinOp)(b:Bool):Pa (xC op b):=by
 unfold xC;split<;>first|exact Pa.val|exact Pa.none
theorem RE (op:BinOp)(t:κ)(x y:ξ):Pa (Ua P op t x y):=by
 unfold Ua;split
 .unfold Ec
  grind [Pa.val,Pa.none,Pa.ask,Pm.kM]
 .unfold T9
  grind [NA,NB,Nz,Pa.val,Pa.none,Fx]
theorem Uy (op:UnOp)(x:ξ):Pa (aun op x):=by
 unfold aun
 repeat' (first|exact Pa.val|exact Pa.none|split)
theorem ND {v:ξ}{k:Addr->Act}(h:∀a,Pa (k a)):Pa (yi v k):=by
 unfold yi;split
 .exact h _
 .exact Pa.none
theorem Rm.ar (l:eN)(a b:Addr)(hb:a.block=b.block):Rm (some b) (ar l a):=λh x h' e=>by
 unfold Ago.ar at e⊢;split at e
 .rename_i v hv;split at e
  .rename_i y hy;cases e;refine⟨rfl,.inr ⟨b,rfl,?_,λh2 e2=>?_⟩⟩
   .grind [af.cell]
   grind [af.cell]
  .cases e
 .cases e
theorem Rm.aN (ls:List eN)(a:Addr):Rm (some a) (aN ls a):=λh x h' e=>by
 unfold Ago.aN at e⊢;split at e
 .rename_i vs hv;split at e
  .rename_i y hy;cases e;refine⟨rfl,.inr ⟨a,rfl,?_,λh2 e2=>?_⟩⟩
   .intro hn;simp[aU,hn] at hv
   grind [aU]
  .cases e
 .cases e
theorem LP (a:Addr):∀(ls:List eN) (i:Nat) (acc:δ),Ra (some a) (Aa a ls i acc)
 |[],i,acc=>Ra.of Pa.val
 |l::ls,i,acc=>Ra.ask (Rm.ar l _ a rfl) λx=>LP a ls _ _
theorem acf (t:κ)(a:Addr):Ra (some a) (GJ P t a):=by
 unfold GJ
 repeat' (first|exact Ra.of Pa.none|exact LP _ _ _ _|exact Ra.ask (Rm.ar _ _ _ rfl) λ_=>Ra.of Pa.val|exact Ra.ask (Rm.aN _ _) λ_=>Ra.of Pa.val|split)
theorem Rm.lu (s:Sl)(lo hi:Int)(e:κ)(z:Nat):Rm s.a (lu s lo hi e z):=λh x h' he=>by
 unfold Ago.lu at he⊢;split at he
 .rename_i hc;cases he;refine⟨rfl,?_⟩;obtain⟨h1,h2,h3,h4⟩:=hc;unfold oU at h4;split at h4
  .rename_i ha;refine .inl λh2'=>?_;rw[AT]
   grind [oU]
  .rename_i a ha;refine .inr ⟨a,ha,?_,λh2' e2=>?_⟩
   .intro hn;rw[hn] at h4;cases h4
   .rw[AT]
    grind [oU]
 .cases he
theorem Rm.ve (s:Sl)(lo hi m:Int)(e:κ)(z:Nat):Rm s.a (ve s lo hi m e z):=λh x h' he=>by
 unfold Ago.ve at he⊢;split at he
 .rename_i hc;cases he;refine⟨rfl,?_⟩;obtain⟨h1,h2,h3,h0,h5,h4⟩:=hc;unfold oU at h4;split at h4
  .grind
  .rename_i a ha;refine .inr ⟨a,ha,?_,λh2' e2=>?_⟩
   .intro hn;rw[hn] at h4;cases h4
   .rw[AT]
    grind [oU]
 .cases he
theorem Rm.strOf (s:Sl):Rm s.a (strOf s):=λh x h' he=>by
 unfold Ago.strOf at he⊢;split at he
 .rename_i cs hc;split at he
  .rename_i l hl;cases he;refine⟨rfl,?_⟩;unfold aU at hc;split at hc
   .rename_i ha;refine .inl λh2=>?_;have:aU h2 s.a s.len=some cs:=(by unfold aU;simp only[ha];exact hc);simp only[this,hl]
   .rename_i a ha;refine .inr ⟨a,ha,?_,λh2 e2=>?_⟩
    .intro hn;rw[hn] at hc;cases hc
    .have:aU h2 s.a s.len=some cs:=(by unfold aU;simp only[ha,e2];exact hc);simp only[this,hl]
  .cases he
 .cases he
theorem PZ {nm:μ}(hc:cls P ops o=.sil)(hn:∀t l ps,o.op≠.buildSlice t l ps):Pa (wJ P nm E o):=by
 unfold cls at hc;unfold wJ;cases hop:o.op<;>simp only[hop] at hc hn⊢<;>try (first|cases hc|done)
 case binOp=>repeat' (first|exact RE _ _ _ _|exact Pa.none|exact Pa.ask (Pm.XW _ _) λ_=>Fx _ _|split)
 case unOp=>grind [Uy,Pa.none]
 case nilCheck=>grind [Pa.ask,Pm.nn,Pa.val,Pm.nnF,Pa.none]
 case fieldAddr=>repeat' (first|exact ND λ_=>Pa.val|exact Pa.none|split)
 case indexAddr=>grind [Pa.ask,Pm.aw,Pa.val,Pm.oq,Pa.none]
 case index=>grind [Pa.ask,Pm.jx,Pa.val,Pm.Ia,Pa.none]
 case build=>
  split
  .grind [Ie,Pa.val,Pa.none]
  .exact Pa.none
 case slice t x lo hi mx=>
  split
  .unfold E6
   grind [Pa.ask,Pm.je,Pa.val,Pa.none,Pm.nB]
  .exact Pa.none
 case convert s d x=>
  split
  .unfold KW
   grind [Pa.val,Pa.none]
  .exact Pa.none
 case buildSlice t l ps=>exact absurd rfl (hn t l ps)
 case call c=>
  split
  .rename_i b vs hb _;rw[hb] at hc;unfold p7;split<;>first|exact Pa.none|(simp only at hc;cases hc;done)|(simp only at hc;exact (At hc).elim)|skip
   all_goals grind [Pa.val,Pa.none,Pa.ask,Pm.Dh]
  .exact Pa.none
 all_goals repeat' (first|exact Pa.val|exact Pa.none|split)
theorem pV {m:Option (ξ×af)}{r:Cg}{h':af}(e:kY m=some (r,h')):∃v,m=some (v,h')/\r=.val v:=by
 unfold kY at e;grind
theorem zl {b:Bool}{c:Call}{A:Act}{r:Cg×af}(e:kY ((xK b E c A).exec h)=some r):kY (A.exec h)=some r:=by rw[Ch e] at e;exact e
theorem NF {nm:Nat}{d:Nat}(hd:o.dst=some d)(hu:Nk ops d=true){t:κ}{l:Nat}{ps:Array (Nat×Operand)}(hop:o.op=.buildSlice t l ps)(hl:xD P ops E o=none) :
  (wJ P (some nm) E o).exec h=none:=by
 unfold xD at hl;unfold wJ;simp only[hop,hd,hu] at hl⊢;split at hl
 .rename_i vs hv
  try simp only[hv]
  split at hl
  .cases hl
  .rename_i hc;unfold Bf at hc;unfold sI;split at hc
   .grind [Act.exec,aM]
   .rfl
 .rename_i hv
  try simp only[hv]
  rfl
theorem wT {nm:Nat}(hc:cls P ops o=.sil){r:Cg}(hx:act P C nm ops E L o h=some (r,h')):h'=h/\∀h2,act P C nm ops E L o h2=some (r,h2):=by
 unfold act at hx⊢;split at hx
 .have gen:∀A:Act,Pa A->kY (A.exec h)=some (r,h')->h'=h/\∀h2,kY (A.exec h2)=some (r,h2):=by
   intro A hA e;obtain⟨v,e1,rfl⟩:=pV e;obtain⟨e2,e3⟩:=hA _ _ _ e1;exact⟨e2,λh2=>by rw[e3 h2];rfl⟩
  unfold ex at hx⊢;cases hop:o.op<;>simp only[hop] at hx⊢
  case pick c a b=>
   grind
  case call c=>
   have hl:uw L c=none:=by
    grind [uw,cls,At]
   have hcp:Bg ops o=false:=by
    unfold cls at hc;unfold Bg;simp only[hop] at hc⊢;split
    .rename_i h1 _;simp only[h1] at hc;exact (At hc).elim
    .rfl
   split at hx
   .rename_i hb;cases hlx:yj ops o<;>simp only[hl,hlx,hcp,xK] at hx⊢
    .exact gen _ (PZ hc (by simp[hop])) hx
    .cases hx
   .rename_i hb;unfold isBuiltin at hb;unfold cls at hc;simp only[hop] at hc
    grind
  case buildSlice t l ps=>
   unfold cls at hc;simp only[hop] at hc;split at hc
   .rename_i d hd;split at hc
    .rename_i hu;split at hx
     .grind
     .rename_i hl;rw[NF hd hu hop hl] at hx;cases hx
    .cases hc
   .cases hc
  all_goals exact gen _ (PZ hc (by simp[hop])) hx
 .cases hx;exact⟨rfl,λ_=>rfl⟩
 .cases hx
def rdL:ξ->θ
 |.pointer p=>p
 |_=>none
def ae3:ξ->θ
 |.slice a _ _=>a
 |_=>none
theorem IB {nm:Nat}(hc:cls P ops o=.ro){r:Cg}(hx:act P C nm ops E L o h=some (r,h')):h'=h /\
  ((∀h2,act P C nm ops E L o h2=some (r,h2))\/(want ops E o=some true/\∃b,lA E o=some b/\h.get b.block≠none/\∀h2,h2.get b.block=h.get b.block->act P C nm ops E L o h2=some (r,h2))):=by
 unfold act at hx⊢;split at hx
 .rename_i hw;simp only[hw,ag8];have gen:∀A:Act,Ra (lA E o) A->kY (A.exec h)=some (r,h')->h'=h/\((∀h2,kY (A.exec h2)=some (r,h2)) \/
    ∃b,lA E o=some b/\h.get b.block≠none/\∀h2,h2.get b.block=h.get b.block->kY (A.exec h2)=some (r,h2)):=by
   intro A hA e;obtain⟨v,e1,rfl⟩:=pV e;obtain⟨e2,e3⟩:=hA _ _ _ e1;refine⟨e2,?_⟩;rcases e3 with e3|⟨b,h1,h2,e3⟩
   .exact .inl λh2=>by rw[e3 h2];rfl
   .exact .inr ⟨b,h1,h2,λh2 q=>by rw[e3 h2 q];rfl⟩
  unfold ex at hx⊢;cases hop:o.op<;>simp only[hop] at hx⊢<;>try (unfold cls at hc;simp only[hop] at hc;contradiction)
  case load t x=>
   refine gen _ ?_ hx;unfold wJ;simp only[hop];cases hv:E.ev x with
   |none=>exact Ra.of Pa.none
   |some v=>
    have hr:lA E o=rdL v:=(by simp only[lA,hop,hv];cases v<;>rfl);rw[hr];cases v<;>simp only[yi]<;>try exact Ra.of Pa.none
    rename_i p;cases p
    .exact Ra.of Pa.none
    .exact acf _ _
  case slice t x lo hi mx=>
   refine gen _ ?_ hx;unfold wJ;unfold cls at hc;simp only[hop] at hc⊢;cases hv:E.ev x with
   |none=>exact Ra.of Pa.none
   |some v=>
    have hr:lA E o=ae3 v:=(by simp only[lA,hop,hv];cases v<;>rfl);rw[hr];split
    .rename_i v l u m he _ _ _;cases he;unfold E6;split
     .rename_i hu _;simp[hu] at hc
     .repeat' (first|exact Ra.ask (Rm.lu ⟨_,_,_⟩ _ _ _ _) λ_=>Ra.of Pa.val|exact Ra.of Pa.none|split)
     .rename_i hu _;simp[hu] at hc
     .repeat' (first|exact Ra.ask (Rm.ve ⟨_,_,_⟩ _ _ _ _ _) λ_=>Ra.of Pa.val|exact Ra.of Pa.none|split)
     .exact Ra.of Pa.none
    .exact Ra.of Pa.none
  case convert s d x=>
   refine gen _ ?_ hx;unfold wJ;unfold cls at hc;simp only[hop] at hc⊢;cases hv:E.ev x with
   |none=>exact Ra.of Pa.none
   |some v=>
    have hr:lA E o=ae3 v:=(by simp only[lA,hop,hv];cases v<;>rfl);rw[hr];simp only;unfold KW;split
    .rename_i h1 h2;simp[h1,h2] at hc
    .rename_i h1 h2;simp[h1,h2] at hc
    .exact Ra.of Pa.val
    .exact Ra.of Pa.val
    .exact Ra.of Pa.val
    .exact Ra.of Pa.val
    .rename_i h1 h2;simp[h1,h2] at hc
    .repeat' (first|exact Ra.ask (Rm.strOf ⟨_,_,_⟩) λ_=>Ra.of Pa.val|exact Ra.of Pa.none|split)
    .exact Ra.of Pa.none
  case buildSlice t l ps=>
   unfold cls at hc;simp only[hop] at hc
   grind
  case call c=>
   unfold cls at hc;simp only[hop] at hc
   grind [uj,pH,ov,rJ]
 .grind
 .cases hx
def Na (nm:Nat)(A:Act):Prop:=∀h x h',A.exec h=some (x,h')->∃t cs,h.used nm=false/\nm<h.next/\h.get nm=none/\h'=h.dA nm h.next t cs /\
 ∀h2:af,h2.used nm=false->nm<h2.next->h2.get nm=none->A.exec h2=some (x,h2.dA nm h2.next t cs)
theorem Na.none {nm:Nat}:Na nm .none:=λh x h' e=>by cases e
theorem Na.new {nm:Nat}{t:κ}{cs:δ}{k:Nat->ξ}:Na nm (.ask Nat (aM (some nm) t cs) λb=>.val (k b)):=λh x h' e=>by
 simp only[Act.exec,aM] at e⊢;by_cases hs:cs.all eZ=true
 .simp only[hs,agN] at e⊢;split at e
  .rename_i y h1 he;split at he
   .rename_i hk;cases he;cases e;refine⟨t,cs,hk.1,hk.2.1,Option.isNone_iff_eq_none.1 hk.2.2,rfl,λh2 a b c=>?_⟩;simp[a,b,c]
   .cases he
  .cases e
 .simp[hs] at e
theorem Na.vS {nm:Nat}{t:κ}{z:δ}{l c:Int}{k:Sl->ξ}:Na nm (.ask Sl (vS (some nm) t z l c) λr=>.val (k r)):=λh x h' e=>by
 simp only[Act.exec,Ago.vS] at e⊢;by_cases hb:0<=l/\l<=c/\c<=cF
 .simp only[hb,and_self,agN] at e⊢;split at e
  .rename_i y h1 he;split at he
   .rename_i b h2 hnb;cases he;cases e;have e0:(Act.ask Nat (aM (some nm) t (List.replicate c.toNat z).flatten) λb=>.val (.int .i64 b)).exec h=some (.int .i64 b,h'):=(by simp only[Act.exec,hnb]);obtain⟨t',cs',a1,a2,a3,a4,a5⟩:=(Na.new (nm:=nm) (k:=λb=>.int .i64 b)) h _ _ e0;refine⟨t',cs',a1,a2,a3,a4,λh2 b1 b2 b3=>?_⟩;have:=a5 h2 b1 b2 b3;simp only[Act.exec] at this
    grind
   .cases he
  .cases e
 .simp[hb] at e
def Mm (A:Act):Prop:=∀h x h',A.exec h=some (x,h')->h'=h/\∀h2:af,h2.jy=h.jy->A.exec h2=some (x,h2)
theorem Mm.of {A:Act}(hA:Pa A):Mm A:=λh x h' e=>⟨(hA h x h' e).1,λh2 _=>(hA h x h' e).2 h2⟩
theorem Mm.get {kt:κ}{T:Ty}{z:T.den}{m:μ}{k:ξ}{g:Bool×T.den->ξ}:Mm (.ask (Bool×T.den) (xA kt T z m k) λr=>.val (g r)):=λh x h' e=>by
 simp only[Act.exec] at e⊢;split at e
 .rename_i y h1 he;cases e;have key:h'=h/\∀h2:af,h2.jy=h.jy->xA kt T z m k h2=some (y,h2):=by
   unfold xA at he⊢;split at he
   .cases he;exact⟨rfl,λ_ _=>rfl⟩
   .split at he
    .rename_i hm;split at he
     .rename_i hv;split at he
      .rename_i hu;cases he;refine⟨rfl,λh2 e2=>?_⟩
       grind [af.zZ]
      .cases he
     .rename_i hv;cases he;refine⟨rfl,λh2 e2=>?_⟩
      grind [af.zZ]
    .cases he
  exact⟨key.1,λh2 e2=>by simp only[key.2 h2 e2]⟩
 .cases e
theorem Mm.len {m:μ}{g:Nat->ξ}:Mm (.ask Nat (Dg m) λr=>.val (g r)):=λh x h' e=>by
 simp only[Act.exec] at e⊢;split at e
 .rename_i y h1 he;cases e;have key:h'=h/\∀h2:af,h2.jy=h.jy->Dg m h2=some (y,h2):=by
   unfold Dg at he⊢
   grind
  exact⟨key.1,λh2 e2=>by simp only[key.2 h2 e2]⟩
 .cases e
theorem Bo {nm:Nat}(hc:cls P ops o=.mro){r:Cg}(hx:act P C nm ops E L o h=some (r,h')):h'=h/\∀h2:af,h2.jy=h.jy->act P C nm ops E L o h2=some (r,h2):=by
 unfold act at hx⊢;split at hx
 .have gen:∀A:Act,Mm A->kY (A.exec h)=some (r,h')->h'=h/\∀h2:af,h2.jy=h.jy->kY (A.exec h2)=some (r,h2):=by
   intro A hA e;obtain⟨v,e1,rfl⟩:=pV e;obtain⟨e2,e3⟩:=hA _ _ _ e1;exact⟨e2,λh2 q=>by rw[e3 h2 q];rfl⟩
  unfold ex at hx⊢;cases hop:o.op<;>simp only[hop] at hx⊢<;>try (unfold cls at hc;simp only[hop] at hc;contradiction)
  case lookup t x i ok=>
   refine gen _ ?_ hx;unfold wJ;simp only[hop]
   repeat' (first|exact Mm.of Pa.none|exact Mm.get|split)
  case buildSlice t l ps=>
   unfold cls at hc
   grind
  case call c=>
   have hcal:c.callee=.builtin .len:=by
    unfold cls at hc;simp only[hop] at hc
    grind [pH]
   have hb:isBuiltin c=true:=by unfold isBuiltin;rw[hcal]
   have hl:uw L c=none:=by unfold uw;rw[hcal]
   have hlx:yj ops o=false:=by unfold yj;simp only[hop,hcal]
   have hcp:Bg ops o=false:=by unfold Bg;simp only[hop,hcal]
   simp only[hb,hl,hlx,hcp,xK] at hx⊢;refine gen _ ?_ hx;have hty:∃t r k e,c.argTypes.toList=t::r/\P.underlying t=some (.map k e):=by
    grind [cls]
   obtain⟨t,tr,k,e,ht,hu⟩:=hty;unfold wJ;simp only[hop,hcal,ht];split
   .rename_i b vs hb2 _;cases hb2;unfold p7;split<;>first|exact Mm.of Pa.none|(simp_all;done)|skip
    all_goals repeat' (first|exact Mm.of Pa.none|exact Mm.of Pa.val|exact Mm.len|split)
   .exact Mm.of Pa.none
  all_goals
   grind [cls,uj,pH,ov,rJ]
 .cases hx;exact⟨rfl,λ_ _=>rfl⟩
 .cases hx
theorem rK {nm:Nat}(hc:cls P ops o=.alloc){r:Cg}(hx:act P C nm ops E L o h=some (r,h')):(h'=h/\∀h2,act P C nm ops E L o h2=some (r,h2)) \/
  ∃t cs,h.used nm=false/\nm<h.next/\h.get nm=none/\h'=h.dA nm h.next t cs /\
   ∀h2:af,h2.used nm=false->nm<h2.next->h2.get nm=none->act P C nm ops E L o h2=some (r,h2.dA nm h2.next t cs):=by
 unfold act at hx⊢;split at hx
 .refine .inr ?_;have gen:∀A:Act,Na nm A->kY (A.exec h)=some (r,h')->∃t cs,h.used nm=false/\nm<h.next/\h.get nm=none/\h'=h.dA nm h.next t cs /\
    ∀h2:af,h2.used nm=false->nm<h2.next->h2.get nm=none->kY (A.exec h2)=some (r,h2.dA nm h2.next t cs):=by
   intro A hA e;obtain⟨v,e1,rfl⟩:=pV e;obtain⟨t,cs,a,b,c,d,e2⟩:=hA _ _ _ e1;exact⟨t,cs,a,b,c,d,λh2 a b c=>by rw[e2 h2 a b c];rfl⟩
  unfold ex at hx⊢;cases hop:o.op<;>simp only[hop] at hx⊢<;>try (unfold cls at hc;simp only[hop] at hc;contradiction)
  case alloc t=>
   refine gen _ ?_ hx;unfold wJ;simp only[hop];split
   .exact Na.new
   .exact Na.none
  case box t x=>
   refine gen _ ?_ hx;unfold wJ;simp only[hop];split
   .exact Na.new
   .exact Na.none
  case makeSlice t l c=>
   refine gen _ ?_ hx;unfold wJ;simp only[hop]
   repeat' (first|exact Na.none|exact Na.vS|split)
  case buildSlice t l ps=>
   have hl:xD P ops E o=none:=by
    unfold cls at hc;unfold xD;simp only[hop] at hc⊢
    grind
   simp only[hl] at hx⊢;refine gen _ ?_ hx;unfold wJ;simp only[hop];split
   .unfold sI
    repeat' (first|exact Na.none|exact Na.new|split)
   .exact Na.none
  case call c=>
   unfold cls at hc;simp only[hop] at hc
   repeat' (first|(cases hc;done)|(exact (uj hc).elim)|(exact (pH hc).elim)|(exact (ov hc).elim)|(exact (rJ hc).elim)|split at hc)
  all_goals
   unfold cls at hc;simp only[hop] at hc
   grind
 .cases hx;exact .inl ⟨rfl,λ_=>rfl⟩
 .cases hx
def Ka (A:Act):Prop:=∀h x h',A.exec h=some (x,h')->∀b,h.get b≠none->h'.get b=h.get b
theorem Ka.pure {A:Act}(hA:Pa A):Ka A:=λh x h' e b _=>by rw[(hA h x h' e).1]
theorem RF {s:Sl}{sz:Nat}{e:κ}{n:Nat}{new:δ}{r:Sl}(hx:app true s sz e n new h=some (r,h')):∀b,h.get b≠none->h'.get b=h.get b:=by
 intro b hb;unfold app at hx;split at hx
 .cases hx
 rename_i hn;have hnx:h.get h.next=none:=by simpa using hn
 have hne:Nat.beq b h.next=false:=by
  cases hq:Nat.beq b h.next
  .rfl
  .rw[aab hq] at hb;exact absurd hnx hb
 have new:∀e cs,(h.new e cs).get b=h.get b:=λe cs=>by simp[af.new,af.dA,hne]
 grind [s9]
theorem Ka.wU {s:Sl}{sz:Nat}{e:κ}{n:Nat}{new:δ}{k:Sl->ξ}:Ka (.ask Sl (app true s sz e n new) λr=>.val (k r)):=λh x h' he=>by
 grind [Act.exec,RF]
theorem Ka.ask {α:Type}{m:M α}{k:α->Act}(hm:∀h x h',m h=some (x,h')->h'=h)(hk:∀x,Ka (k x)):Ka (.ask α m k):=λh x h' he=>by
 simp only[Act.exec] at he;split at he
 .rename_i y h1 hm1;rw[hm _ _ _ hm1] at he;exact hk _ _ _ _ he
 .cases he
theorem Yp {nm:Nat}(hc:cls P ops o=.add){r:Cg}(hx:act P C nm ops E L o h=some (r,h')):∀b,h.get b≠none->h'.get b=h.get b:=by
 unfold act at hx;split at hx
 .have gen:∀A:Act,Ka A->kY (A.exec h)=some (r,h')->∀b,h.get b≠none->h'.get b=h.get b:=by
   intro A hA e;obtain⟨v,e1,rfl⟩:=pV e;exact hA _ _ _ e1
  unfold ex at hx;cases hop:o.op<;>simp only[hop] at hx<;>try (unfold cls at hc;simp only[hop] at hc;contradiction)
  case call c=>
   have hcal:c.callee=.builtin .append:=by
    unfold cls at hc;simp only[hop] at hc
    grind
   have hlx:yj ops o=false:=by
    grind [cls,Fu]
   simp only[hlx,Bool.not_false] at hx;split at hx
   .split at hx
    .refine gen _ ?_ (zl hx);unfold p8
     repeat' (first|exact Ka.wU|exact Ka.pure Pa.none|split)
    .refine gen _ ?_ (zl hx);unfold wJ;simp only[hop,hcal];split
     .rename_i b vs hb _;cases hb;unfold p7;split
      .contradiction
      .contradiction
      .contradiction
      .contradiction
      .contradiction
      .contradiction
      .contradiction
      .have hrd:∀(s:Sl) (z:Nat) h x h',GP s z h=some (x,h')->h'=h:=by
        grind [GP]
       repeat' (first|exact Ka.ask (hrd _ _) λ_=>Ka.wU|exact Ka.pure Pa.none|split)
      .repeat' (first|exact Ka.wU|exact Ka.pure Pa.none|split)
      .contradiction
      .contradiction
      .exact Ka.pure Pa.none
     .exact Ka.pure Pa.none
   .rename_i hb;simp[isBuiltin,hcal] at hb
  all_goals
   grind [cls,uj,pH,ov,rJ]
 .cases hx;exact λ_ _=>rfl
 .cases hx
def Sm (h h2:af):Prop:=h2.next=h.next/\h2.get h2.next=none/\∀b,h.get b≠none->h2.get b=h.get b
def Kb (A:Act):Prop:=∀h x h',A.exec h=some (x,h')->h.get h.next=none/\((h'=h/\∀h2,Sm h h2->A.exec h2=some (x,h2))\/∃e cs,h'=h.new e cs/\∀h2,Sm h h2->A.exec h2=some (x,h2.new e cs))
theorem Kb.none:Kb .none:=λh x h' e=>by cases e
theorem Fy {h2:af}(S:Sm h h2){a:θ}{n:Nat}{l:δ}(e:aU h a n=some l):aU h2 a n=some l:=by
 unfold aU at *
 cases a with
 |none=>exact e
 |some a=>
  simp only at e⊢;rw[S.2.2 a.block (λq=>by rw[q] at e;cases e)];exact e
theorem acg {s:Sl}{sz:Nat}{e:κ}{n:Nat}{new:δ}(hc:s.cap≠0){r:Sl}{h1:af}(he:app true s sz e n new h=some (r,h1)) :
  h.get h.next=none/\((h1=h/\∀h2,Sm h h2->app true s sz e n new h2=some (r,h2))\/∃e' cs,h1=h.new e' cs/\∀h2,Sm h h2->app true s sz e n new h2=some (r,h2.new e' cs)):=by
 have hn:h.get h.next=none:=by
  unfold app at he;split at he
  .cases he
  .rename_i q;simpa using q
 refine⟨hn,?_⟩;unfold app s9 at he⊢;rw[hn] at he;have g2:∀{h2:af},Sm h h2->(true&&(h2.get h2.next).isSome)=false:=λS=>by rw[S.2.1];rfl
 simp only[ahZ,air] at he;by_cases h0:n=0
 .rw[AT h0] at he;refine .inl ?_;cases ha:s.a with
  |none=>rw[ha] at he;simp only at he;rw[By (λq=>hc q.2.1)] at he;cases he
  |some a=>
   rw[ha] at he;simp only at he;split at he
   .rename_i q;cases he;exact⟨rfl,λh2 S=>by simp only[g2 S];rw[AT h0,AT q]⟩
   .cases he
 .rw[By h0] at he;split at he
  .cases he
  rename_i q;refine .inr ?_;cases ha:s.a with
  |none=>rw[ha] at he;simp only at he;rw[By (λq=>hc q.2)] at he;cases he
  |some a=>
   rw[ha] at he;simp only at he;split at he
   .rename_i nY c g base e' h1' h2';split at he
    .split at he
     .rename_i q2;simp at q2
     .cases he
    .rename_i q2;cases he;refine⟨e,nY++new,rfl,λh2 S=>?_⟩;have c2:=Fy S h1';have b2:=S.2.2 a.block (by rw[h2'];simp);simp only[g2 S];rw[By h0,By q];simp only[c2,b2,h2'];rw[By q2,AT hc,S.1]
   .cases he
theorem Kb.apd {s:Sl}{sz:Nat}{e:κ}{n:Nat}{new:δ}{k:Sl->ξ}(hc:s.cap≠0):Kb (.ask Sl (app true s sz e n new) λr=>.val (k r)):=λh x h' hx=>by
 simp only[Act.exec] at hx⊢;split at hx
 .rename_i y h1 he;cases hx;obtain⟨hn,⟨q1,q2⟩|⟨e',cs,q1,q2⟩⟩:=acg hc he
  .exact⟨hn,.inl ⟨q1,λh2 S=>by rw[q2 h2 S]⟩⟩
  .exact⟨hn,.inr ⟨e',cs,q1,λh2 S=>by rw[q2 h2 S]⟩⟩
 .cases hx
theorem Kb.rds {s:Sl}{sz:Nat}{k:δ->Act}(hk:∀l,Kb (k l)):Kb (.ask δ (GP s sz) k):=λh x h' hx=>by
 simp only[Act.exec] at hx⊢;split at hx
 .rename_i y h1 he;unfold Go.Ago.GP at he;split at he
  .rename_i cs hcs;cases he;obtain⟨hn,⟨q1,q2⟩|⟨e',cs',q1,q2⟩⟩:=hk _ _ _ _ hx
   .exact⟨hn,.inl ⟨q1,λh2 S=>by simp only[Go.Ago.GP,Fy S hcs];exact q2 h2 S⟩⟩
   .exact⟨hn,.inr ⟨e',cs',q1,λh2 S=>by simp only[Go.Ago.GP,Fy S hcs];exact q2 h2 S⟩⟩
  .cases he
 .cases hx
theorem Yq {nm:Nat}(hcap:Bg ops o=true)(hca:cls P ops o=.add){r:Cg}(hx:act P C nm ops E L o h=some (r,h')):(h'=h/\∀h2,act P C nm ops E L o h2=some (r,h2)) \/
  (h.get h.next=none/\((h'=h/\∀h2,Sm h h2->act P C nm ops E L o h2=some (r,h2))\/∃e cs,h'=h.new e cs/\∀h2,Sm h h2->act P C nm ops E L o h2=some (r,h2.new e cs))):=by
 unfold act at hx⊢;split at hx
 .refine .inr ?_;unfold ex at hx⊢;rw[hcap] at hx⊢;unfold Bg at hcap;cases hop:o.op<;>simp only[hop] at hx hcap⊢<;>try (cases hcap;done)
  case call c=>
   split at hcap
   .rename_i d ds hcal harg;have hb:isBuiltin c=true:=(by unfold isBuiltin;rw[hcal]);have hlx:yj ops o=false:=by
     cases q:yj ops o with
     |false=>rfl
     |true=>unfold cls at hca;simp only[hop,hcal,q] at hca;cases hca
    simp only[hb,hlx] at hx⊢;have gen:∀A:Act,Kb A->kY (A.exec h)=some (r,h')->h.get h.next=none/\((h'=h/\∀h2,Sm h h2->kY (A.exec h2)=some (r,h2))\/∃e cs,h'=h.new e cs/\∀h2,Sm h h2->kY (A.exec h2)=some (r,h2.new e cs)):=by
     intro A hA e;obtain⟨v,e1,rfl⟩:=pV e;obtain⟨hn,⟨q1,q2⟩|⟨e',cs,q1,q2⟩⟩:=hA _ _ _ e1
     .exact⟨hn,.inl ⟨q1,λh2 S=>by rw[q2 h2 S];rfl⟩⟩
     .exact⟨hn,.inr ⟨e',cs,q1,λh2 S=>by rw[q2 h2 S];rfl⟩⟩
    have cap:∀A:Act,(∀a n k,E.ev (.tmp d)=some (.slice a n k)->k≠0->Kb A)->Kb (xK true E c A):=λA hA=>by
     unfold xK;simp only[harg];split
     .rename_i a n k hev;split
      .exact Kb.none
      .rename_i hk;exact hA a n k hev λq=>by rw[q] at hk;cases hk
     .exact Kb.none
    split at hx
    .rename_i n cs hl;refine gen _ (cap _ λa m k hev hk=>?_) hx;show Kb (p8 P true E c n cs);unfold p8;rw[harg];split
     .rename_i t t' s u e1 e2;cases e2;rw[hev];split
      .rename_i q1 q2 q3;cases q1
       repeat' (first|exact Kb.none|exact Kb.apd hk|split)
      .exact Kb.none
     .exact Kb.none
    .rename_i hl;refine gen _ (cap _ λa n k hev hk0=>?_) hx;unfold wJ;simp only[hop,hcal];split
     .rename_i b vs hb2 hvs;cases hb2;have hv0:∃rest,vs=Value.slice a n k::rest:=by
       rw[harg] at hvs;unfold Env.KK at hvs;rw[hev] at hvs;cases hr:E.KK ds with
       |none=>rw[hr] at hvs;cases hvs
       |some r=>rw[hr] at hvs;cases hvs;exact⟨_,rfl⟩
      obtain⟨rest,rfl⟩:=hv0;show Kb (p7 P true _ _ _);unfold p7;split<;>first|exact Kb.none|contradiction|(injections;subst_vars;repeat' (first|exact Kb.none|exact Kb.rds λ_=>Kb.apd hk0|exact Kb.apd hk0|split))
     .exact Kb.none
   .cases hcap
 .cases hx;exact .inl ⟨rfl,λ_=>rfl⟩
 .cases hx
theorem P0 {k:Nat}{t:κ}{cs:δ}(a2:k<h.next)(a3:h.get k=none)(hn:h.get h.next=none):Sm h (h.dA k h.next t cs):=by
 have q:∀j,j≠k->Nat.beq j k=false:=λj e=>by
  cases e2:Nat.beq j k
  .rfl
  .exact absurd (aab e2) e
 refine⟨rfl,?_,λb hb=>?_⟩
 .simp[af.dA,q h.next (by omega),hn]
 .have hbk:b≠k:=λe=>hb (e▸a3);simp[af.dA,q b hbk]
def Km (A:Act):Prop:=∀h x h',A.exec h=some (x,h')->h'.jy=h.jy
theorem Km.pure {A:Act}(hA:Pa A):Km A:=λh x h' e=>by rw[(hA h x h' e).1]
theorem ae4 {s:Sl}{sz:Nat}{e:κ}{n:Nat}{new:δ}{r:Sl}(hx:app true s sz e n new h=some (r,h')):h'.jy=h.jy:=by
 unfold app at hx;split at hx
 .cases hx
 unfold s9 at hx
 repeat' (first|(cases hx;done)|(cases hx;rfl)|split at hx|simp only at hx)
theorem Km.wU {s:Sl}{sz:Nat}{e:κ}{n:Nat}{new:δ}{k:Sl->ξ}:Km (.ask Sl (app true s sz e n new) λr=>.val (k r)):=λh x h' he=>by
 grind [Act.exec,ae4]
theorem Km.ask {α:Type}{m:M α}{k:α->Act}(hm:∀h x h',m h=some (x,h')->h'=h)(hk:∀x,Km (k x)):Km (.ask α m k):=λh x h' he=>by
 simp only[Act.exec] at he;split at he
 .rename_i y h1 hm1;rw[hm _ _ _ hm1] at he;exact hk _ _ _ _ he
 .cases he
theorem HI {nm:Nat}(hc:cls P ops o=.add){r:Cg}(hx:act P C nm ops E L o h=some (r,h')):h'.jy=h.jy:=by
 unfold act at hx;split at hx
 .have gen:∀A:Act,Km A->kY (A.exec h)=some (r,h')->h'.jy=h.jy:=by
   intro A hA e;obtain⟨v,e1,rfl⟩:=pV e;exact hA _ _ _ e1
  unfold ex at hx;cases hop:o.op<;>simp only[hop] at hx<;>try (unfold cls at hc;simp only[hop] at hc;contradiction)
  case call c=>
   have hcal:c.callee=.builtin .append:=by
    unfold cls at hc;simp only[hop] at hc
    grind
   have hlx:yj ops o=false:=by
    grind [cls,Fu]
   simp only[hlx,Bool.not_false] at hx;split at hx
   .split at hx
    .refine gen _ ?_ (zl hx);unfold p8
     repeat' (first|exact Km.wU|exact Km.pure Pa.none|split)
    .refine gen _ ?_ (zl hx);unfold wJ;simp only[hop,hcal];split
     .rename_i b vs hb _;cases hb;unfold p7;split
      .contradiction
      .contradiction
      .contradiction
      .contradiction
      .contradiction
      .contradiction
      .contradiction
      .have hrd:∀(s:Sl) (z:Nat) h x h',GP s z h=some (x,h')->h'=h:=by
        grind [GP]
       repeat' (first|exact Km.ask (hrd _ _) λ_=>Km.wU|exact Km.pure Pa.none|split)
      .repeat' (first|exact Km.wU|exact Km.pure Pa.none|split)
      .contradiction
      .contradiction
      .exact Km.pure Pa.none
     .exact Km.pure Pa.none
   .rename_i hb;simp[isBuiltin,hcal] at hb
  all_goals
   grind [cls,uj,pH,ov,rJ]
 .cases hx;rfl
 .cases hx
theorem Uz (h:yk ops o=true):cls P ops o=.eff:=by
 unfold yk at h;unfold cls;split at h
 .rename_i hop;simp only[hop]
 .rename_i c hop;simp only[hop];rw[ahE] at h;rcases h with h|h
  .grind [isBuiltin,absurd]
  .have hc:c.callee=.builtin .append:=by
    grind [yj]
   simp only[hc,h];rfl
 .cases h
theorem ach (h:vT o=true):cls P ops o=.eff:=by
 grind [vT,cls]
theorem RG {nm:Nat}(hs:vT o=true){r:Cg}(hx:act P C nm ops E L o h=some (r,h')):(h'=h/\want ops E o≠some true/\∀h2,act P C nm ops E L o h2=some (r,h2)) \/
  (want ops E o=some true/\∃a vs c g base e,As E o=some a/\h.get a.block=some (.cells c g base e)/\h'=h.sr a.block (bf c a.off vs) g base e /\
   ∀h2:af,h2.get a.block=some (.cells c g base e)->act P C nm ops E L o h2=some (r,h2.sr a.block (bf c a.off vs) g base e)):=by
 unfold act at hx⊢;split at hx
 .rename_i hw;refine .inr ⟨hw,?_⟩
  try simp only[hw]
  unfold vT at hs;split at hs
  .rename_i t x y hop;unfold ex at hx⊢;simp only[hop] at hx⊢;have gen:∀A:Act,A=wJ P (some nm) E o->kY (A.exec h)=some (r,h')->∃a vs c g base e,As E o=some a/\h.get a.block=some (.cells c g base e)/\h'=h.sr a.block (bf c a.off vs) g base e /\
     ∀h2:af,h2.get a.block=some (.cells c g base e)->kY (A.exec h2)=some (r,h2.sr a.block (bf c a.off vs) g base e):=by
    intro A hA e;unfold wJ at hA;simp only[hop] at hA;split at hA
    .rename_i v u n hv hu hn;unfold yi at hA;split at hA
     .rename_i a;split at hA
      .subst hA;simp only[Act.exec] at e⊢;unfold bF at e;generalize hg:h.get a.block=og at e;cases og with
       |none=>simp[kY] at e
       |some au=>
        cases au with
        |cells c g base el=>
         simp only at e;by_cases hc:g≠0/\a.off+u.cells.toList.length<=c.length/\u.cells.toList.all eZ=true
         .rw[AT hc] at e;simp only[kY,abG,afr] at e;obtain⟨e1,e2⟩:=e;refine⟨a,u.cells.toList,c,g,base,el,by simp only[As,hop,hv],hg,e2.symm,λh2 e3=>?_⟩;unfold bF;rw[e3];simp only;rw[AT hc,<-e1];rfl
         .rw[By hc] at e;simp[kY] at e
        |_=>simp[kY] at e
      .subst hA;simp[Act.exec,kY] at e
     .subst hA;simp[Act.exec,kY] at e
    .subst hA;simp[Act.exec,kY] at e
   exact gen _ rfl hx
  .cases hs
 .grind
 .cases hx
theorem RH (h:∀t∈jf ops o,E t=E' t):As E o=As E' o:=by
 have h:=Bm h;unfold As;cases hop:o.op<;>simp only[hop,Op.operands] at h⊢;rw[h _ (by simp)]
theorem FA {ks:η}(hE:∀t∈jf ops o,E t=E' t):wQ E o h ks↔wQ E' o h ks:=by
 unfold wQ;rw[RH hE]
theorem IC {nm:Nat}(hc:cls P ops o=.mka){r:Cg}(hx:act P C nm ops E L o h=some (r,h')):(h'=h/\∀h2,act P C nm ops E L o h2=some (r,h2)) \/
  ∃kt,h.used nm=false/\nm<h.next/\h'=h.Ni nm kt/\∀h2:af,h2.used nm=false->nm<h2.next->act P C nm ops E L o h2=some (r,h2.Ni nm kt):=by
 unfold act at hx⊢;split at hx
 .refine .inr ?_;unfold ex at hx⊢;cases hop:o.op<;>simp only[hop] at hx⊢<;>try (unfold cls at hc;simp only[hop] at hc;contradiction)
  case makeMap t x=>
   have gen:∀A:Act,(∀h x h',A.exec h=some (x,h')->∃kt,h.used nm=false/\nm<h.next/\h'=h.Ni nm kt/\∀h2:af,h2.used nm=false->nm<h2.next->A.exec h2=some (x,h2.Ni nm kt))->kY (A.exec h)=some (r,h') ->
     ∃kt,h.used nm=false/\nm<h.next/\h'=h.Ni nm kt/\∀h2:af,h2.used nm=false->nm<h2.next->kY (A.exec h2)=some (r,h2.Ni nm kt):=by
    intro A hA e;obtain⟨v,e1,rfl⟩:=pV e;obtain⟨kt,a,b,c,d⟩:=hA _ _ _ e1;exact⟨kt,a,b,c,λh2 a b=>by rw[d h2 a b];rfl⟩
   have one:∀(ty:κ) h x h',(Act.ask Nat (vf nm ty) λm=>.val (.map (some m))).exec h=some (x,h')->∃kt,h.used nm=false/\nm<h.next/\h'=h.Ni nm kt/\∀h2:af,h2.used nm=false->nm<h2.next->(Act.ask Nat (vf nm ty) λm=>.val (.map (some m))).exec h2=some (x,h2.Ni nm kt):=by
    intro ty h x h' e;simp only[Act.exec,vf] at e⊢
    grind
   refine gen _ ?_ hx;unfold wJ;simp only[hop]
   repeat' (first|exact one _|(intro h x h' e;simp[Act.exec] at e;done)|split)
  all_goals
   unfold cls at hc;simp only[hop] at hc
   grind [uj,pH,ov,rJ]
 .cases hx;exact .inl ⟨rfl,λ_=>rfl⟩
 .cases hx
theorem aci {nm:Nat}{mo:FuncId->Bool}(HM:∀f vs ca,mo f=true->C.st f vs=some ca->Nj ca.m)(hc:E8 mo o=true){k:Nat}{kt:κ}(h1:h.used k=false)(h2:k<h.next){r:Cg}
  (hx:act P C nm ops E L o (h.Ni k kt)=some (r,h')):∃h3,act P C nm ops E L o h=some (r,h3)/\h3.used k=false/\k<h3.next/\h'=h3.Ni k kt:=by
 unfold act at hx⊢;split at hx
 .unfold E8 at hc;split at hc
  .rename_i c hop;split at hc
   .rename_i f hf;have hb:isBuiltin c=false:=(by unfold isBuiltin;rw[hf]);have hd:ta C c=none:=(by unfold ta;rw[hf]);unfold ex at hx⊢;simp only[hop,hb,hd] at hx⊢;cases hev:E.KK c.args.toList with
    |none=>
     grind [callee]
    |some vs=>
     have:callee E c=some (f,vs):=(by unfold callee;rw[hf,hev];simp[Env.ev]);simp only[this] at hx⊢;split at hx
     .rename_i ca hca;split at hx
      .rename_i x h4 hm;cases hx;obtain⟨h3,q1,q2,q3,q4⟩:=HM f vs ca hc hca h k kt x h' h1 h2 hm;exact⟨h3,by simp only[q1],q2,q3,q4⟩
      .cases hx
     .cases hx
   .cases hc
  .cases hc
 .cases hx;exact⟨h,rfl,h1,h2,rfl⟩
 .cases hx
def HJ {α:Type}(k:Nat)(m:M α):Prop:=∀(h:af) t cs (x:α) (h2:af),h.used k=false->k<h.next->h.get k=none->m (h.dA k h.next t cs)=some (x,h2) ->
 ∃h3,m h=some (x,h3)/\h3.used k=false/\k<h3.next/\h3.get k=none/\h2=h3.dA k h3.next t cs
theorem RI {α:Type}{k:Nat}{m:M α}{h:af}{x:α}{h1:af}(hx:B7 k m h=some (x,h1)):m h=some (x,h1)/\BP k m h x h1:=by
 unfold B7 at hx;split at hx
 .split at hx
  .rename_i hm _ hb _;cases hx;exact⟨hm,hb⟩
  .cases hx
 .cases hx
theorem Yr {α:Type}{k:Nat}{m:M α}{h:af}{x:α}{h1:af}(hm:m h=some (x,h1))(hb:BP k m h x h1):B7 k m h=some (x,h1):=by
 unfold B7;rw[hm];simp only;split
 .rfl
 .rename_i hn _;exact absurd hb hn
theorem RJ {α:Type}(k:Nat)(m:M α):HJ k (B7 k m):=λh t cs x h2 h1 h3 h4 hx=>by
 obtain⟨hm,hb⟩:=RI hx;obtain⟨h5,q1,q2,q3,q4,q5⟩:=hb h t cs h1 h3 h4 rfl;refine⟨h5,Yr q1 ?_,q2,q3,q4,q5⟩;intro h0 t' cs' _ _ _ e;rw[e] at h1;simp[af.dA,afo] at h1
theorem ae5 {nm:Nat}{f:FuncId}(hc:vV o=some f){k:Nat}(HB:∀vs ca,C.st f vs=some ca->HJ k ca.m){t:κ}{cs:δ}(h1:h.used k=false)(h2:k<h.next)(h3:h.get k=none){r:Cg}
  (hx:act P C nm ops E L o (h.dA k h.next t cs)=some (r,h')):∃h3,act P C nm ops E L o h=some (r,h3)/\h3.used k=false/\k<h3.next/\h3.get k=none/\h'=h3.dA k h3.next t cs:=by
 unfold act at hx⊢;split at hx
 .unfold vV at hc;split at hc
  .rename_i c hop;split at hc
   .rename_i g hf;cases hc;have hb:isBuiltin c=false:=(by unfold isBuiltin;rw[hf]);have hd:ta C c=none:=(by unfold ta;rw[hf]);unfold ex at hx⊢;simp only[hop,hb,hd] at hx⊢;cases hev:E.KK c.args.toList with
    |none=>
     grind [callee]
    |some vs=>
     have:callee E c=some (f,vs):=(by unfold callee;rw[hf,hev];simp[Env.ev]);simp only[this] at hx⊢;split at hx
     .rename_i ca hca;split at hx
      .rename_i x h4 hm;cases hx;obtain⟨h5,q1,q2,q3,q4,q5⟩:=HB vs ca hca h t cs x h' h1 h2 h3 hm;exact⟨h5,by simp only[q1],q2,q3,q4,q5⟩
      .cases hx
     .cases hx
   .cases hc
  .cases hc
 .cases hx;exact⟨h,rfl,h1,h2,h3,rfl⟩
 .cases hx
theorem UA {p:Oper}{f:FuncId}(h:vV p=some f):vT p=false:=by
 grind [vV,vT]
end Classes
section Swap
variable {C:nX}{W:Wr}{nb:Nat}{ops:Array Oper}{Af:Nat->θ}{Ck:Nat->List θ}{Kk:Nat->η}
theorem v7 {l:η}{i:Nat}:KY l i=true↔i∈l:=by
 grind [KY,List.any_eq_true,Nat.eq_of_beq_eq_true,Nat.beq_refl]
theorem iD {E:Env}{L:fU}{d:μ}{r:Cg}{t:Nat}(h:d≠some t):E.res d r t=E t/\L.res d r t=L t:=by
 cases d with
 |none=>cases r<;>exact⟨rfl,rfl⟩
 |some i=>
  have:Nat.beq t i=false:=by
   cases hb:Nat.beq t i
   .rfl
   simp_all
  cases r<;>simp[Env.res,fU.res,Env.put,Env.set,Env.del,fU.put,fU.del,this]
theorem LQ {E:Env}{L:fU}{d e:μ}{r u:Cg}(h:∀i,d=some i->e≠some i) :
  (E.res d r).res e u=(E.res e u).res d r/\(L.res d r).res e u=(L.res e u).res d r:=by
 constructor<;>funext t
 .by_cases hd:d=some t
  .have he:=h t hd;rw[(iD (E:=E.res d r) (L:=L) (r:=u) he).1];subst hd;cases r<;>simp[Env.res,Env.put,Env.set,Env.del]
  .rw[(iD (E:=E.res e u) (L:=L) (r:=r) hd).1];by_cases he:e=some t
   .subst he;cases u<;>simp[Env.res,Env.put,Env.set,Env.del]
   .rw[(iD (E:=E.res d r) (L:=L) (r:=u) he).1,(iD (E:=E) (L:=L) (r:=r) hd).1,(iD (E:=E) (L:=L) (r:=u) he).1]
 .by_cases hd:d=some t
  .have he:=h t hd;rw[(iD (E:=E) (L:=L.res d r) (r:=u) he).2];subst hd;cases r<;>simp[fU.res,fU.put,fU.del]
  .rw[(iD (E:=E) (L:=L.res e u) (r:=r) hd).2];by_cases he:e=some t
   .subst he;cases u<;>simp[fU.res,fU.put,fU.del]
   .rw[(iD (E:=E) (L:=L.res d r) (r:=u) he).2,(iD (E:=E) (L:=L) (r:=r) hd).2,(iD (E:=E) (L:=L) (r:=u) he).2]
theorem RL {h:af}{k1 k2:Nat}(hk:k1≠k2){t1 t2:κ}{c1 c2:δ} :
  (h.dA k1 h.next t1 c1).dA k2 h.next t2 c2=(h.dA k2 h.next t2 c2).dA k1 h.next t1 c1:=by
 have hb:∀j,Nat.beq j k1=true->Nat.beq j k2=false:=λj e=>by
  cases e2:Nat.beq j k2
  .rfl
  .exact absurd ((aab e).symm.trans (aab e2)) hk
 unfold af.dA;simp only[af.mk.injEq,ag8,and_true];refine⟨?_,?_,?_⟩<;>funext j
 .cases e1:Nat.beq j k1
  .rfl
  .simp[hb j e1]
 .cases e1:Nat.beq j (k1+1)
  .simp
  .have:Nat.beq j (k2+1)=false:=by
    cases e2:Nat.beq j (k2+1)
    .rfl
    .have h1:=aab e1;have h2:=aab e2;omega
   simp[this]
 .cases e1:Nat.beq j k1
  .rfl
  .simp[hb j e1]
theorem UB {h:af}{k:Nat}(hk:k≠h.next){t1 t2:κ}{c1 c2:δ}:(h.dA k h.next t1 c1).new t2 c2=(h.new t2 c2).dA k (h.new t2 c2).next t1 c1:=by
 have hb:∀j a b,a≠b->Nat.beq j a=true->Nat.beq j b=false:=λj a b hab e=>by
  cases e2:Nat.beq j b
  .rfl
  .exact absurd ((aab e).symm.trans (aab e2)) hab
 unfold af.new af.dA;simp only[af.mk.injEq,ag8,and_true];refine⟨?_,?_,?_⟩<;>funext j
 .cases e1:Nat.beq j k
  .rfl
  .simp[hb j k h.next hk e1]
 .cases e1:Nat.beq j (k+1)
  .rfl
  .simp[hb j (k+1) (h.next+1) (by omega) e1]
 .cases e1:Nat.beq j k
  .rfl
  .simp[hb j k h.next hk e1]
theorem core {mo:FuncId->Bool}(HM:∀f vs ca,mo f=true->C.st f vs=some ca->Nj ca.m){i j:Nat}{o p:Oper}{ck:Bool}(HB:ck=true->Di (cls P ops o)=true->∀f,vV p=some f->∀vs ca,C.st f vs=some ca->HJ (nb+i) ca.m){E:Env}{L:fU}{h h1 h2:af}{r u:Cg}(hij:i≠j)
  (hsw:(match cls P ops o,cls P ops p with
   |.sil,_|_,.sil | .ro,.ro | .ro,.alloc | .ro,.add | .alloc,.alloc=>true
   |.ro,.mro | .mro,.ro | .mro,.mro | .mro,.alloc | .mro,.add | .alloc,.mro | .add,.mro=>true
   |.ro,.eff=>ck&&yk ops p
   |.alloc,.eff=>ck&&(vT p||(vV p).isSome)
   |.ro,.mka | .mka,.ro=>true
   |.mka,.eff=>E8 mo p
   |.add,.alloc=>Bg ops o
   |_,_=>false)=true) (hkk:ck=true->Di (cls P ops o)=true->nb+i∈Kk j) (si:want ops E o=some true->wQ E o h (Kk i)) (sj:want ops E p=some true->wQ E p h1 (Kk j)) (hck:ck=true->Af i∈Ck j) (hrd:want ops E o=some true->lA E o=Af i)
  (hi:act P C (nb+i) ops E L o h=some (r,h1)) (ci:yk ops o=true->sameAt h h1 (Ck i)=true)
  (hj:act P C (nb+j) ops E L p h1=some (u,h2)) (cj:yk ops p=true->sameAt h1 h2 (Ck j)=true) :
  ∃h3,act P C (nb+j) ops E L p h=some (u,h3)/\act P C (nb+i) ops E L o h3=some (r,h2) /\
   (yk ops p=true->sameAt h h3 (Ck j)=true)/\(yk ops o=true->sameAt h3 h2 (Ck i)=true) /\
   (want ops E p=some true->wQ E p h (Kk j))/\(want ops E o=some true->wQ E o h3 (Kk i)):=by
 have noSt:∀{q:Oper} {hh:af} {ks:η},cls P ops q≠.eff->want ops E q=some true->wQ E q hh ks:=λhq _ hs=>absurd (ach hs) hq;have first:h1=h->cls P ops o≠.eff->(∀h2,act P C (nb+i) ops E L o h2=some (r,h2))->∃h3,act P C (nb+j) ops E L p h=some (u,h3)/\act P C (nb+i) ops E L o h3=some (r,h2) /\
   (yk ops p=true->sameAt h h3 (Ck j)=true)/\(yk ops o=true->sameAt h3 h2 (Ck i)=true) /\
   (want ops E p=some true->wQ E p h (Kk j))/\(want ops E o=some true->wQ E o h3 (Kk i)):=by
  grind [sameAt_refl]
 have second:h2=h1->cls P ops p≠.eff->act P C (nb+j) ops E L p h=some (u,h)->∃h3,act P C (nb+j) ops E L p h=some (u,h3)/\act P C (nb+i) ops E L o h3=some (r,h2) /\
   (yk ops p=true->sameAt h h3 (Ck j)=true)/\(yk ops o=true->sameAt h3 h2 (Ck i)=true) /\
   (want ops E p=some true->wQ E p h (Kk j))/\(want ops E o=some true->wQ E o h3 (Kk i)):=by
  grind [sameAt_refl]
 have noCk:∀{q:Oper},cls P ops q≠.eff->∀{X:Prop},yk ops q=true->X:=λhq X hc=>absurd (Uz hc) hq;cases ho:cls P ops o
 case sil=>grind [wT]
 case add=>
  cases hp:cls P ops p<;>rw[ho,hp] at hsw
  case sil=>grind [wT]
  case mro=>grind [Bo,HI]
  case alloc=>
   rcases rK hp hj with⟨e1,e3⟩|⟨t,cs,a1,a2,a3,rfl,a4⟩
   .exact second e1 (by rw[hp];simp) (e3 _)
   rcases Yq hsw ho hi with⟨rfl,q⟩|⟨hn,⟨rfl,q⟩|⟨e,ds,rfl,q⟩⟩
   .exact first rfl (by rw[ho];simp) q
   .exact⟨_,hj,q _ (P0 a2 a3 hn),noCk (by rw[hp];simp),noCk (by rw[ho];simp),noSt (by rw[hp];simp),noSt (by rw[ho];simp)⟩
   .have hne:Nat.beq (nb+j) h.next=false:=by
     cases e2:Nat.beq (nb+j) h.next
     .rfl
     .simp[af.new,af.dA,e2] at a1
    have hnx:nb+j≠h.next:=λe3=>by rw[e3,afo] at hne;cases hne
    have b1:h.used (nb+j)=false:=(by simpa[af.new,af.dA,hne] using a1);have b2:nb+j<h.next:=by have:nb+j<h.next+1:=a2;omega
    have b3:h.get (nb+j)=none:=(by simpa[af.new,af.dA,hne] using a3);refine⟨_,a4 h b1 b2 b3,?_,noCk (by rw[hp];simp),noCk (by rw[ho];simp),noSt (by rw[hp];simp),noSt (by rw[ho];simp)⟩;rw[q _ (P0 b2 b3 hn)]
    congr 2
    exact UB hnx
  all_goals cases hsw
 case mro=>
  obtain⟨rfl,e2⟩:=Bo ho hi;cases hp:cls P ops p<;>rw[ho,hp] at hsw
  case sil=>grind [wT]
  case ro=>obtain⟨rfl,_⟩:=IB hp hj;exact second rfl (by rw[hp];simp) hj
  case mro=>obtain⟨rfl,_⟩:=Bo hp hj;exact second rfl (by rw[hp];simp) hj
  case alloc=>
   rcases rK hp hj with⟨e1,e3⟩|⟨t,cs,a1,a2,a3,rfl,a4⟩
   .exact second e1 (by rw[hp];simp) (e3 _)
   .exact⟨_,hj,e2 _ rfl,noCk (by rw[hp];simp),noCk (by rw[ho];simp),noSt (by rw[hp];simp),noSt (by rw[ho];simp)⟩
  case add=>exact⟨_,hj,e2 _ (HI hp hj),noCk (by rw[hp];simp),noCk (by rw[ho];simp),noSt (by rw[hp];simp),noSt (by rw[ho];simp)⟩
  all_goals cases hsw
 case eff=>
  cases hp:cls P ops p<;>rw[ho,hp] at hsw
  case sil=>grind [wT]
  all_goals cases hsw
 case ro=>
  obtain⟨rfl,e2⟩:=IB ho hi;rcases e2 with e2|⟨hw,b,hb,hn,e2⟩
  .exact first rfl (by rw[ho];simp) e2
  .cases hp:cls P ops p
   case sil=>grind [wT]
   case ro=>obtain⟨rfl,_⟩:=IB hp hj;exact second rfl (by rw[hp];simp) hj
   case mro=>obtain⟨rfl,_⟩:=Bo hp hj;exact second rfl (by rw[hp];simp) hj
   case alloc=>
    rcases rK hp hj with⟨e1,e3⟩|⟨t,cs,a1,a2,a3,rfl,a4⟩
    .exact second e1 (by rw[hp];simp) (e3 _)
    .refine⟨_,hj,e2 _ ?_,noCk (by rw[hp];simp),noCk (by rw[ho];simp),noSt (by rw[hp];simp),noSt (by rw[ho];simp)⟩;have:Nat.beq b.block (nb+j)=false:=by
      cases e:Nat.beq b.block (nb+j)
      .rfl
      .rw[aab e] at hn;exact absurd a3 hn
     simp[af.dA,this]
   case add=>exact⟨_,hj,e2 _ (Yp hp hj _ hn),noCk (by rw[hp];simp),noCk (by rw[ho];simp),noSt (by rw[hp];simp),noSt (by rw[ho];simp)⟩
   case mka=>
    rcases IC hp hj with⟨e1,e3⟩|⟨kt,a1,a2,rfl,a4⟩
    .exact second e1 (by rw[hp];simp) (e3 _)
    .exact⟨_,hj,e2 _ rfl,noCk (by rw[hp];simp),noCk (by rw[ho];simp),noSt (by rw[hp];simp),noSt (by rw[ho];simp)⟩
   case eff=>
    rw[ho,hp] at hsw;simp only[aau] at hsw;have hm:=hck hsw.1;rw[<-hrd hw,hb] at hm;exact⟨_,hj,e2 _ (rI (cj hsw.2) hm),cj,noCk (by rw[ho];simp),sj,noSt (by rw[ho];simp)⟩
 case mka=>
  cases hp:cls P ops p<;>rw[ho,hp] at hsw
  case sil=>grind [wT]
  case ro=>
   obtain⟨rfl,e2⟩:=IB hp hj;rcases IC ho hi with⟨e1,e3⟩|⟨kt,a1,a2,rfl,a4⟩
   .exact first e1 (by rw[ho];simp) e3
   rcases e2 with e2|⟨hw,b,hb,hn,e2⟩
   .exact second rfl (by rw[hp];simp) (e2 _)
   .exact second rfl (by rw[hp];simp) (e2 _ rfl)
  case eff=>
   rcases IC ho hi with⟨e1,e3⟩|⟨kt,a1,a2,rfl,a4⟩
   .exact first e1 (by rw[ho];simp) e3
   obtain⟨h3,q1,q2,q3,rfl⟩:=aci HM hsw a1 a2 hj;refine⟨h3,q1,a4 h3 q2 q3,λhcp=>?_,noCk (by rw[ho];simp),λ_ hs=>?_,noSt (by rw[ho];simp)⟩
   .have hsm:=cj hcp;refine vZ λx hx b hb=>?_;subst hb;exact (rI hsm hx).symm
   grind [E8,vT]
  all_goals cases hsw
 case alloc=>
  cases hp:cls P ops p
  case sil=>grind [wT]
  case mro=>
   obtain⟨e1,e2⟩:=Bo hp hj;rcases rK ho hi with⟨rfl,_⟩|⟨t,cs,a1,a2,a3,rfl,a4⟩
   .exact second e1 (by rw[hp];simp) (e2 _ rfl)
   .exact second e1 (by rw[hp];simp) (e2 _ rfl)
  case alloc=>
   rcases rK ho hi with⟨e1,e2⟩|⟨t,cs,a1,a2,a3,rfl,a4⟩
   .exact first e1 (by rw[ho];simp) e2
   rcases rK hp hj with⟨e1,e2⟩|⟨t',cs',b1,b2,b3,rfl,b4⟩
   .exact second e1 (by rw[hp];simp) (e2 _)
   have hne:Nat.beq (nb+j) (nb+i)=false:=by
    grind [Nat.eq_of_beq_eq_true]
   have hne':Nat.beq (nb+i) (nb+j)=false:=by
    grind [Nat.eq_of_beq_eq_true]
   simp only[af.dA,hne,af5] at b1 b2 b3;refine⟨_,b4 h b1 b2 b3,?_,noCk (by rw[hp];simp),noCk (by rw[ho];simp),noSt (by rw[hp];simp),noSt (by rw[ho];simp)⟩;have:=a4 (h.dA (nb+j) h.next t' cs') (by simp[af.dA,hne',a1]) a2 (by simp[af.dA,hne',a3])
   rw[this]
   congr 2
   exact (RL (by omega)).symm
  case eff=>
   rw[ho,hp] at hsw;simp only[aau] at hsw;obtain⟨hc1,hst⟩:=hsw;rcases rK ho hi with⟨e1,e2⟩|⟨t,cs,a1,a2,a3,rfl,a4⟩
   .exact first e1 (by rw[ho];simp) e2
   have hk:=hkk hc1 (by rw[ho];rfl);cases hsc:vV p with
   |some f=>
    obtain⟨h3,q1,q2,q3,q4,rfl⟩:=ae5 hsc (HB hc1 (by rw[ho];rfl) f hsc) a1 a2 a3 hj;refine⟨h3,q1,a4 h3 q2 q3 q4,λhcp=>?_,noCk (by rw[ho];simp),λ_ hs=>?_,noSt (by rw[ho];simp)⟩
    .have hsm:=cj hcp;refine vZ λx hx b hb=>?_;subst hb;have h5:=(rI hsm hx).symm;cases q5:Nat.beq b.block (nb+i)
     .simpa only[af.dA,q5,af5] using h5
     .rw[aab q5,q4,a3]
    .rw[UA hsc] at hs;cases hs
   |none=>
   rw[hsc] at hst;simp only[ahZ,ah5] at hst;rcases RG hst hj with⟨e1,e2,e3⟩|⟨hw,a,vs,c,g,base,e,b1,b2,rfl,b4⟩
   .grind [sameAt_refl,absurd]
   .have hne:Kk j≠[]:=List.ne_nil_of_mem hk;obtain⟨a',c1,c2⟩:=sj hw hst hne;rw[b1] at c1;cases c1;have c2':=c2;unfold okK at c2;rw[b2] at c2;have c3:=List.all_eq_true.1 c2 _ hk;simp only[aau,ahd] at c3;obtain⟨d1,d2⟩:=c3;have hga:(h.dA (nb+i) h.next t cs).get a.block=h.get a.block:=by simp[af.dA,d1]
    have b2':h.get a.block=some (.cells c g base e):=(by rw[<-hga];exact b2);have hka:Nat.beq (nb+i) a.block=false:=by
     cases hb:Nat.beq (nb+i) a.block
     .rfl
     grind [Nat.eq_of_beq_eq_true,Nat.beq_refl]
    have hkg:Nat.beq (nb+i+1) g=false:=by
     grind [Nat.eq_of_beq_eq_true,Nat.beq_refl]
    have hnone:(h.sr a.block (bf c a.off vs) g base e).get (nb+i)=none:=(by simp[af.sr,hka,a3]);have hcomm:(h.sr a.block (bf c a.off vs) g base e).dA (nb+i) h.next t cs=(h.dA (nb+i) h.next t cs).sr a.block (bf c a.off vs) g base e:=by
     unfold af.dA af.sr;simp only[af.mk.injEq,ag8,and_true];funext q;cases q1:Nat.beq q (nb+i)
     .cases q2:Nat.beq q a.block<;>simp[q1]
     grind [Nat.eq_of_beq_eq_true]
    refine⟨_,b4 h b2',?_,λhcp=>?_,noCk (by rw[ho];simp),λ_ _ _=>⟨a,b1,?_⟩,noSt (by rw[ho];simp)⟩
    .have:=a4 (h.sr a.block (bf c a.off vs) g base e) a1 a2 hnone;rw[this]
     congr 2
    .have hsm:=cj hcp;refine vZ λx hx b hb=>?_;subst hb;have h5:=(rI hsm hx).symm;cases q1:Nat.beq b.block (nb+i)
     .simp only[af.dA,q1,af5] at h5;rw[h5];simp[af.sr,af.dA,q1]
     .rw[aab q1,hnone,a3]
    grind [okK]
  all_goals
   rw[ho,hp] at hsw;cases hsw
theorem Ys {mo:FuncId->Bool}(HM:∀f vs ca,mo f=true->C.st f vs=some ca->Nj ca.m){i j:Nat}{o p:Oper}{ck:Bool}(HB:ck=true->Di (cls P ops o)=true->∀f,vV p=some f->∀vs ca,C.st f vs=some ca->HJ (nb+i) ca.m){s s1 s2:St}(ho:ops[i]?=some o)(hp:ops[j]?=some p)(hij:i≠j)(hsw:PJ P mo ops o p ck=true)(hck:ck=true->Af i∈Ck j)(hkk:ck=true->Di (cls P ops o)=true->nb+i∈Kk j)
  (h1:Step P C W nb ops Af Ck Kk i s s1) (h2:Step P C W nb ops Af Ck Kk j s1 s2):∃s1',Step P C W nb ops Af Ck Kk j s s1'/\Step P C W nb ops Af Ck Kk i s1' s2:=by
 obtain⟨E,L,h⟩:=s;obtain⟨E1,L1,h1'⟩:=s1;obtain⟨E2,L2,h2'⟩:=s2;obtain⟨o',r,ho',hWi,hri,hai,e1,e2,hci,hsi⟩:=h1;obtain⟨p',u,hp',hWj,hrj,haj,e3,e4,hcj,hsj⟩:=h2;rw[ho] at ho';cases ho';rw[hp] at hp';cases hp';simp only at *
 subst e1;subst e2;subst e3;subst e4;unfold PJ at hsw;rw[aau] at hsw;obtain⟨hap,hsw⟩:=hsw;unfold apart at hap;simp only[aau] at hap;obtain⟨⟨q1,q2⟩,q3⟩:=hap;have d1:∀t∈jf ops p,o.dst≠some t:=by
  grind [Bool.not_eq_true',v7]
 have d2:∀t∈jf ops o,p.dst≠some t:=by
  grind [Bool.not_eq_true',v7]
 have d3:∀t,o.dst=some t->p.dst≠some t:=by
  intro t e1 e2;rw[e1,e2] at q3;simp at q3
 have cE:∀t∈jf ops p,E.res o.dst r t=E t:=λt ht=>(iD (L:=L) (d1 t ht)).1;have cL:∀t∈jf ops p,L.res o.dst r t=L t:=λt ht=>(iD (E:=E) (d1 t ht)).2;have cE':∀t∈jf ops o,E.res p.dst u t=E t:=λt ht=>(iD (L:=L) (d2 t ht)).1;have cL':∀t∈jf ops o,L.res p.dst u t=L t:=λt ht=>(iD (E:=E) (d2 t ht)).2;rw[HH cE cL] at haj;obtain⟨h3,g1,g2,g3,g4,g5,g6⟩:=core HM HB hij hsw hkk hsi (λhw=>(FA cE).1 (hsj (by rw[uB cE];exact hw))) hck hri hai hci haj hcj;refine⟨(E.res p.dst u,L.res p.dst u,h3),⟨p,u,hp,hWj,?_,g1,rfl,rfl,g3,g5⟩,⟨o,r,ho,hWi,?_,?_,?_,?_,g4,λhw=>(FA cE').2 (g6 (by rw[<-uB cE'];exact hw))⟩⟩
 .intro hw;rw[<-Bn cE];exact hrj (by rw[uB cE];exact hw)
 .intro hw;rw[Bn cE'];exact hri (by rw[<-uB cE'];exact hw)
 .simp only;rw[HH cE' cL'];exact g2
 .exact (LQ (L:=L) d3).1
 .exact (LQ (E:=E) d3).2
end Swap
theorem Dr (e:Edge):vW e=Region.binds .any e:=by
 unfold vW Region.binds;split<;>simp_all
theorem FB {ops:Array Oper}{σ:η}(hn:σ.Nodup)(hr:∀i o e,ops[i]?=some o->e∈o.after.toList->vW e=true->KI σ e.on i) :
  ∀(rest:List Oper) (acc:List η),(∀n o,rest[n]?=some o->ops[acc.length+n]?=some o)->(∀j i,i∈acc.getD j []->KI σ i j) ->
   ∀j i,i∈(rest.foldl (λacc o=>acc++[(o.after.toList.filter vW).flatMap λe=>e.on::acc.getD e.on []]) acc).getD j []->KI σ i j
 |[],acc,_,ha,j,i,hi=>ha j i hi
 |o::rest,acc,hs,ha,j,i,hi=>by
  refine FB hn hr rest _ ?_ ?_ j i hi
  .intro n o' ho';have:=hs (n+1) o' (by simpa using ho')
   grind
  .intro j i hi;have ho:=hs 0 o rfl;simp only[agF] at ho;rcases Nat.lt_trichotomy j acc.length with hj|hj|hj
   .grind
   .subst hj;simp only[aeP,agE,Nat.lt_irrefl,aeL,agk,List.getElem?_cons_zero,aie,List.mem_flatMap,aii] at hi;obtain⟨e,⟨he,hb⟩,hi⟩:=hi;have h1:=hr _ o e ho he hb;rcases List.mem_cons.1 hi with rfl|hi
    .exact h1
    .exact HG hn (ha e.on i (by rw[aeP];exact hi)) h1
   grind
theorem FC {mo:FuncId->Bool}{ops:Array Oper}{pr:List η}:∀{l:List (Nat×η)},Ee P mo ops pr l=true->∀i j,KI (l.map (·.1)) i j ->
  ∃cj,(j,cj)∈l/\(i∈pr.getD j []\/∃o p,ops[i]?=some o/\ops[j]?=some p/\PJ P mo ops o p (KY cj i)=true)
 |[],_,_,_,hb=>by cases hb
 |(a,c)::l,hp,i,j,hb=>by
  unfold Ee at hp;rw[aau,aeI] at hp;obtain⟨h1,h2⟩:=hp;cases hb with
  |cons _ hb=>
   obtain⟨cj,h3,h4⟩:=FC h2 i j hb;exact⟨cj,BY _ h3,h4⟩
  |cons_cons _ hb=>
   have:j∈l.map (·.1):=hb.subset (by simp)
   obtain⟨⟨j',cj⟩,hm,e⟩:=List.mem_map.1 this;simp only at e;subst e;refine⟨cj,BY _ hm,?_⟩;have h3:=h1 _ hm;simp only[ahE] at h3
   grind [v7]
theorem NG {R:Type}{C:nX}{W:Wr}{nb:Nat}{ops:Array Oper}{l:List (Nat×η)}{E:Env}{K:Env->M R}{h:af}{r:R×af}(HM:∀f vs ca,C.mo f=true->C.st f vs=some ca->Nj ca.m)
  (HB:∀(j:Nat) cs (i:Nat) o p f,(j,cs)∈l->i∈cs->ops[i]?=some o->Di (cls P ops o)=true->ops[j]?=some p->vV p=some f->∀vs ca,C.st f vs=some ca->HJ (nb+i) ca.m) (hok:Nn P C.mo ops l=true) (t:Nat)
  (hx:iM P C W (some nb) ops l E fU.emp (λ_=>none) K h=some r) :
  iM P C W (some nb) ops ((Region.schedule (P.follows .mixedOrders) ops t).map λi=>(i,[])) E fU.emp (λ_=>none) K h=some r:=by
 unfold Nn at hok;simp only[aau] at hok;obtain⟨⟨⟨hmx,hpm⟩,hed⟩,hpr⟩:=hok;rw[Region.schedule,hmx,Bool.true_or,AT rfl];have hpm:=List.isPerm_iff.1 hpm;have hlt:∀i o e,ops[i]?=some o->e∈o.after.toList->Region.binds .any e=true->e.on<i:=by
  intro i o e ho he hb;rw[aeI] at hed;have h1:=hed (o,i) (by
   rw[List.mem_zipIdx_iff_getElem?];simpa using ho)
  simp only[aeI] at h1;have h2:=h1 e he;rw[Dr,hb] at h2
  simp_all
 obtain⟨s1,s2,s3⟩:=Fq hlt t;generalize Region.linearise .any ops t=σ at s1 s2 s3;have hnd:(l.map (·.1)).Nodup:=(hpm.nodup_iff).2 agP
 obtain⟨Af,Ck,Kk,E',L',h',hrun,hK,hks⟩:=Fv l E fU.emp (λ_=>none) h hnd hx;have hp:=FB (ops:=ops) s1 (λi o e a b c=>s3 i o e a b (by rw[<-Dr];exact c)) ops.toList [] (by simp) (by simp);have hany:=B4.any σ (l.map (·.1)) (hpm.trans s2.symm) (λi j hij hji s s1' s2' q1 q2=>by
  obtain⟨cj,hm,hc⟩:=FC hpr i j hij;rcases hc with hc|⟨o,p,ho,hp',hsw⟩
  .exact absurd hji λhji=>Cf s1 (hp j i hc) hji
  .refine Ys HM (λhck hal f hf=>HB j cj i o p f hm (v7.1 hck) ho hal hp' hf) ho hp' ?_ hsw ?_ ?_ q1 q2
   .rintro rfl;exact Cf hnd hij hij
   .grind [v7]
   .intro hck hal;have hmem:=v7.1 hck;rw[(hks j cj hm i hmem).2.2];unfold DI
    grind) hrun
 exact Fw σ _ (E,fU.emp,h) (E',L',h') hany hK
end Go.Ago
