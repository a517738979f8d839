
import Derived.Test.YtengdffgmpghgaaGreatDoorAgoF
set_option linter.all false
namespace Go.Ago
open Go
variable {P:Program}{h h' h1:ab}
section Trace
variable {S:Type}
inductive CY (Step:Nat->S->S->Prop):η->S->S->Prop where
 |nil (s:S):CY Step [] s s
 |cons {i:Nat} {l:η} {s s1 s2:S}:Step i s s1->CY Step l s1 s2->CY Step (i::l) s s2
theorem CY.mono {St St':Nat->S->S->Prop}:∀{l:η} {s f:S},(∀i∈l,∀s s',St i s s'->St' i s s')->CY St l s f->CY St' l s f
 |[],_,_,_,.nil _=>.nil _
 |_::_,_,_,hc,.cons h1 h2=>.cons (hc _ (IT ..) _ _ h1) (CY.mono (λi hi=>hc i (IN _ hi)) h2)
abbrev Ms (l:η)(i j:Nat):Prop:=[i,j].Sublist l
theorem CY.front {Step:Nat->S->S->Prop}{x:Nat}:∀(t1:η) {t2:η} {s f:S},(∀y∈t1,∀s s1 s2,Step y s s1->Step x s1 s2->∃s1',Step x s s1'/\Step y s1' s2) ->
  CY Step (t1++x::t2) s f->CY Step (x::(t1++t2)) s f
 |[],t2,s,f,_,hr=>hr
 |y::t1,t2,s,f,hc,hr=>by
  cases hr with
  |cons h1 h2=>
   have ih:=CY.front t1 (λz hz=>hc z (IN _ hz)) h2;cases ih with
   |cons h3 h4=>
    obtain⟨s1',q1,q2⟩:=hc y (IT ..) _ _ _ h1 h3;exact .cons q1 (.cons q2 h4)
theorem CY.any {Step:Nat->S->S->Prop}:∀(σ τ:η) {s f:S},τ.Perm σ ->
  (∀i j,Ms τ i j->Ms σ j i->∀s s1 s2,Step i s s1->Step j s1 s2->∃s1',Step j s s1'/\Step i s1' s2)->CY Step τ s f->CY Step σ s f
 |[],τ,s,f,hp,_,hr=>by
  have:=hp.eq_nil;subst this;exact hr
 |x::σ,τ,s,f,hp,hc,hr=>by
  have hx:x∈τ:=hp.symm.subset (IT ..);obtain⟨t1,t2,rfl⟩:=List.append_of_mem hx;have hp':(t1++t2).Perm σ:=by
   have h1:(x::(t1++t2)).Perm (x::σ):=(List.perm_middle.symm).trans hp;exact h1.cons_inv
  have hf:=CY.front t1 (λy hy=>?_) hr
  .cases hf with
   |cons h1 h2=>
    refine .cons h1 (CY.any σ (t1++t2) hp' (λi j hij hji=>hc i j ?_ ?_) h2)
    .grind
    .exact hji.trans (ajE ..)
  grind
end Trace
theorem Dk:∀{l:η} {i j:Nat},l.Nodup->Ms l i j->Ms l j i->False
 |[],_,_,_,h,_=>by cases h
 |x::l,i,j,hn,h1,h2=>by
  obtain⟨hx,hn⟩:=List.nodup_cons.1 hn;cases h1 with
  |cons _ h1=>
   cases h2 with
   |cons _ h2=>exact Dk hn h1 h2
   |cons_cons _ h2=>exact hx (h1.subset (by simp))
  |cons_cons _ h1=>
   grind
theorem IH:∀{l:η} {i j k:Nat},l.Nodup->Ms l i j->Ms l j k->Ms l i k
 |[],_,_,_,_,h,_=>by cases h
 |x::l,i,j,k,hn,h1,h2=>by
  obtain⟨hx,hn⟩:=List.nodup_cons.1 hn;cases h1 with
  |cons _ h1=>
   cases h2 with
   |cons _ h2=>exact .cons _ (IH hn h1 h2)
   |cons_cons _ h2=>exact absurd (h1.subset (by simp)) hx
  |cons_cons _ h1=>
   grind
theorem Pg:∀{l1 l2:η},l1.Nodup->(∀i∈l1,i∈l2)->l1.length<=l2.length
 |[],_,_,_=>ajv _
 |x::l,l2,hn,hs=>by
  obtain⟨hx,hn⟩:=List.nodup_cons.1 hn;have h1:=Pg (l2:=l2.erase x) hn λi hi=>(List.mem_erase_of_ne (λe=>hx (by subst e;exact hi))).2 (hs i (IN _ hi))
  grind
section Orders
variable {ops:Array Oper}
theorem RB (hlt:∀i o e,ops[i]?=some o->e∈o.after.toList->Region.binds .any e=true->e.on<i) :
  ∀(fuel t:Nat) (listed:Array Bool) (acc:η),fuel+acc.length=ops.size->listed.size=ops.size->acc.Nodup ->
   (∀i,i<ops.size->(listed.getD i true=true↔i∈acc))->(∀i∈acc,i<ops.size) ->
   (∀i o e,ops[i]?=some o->i∈acc->e∈o.after.toList->Region.binds .any e=true->Ms acc.reverse e.on i) ->
   ∃l,Region.linearise.go .any ops fuel t listed acc=l/\l.length=ops.size/\l.Nodup/\(∀i∈l,i<ops.size) /\
    (∀i o e,ops[i]?=some o->i∈l->e∈o.after.toList->Region.binds .any e=true->Ms l e.on i)
 |0,t,listed,acc,hl,hs,hn,hm,hb,hr=>⟨acc.reverse,rfl,by simp;omega,by simpa[List.Nodup,List.pairwise_reverse,ne_comm] using hn,by simpa using hb,λi o e h1 h2 h3 h4=>hr i o e h1 (by simpa using h2) h3 h4⟩
 |fuel+1,t,listed,acc,hl,hs,hn,hm,hb,hr=>by
  unfold Region.linearise.go;generalize hrs:((List.range ops.size).filter λi=>!listed.getD i true&&((ops[i]?).map (·.after.all λe=>!Region.binds .any e||listed.getD e.on false)).getD false)=rs
  have hmem:∀i,i∈rs↔i<ops.size/\i∉acc/\∃o,ops[i]?=some o/\∀e∈o.after.toList,Region.binds .any e=true->e.on∈acc:=by
   intro i;subst hrs;rw[akO,akW];refine and_congr_right λhi=>?_;have ho:ops[i]?=some ops[i]:=by simp[hi]
   rw[ho];have h1:(!listed.getD i true)=true↔i∉acc:=by
    rw[<-hm i hi];cases listed.getD i true<;>simp
   rw[aag,h1];refine and_congr_right λ_=>?_;simp only[ais,akG,aai,exists_eq_left',Array.all_eq_true',ajc,ajr,ak2]
   grind
  have hne:rs≠[]:=by
   have hex:∃i,i<ops.size/\i∉acc:=by
    by_cases hc:∃i,i<ops.size/\i∉acc
    .exact hc
    .exfalso;have:=Pg aiP (l2:=acc) λi hi=>by
      by_cases hia:i∈acc
      .exact hia
      .exact absurd ⟨i,List.mem_range.1 hi,hia⟩ hc
     simp at this;omega
   obtain⟨i,hi⟩:=hex;have hmin:∀n i,i<=n->i<ops.size/\i∉acc->∃k,k<ops.size/\k∉acc/\∀m,m<k->m∈acc:=by
    intro n
    induction n with
    |zero=>
     grind
    |succ n ih=>
     intro i h0 hi;by_cases hc:∃m,m<=n/\m<i/\m∉acc
     .obtain⟨m,h1,h2,h3⟩:=hc;exact ih m h1 ⟨by omega,h3⟩
     grind
   obtain⟨k,h1,h2,h3⟩:=hmin i i (aae _) hi;have:k∈rs:=(hmem k).2 ⟨h1,h2,ops[k],by simp[h1],λe he hbd=>h3 _ (hlt k _ e (by simp[h1]) he hbd)⟩;intro e;rw[e] at this;cases this
  have hlen:0<rs.length:=List.length_pos_iff.2 hne;have hget:rs[t%rs.length]?=some (rs[t%rs.length]'(akE _ hlen)):=aah _;simp only[hget];have hi:=(hmem _).1 (aiO (akE t hlen));generalize rs[t%rs.length]'(akE _ hlen)=i at hi;obtain⟨h1,h2,o,ho,h3⟩:=hi;refine RB hlt fuel _ _ (i::acc) (by simp;omega) (by simp[hs]) (List.nodup_cons.2 ⟨h2,hn⟩) (λj hj=>?_) (λj hj=>?_) (λj o' e hj hjm he hbd=>?_)
  .by_cases hij:i=j
   .subst hij;simp[ahH,ajL,hs,hj]
   .rw[aio];have:(listed.setIfInBounds i true).getD j true=listed.getD j true:=by
     simp[ahH,ajL,hij]
    grind
  .grind
  .rw[List.reverse_cons]
   grind
theorem Gw (hlt:∀i o e,ops[i]?=some o->e∈o.after.toList->Region.binds .any e=true->e.on<i)(t:Nat) :
  (Region.linearise .any ops t).Nodup/\(Region.linearise .any ops t).Perm (List.range ops.size) /\
   (∀i o e,ops[i]?=some o->e∈o.after.toList->Region.binds .any e=true->Ms (Region.linearise .any ops t) e.on i):=by
 obtain⟨l,e,hl,hn,hb,hr⟩:=RB hlt ops.size t (Array.replicate ops.size false) [] (by simp) (by simp) List.nodup_nil
  (λi hi=>by simp[ahH,hi]) (by simp) (by simp)
 rw[Region.linearise,e];have hp:l.Perm (List.range ops.size):=(List.perm_ext_iff_of_nodup hn aiP).2 λi=>⟨λhi=>List.mem_range.2 (hb i hi),λhi=>by
  by_cases hc:i∈l
  .exact hc
  .have:=Pg (List.nodup_cons.2 ⟨hc,hn⟩) (l2:=List.range ops.size) λj hj=>by
    grind
   simp at this;omega⟩
 grind
end Orders
inductive Gx where
 |val (v:ξ)
 |lit (x:Nat×δ)
def Env.res (E:Env)(d:μ):Gx->Env
 |.val v=>E.put d v
 |.lit _=>E.del d
def fS.res (L:fS)(d:μ):Gx->fS
 |.val _=>L.del d
 |.lit x=>L.put d x
def nS (m:Option (ξ×ab)):Option (Gx×ab):=match m with
 |some (v,h)=>some (.val v,h)
 |none=>none
def ex (P:Program)(C:mR)(nm:Nat)(ops:Array Oper)(E:Env)(L:fS)(o:Oper):M Gx:=λh=>
 match o.op with
 |.pick c a b=>(match E.ev c with
  |some (.bool true)=>(match E.ev a with|some v=>some (.val v,h)|none=>none)
  |some (.bool false)=>(match E.ev b with|some v=>some (.val v,h)|none=>none)
  |_=>none)
 |.call c=>(match isBuiltin c with
  |true=>(match uL L c with
   |some (n,cs)=>nS ((Ar (HX ops o) E c (uM P (!B9 ops o) E c n cs)).exec h)
   |none=>(match B9 ops o with
    |true=>none
    |false=>nS ((Ar (HX ops o) E c (yZ P (some nm) E o)).exec h)))
  |false=>(match wb C c with
   |some t=>(match ug E t c with
    |some (x,vs)=>(match C.dy t x vs with
     |some ca=>(match ca.m h with|some (x,h')=>some (.val (ca.pk x),h')|none=>none)
     |none=>none)
    |none=>none)
   |none=>(match callee E c with
    |some (f,vs)=>(match C.st f vs with
     |some ca=>(match ca.m h with|some (x,h')=>some (.val (ca.pk x),h')|none=>none)
     |none=>none)
    |none=>none)))
 |.buildSlice _ _ _=>(match yo P ops E o with
  |some x=>some (.lit x,h)
  |none=>nS ((yZ P (some nm) E o).exec h))
 |_=>nS ((yZ P (some nm) E o).exec h)
def want (ops:Array Oper)(E:Env)(o:Oper):Option Bool:=
 match o.guard with
 |none=>some true
 |some (j,w)=>(match (ops[j]?).bind (·.dst) with
  |some t=>(match E t with
   |some (.bool b)=>some (b==w)
   |some (.tuple _)=>some false
   |_=>none)
  |none=>none)
def act (P:Program)(C:mR)(nm:Nat)(ops:Array Oper)(E:Env)(L:fS)(o:Oper):M Gx:=λh=>
 match want ops E o with
 |some true=>ex P C nm ops E L o h
 |some false=>some (.val undef,h)
 |none=>none
abbrev St:=Env×fS×ab
def A2 (E:Env)(o:Oper):θ:=
 match o.op with
 |.store _ x _=>(match E.ev x with|some (.pointer p)=>p|_=>none)
 |_=>none
def xw (E:Env)(o:Oper)(h:ab)(ks:η):Prop:=xo o=true->ks≠[]->∃a,A2 E o=some a/\okK h a ks=true
def Step (P:Program)(C:mR)(W:Wr)(nb:Nat)(ops:Array Oper)(Af:Nat->θ)(Ck:Nat->List θ)(Kk:Nat->η)(i:Nat)(s s':St):Prop:=
 ∃o r,ops[i]?=some o/\Mr W o.dst=true/\(want ops s.1 o=some true->lr s.1 o=Af i)/\act P C (nb+i) ops s.1 s.2.1 o s.2.2=some (r,s'.2.2) /\
  s'.1=s.1.res o.dst r/\s'.2.1=s.2.1.res o.dst r/\(za ops o=true->sameAt s.2.2 s'.2.2 (Ck i)=true)/\(want ops s.1 o=some true->xw s.1 o s.2.2 (Kk i))
theorem gq.of {h h':ab}{b:Addr}(e:h'.get b.block=h.get b.block):gq h h' b:=by
 unfold gq;rw[e];split
 .rename_i h1 h2;rw[h1] at h2;cases h2;exact⟨rfl,rfl,rfl,rfl,rfl⟩
 .rfl
theorem gq.cast {h h' g g':ab}{b:Addr}(hs:gq h h' b)(e:g.get b.block=h.get b.block)(e':g'.get b.block=h'.get b.block):gq g g' b:=by
 unfold gq at *
 rw[e,e'];exact hs
theorem sameAt_refl (h:ab):∀l,sameAt h h l=true
 |[]=>rfl
 |none::r=>sameAt_refl h r
 |some b::r=>by
  unfold sameAt;split
  .exact sameAt_refl h r
  .rename_i q _;exact absurd (gq.of rfl) q
theorem uR {h h':ab}:∀{l:List θ} {a:Addr},sameAt h h' l=true->some a∈l->gq h h' a
 |[],_,_,hm=>by cases hm
 |none::r,a,hs,hm=>by
  rcases List.mem_cons.1 hm with q|q
  .cases q
  .exact uR (l:=r) hs q
 |some b::r,a,hs,hm=>by
  unfold sameAt at hs;split at hs
  .rename_i q _;rcases List.mem_cons.1 hm with e|e
   .cases e;exact q
   .exact uR (l:=r) hs e
  .cases hs
theorem qk {E:Env}{t:Nat}{v:ξ}(h:E t=some v):E.set t v=E:=by
 funext j;unfold Env.set;cases hj:Nat.beq j t
 .rfl
 .have:=IS hj;subst this;exact h.symm
theorem xx {E:Env}{c:Operand}{b:Bool}(h:E.ev c=some (.bool b)):E.sY c b=E:=by
 unfold Env.sY;split
 .exact qk h
 .rfl
theorem Gy {R:Type}{r:R×ab}{K:ξ->M R}:∀{A:Act} {h:ab},A.run K h=some r↔∃v h',A.exec h=some (v,h')/\K v h'=some r
 |.val v,h=>by
  simp only[Act.run,Act.exec,aai,aiJ]
  grind
 |.none,h=>by simp[Act.run,Act.exec,AS]
 |.ask α m k,h=>by
  simp only[Act.run,Act.exec,sh];cases hm:m h with
  |none=>simp
  |some x=>exact Gy (A:=k x.1) (h:=x.2)
theorem Ni {α:Type}{as:List θ}{m:M α}{h:ab}{x:α×ab}(hx:oo as m h=some x):m h=some x/\sameAt h x.2 as=true:=by
 grind [oo]
theorem Gz {α:Type}{as:List θ}{m:M α}{h:ab}{x:α×ab}(hx:wrapM as m h=some x):m h=some x/\sameAt h x.2 as=true:=by
 unfold wrapM at hx;split at hx
 .exact⟨hx,rfl⟩
 .exact Ni hx
theorem Ph {as:List θ}{A:Act}{h:ab}{x:ξ×ab}(hx:(rL as A).exec h=some x) :
  A.exec h=some x/\(∀α m (v:α->ξ),A=.ask α m (λy=>.val (v y))->sameAt h x.2 as=true):=by
 unfold rL at hx;split at hx
 .split at hx
  .exact⟨hx,λ_ _ _ _=>rfl⟩
  .simp only[Act.exec] at hx⊢;split at hx
   .rename_i m k _ _ _ y h2 hc;obtain⟨h1,h2⟩:=Ni hc;rw[h1];refine⟨hx,λα' m' v e=>?_⟩;cases e;simp only[Act.exec] at hx;cases hx;exact h2
   .cases hx
 grind
theorem Bg {b:Bool}(h:A9 b=.sil):False:=by cases b<;>cases h
theorem Ab {b:Bool}(h:A9 b=.ro):False:=by cases b<;>cases h
theorem uS {b:Bool}(h:A9 b=.mro):False:=by cases b<;>cases h
theorem um {b:Bool}(h:A9 b=.alloc):False:=by cases b<;>cases h
theorem xy {b:Bool}(h:A9 b=.mka):False:=by cases b<;>cases h
theorem Pj {b:Bool}(h:A9 b=.add):b=false:=by cases b<;>first|rfl|cases h
theorem Dl {h:ab}{b:Bool}{E:Env}{c:Call}{A:Act}{r:Gx×ab}(e:nS ((Ar b E c A).exec h)=some r):Ar b E c A=A:=by
 cases q:(Ar b E c A).exec h with
 |none=>rw[q] at e;cases e
 |some v=>exact Db q
theorem Nj {E:Env}{c:Call}{n:Nat}{cs:δ}(b:Bool):(∃α m,∃v:α->ξ,uM P b E c n cs=.ask α m (λy=>.val (v y)))\/uM P b E c n cs=.none:=by
 unfold uM
 repeat' (first|exact .inr rfl|exact .inl ⟨_,_,_,rfl⟩|split)
theorem Tt {R:Type}{C:mR}{W:Wr}{nm:Nat}{cks:List θ}{ks:η}{ops:Array Oper}{E:Env}{L:fS}{o:Oper}{K:Env->fS->M R}{h:ab}{q:R×ab}
  (hx:wL P C W (some nm) cks ks ops E L o K h=some q):Mr W o.dst=true/\∃r h',ex P C nm ops E L o h=some (r,h') /\
   (za ops o=true->sameAt h h' cks=true)/\xw E o h ks/\K (E.res o.dst r) (L.res o.dst r) h'=some q:=by
 have gen:∀A:Act,(rL cks A).run (λv=>K (E.put o.dst v) (L.del o.dst)) h=some q->∃r h',nS (A.exec h)=some (r,h') /\
   ((∃α m,∃v:α->ξ,A=.ask α m (λy=>.val (v y)))->sameAt h h' cks=true)/\K (E.res o.dst r) (L.res o.dst r) h'=some q:=by
  intro A hA;obtain⟨v,h',h1,h2⟩:=Gy.1 hA;obtain⟨h3,h4⟩:=Ph h1;exact⟨.val v,h',by rw[h3];rfl,λ⟨α,m,v,e⟩=>h4 α m v e,h2⟩
 generalize hm:wL P C W (some nm) cks ks ops E L o K=m at hx;unfold wL at hm;cases hW:Mr W o.dst
 .rw[hW] at hm;subst hm;simp[AS] at hx
 rw[hW] at hm;refine⟨rfl,?_⟩;have noSt:xo o=false->xw E o h ks:=λhs e=>by rw[hs] at e;cases e
 unfold ex za;cases hop:o.op<;>simp only[hop] at hm⊢
 case pick c a b=>
  split at hm
  .rename_i t ht;cases t
   .simp only[wc,aeZ,afy,xx ht] at hm;split at hm
    .rename_i v hv;subst hm;exact⟨.val v,h,by simp[ht,hv],by simp,noSt (by simp[xo,hop]),hx⟩
    .subst hm;simp[AS] at hx
   .simp only[wc,ai8,xx ht] at hm;split at hm
    .rename_i v hv;subst hm;exact⟨.val v,h,by simp[ht,hv],by simp,noSt (by simp[xo,hop]),hx⟩
    .subst hm;simp[AS] at hx
  .subst hm;simp[AS] at hx
 case call c=>
  cases hb:isBuiltin c<;>simp only[hb] at hm⊢
  .split at hm
   .rename_i t hds;split at hm
    .rename_i xv vs hcl;split at hm
     .rename_i ca hca;subst hm;simp only[sh] at hx;split at hx
      .rename_i x h' hm;obtain⟨h3,h4⟩:=Gz hm;exact⟨.val (ca.pk x),h',by simp[hds,hcl,hca,h3],λ_=>h4,noSt (by simp[xo,hop]),hx⟩
      .cases hx
     .subst hm;simp[AS] at hx
    .subst hm;simp[AS] at hx
   .rename_i hds;split at hm
    .rename_i f vs hcl;split at hm
     .rename_i ca hca;subst hm;simp only[sh] at hx;split at hx
      .rename_i x h' hm;obtain⟨h3,h4⟩:=Gz hm;exact⟨.val (ca.pk x),h',by simp[hds,hcl,hca,h3],λ_=>h4,noSt (by simp[xo,hop]),hx⟩
      .cases hx
     .subst hm;simp[AS] at hx
    .subst hm;simp[AS] at hx
  .split at hm
   .rename_i n cs hl;subst hm;rw[O0] at hx;obtain⟨r,h',h1,h2,h3⟩:=gen _ hx;refine⟨r,h',by simpa[hl] using h1,λ_=>h2 ?_,noSt (by simp[xo,hop]),h3⟩;rcases Nj (P:=P) (E:=E) (c:=c) (n:=n) (cs:=cs) ((some nm).isSome&&!B9 ops o) with h4|h4
    .rw[Dl h1];exact h4
    .rw[Dl h1,h4] at h1;simp[Act.exec,nS] at h1
   .rename_i hl;cases hlx:B9 ops o<;>rw[hlx] at hm
    .subst hm
     grind [xo]
    .subst hm;simp[AS] at hx
 case buildSlice t l ps=>
  split at hm
  .rename_i x hl;subst hm;exact⟨.lit x,h,by simp[hl],by simp,noSt (by simp[xo,hop]),hx⟩
  .rename_i hl;subst hm
   grind [xo]
 case store t x y=>
  have fin:(rL cks (yZ P (some nm) E o)).run (λv=>K (E.put o.dst v) (L.del o.dst)) h=some q->xw E o h ks->∃r h',nS ((yZ P (some nm) E o).exec h)=some (r,h') /\
    (True->sameAt h h' cks=true)/\xw E o h ks/\K (E.res o.dst r) (L.res o.dst r) h'=some q:=by
   intro hx hs;obtain⟨r,h',h1,h2,h3⟩:=gen _ hx;refine⟨r,h',h1,λ_=>h2 ?_,hs,h3⟩;unfold yZ at h1⊢;simp only[hop] at h1⊢;split at h1
   .unfold y9 at h1⊢;split at h1
    .simp only at h1;split at h1
     .grind
     .simp[Act.exec,nS] at h1
    .simp[Act.exec,nS] at h1
   .simp[Act.exec,nS] at h1
  split at hm
  .subst hm;obtain⟨r,h',h1,h2,h3,h4⟩:=fin hx (λ_ e=>absurd rfl e);exact⟨r,h',h1,λ_=>h2 trivial,h3,h4⟩
  .split at hm
   .rename_i a ha;subst hm;have hok:xw E o h ks:=by
     intro _ _;refine⟨a,by simp only[A2,hop,ha],?_⟩;cases hA:rL cks (yZ P (some nm) E o) with
     |val v=>
      exfalso;have h1:∀v,yZ P (some nm) E o≠.val v:=by
       intro v e;unfold yZ at e;simp only[hop] at e
       grind [y9]
      cases hB:yZ P (some nm) E o with
      |val v'=>exact h1 v' hB
      |none=>rw[hB] at hA;simp[rL] at hA
      |ask α m k=>rw[hB] at hA;cases cks<;>simp[rL] at hA
     |none=>rw[hA] at hx;simp[MH,Act.run,AS] at hx
     |ask α m k=>
      rw[hA] at hx;simp only[MH,Act.run,sh] at hx
      grind [IG]
    obtain⟨r,h',h1,h2,h3,h4⟩:=fin (Gv hx) hok;exact⟨r,h',h1,λ_=>h2 trivial,h3,h4⟩
   .subst hm;simp[AS] at hx
 all_goals
  subst hm;obtain⟨r,h',h1,_,h3⟩:=gen _ hx;exact⟨r,h',h1,by simp,noSt (by simp[xo,hop]),h3⟩
theorem Dm {R:Type}{C:mR}{W:Wr}{nm:Nat}{ops:Array Oper}{E:Env}{L:fS}{o:Oper}{K:Env->fS->M R}{h h':ab}{r:Gx}{q:R×ab}
  (hW:Mr W o.dst=true) (he:ex P C nm ops E L o h=some (r,h')) (hx:K (E.res o.dst r) (L.res o.dst r) h'=some q) :
  wL P C W (some nm) [] [] ops E L o K h=some q:=by
 have gen:∀A:Act,nS (A.exec h)=some (r,h')->(rL [] A).run (λv=>K (E.put o.dst v) (L.del o.dst)) h=some q:=by
  intro A hA;have:rL [] A=A:=by cases A<;>rfl
  rw[this];unfold nS at hA;split at hA
  .rename_i v h2 hv;cases hA;exact Gy.2 ⟨v,_,hv,hx⟩
  .cases hA
 unfold wL;rw[hW];unfold ex at he;cases hop:o.op<;>simp only[hop] at he⊢
 case pick c a b=>
  split at he
  .rename_i ht;simp only[ht,wc,ai8,xx ht];split at he
   .rename_i v hv;cases he;simp only[hv];exact hx
   .cases he
  .rename_i ht;simp only[ht,wc,aeZ,afy,xx ht];split at he
   .rename_i v hv;cases he;simp only[hv];exact hx
   .cases he
  .cases he
 case call c=>
  cases hb:isBuiltin c<;>simp only[hb] at he⊢
  .split at he
   .rename_i t hds;simp only[hds];split at he
    .rename_i xv vs hcl;simp only[hcl];split at he
     .rename_i ca hca;split at he
      .rename_i x h2 hm;cases he;simp only[hca,sh,wrapM,hm];exact hx
      .cases he
     .cases he
    .cases he
   .rename_i hds;simp only[hds];split at he
    .rename_i f vs hcl;simp only[hcl];split at he
     .rename_i ca hca;split at he
      .rename_i x h2 hm;cases he;simp only[hca,sh,wrapM,hm];exact hx
      .cases he
     .cases he
    .cases he
  .split at he
   .rename_i n cs hl;simp only[hl,O0];exact gen _ he
   .rename_i hl;cases hlx:B9 ops o<;>simp only[hlx] at he⊢
    .simp only[hl];exact gen _ he
    .cases he
 case buildSlice t l ps=>
  split at he
  .rename_i x hl;cases he;simp only[hl];exact hx
  .rename_i hl;simp only[hl];exact gen _ he
 all_goals exact gen _ he
section Traces
variable {R:Type}{C:mR}{W:Wr}{nb:Nat}{ops:Array Oper}{K:Env->M R}{q:R×ab}
theorem Step.congr {Af Af':Nat->θ}{Ck Ck':Nat->List θ}{Kk Kk':Nat->η}{i:Nat}{s s':St}(h1:Af i=Af' i)(h2:Ck i=Ck' i)(h3:Kk i=Kk' i)
  (hs:Step P C W nb ops Af Ck Kk i s s'):Step P C W nb ops Af' Ck' Kk' i s s':=by
 obtain⟨o,r,a,b,c,d,e,f,g,k⟩:=hs;exact⟨o,r,a,b,λw=>h1▸c w,d,e,f,λw=>h2▸g w,λw=>h3▸k w⟩
theorem GA:∀(l:List (Nat×η)) (E:Env) (L:fS) (A:Wc) (h:ab),(l.map (·.1)).Nodup->iI P C W (some nb) ops l E L A K h=some q ->
  ∃(Af:Nat->θ) (Ck:Nat->List θ) (Kk:Nat->η) (E':Env) (L':fS) (h':ab),CY (Step P C W nb ops Af Ck Kk) (l.map (·.1)) (E,L,h) (E',L',h')/\K E' h'=some q /\
   ∀j cs,(j,cs)∈l->∀k∈cs,(Ms (l.map (·.1)) k j->Af k∈Ck j)/\(k∉l.map (·.1)->A k∈Ck j)/\Kk j=EF P ops (some nb) cs
 |[],E,L,A,h,_,hx=>⟨λ_=>none,λ_=>[],λ_=>[],E,L,h,.nil _,hx,by simp⟩
 |(i,c0)::rest,E,L,A,h,hn,hx=>by
  rw[adq,List.nodup_cons] at hn;obtain⟨hni,hn⟩:=hn;generalize hm:iI P C W (some nb) ops ((i,c0)::rest) E L A K=m at hx;unfold iI at hm;have fin:∀(o:Oper) (r:Gx) (A':Wc) (h2:ab),ops[i]?=some o->Mr W o.dst=true->(∀k,k≠i->A' k=A k)->(want ops E o=some true->lr E o=A' i) ->
    act P C (nb+i) ops E L o h=some (r,h2)->(za ops o=true->sameAt h h2 (c0.map A)=true)->(want ops E o=some true->xw E o h (EF P ops (some nb) c0))->iI P C W (some nb) ops rest (E.res o.dst r) (L.res o.dst r) A' K h2=some q ->
    ∃(Af:Nat->θ) (Ck:Nat->List θ) (Kk:Nat->η) (E':Env) (L':fS) (h':ab),CY (Step P C W nb ops Af Ck Kk) (i::rest.map (·.1)) (E,L,h) (E',L',h')/\K E' h'=some q /\
     ∀j cs,(j,cs)∈(i,c0)::rest->∀k∈cs,(Ms (i::rest.map (·.1)) k j->Af k∈Ck j)/\(k∉i::rest.map (·.1)->A k∈Ck j)/\Kk j=EF P ops (some nb) cs:=by
   intro o r A' h2 ho hW hA hrd hact hck hst hx2;obtain⟨Af,Ck,Kk,E',L',h',hrun,hK,hks⟩:=GA rest _ _ _ _ hn hx2;refine⟨λk=>if k=i then A' i else Af k,λk=>if k=i then c0.map A else Ck k,λk=>if k=i then EF P ops (some nb) c0 else Kk k,E',L',h',.cons ⟨o,r,ho,hW,?_,hact,rfl,rfl,?_,?_⟩ (CY.mono (λk hk s s' hs=>hs.congr ?_ ?_ ?_) hrun),hK,?_⟩
   .simpa using hrd
   .simpa using hck
   .simpa using hst
   rotate_left
   .rw[AT];rintro rfl;exact hni hk
   .rw[AT];rintro rfl;exact hni hk
   .rw[AT];rintro rfl;exact hni hk
   .intro j cs hj k hk;rcases List.mem_cons.1 hj with e|hj
    .grind
    .have hjm:j∈rest.map (·.1):=List.mem_map.2 ⟨(j,cs),hj,rfl⟩
     have hji:j≠i:=(by rintro rfl;exact hni hjm);obtain⟨h1,h2,h2b⟩:=hks j cs hj k hk;simp only[AT hji];refine⟨λhb=>?_,λhb=>?_,h2b⟩
     .cases hb with
      |cons _ hb=>
       grind
      |cons_cons _ hb=>rw[By rfl];exact h2 hni
     grind
  split at hm
  .subst hm;simp[AS] at hx
  .rename_i o ho;have run:want ops E o=some true->wL P C W (some (nb+i)) (c0.map A) (EF P ops (some nb) c0) ops E L o (λE' L'=>iI P C W (some nb) ops rest E' L' (λj=>cond (Nat.beq j i) (lr E o) (A j)) K) h=some q ->
     ∃(Af:Nat->θ) (Ck:Nat->List θ) (Kk:Nat->η) (E':Env) (L':fS) (h':ab),CY (Step P C W nb ops Af Ck Kk) (i::rest.map (·.1)) (E,L,h) (E',L',h')/\K E' h'=some q /\
      ∀j cs,(j,cs)∈(i,c0)::rest->∀k∈cs,(Ms (i::rest.map (·.1)) k j->Af k∈Ck j)/\(k∉i::rest.map (·.1)->A k∈Ck j)/\Kk j=EF P ops (some nb) cs:=by
    intro hw hx;obtain⟨hW,r,h2,he,hck,hst,hk⟩:=Tt hx;refine fin o r _ h2 ho hW ?_ ?_ (by simp only[act,hw];exact he) hck (λ_=>hst) hk
    .grind [absurd,Nat.eq_of_beq_eq_true]
    .intro _;simp
   have skip:want ops E o=some false->(match Mr W o.dst with|true=>iI P C W (some nb) ops rest (E.put o.dst undef) (L.del o.dst) A K|false=>AS) h=some q ->
     ∃(Af:Nat->θ) (Ck:Nat->List θ) (Kk:Nat->η) (E':Env) (L':fS) (h':ab),CY (Step P C W nb ops Af Ck Kk) (i::rest.map (·.1)) (E,L,h) (E',L',h')/\K E' h'=some q /\
      ∀j cs,(j,cs)∈(i,c0)::rest->∀k∈cs,(Ms (i::rest.map (·.1)) k j->Af k∈Ck j)/\(k∉i::rest.map (·.1)->A k∈Ck j)/\Kk j=EF P ops (some nb) cs:=by
    intro hw hx;cases hW:Mr W o.dst<;>rw[hW] at hx
    .simp[AS] at hx
    .exact fin o (.val undef) A h ho hW (λ_ _=>rfl) (by rw[hw];simp) (by simp only[act,hw]) (λ_=>sameAt_refl _ _) (λhw2=>by rw[hw] at hw2;cases hw2) hx
   split at hm
   .rename_i hg;subst hm;exact run (by simp only[want,hg]) hx
   .rename_i j w hg;split at hm
    .rename_i t ht;split at hm
     .rename_i b hb;have hwant:want ops E o=some (b==w):=(by simp only[want,hg,ht,hb]);cases w<;>cases b<;>simp only[wc,aeZ,afy,ai8,qk hb] at hm<;>subst hm
      .exact run hwant hx
      .exact skip hwant hx
      .exact skip hwant hx
      .exact run hwant hx
     .rename_i vs hb;subst hm;exact skip (by simp only[want,hg,ht,hb]) hx
     .subst hm;simp[AS] at hx
    .subst hm;simp[AS] at hx
theorem GC {Af:Nat->θ}{Ck:Nat->List θ}{Kk:Nat->η}:∀(l:η) (A:Wc) (s f:St),CY (Step P C W nb ops Af Ck Kk) l s f->K f.1 f.2.2=some q ->
  iI P C W (some nb) ops (l.map λi=>(i,[])) s.1 s.2.1 A K s.2.2=some q
 |[],A,s,f,hr,hK=>by cases hr;exact hK
 |i::l,A,(E,L,h),f,.cons (s1:=(E1,L1,h1)) ⟨o,r,ho,hW,_,hact,e1,e2,_⟩ hr,hK=>by
  simp only at e1 e2 hact;subst e1;subst e2;have ih:=λA=>GC l A _ _ hr hK;simp only[adq] at ih⊢;unfold iI;simp only[ho];unfold act at hact;unfold want at hact;cases hg:o.guard with
  |none=>
   simp only[hg] at hact;exact Dm hW hact (ih _)
  |some jw=>
   obtain⟨j,w⟩:=jw;simp only[hg] at hact⊢;cases ht:(ops[j]?).bind (·.dst) with
   |none=>simp[ht] at hact
   |some t=>
    simp only[ht] at hact⊢;split at hact
    .rename_i hwt;split at hwt
     .rename_i b hb;simp only[hb];cases w<;>cases b<;>simp at hwt
      .simp only[wc,aeZ,afy,qk hb];exact Dm hW hact (ih _)
      .simp only[wc,ai8,qk hb];exact Dm hW hact (ih _)
     .simp at hwt
     .cases hwt
    .rename_i hwt;cases hact;split at hwt
     .rename_i b hb;simp only[hb];cases w<;>cases b<;>simp at hwt
      .simp only[wc,ai8,qk hb,hW];exact ih _
      .simp only[wc,aeZ,afy,qk hb,hW];exact ih _
     .rename_i vs hb;simp only[hb,hW];exact ih _
     .cases hwt
    .cases hact
end Traces
section Congr
variable {E E':Env}{L L':fS}{ops:Array Oper}{o:Oper}{C:mR}
theorem uF:∀{xs:List Operand},(∀x∈xs,E.ev x=E'.ev x)->E.Rj xs=E'.Rj xs
 |[],_=>rfl
 |x::xs,h=>by
  simp only[Env.Rj];rw[h x (IT ..),uF λy hy=>h y (IN _ hy)]
theorem vK:∀{xs:List (Nat×Operand)},(∀x∈xs.map (·.2),E.ev x=E'.ev x)->partsOf E xs=partsOf E' xs
 |[],_=>rfl
 |(i,x)::xs,h=>by
  simp only[partsOf];rw[h x (by simp),vK λy hy=>h y (by simp at hy⊢;exact .inr hy)]
theorem xz {x:Option Operand}(h:∀y,x=some y->E.ev y=E'.ev y):EE E x=EE E' x:=by
 cases x with
 |none=>rfl
 |some y=>simp only[EE];rw[h y rfl]
theorem Tu {nm:μ}(h:∀x∈o.op.operands,E.ev x=E'.ev x):yZ P nm E o=yZ P nm E' o:=by
 unfold yZ;cases hop:o.op<;>simp only[hop] at h⊢
 case build t ps=>grind [vK,Op.operands]
 case buildSlice t l ps=>grind [vK,Op.operands]
 case makeFunc f a b=>
  rw[uF (xs:=a.toList) λx hx=>h x (by grind [Op.operands]),
   uF (xs:=b.toList) λx hx=>h x (by grind [Op.operands])]
 case makeMap t r=>grind [xz,Op.operands]
 case call c=>
  rw[uF (xs:=c.args.toList) λx hx=>h x (by grind [Op.operands,Call.operands])]
 case slice t x lo hi mx=>
  rw[h x (by simp[Op.operands]),xz (x:=lo) λy hy=>h y (by simp[Op.operands,hy]),
   xz (x:=hi) λy hy=>h y (by simp[Op.operands,hy]),xz (x:=mx) λy hy=>h y (by simp[Op.operands,hy])]
 all_goals simp[Op.operands] at h
 all_goals simp only[h]
theorem A3 {x:Operand}{t:Nat}(hx:x∈o.op.operands)(e:x=.tmp t):t∈je ops o:=by
 unfold je;refine adh _ (List.mem_filterMap.2 ⟨x,Array.mem_toList_iff.2 hx,?_⟩);subst e;rfl
theorem Cd (h:∀t∈je ops o,E t=E' t):∀x∈o.op.operands,E.ev x=E'.ev x:=by
 intro x hx;cases x<;>simp only[Env.ev];exact h _ (A3 hx rfl)
theorem uT (h:∀t∈je ops o,E t=E' t):want ops E o=want ops E' o:=by
 grind [want,je,List.mem_append_right]
theorem Ce (h:∀t∈je ops o,E t=E' t):lr E o=lr E' o:=by
 have h:=Cd h;unfold lr;cases hop:o.op<;>simp only[hop,Op.operands] at h⊢
 all_goals first|rfl|(rw[h _ (by simp)])
theorem Tv {c:Call}(hop:o.op=.call c)(h:∀t∈je ops o,L t=L' t):uL L c=uL L' c:=by
 unfold uL;split
 .rename_i x t hc ha;refine h t (A3 (x:=.tmp t) ?_ rfl);rw[hop];simp only[Op.operands,Call.operands,akH];exact .inr (Array.mem_toList_iff.1 (by rw[ha];simp))
 .rfl
theorem II {nm:Nat}(h:∀t∈je ops o,E t=E' t)(hL:∀t∈je ops o,L t=L' t):act P C nm ops E L o=act P C nm ops E' L' o:=by
 funext hp;unfold act;rw[uT h];have he:ex P C nm ops E L o hp=ex P C nm ops E' L' o hp:=by
  have ha:=Tu (P:=P) (nm:=some nm) (Cd h);have hv:=Cd h;unfold ex;cases hop:o.op<;>simp only
  case pick c a b=>
   grind [Op.operands]
  case call c=>
   rw[ha,Tv hop hL];rw[hop] at hv;have hcw:∀A,Ar (HX ops o) E c A=Ar (HX ops o) E' c A:=λA=>by
    unfold Ar;cases hca:c.args.toList with
    |nil=>rfl
    |cons s ss=>simp only[hv s (by simp only[Op.operands,Call.operands,akH];exact .inr (Array.mem_toList_iff.1 (by rw[hca];simp)))]
   simp only[hcw];have h1:callee E c=callee E' c:=by
    unfold callee;rw[uF (xs:=c.args.toList) λx hx=>hv x (by grind [Op.operands,Call.operands])]
    grind [Op.operands,Call.operands]
   have h3:∀t,wb C c=some t->ug E t c=ug E' t c:=by
    intro t ht;unfold ug;rw[uF (xs:=c.args.toList) λx hx=>hv x (by grind [Op.operands,Call.operands])];have hcal:c.callee=.value (.tmp t):=by
     grind [wb]
    have:E t=E' t:=hv (.tmp t) (by simp[Op.operands,Call.operands,hcal]);rw[this]
   have h4:(match wb C c with
     |some t=>(match ug E t c with
      |some (x,vs)=>(match C.dy t x vs with
       |some ca=>(match ca.m hp with|some (x,h')=>some (Gx.val (ca.pk x),h')|none=>none)
       |none=>none)
      |none=>none)
     |none=>(match callee E c with
      |some (f,vs)=>(match C.st f vs with
       |some ca=>(match ca.m hp with|some (x,h')=>some (.val (ca.pk x),h')|none=>none)
       |none=>none)
      |none=>none))=(match wb C c with
     |some t=>(match ug E' t c with
      |some (x,vs)=>(match C.dy t x vs with
       |some ca=>(match ca.m hp with|some (x,h')=>some (Gx.val (ca.pk x),h')|none=>none)
       |none=>none)
      |none=>none)
     |none=>(match callee E' c with
      |some (f,vs)=>(match C.st f vs with
       |some ca=>(match ca.m hp with|some (x,h')=>some (.val (ca.pk x),h')|none=>none)
       |none=>none)
      |none=>none)):=by
    grind
   have h2:∀b n cs,uM P b E c n cs=uM P b E' c n cs:=by
    intro b n cs;unfold uM;split
    .rename_i t t' s u e1 e2;rw[hv s (by simp only[Op.operands,Call.operands,akH];exact .inr (Array.mem_toList_iff.1 (by rw[e2];simp)))]
    .rfl
   simp only[h4,h2]
  case buildSlice t l ps=>
   rw[ha];have:yo P ops E o=yo P ops E' o:=by
    unfold yo;rw[hop] at hv⊢;have hp:=vK (xs:=ps.toList) λx hx=>hv x (by simpa[Op.operands] using hx);cases o.dst
    .rfl
    .simp only[hp]
   rw[this]
  all_goals rw[ha]
 rw[he]
end Congr
section Classes
variable {E E':Env}{L L':fS}{ops:Array Oper}{o:Oper}{C:mR}
def Pm {α:Type}(m:M α):Prop:=∀h x h',m h=some (x,h')->h'=h/\∀h2,m h2=some (x,h2)
def Pa (A:Act):Prop:=∀h x h',A.exec h=some (x,h')->h'=h/\∀h2,A.exec h2=some (x,h2)
theorem gq.none {h h':ab}{b:Addr}(hs:gq h h' b)(hn:h.get b.block≠Option.none):(∃c g base e c',h.get b.block=some (.cells c g base e)/\h'.get b.block=some (.cells c' g base e)/\c'.length=c.length/\c'.drop b.off=c.drop b.off)\/h'.get b.block=h.get b.block:=by
 unfold gq at hs;split at hs
 .rename_i c g base e c' g' base' e' h1 h2;obtain⟨rfl,rfl,rfl,q1,q2⟩:=hs;exact .inl ⟨c,_,_,_,c',h1,h2,q1,q2⟩
 .exact .inr hs
theorem gq.cell {h h':ab}{a b:Addr}(hs:gq h h' b)(hb:a.block=b.block)(ho:b.off<=a.off):h'.cell a=h.cell a:=by
 unfold ab.cell;rw[hb];cases hq:h.get b.block with
 |none=>
  unfold gq at hs;rw[hq] at hs;simp only at hs;rw[hs]
 |some o=>
  rcases hs.none (by rw[hq];simp) with⟨c,g,base,e,c',h1,h2,h3,h4⟩|h1
  .rw[h2];rw[hq] at h1;cases h1;simp only;have:∀l:δ,l[a.off]?=(l.drop b.off)[a.off-b.off]?:=λl=>by
    rw[aeY];congr 1;omega
   rw[this c',this c,h4]
  .rw[h1,hq]
theorem gq.cells {h h':ab}{b:Addr}(hs:gq h h' b){n:Nat}:aX h' (some b) n=aX h (some b) n:=by
 unfold aX;simp only;cases hq:h.get b.block with
 |none=>
  unfold gq at hs;rw[hq] at hs;simp only at hs;rw[hs]
 |some o=>
  rcases hs.none (by rw[hq];simp) with⟨c,g,base,e,c',h1,h2,h3,h4⟩|h1
  .rw[h2];rw[hq] at h1;cases h1;simp only[h3,h4]
  .rw[h1,hq]
theorem gq.elem {h h':ab}{b:Addr}(hs:gq h h' b){s:Sl}(ha:s.a=some b){e:κ}:jd h' s e=jd h s e:=by
 unfold jd;rw[ha];simp only;cases hq:h.get b.block with
 |none=>
  unfold gq at hs;rw[hq] at hs;simp only at hs;rw[hs]
 |some o=>
  rcases hs.none (by rw[hq];simp) with⟨c,g,base,e,c',h1,h2,h3,h4⟩|h1
  .rw[h2];rw[hq] at h1;cases h1;rfl
  .rw[h1,hq]
def Rm (a:θ){α:Type}(m:M α):Prop:=∀h x h',m h=some (x,h')->h'=h /\
 ((∀h2,m h2=some (x,h2))\/∃b,a=some b/\h.get b.block≠none/\∀h2,gq h h2 b->m h2=some (x,h2))
def Ra (a:θ)(A:Act):Prop:=∀h x h',A.exec h=some (x,h')->h'=h /\
 ((∀h2,A.exec h2=some (x,h2))\/∃b,a=some b/\h.get b.block≠none/\∀h2,gq h h2 b->A.exec h2=some (x,h2))
theorem Pa.val {v:ξ}:Pa (.val v):=λh x h' e=>by cases e;exact⟨rfl,λ_=>rfl⟩
theorem Pa.none:Pa .none:=λh x h' e=>by cases e
theorem Pa.ask {α:Type}{m:M α}{k:α->Act}(hm:Pm m)(hk:∀x,Pa (k x)):Pa (.ask α m k):=λh x h' e=>by
 simp only[Act.exec] at e;split at e
 .rename_i y h1 he;obtain⟨rfl,h2⟩:=hm _ _ _ he;obtain⟨rfl,h3⟩:=hk _ _ _ _ e;exact⟨rfl,λh2'=>by simp only[Act.exec,h2 h2'];exact h3 h2'⟩
 .cases e
theorem Ra.of {a:θ}{A:Act}(h:Pa A):Ra a A:=λh0 x h' e=>⟨(h _ _ _ e).1,.inl (h _ _ _ e).2⟩
theorem Ra.ask {a:θ}{α:Type}{m:M α}{k:α->Act}(hm:Rm a m)(hk:∀x,Ra a (k x)):Ra a (.ask α m k):=λh x h' e=>by
 simp only[Act.exec] at e;split at e
 .rename_i y h1 he;obtain⟨rfl,h2⟩:=hm _ _ _ he;obtain⟨rfl,h3⟩:=hk _ _ _ _ e;refine⟨rfl,?_⟩
  grind [Act.exec]
 .cases e
theorem Pm.ou (b:Bool):Pm (ou b):=λh x h' e=>by
 cases b<;>simp only[Ago.ou] at e
 .cases e
 .cases e;exact⟨rfl,λ_=>rfl⟩
theorem Pm.nn (p:θ):Pm (nn p):=λh x h' e=>by
 cases p<;>simp only[Ago.nn] at e
 .cases e
 .cases e;exact⟨rfl,λ_=>rfl⟩
theorem Pm.eqP (a b:θ):Pm (eqP a b):=λh x h' e=>by
 obtain⟨rfl,rfl,x,y,rfl,rfl,he⟩:=MQ e;exact⟨rfl,λh2=>by unfold Ago.eqP;simp only[he]⟩
theorem Pm.Ee (p:θ)(n:Nat):Pm (Ee p n):=λh x h' e=>by
 unfold Ago.Ee at e⊢
 grind
theorem Pm.nnF (x:ξ):Pm (nnF x):=λh y h' e=>by
 unfold Ago.nnF at e;split at e
 .cases e;exact⟨rfl,λ_=>rfl⟩
 .cases e
theorem Pm.kJ (v:ξ):Pm (kJ v):=λh x h' e=>by
 unfold Ago.kJ at e;split at e
 .cases e;exact⟨rfl,λ_=>rfl⟩
 .cases e;exact⟨rfl,λ_=>rfl⟩
 .cases e
theorem Pm.kY (x y:ζ):Pm (kY x y):=λh z h' e=>by
 unfold Ago.kY at e⊢;grind
theorem Pm.jy (s:ζ)(i:Int):Pm (jy s i):=λh z h' e=>by
 unfold Ago.jy at e⊢;split at e
 .grind
 .cases e
theorem Pm.HR (l:eD)(n:Nat)(cs:δ)(i:Int):Pm (HR l n cs i):=λh z h' e=>by
 unfold Ago.HR at e⊢;split at e
 .rename_i hb;split at e
  .rename_i hc;split at e
   .grind
   .cases e
  .cases e
 .cases e
theorem Pm.an (s:Sl)(i:Int)(z:Nat):Pm (an s i z):=λh x h' e=>by
 unfold Ago.an at e⊢;split at e
 .grind
 .cases e
theorem Pm.hY (s:ζ)(l u:Int):Pm (hY s l u):=λh z h' e=>by
 unfold Ago.hY at e⊢;grind
theorem Pm.nr (a:Addr)(n:Nat)(l u:Int)(z:Nat):Pm (nr a n l u z):=λh x h' e=>by
 unfold Ago.nr at e⊢;grind
theorem Pm.HU (o:μ):Pm (HU o):=λh z h' e=>by
 unfold Ago.HU at e⊢;split at e
 .cases e;exact⟨rfl,λ_=>rfl⟩
 .cases e
theorem Pk (op:BinOp)(a b:Nat):Pa (MD op a b):=by
 unfold MD
 grind [Pa.val,Pa.none,Pa.ask,Pm.HU,ahW,ahX,MC,ahY]
theorem Pl (op:BinOp)(k:IntKind)(a:Int)(k':IntKind)(b:Int):Pa (My op k a k' b):=by
 unfold My
 grind [Pa.val,Pa.none,Pa.ask,Pm.ou]
theorem Pn (op:BinOp)(a b:ζ):Pa (Mz op a b):=by
 unfold Mz
 grind [Pa.val,Pa.none,Pa.ask,Pm.kY]
theorem GD (op:BinOp)(b:Bool):Pa (ym op b):=by
 unfold ym;split<;>first|exact Pa.val|exact Pa.none
theorem Tw (op:BinOp)(t:κ)(x y:ξ):Pa (Wa P op t x y):=by
 unfold Wa;split
 .unfold Fe
  grind [Pa.val,Pa.none,Pa.ask,Pm.kJ]
 .unfold V9
  grind [Pl,Pn,Pk,Pa.val,Pa.none,GD]
theorem WD (op:UnOp)(x:ξ):Pa (aun op x):=by
 unfold aun
 repeat' (first|exact Pa.val|exact Pa.none|split)
theorem Po {v:ξ}{k:Addr->Act}(h:∀a,Pa (k a)):Pa (y9 v k):=by
 unfold y9;split
 .exact h _
 .exact Pa.none
theorem Rm.ak (l:eD)(a b:Addr)(hb:a.block=b.block)(ho:b.off<=a.off):Rm (some b) (ak l a):=λh x h' e=>by
 unfold Ago.ak at e⊢;split at e
 .rename_i v hv;split at e
  .rename_i y hy;cases e;refine⟨rfl,.inr ⟨b,rfl,?_,λh2 e2=>?_⟩⟩
   .grind [ab.cell]
   rw[<-gq.cell e2 hb ho] at hv;rw[hv];simp only[hy]
  .cases e
 .cases e
theorem Rm.aE (ls:List eD)(a:Addr):Rm (some a) (aE ls a):=λh x h' e=>by
 unfold Ago.aE at e⊢;split at e
 .rename_i vs hv;split at e
  .rename_i y hy;cases e;refine⟨rfl,.inr ⟨a,rfl,?_,λh2 e2=>?_⟩⟩
   .intro hn;simp[aX,hn] at hv
   rw[<-gq.cells e2] at hv;rw[hv];simp only[hy]
  .cases e
 .cases e
theorem Nk (a:Addr):∀(ls:List eD) (i:Nat) (acc:δ),Ra (some a) (AY a ls i acc)
 |[],i,acc=>Ra.of Pa.val
 |l::ls,i,acc=>Ra.ask (Rm.ak l _ a rfl (ajO _ _)) λx=>Nk a ls _ _
theorem afj (t:κ)(a:Addr):Ra (some a) (HS P t a):=by
 unfold HS
 repeat' (first|exact Ra.of Pa.none|exact Nk _ _ _ _|exact Ra.ask (Rm.ak _ _ _ rfl (aae _)) λ_=>Ra.of Pa.val|exact Ra.ask (Rm.aE _ _) λ_=>Ra.of Pa.val|split)
theorem Rm.jT (s:Sl)(lo hi:Int)(e:κ)(z:Nat):Rm s.a (jT s lo hi e z):=λh x h' he=>by
 unfold Ago.jT at he⊢;split at he
 .rename_i hc;cases he;refine⟨rfl,?_⟩;obtain⟨h1,h2,h3,h4⟩:=hc;unfold jd at h4;split at h4
  .rename_i ha;refine .inl λh2'=>?_;rw[By]
   grind [jd]
  .rename_i a ha;refine .inr ⟨a,ha,?_,λh2' e2=>?_⟩
   .intro hn;rw[hn] at h4;cases h4
   .rw[By];have h6:=e2.elem ha (e:=e);unfold jd at h6
    grind [jd]
 .cases he
theorem Rm.strOf (s:Sl):Rm s.a (strOf s):=λh x h' he=>by
 unfold Ago.strOf at he⊢;split at he
 .rename_i cs hc;split at he
  .rename_i l hl;cases he;refine⟨rfl,?_⟩;unfold aX at hc;split at hc
   .rename_i ha;refine .inl λh2=>?_;have:aX h2 s.a s.len=some cs:=(by unfold aX;simp only[ha];exact hc);simp only[this,hl]
   .rename_i a ha;refine .inr ⟨a,ha,?_,λh2 e2=>?_⟩
    .intro hn;rw[hn] at hc;cases hc
    .have:aX h2 s.a s.len=some cs:=(by rw[ha,gq.cells e2];unfold aX;exact hc);simp only[this,hl]
  .cases he
 .cases he
theorem RC {nm:μ}(hc:cls P ops o=.sil)(hn:∀t l ps,o.op≠.buildSlice t l ps):Pa (yZ P nm E o):=by
 unfold cls at hc;unfold yZ;cases hop:o.op<;>simp only[hop] at hc hn⊢<;>try (first|cases hc|done)
 case binOp=>repeat' (first|exact Tw _ _ _ _|exact Pa.none|exact Pa.ask (Pm.eqP _ _) λ_=>GD _ _|split)
 case unOp=>grind [WD,Pa.none]
 case nilCheck=>grind [Pa.ask,Pm.nn,Pa.val,Pm.nnF,Pa.none]
 case fieldAddr=>repeat' (first|exact Po λ_=>Pa.val|exact Pa.none|split)
 case indexAddr=>grind [Pa.ask,Pm.an,Pa.val,Pm.ou,Pa.none]
 case index=>grind [Pa.ask,Pm.jy,Pa.val,Pm.HR,Pa.none]
 case build=>
  split
  .grind [Jf,Pa.val,Pa.none]
  .exact Pa.none
 case slice t x lo hi mx=>
  split
  .unfold Gc
   grind [Pa.ask,Pm.hY,Pa.val,Pa.none,Pm.nr]
  .exact Pa.none
 case convert s d x=>
  split
  .unfold MF
   grind [Pa.val,Pa.none]
  .exact Pa.none
 case buildSlice t l ps=>exact absurd rfl (hn t l ps)
 case call c=>
  split
  .rename_i b vs hb _;rw[hb] at hc;unfold wK;split<;>first|exact Pa.none|(simp only at hc;cases hc;done)|(simp only at hc;exact (Bg hc).elim)|skip
   all_goals grind [Pa.val,Pa.none,Pa.ask,Pm.Ee]
  .exact Pa.none
 all_goals repeat' (first|exact Pa.val|exact Pa.none|split)
theorem wQ {m:Option (ξ×ab)}{r:Gx}{h':ab}(e:nS m=some (r,h')):∃v,m=some (v,h')/\r=.val v:=by
 unfold nS at e;grind
theorem IJ {b:Bool}{c:Call}{A:Act}{r:Gx×ab}(e:nS ((Ar b E c A).exec h)=some r):nS (A.exec h)=some r:=by rw[Dl e] at e;exact e
theorem Pp {nm:Nat}{d:Nat}(hd:o.dst=some d)(hu:OZ ops d=true){t:κ}{l:Nat}{ps:Array (Nat×Operand)}(hop:o.op=.buildSlice t l ps)(hl:yo P ops E o=none) :
  (yZ P (some nm) E o).exec h=none:=by
 unfold yo at hl;unfold yZ;simp only[hop,hd,hu] at hl⊢;split at hl
 .rename_i vs hv
  try simp only[hv]
  split at hl
  .cases hl
  .rename_i hc;unfold B8 at hc;unfold sX;split at hc
   .grind [Act.exec,aJ]
   .rfl
 .rename_i hv
  try simp only[hv]
  rfl
theorem xA {nm:Nat}(hc:cls P ops o=.sil){r:Gx}(hx:act P C nm ops E L o h=some (r,h')):h'=h/\∀h2,act P C nm ops E L o h2=some (r,h2):=by
 unfold act at hx⊢;split at hx
 .have gen:∀A:Act,Pa A->nS (A.exec h)=some (r,h')->h'=h/\∀h2,nS (A.exec h2)=some (r,h2):=by
   intro A hA e;obtain⟨v,e1,rfl⟩:=wQ e;obtain⟨e2,e3⟩:=hA _ _ _ e1;exact⟨e2,λh2=>by rw[e3 h2];rfl⟩
  unfold ex at hx⊢;cases hop:o.op<;>simp only[hop] at hx⊢
  case pick c a b=>
   grind
  case call c=>
   have hl:uL L c=none:=by
    grind [uL,cls,Bg]
   have hcp:HX ops o=false:=by
    unfold cls at hc;unfold HX;simp only[hop] at hc⊢;split
    .rename_i h1 _;simp only[h1] at hc;exact (Bg hc).elim
    .rfl
   split at hx
   .rename_i hb;cases hlx:B9 ops o<;>simp only[hl,hlx,hcp,Ar] at hx⊢
    .exact gen _ (RC hc (by simp[hop])) hx
    .cases hx
   .rename_i hb;unfold isBuiltin at hb;unfold cls at hc;simp only[hop] at hc
    grind
  case buildSlice t l ps=>
   unfold cls at hc;simp only[hop] at hc;split at hc
   .rename_i d hd;split at hc
    .rename_i hu;split at hx
     .grind
     .rename_i hl;rw[Pp hd hu hop hl] at hx;cases hx
    .cases hc
   .cases hc
  all_goals exact gen _ (RC hc (by simp[hop])) hx
 .cases hx;exact⟨rfl,λ_=>rfl⟩
 .cases hx
def rdL:ξ->θ
 |.pointer p=>p
 |_=>none
def ah5:ξ->θ
 |.slice a _ _=>a
 |_=>none
theorem WE {nm:Nat}(hc:cls P ops o=.ro){r:Gx}(hx:act P C nm ops E L o h=some (r,h')):h'=h /\
  ((∀h2,act P C nm ops E L o h2=some (r,h2))\/(want ops E o=some true/\∃b,lr E o=some b/\h.get b.block≠none/\∀h2,gq h h2 b->act P C nm ops E L o h2=some (r,h2))):=by
 unfold act at hx⊢;split at hx
 .rename_i hw;simp only[hw,ahP];have gen:∀A:Act,Ra (lr E o) A->nS (A.exec h)=some (r,h')->h'=h/\((∀h2,nS (A.exec h2)=some (r,h2)) \/
    ∃b,lr E o=some b/\h.get b.block≠none/\∀h2,gq h h2 b->nS (A.exec h2)=some (r,h2)):=by
   intro A hA e;obtain⟨v,e1,rfl⟩:=wQ e;obtain⟨e2,e3⟩:=hA _ _ _ e1;refine⟨e2,?_⟩;rcases e3 with e3|⟨b,h1,h2,e3⟩
   .exact .inl λh2=>by rw[e3 h2];rfl
   .exact .inr ⟨b,h1,h2,λh2 q=>by rw[e3 h2 q];rfl⟩
  unfold ex at hx⊢;cases hop:o.op<;>simp only[hop] at hx⊢<;>try (unfold cls at hc;simp only[hop] at hc;contradiction)
  case load t x=>
   refine gen _ ?_ hx;unfold yZ;simp only[hop];cases hv:E.ev x with
   |none=>exact Ra.of Pa.none
   |some v=>
    have hr:lr E o=rdL v:=(by simp only[lr,hop,hv];cases v<;>rfl);rw[hr];cases v<;>simp only[y9]<;>try exact Ra.of Pa.none
    rename_i p;cases p
    .exact Ra.of Pa.none
    .exact afj _ _
  case slice t x lo hi mx=>
   refine gen _ ?_ hx;unfold yZ;unfold cls at hc;simp only[hop] at hc⊢;cases hv:E.ev x with
   |none=>exact Ra.of Pa.none
   |some v=>
    have hr:lr E o=ah5 v:=(by simp only[lr,hop,hv];cases v<;>rfl);rw[hr];split
    .rename_i v l u m he _ _ _;cases he;unfold Gc;split
     .rename_i hu _;simp[hu] at hc
     .repeat' (first|exact Ra.ask (Rm.jT ⟨_,_,_⟩ _ _ _ _) λ_=>Ra.of Pa.val|exact Ra.of Pa.none|split)
     .rename_i hu _;simp[hu] at hc
     .exact Ra.of Pa.none
    .exact Ra.of Pa.none
  case convert s d x=>
   refine gen _ ?_ hx;unfold yZ;unfold cls at hc;simp only[hop] at hc⊢;cases hv:E.ev x with
   |none=>exact Ra.of Pa.none
   |some v=>
    have hr:lr E o=ah5 v:=(by simp only[lr,hop,hv];cases v<;>rfl);rw[hr];simp only;unfold MF;split
    .rename_i h1 h2;simp[h1,h2] at hc
    .rename_i h1 h2;simp[h1,h2] at hc
    .exact Ra.of Pa.val
    .exact Ra.of Pa.val
    .repeat' (first|exact Ra.ask (Rm.strOf ⟨_,_,_⟩) λ_=>Ra.of Pa.val|exact Ra.of Pa.none|split)
    .exact Ra.of Pa.none
  case buildSlice t l ps=>
   unfold cls at hc;simp only[hop] at hc
   grind
  case call c=>
   unfold cls at hc;simp only[hop] at hc
   grind [Ab,uS,um,xy]
 .grind
 .cases hx
def Na (nm:Nat)(A:Act):Prop:=∀h x h',A.exec h=some (x,h')->∃t cs,h.used nm=false/\nm<h.next/\h.get nm=none/\h'=h.cS nm h.next t cs /\
 ∀h2:ab,h2.used nm=false->nm<h2.next->h2.get nm=none->A.exec h2=some (x,h2.cS nm h2.next t cs)
theorem Na.none {nm:Nat}:Na nm .none:=λh x h' e=>by cases e
theorem Na.new {nm:Nat}{t:κ}{cs:δ}{k:Nat->ξ}:Na nm (.ask Nat (aJ (some nm) t cs) λb=>.val (k b)):=λh x h' e=>by
 simp only[Act.exec,aJ] at e⊢;by_cases hs:cs.all eB=true
 .simp only[hs,ai8] at e⊢;split at e
  .rename_i y h1 he;split at he
   .rename_i hk;cases he;cases e;refine⟨t,cs,hk.1,hk.2.1,Option.isNone_iff_eq_none.1 hk.2.2,rfl,λh2 a b c=>?_⟩;simp[a,b,c]
   .cases he
  .cases e
 .simp[hs] at e
theorem Na.vG {nm:Nat}{t:κ}{z:δ}{l c:Int}{k:Sl->ξ}:Na nm (.ask Sl (vG (some nm) t z l c) λr=>.val (k r)):=λh x h' e=>by
 simp only[Act.exec,Ago.vG] at e⊢;by_cases hb:0<=l/\l<=c/\c<=cT
 .simp only[hb,and_self,ai8] at e⊢;split at e
  .rename_i y h1 he;split at he
   .rename_i b h2 hnb;cases he;cases e;have e0:(Act.ask Nat (aJ (some nm) t (List.replicate c.toNat z).flatten) λb=>.val (.int .i64 b)).exec h=some (.int .i64 b,h'):=(by simp only[Act.exec,hnb]);obtain⟨t',cs',a1,a2,a3,a4,a5⟩:=(Na.new (nm:=nm) (k:=λb=>.int .i64 b)) h _ _ e0;refine⟨t',cs',a1,a2,a3,a4,λh2 b1 b2 b3=>?_⟩;have:=a5 h2 b1 b2 b3;simp only[Act.exec] at this
    grind
   .cases he
  .cases e
 .simp[hb] at e
def ME (h h2:ab):Prop:=∀m x,h.kZ m=some x->h2.kZ m=some x
theorem ME.of {h h2:ab}(e:h2.kZ=h.kZ):ME h h2:=λm x q=>by rw[e];exact q
def Mm (A:Act):Prop:=∀h x h',A.exec h=some (x,h')->h'=h/\∀h2:ab,ME h h2->A.exec h2=some (x,h2)
theorem Mm.of {A:Act}(hA:Pa A):Mm A:=λh x h' e=>⟨(hA h x h' e).1,λh2 _=>(hA h x h' e).2 h2⟩
theorem Mm.get {kt:κ}{T:Ty}{z:T.den}{m:μ}{k:ξ}{g:Bool×T.den->ξ}:Mm (.ask (Bool×T.den) (rK kt T z m k) λr=>.val (g r)):=λh x h' e=>by
 simp only[Act.exec] at e⊢;split at e
 .rename_i y h1 he;cases e;have key:h'=h/\∀h2:ab,ME h h2->rK kt T z m k h2=some (y,h2):=by
   unfold rK at he⊢;split at he
   .cases he;exact⟨rfl,λ_ _=>rfl⟩
   .split at he
    .rename_i hm;split at he
     .rename_i hv;split at he
      .rename_i hu;cases he;refine⟨rfl,λh2 e2=>?_⟩;unfold ME at e2;grind [ab.B7]
      .cases he
     .rename_i hv;cases he;refine⟨rfl,λh2 e2=>?_⟩;unfold ME at e2;grind [ab.B7]
    .cases he
  exact⟨key.1,λh2 e2=>by simp only[key.2 h2 e2]⟩
 .cases e
theorem Mm.len {m:μ}{g:Nat->ξ}:Mm (.ask Nat (Mw m) λr=>.val (g r)):=λh x h' e=>by
 simp only[Act.exec] at e⊢;split at e
 .rename_i y h1 he;cases e;have key:h'=h/\∀h2:ab,ME h h2->Mw m h2=some (y,h2):=by
   unfold Mw at he⊢;unfold ME
   grind
  exact⟨key.1,λh2 e2=>by simp only[key.2 h2 e2]⟩
 .cases e
theorem aaI {nm:Nat}(hc:cls P ops o=.mro){r:Gx}(hx:act P C nm ops E L o h=some (r,h')):h'=h/\∀h2:ab,ME h h2->act P C nm ops E L o h2=some (r,h2):=by
 unfold act at hx⊢;split at hx
 .have gen:∀A:Act,Mm A->nS (A.exec h)=some (r,h')->h'=h/\∀h2:ab,ME h h2->nS (A.exec h2)=some (r,h2):=by
   intro A hA e;obtain⟨v,e1,rfl⟩:=wQ e;obtain⟨e2,e3⟩:=hA _ _ _ e1;exact⟨e2,λh2 q=>by rw[e3 h2 q];rfl⟩
  unfold ex at hx⊢;cases hop:o.op<;>simp only[hop] at hx⊢<;>try (unfold cls at hc;simp only[hop] at hc;contradiction)
  case lookup t x i ok=>
   refine gen _ ?_ hx;unfold yZ;simp only[hop]
   repeat' (first|exact Mm.of Pa.none|exact Mm.get|split)
  case buildSlice t l ps=>
   unfold cls at hc
   grind
  case call c=>
   have hcal:c.callee=.builtin .len:=by
    unfold cls at hc;simp only[hop] at hc
    grind [uS]
   have hb:isBuiltin c=true:=by unfold isBuiltin;rw[hcal]
   have hl:uL L c=none:=by unfold uL;rw[hcal]
   have hlx:B9 ops o=false:=by unfold B9;simp only[hop,hcal]
   have hcp:HX ops o=false:=by unfold HX;simp only[hop,hcal]
   simp only[hb,hl,hlx,hcp,Ar] at hx⊢;refine gen _ ?_ hx;have hty:∃t r k e,c.argTypes.toList=t::r/\P.underlying t=some (.map k e):=by
    grind [cls]
   obtain⟨t,tr,k,e,ht,hu⟩:=hty;unfold yZ;simp only[hop,hcal,ht];split
   .rename_i b vs hb2 _;cases hb2;unfold wK;split<;>first|exact Mm.of Pa.none|(simp_all;done)|skip
    all_goals repeat' (first|exact Mm.of Pa.none|exact Mm.of Pa.val|exact Mm.len|split)
   .exact Mm.of Pa.none
  all_goals
   grind [cls,Ab,uS,um,xy]
 .cases hx;exact⟨rfl,λ_ _=>rfl⟩
 .cases hx
theorem Ac {nm:Nat}(hc:cls P ops o=.alloc){r:Gx}(hx:act P C nm ops E L o h=some (r,h')):(h'=h/\∀h2,act P C nm ops E L o h2=some (r,h2)) \/
  ∃t cs,h.used nm=false/\nm<h.next/\h.get nm=none/\h'=h.cS nm h.next t cs /\
   ∀h2:ab,h2.used nm=false->nm<h2.next->h2.get nm=none->act P C nm ops E L o h2=some (r,h2.cS nm h2.next t cs):=by
 unfold act at hx⊢;split at hx
 .refine .inr ?_;have gen:∀A:Act,Na nm A->nS (A.exec h)=some (r,h')->∃t cs,h.used nm=false/\nm<h.next/\h.get nm=none/\h'=h.cS nm h.next t cs /\
    ∀h2:ab,h2.used nm=false->nm<h2.next->h2.get nm=none->nS (A.exec h2)=some (r,h2.cS nm h2.next t cs):=by
   intro A hA e;obtain⟨v,e1,rfl⟩:=wQ e;obtain⟨t,cs,a,b,c,d,e2⟩:=hA _ _ _ e1;exact⟨t,cs,a,b,c,d,λh2 a b c=>by rw[e2 h2 a b c];rfl⟩
  unfold ex at hx⊢;cases hop:o.op<;>simp only[hop] at hx⊢<;>try (unfold cls at hc;simp only[hop] at hc;contradiction)
  case alloc t=>
   refine gen _ ?_ hx;unfold yZ;simp only[hop];split
   .exact Na.new
   .exact Na.none
  case box t x=>
   refine gen _ ?_ hx;unfold yZ;simp only[hop];split
   .exact Na.new
   .exact Na.none
  case makeSlice t l c=>
   refine gen _ ?_ hx;unfold yZ;simp only[hop]
   repeat' (first|exact Na.none|exact Na.vG|split)
  case buildSlice t l ps=>
   have hl:yo P ops E o=none:=by
    unfold cls at hc;unfold yo;simp only[hop] at hc⊢
    grind
   simp only[hl] at hx⊢;refine gen _ ?_ hx;unfold yZ;simp only[hop];split
   .unfold sX
    repeat' (first|exact Na.none|exact Na.new|split)
   .exact Na.none
  case call c=>
   unfold cls at hc;simp only[hop] at hc
   repeat' (first|(cases hc;done)|(exact (Ab hc).elim)|(exact (uS hc).elim)|(exact (um hc).elim)|(exact (xy hc).elim)|split at hc)
  all_goals
   unfold cls at hc;simp only[hop] at hc
   grind
 .cases hx;exact .inl ⟨rfl,λ_=>rfl⟩
 .cases hx
def Ka (A:Act):Prop:=∀h x h',A.exec h=some (x,h')->∀b,h.get b≠none->h'.get b=h.get b
theorem Ka.pure {A:Act}(hA:Pa A):Ka A:=λh x h' e b _=>by rw[(hA h x h' e).1]
theorem Tx {s:Sl}{sz:Nat}{e:κ}{n:Nat}{new:δ}{r:Sl}(hx:app true s sz e n new h=some (r,h')):∀b,h.get b≠none->h'.get b=h.get b:=by
 intro b hb;unfold app at hx;split at hx
 .cases hx
 rename_i hn;have hnx:h.get h.next=none:=by simpa using hn
 have hne:Nat.beq b h.next=false:=by
  cases hq:Nat.beq b h.next
  .rfl
  .rw[IS hq] at hb;exact absurd hnx hb
 have new:∀e cs,(h.new e cs).get b=h.get b:=λe cs=>by simp[ab.new,ab.cS,hne]
 grind [uJ,xj]
theorem Ka.Fh {s:Sl}{sz:Nat}{e:κ}{n:Nat}{new:δ}{k:Sl->ξ}:Ka (.ask Sl (app true s sz e n new) λr=>.val (k r)):=λh x h' he=>by
 grind [Act.exec,Tx]
theorem Ka.ask {α:Type}{m:M α}{k:α->Act}(hm:∀h x h',m h=some (x,h')->h'=h)(hk:∀x,Ka (k x)):Ka (.ask α m k):=λh x h' he=>by
 simp only[Act.exec] at he;split at he
 .rename_i y h1 hm1;rw[hm _ _ _ hm1] at he;exact hk _ _ _ _ he
 .cases he
theorem aaJ {nm:Nat}(hc:cls P ops o=.add){r:Gx}(hx:act P C nm ops E L o h=some (r,h')):∀b,h.get b≠none->h'.get b=h.get b:=by
 unfold act at hx;split at hx
 .have gen:∀A:Act,Ka A->nS (A.exec h)=some (r,h')->∀b,h.get b≠none->h'.get b=h.get b:=by
   intro A hA e;obtain⟨v,e1,rfl⟩:=wQ e;exact hA _ _ _ e1
  unfold ex at hx;cases hop:o.op<;>simp only[hop] at hx<;>try (unfold cls at hc;simp only[hop] at hc;contradiction)
  case call c=>
   have hcal:c.callee=.builtin .append:=by
    unfold cls at hc;simp only[hop] at hc
    grind
   have hlx:B9 ops o=false:=by
    grind [cls,Pj]
   simp only[hlx,Bool.not_false] at hx;split at hx
   .split at hx
    .refine gen _ ?_ (IJ hx);unfold uM
     repeat' (first|exact Ka.Fh|exact Ka.pure Pa.none|split)
    .refine gen _ ?_ (IJ hx);unfold yZ;simp only[hop,hcal];split
     .rename_i b vs hb _;cases hb;unfold wK;split
      .contradiction
      .contradiction
      .contradiction
      .contradiction
      .contradiction
      .have hrd:∀(s:Sl) (z:Nat) h x h',OU s z h=some (x,h')->h'=h:=by
        grind [OU]
       repeat' (first|exact Ka.ask (hrd _ _) λ_=>Ka.Fh|exact Ka.pure Pa.none|split)
      .repeat' (first|exact Ka.Fh|exact Ka.pure Pa.none|split)
      .contradiction
      .contradiction
      .exact Ka.pure Pa.none
     .exact Ka.pure Pa.none
   .rename_i hb;simp[isBuiltin,hcal] at hb
  all_goals
   grind [cls,Ab,uS,um,xy]
 .cases hx;exact λ_ _=>rfl
 .cases hx
def Sm (h h2:ab):Prop:=h2.next=h.next/\h2.get h2.next=none/\∀b,h.get b≠none->h2.get b=h.get b
def Kb (A:Act):Prop:=∀h x h',A.exec h=some (x,h')->h.get h.next=none/\((h'=h/\∀h2,Sm h h2->A.exec h2=some (x,h2))\/∃e cs,h'=h.new e cs/\∀h2,Sm h h2->A.exec h2=some (x,h2.new e cs))
theorem Kb.none:Kb .none:=λh x h' e=>by cases e
def Km (A:Act):Prop:=∀h x h',A.exec h=some (x,h')->h'.kZ=h.kZ
theorem Km.pure {A:Act}(hA:Pa A):Km A:=λh x h' e=>by rw[(hA h x h' e).1]
theorem ah6 {s:Sl}{sz:Nat}{e:κ}{n:Nat}{new:δ}{r:Sl}(hx:app true s sz e n new h=some (r,h')):h'.kZ=h.kZ:=by
 unfold app at hx;split at hx
 .cases hx
 unfold uJ at hx
 repeat' (first|(cases hx;done)|(cases hx;rfl)|split at hx|simp only at hx)
theorem Km.Fh {s:Sl}{sz:Nat}{e:κ}{n:Nat}{new:δ}{k:Sl->ξ}:Km (.ask Sl (app true s sz e n new) λr=>.val (k r)):=λh x h' he=>by
 grind [Act.exec,ah6]
theorem Km.ask {α:Type}{m:M α}{k:α->Act}(hm:∀h x h',m h=some (x,h')->h'=h)(hk:∀x,Km (k x)):Km (.ask α m k):=λh x h' he=>by
 simp only[Act.exec] at he;split at he
 .rename_i y h1 hm1;rw[hm _ _ _ hm1] at he;exact hk _ _ _ _ he
 .cases he
theorem WG (h:za ops o=true):cls P ops o=.eff:=by
 unfold za at h;unfold cls;split at h
 .rename_i hop;simp only[hop]
 .rename_i c hop;simp only[hop];rw[ajc] at h;rcases h with h|h
  .grind [isBuiltin,absurd]
  .have hc:c.callee=.builtin .append:=by
    grind [B9]
   simp only[hc,h];rfl
 .cases h
theorem afk (h:xo o=true):cls P ops o=.eff:=by
 grind [xo,cls]
theorem Tz {nm:Nat}(hs:xo o=true){r:Gx}(hx:act P C nm ops E L o h=some (r,h')):(h'=h/\want ops E o≠some true/\∀h2,act P C nm ops E L o h2=some (r,h2)) \/
  (want ops E o=some true/\∃a vs c g base e,A2 E o=some a/\h.get a.block=some (.cells c g base e)/\h'=h.sW a.block (bh c a.off vs) g base e /\
   ∀h2:ab,h2.get a.block=some (.cells c g base e)->act P C nm ops E L o h2=some (r,h2.sW a.block (bh c a.off vs) g base e)):=by
 unfold act at hx⊢;split at hx
 .rename_i hw;refine .inr ⟨hw,?_⟩
  try simp only[hw]
  unfold xo at hs;split at hs
  .rename_i t x y hop;unfold ex at hx⊢;simp only[hop] at hx⊢;have gen:∀A:Act,A=yZ P (some nm) E o->nS (A.exec h)=some (r,h')->∃a vs c g base e,A2 E o=some a/\h.get a.block=some (.cells c g base e)/\h'=h.sW a.block (bh c a.off vs) g base e /\
     ∀h2:ab,h2.get a.block=some (.cells c g base e)->nS (A.exec h2)=some (r,h2.sW a.block (bh c a.off vs) g base e):=by
    intro A hA e;unfold yZ at hA;simp only[hop] at hA;split at hA
    .rename_i v u n hv hu hn;unfold y9 at hA;split at hA
     .rename_i a;split at hA
      .subst hA;simp only[Act.exec] at e⊢;unfold bD at e;generalize hg:h.get a.block=og at e;cases og with
       |none=>simp[nS] at e
       |some av=>
        cases av with
        |cells c g base el=>
         simp only at e;by_cases hc:g≠0/\a.off+u.cells.toList.length<=c.length/\u.cells.toList.all eB=true
         .rw[By hc] at e;simp only[nS,aai,aiJ] at e;obtain⟨e1,e2⟩:=e;refine⟨a,u.cells.toList,c,g,base,el,by simp only[A2,hop,hv],hg,e2.symm,λh2 e3=>?_⟩;unfold bD;rw[e3];simp only;rw[By hc,<-e1];rfl
         .rw[AT hc] at e;simp[nS] at e
        |_=>simp[nS] at e
      .subst hA;simp[Act.exec,nS] at e
     .subst hA;simp[Act.exec,nS] at e
    .subst hA;simp[Act.exec,nS] at e
   exact gen _ rfl hx
  .cases hs
 .grind
 .cases hx
theorem TA (h:∀t∈je ops o,E t=E' t):A2 E o=A2 E' o:=by
 have h:=Cd h;unfold A2;cases hop:o.op<;>simp only[hop,Op.operands] at h⊢;rw[h _ (by simp)]
theorem GF {ks:η}(hE:∀t∈je ops o,E t=E' t):xw E o h ks↔xw E' o h ks:=by
 unfold xw;rw[TA hE]
def IK {α:Type}(k:Nat)(m:M α):Prop:=∀(h:ab) t cs (x:α) (h2:ab),h.used k=false->k<h.next->h.get k=none->m (h.cS k h.next t cs)=some (x,h2) ->
 ∃h3,m h=some (x,h3)/\h3.used k=false/\k<h3.next/\h3.get k=none/\h2=h3.cS k h3.next t cs
theorem TB {α:Type}{k:Nat}{m:M α}{h:ab}{x:α}{h1:ab}(hx:Aq k m h=some (x,h1)):m h=some (x,h1)/\BP k m h x h1:=by
 unfold Aq at hx;split at hx
 .split at hx
  .rename_i hm _ hb _;cases hx;exact⟨hm,hb⟩
  .cases hx
 .cases hx
theorem aaK {α:Type}{k:Nat}{m:M α}{h:ab}{x:α}{h1:ab}(hm:m h=some (x,h1))(hb:BP k m h x h1):Aq k m h=some (x,h1):=by
 unfold Aq;rw[hm];simp only;split
 .rfl
 .rename_i hn _;exact absurd hb hn
theorem TD {α:Type}(k:Nat)(m:M α):IK k (Aq k m):=λh t cs x h2 h1 h3 h4 hx=>by
 obtain⟨hm,hb⟩:=TB hx;obtain⟨h5,q1,q2,q3,q4,q5⟩:=hb h t cs h1 h3 h4 rfl;refine⟨h5,aaK q1 ?_,q2,q3,q4,q5⟩;intro h0 t' cs' _ _ _ e;rw[e] at h1;simp[ab.cS,ahN] at h1
theorem ah7 {nm:Nat}{f:FuncId}(hc:wM o=some f){k:Nat}(HB:∀vs ca,C.st f vs=some ca->IK k ca.m){t:κ}{cs:δ}(h1:h.used k=false)(h2:k<h.next)(h3:h.get k=none){r:Gx}
  (hx:act P C nm ops E L o (h.cS k h.next t cs)=some (r,h')):∃h3,act P C nm ops E L o h=some (r,h3)/\h3.used k=false/\k<h3.next/\h3.get k=none/\h'=h3.cS k h3.next t cs:=by
 unfold act at hx⊢;split at hx
 .unfold wM at hc;split at hc
  .rename_i c hop;split at hc
   .rename_i g hf;cases hc;have hb:isBuiltin c=false:=(by unfold isBuiltin;rw[hf]);have hd:wb C c=none:=(by unfold wb;rw[hf]);unfold ex at hx⊢;simp only[hop,hb,hd] at hx⊢;cases hev:E.Rj c.args.toList with
    |none=>
     grind [callee]
    |some vs=>
     have:callee E c=some (f,vs):=(by unfold callee;rw[hf,hev];simp[Env.ev]);simp only[this] at hx⊢;split at hx
     .rename_i ca hca;split at hx
      .rename_i x h4 hm;cases hx;obtain⟨h5,q1,q2,q3,q4,q5⟩:=HB vs ca hca h t cs x h' h1 h2 h3 hm;exact⟨h5,by simp only[q1],q2,q3,q4,q5⟩
      .cases hx
     .cases hx
   .cases hc
  .cases hc
 .cases hx;exact⟨h,rfl,h1,h2,h3,rfl⟩
 .cases hx
theorem WH {p:Oper}{f:FuncId}(h:wM p=some f):xo p=false:=by
 grind [wM,xo]
end Classes
section Swap
variable {C:mR}{W:Wr}{nb:Nat}{ops:Array Oper}{Af:Nat->θ}{Ck:Nat->List θ}{Kk:Nat->η}
theorem wR {l:η}{i:Nat}:HW l i=true↔i∈l:=by
 grind [HW,List.any_eq_true,Nat.eq_of_beq_eq_true,Nat.beq_refl]
theorem iC {E:Env}{L:fS}{d:μ}{r:Gx}{t:Nat}(h:d≠some t):E.res d r t=E t/\L.res d r t=L t:=by
 cases d with
 |none=>cases r<;>exact⟨rfl,rfl⟩
 |some i=>
  have:Nat.beq t i=false:=by
   cases hb:Nat.beq t i
   .rfl
   simp_all
  cases r<;>simp[Env.res,fS.res,Env.put,Env.set,Env.del,fS.put,fS.del,this]
theorem Nl {E:Env}{L:fS}{d e:μ}{r u:Gx}(h:∀i,d=some i->e≠some i) :
  (E.res d r).res e u=(E.res e u).res d r/\(L.res d r).res e u=(L.res e u).res d r:=by
 constructor<;>funext t
 .by_cases hd:d=some t
  .have he:=h t hd;rw[(iC (E:=E.res d r) (L:=L) (r:=u) he).1];subst hd;cases r<;>simp[Env.res,Env.put,Env.set,Env.del]
  .rw[(iC (E:=E.res e u) (L:=L) (r:=r) hd).1];by_cases he:e=some t
   .subst he;cases u<;>simp[Env.res,Env.put,Env.set,Env.del]
   .rw[(iC (E:=E.res d r) (L:=L) (r:=u) he).1,(iC (E:=E) (L:=L) (r:=r) hd).1,(iC (E:=E) (L:=L) (r:=u) he).1]
 .by_cases hd:d=some t
  .have he:=h t hd;rw[(iC (E:=E) (L:=L.res d r) (r:=u) he).2];subst hd;cases r<;>simp[fS.res,fS.put,fS.del]
  .rw[(iC (E:=E) (L:=L.res e u) (r:=r) hd).2];by_cases he:e=some t
   .subst he;cases u<;>simp[fS.res,fS.put,fS.del]
   .rw[(iC (E:=E) (L:=L.res d r) (r:=u) he).2,(iC (E:=E) (L:=L) (r:=r) hd).2,(iC (E:=E) (L:=L) (r:=u) he).2]
theorem TE {h:ab}{k1 k2:Nat}(hk:k1≠k2){t1 t2:κ}{c1 c2:δ} :
  (h.cS k1 h.next t1 c1).cS k2 h.next t2 c2=(h.cS k2 h.next t2 c2).cS k1 h.next t1 c1:=by
 have hb:∀j,Nat.beq j k1=true->Nat.beq j k2=false:=λj e=>by
  cases e2:Nat.beq j k2
  .rfl
  .exact absurd ((IS e).symm.trans (IS e2)) hk
 unfold ab.cS;simp only[ab.mk.injEq,xj,ahP,and_true];refine⟨?_,?_,?_⟩<;>funext j
 .cases e1:Nat.beq j k1
  .rfl
  .simp[hb j e1]
 .cases e1:Nat.beq j (k1+1)
  .simp
  .have:Nat.beq j (k2+1)=false:=by
    cases e2:Nat.beq j (k2+1)
    .rfl
    .have h1:=IS e1;have h2:=IS e2;omega
   simp[this]
 .cases e1:Nat.beq j k1
  .rfl
  .simp[hb j e1]
theorem core {mo:FuncId->Bool}(HM:∀f vs ca,mo f=true->C.st f vs=some ca->MoM ca.m){i j:Nat}{o p:Oper}{ck:Bool}(HB:ck=true->Ef (cls P ops o)=true->∀f,wM p=some f->∀vs ca,C.st f vs=some ca->IK (nb+i) ca.m){E:Env}{L:fS}{h h1 h2:ab}{r u:Gx}(hij:i≠j)
  (hsw:(match cls P ops o,cls P ops p with
   |.sil,_|_,.sil | .ro,.ro | .ro,.alloc | .ro,.add | .alloc,.alloc | .ro,.mro=>true
   |.ro,.eff=>ck&&za ops p
   |.alloc,.eff=>ck&&(xo p||(wM p).isSome)
   |_,_=>false)=true) (hkk:ck=true->Ef (cls P ops o)=true->nb+i∈Kk j) (si:want ops E o=some true->xw E o h (Kk i)) (sj:want ops E p=some true->xw E p h1 (Kk j)) (hck:ck=true->Af i∈Ck j) (hrd:want ops E o=some true->lr E o=Af i)
  (hi:act P C (nb+i) ops E L o h=some (r,h1)) (ci:za ops o=true->sameAt h h1 (Ck i)=true)
  (hj:act P C (nb+j) ops E L p h1=some (u,h2)) (cj:za ops p=true->sameAt h1 h2 (Ck j)=true) :
  ∃h3,act P C (nb+j) ops E L p h=some (u,h3)/\act P C (nb+i) ops E L o h3=some (r,h2) /\
   (za ops p=true->sameAt h h3 (Ck j)=true)/\(za ops o=true->sameAt h3 h2 (Ck i)=true) /\
   (want ops E p=some true->xw E p h (Kk j))/\(want ops E o=some true->xw E o h3 (Kk i)):=by
 have noSt:∀{q:Oper} {hh:ab} {ks:η},cls P ops q≠.eff->want ops E q=some true->xw E q hh ks:=λhq _ hs=>absurd (afk hs) hq;have first:h1=h->cls P ops o≠.eff->(∀h2,act P C (nb+i) ops E L o h2=some (r,h2))->∃h3,act P C (nb+j) ops E L p h=some (u,h3)/\act P C (nb+i) ops E L o h3=some (r,h2) /\
   (za ops p=true->sameAt h h3 (Ck j)=true)/\(za ops o=true->sameAt h3 h2 (Ck i)=true) /\
   (want ops E p=some true->xw E p h (Kk j))/\(want ops E o=some true->xw E o h3 (Kk i)):=by
  grind [sameAt_refl]
 have second:h2=h1->cls P ops p≠.eff->act P C (nb+j) ops E L p h=some (u,h)->∃h3,act P C (nb+j) ops E L p h=some (u,h3)/\act P C (nb+i) ops E L o h3=some (r,h2) /\
   (za ops p=true->sameAt h h3 (Ck j)=true)/\(za ops o=true->sameAt h3 h2 (Ck i)=true) /\
   (want ops E p=some true->xw E p h (Kk j))/\(want ops E o=some true->xw E o h3 (Kk i)):=by
  grind [sameAt_refl]
 have noCk:∀{q:Oper},cls P ops q≠.eff->∀{X:Prop},za ops q=true->X:=λhq X hc=>absurd (WG hc) hq;cases ho:cls P ops o
 case sil=>grind [xA]
 case add=>
  cases hp:cls P ops p<;>rw[ho,hp] at hsw
  case sil=>grind [xA]
  all_goals cases hsw
 case mro=>
  cases hp:cls P ops p<;>rw[ho,hp] at hsw
  case sil=>grind [xA]
  all_goals cases hsw
 case mka=>
  cases hp:cls P ops p<;>rw[ho,hp] at hsw
  case sil=>grind [xA]
  all_goals cases hsw
 case eff=>
  cases hp:cls P ops p<;>rw[ho,hp] at hsw
  case sil=>grind [xA]
  all_goals cases hsw
 case ro=>
  obtain⟨rfl,e2⟩:=WE ho hi;rcases e2 with e2|⟨hw,b,hb,hn,e2⟩
  .exact first rfl (by rw[ho];simp) e2
  .cases hp:cls P ops p
   case sil=>grind [xA]
   case ro=>obtain⟨rfl,_⟩:=WE hp hj;exact second rfl (by rw[hp];simp) hj
   case mro=>obtain⟨rfl,_⟩:=aaI hp hj;exact second rfl (by rw[hp];simp) hj
   case alloc=>
    rcases Ac hp hj with⟨e1,e3⟩|⟨t,cs,a1,a2,a3,rfl,a4⟩
    .exact second e1 (by rw[hp];simp) (e3 _)
    .refine⟨_,hj,e2 _ (gq.of ?_),noCk (by rw[hp];simp),noCk (by rw[ho];simp),noSt (by rw[hp];simp),noSt (by rw[ho];simp)⟩;have:Nat.beq b.block (nb+j)=false:=by
      cases e:Nat.beq b.block (nb+j)
      .rfl
      .rw[IS e] at hn;exact absurd a3 hn
     simp[ab.cS,this]
   case add=>exact⟨_,hj,e2 _ (gq.of (aaJ hp hj _ hn)),noCk (by rw[hp];simp),noCk (by rw[ho];simp),noSt (by rw[hp];simp),noSt (by rw[ho];simp)⟩
   case mka=>rw[ho,hp] at hsw;cases hsw
   case eff=>
    rw[ho,hp] at hsw;simp only[aag] at hsw;have hm:=hck hsw.1;rw[<-hrd hw,hb] at hm;exact⟨_,hj,e2 _ (uR (cj hsw.2) hm),cj,noCk (by rw[ho];simp),sj,noSt (by rw[ho];simp)⟩
 case alloc=>
  cases hp:cls P ops p
  case sil=>grind [xA]
  case alloc=>
   rcases Ac ho hi with⟨e1,e2⟩|⟨t,cs,a1,a2,a3,rfl,a4⟩
   .exact first e1 (by rw[ho];simp) e2
   rcases Ac hp hj with⟨e1,e2⟩|⟨t',cs',b1,b2,b3,rfl,b4⟩
   .exact second e1 (by rw[hp];simp) (e2 _)
   have hne:Nat.beq (nb+j) (nb+i)=false:=by
    grind [Nat.eq_of_beq_eq_true]
   have hne':Nat.beq (nb+i) (nb+j)=false:=by
    grind [Nat.eq_of_beq_eq_true]
   simp only[ab.cS,hne,ait,xj] at b1 b2 b3;refine⟨_,b4 h b1 b2 b3,?_,noCk (by rw[hp];simp),noCk (by rw[ho];simp),noSt (by rw[hp];simp),noSt (by rw[ho];simp)⟩;have:=a4 (h.cS (nb+j) h.next t' cs') (by simp[ab.cS,hne',a1]) a2 (by simp[ab.cS,hne',a3])
   rw[this]
   congr 2
   exact (TE (by omega)).symm
  case eff=>
   rw[ho,hp] at hsw;simp only[aag] at hsw;obtain⟨hc1,hst⟩:=hsw;rcases Ac ho hi with⟨e1,e2⟩|⟨t,cs,a1,a2,a3,rfl,a4⟩
   .exact first e1 (by rw[ho];simp) e2
   have hk:=hkk hc1 (by rw[ho];rfl);cases hsc:wM p with
   |some f=>
    obtain⟨h3,q1,q2,q3,q4,rfl⟩:=ah7 hsc (HB hc1 (by rw[ho];rfl) f hsc) a1 a2 a3 hj;refine⟨h3,q1,a4 h3 q2 q3 q4,λhcp=>?_,noCk (by rw[ho];simp),λ_ hs=>?_,noSt (by rw[ho];simp)⟩
    .have hsm:=cj hcp;refine Aa λx hx b hb=>?_;subst hb;have h5:=uR hsm hx;cases q5:Nat.beq b.block (nb+i)
     .exact h5.cast (by simp[ab.cS,q5]) (by simp[ab.cS,q5])
     .refine gq.of ?_;rw[IS q5,q4,a3]
    .rw[WH hsc] at hs;cases hs
   |none=>
   rw[hsc] at hst;simp only[Option.isSome_none,aky] at hst;rcases Tz hst hj with⟨e1,e2,e3⟩|⟨hw,a,vs,c,g,base,e,b1,b2,rfl,b4⟩
   .grind [sameAt_refl,absurd]
   .have hne:Kk j≠[]:=ajU hk;obtain⟨a',c1,c2⟩:=sj hw hst hne;rw[b1] at c1;cases c1;have c2':=c2;unfold okK at c2;rw[b2] at c2;have c3:=List.all_eq_true.1 c2 _ hk;simp only[aag,ajr] at c3;obtain⟨d1,d2⟩:=c3;have hga:(h.cS (nb+i) h.next t cs).get a.block=h.get a.block:=by simp[ab.cS,d1]
    have b2':h.get a.block=some (.cells c g base e):=(by rw[<-hga];exact b2);have hka:Nat.beq (nb+i) a.block=false:=by
     cases hb:Nat.beq (nb+i) a.block
     .rfl
     grind [Nat.eq_of_beq_eq_true,Nat.beq_refl]
    have hkg:Nat.beq (nb+i+1) g=false:=by
     grind [Nat.eq_of_beq_eq_true,Nat.beq_refl]
    have hnone:(h.sW a.block (bh c a.off vs) g base e).get (nb+i)=none:=(by simp[ab.sW,hka,a3]);have hcomm:(h.sW a.block (bh c a.off vs) g base e).cS (nb+i) h.next t cs=(h.cS (nb+i) h.next t cs).sW a.block (bh c a.off vs) g base e:=by
     unfold ab.cS ab.sW;simp only[ab.mk.injEq,ahP,and_true];funext q;cases q1:Nat.beq q (nb+i)
     .cases q2:Nat.beq q a.block<;>simp[q1]
     grind [Nat.eq_of_beq_eq_true]
    refine⟨_,b4 h b2',?_,λhcp=>?_,noCk (by rw[ho];simp),λ_ _ _=>⟨a,b1,?_⟩,noSt (by rw[ho];simp)⟩
    .have:=a4 (h.sW a.block (bh c a.off vs) g base e) a1 a2 hnone;rw[this]
     congr 2
    .have hsm:=cj hcp;refine Aa λx hx b hb=>?_;subst hb;have h5:=uR hsm hx;cases q1:Nat.beq b.block (nb+i)
     .exact h5.cast (by simp[ab.cS,q1]) (by simp[ab.sW,ab.cS,q1])
     .refine gq.of ?_;rw[IS q1,hnone,a3]
    grind [okK]
  all_goals
   rw[ho,hp] at hsw;cases hsw
theorem aaL {mo:FuncId->Bool}(HM:∀f vs ca,mo f=true->C.st f vs=some ca->MoM ca.m){i j:Nat}{o p:Oper}{ck:Bool}(HB:ck=true->Ef (cls P ops o)=true->∀f,wM p=some f->∀vs ca,C.st f vs=some ca->IK (nb+i) ca.m){s s1 s2:St}(ho:ops[i]?=some o)(hp:ops[j]?=some p)(hij:i≠j)(hsw:Rn P mo ops o p ck=true)(hck:ck=true->Af i∈Ck j)(hkk:ck=true->Ef (cls P ops o)=true->nb+i∈Kk j)
  (h1:Step P C W nb ops Af Ck Kk i s s1) (h2:Step P C W nb ops Af Ck Kk j s1 s2):∃s1',Step P C W nb ops Af Ck Kk j s s1'/\Step P C W nb ops Af Ck Kk i s1' s2:=by
 obtain⟨E,L,h⟩:=s;obtain⟨E1,L1,h1'⟩:=s1;obtain⟨E2,L2,h2'⟩:=s2;obtain⟨o',r,ho',hWi,hri,hai,e1,e2,hci,hsi⟩:=h1;obtain⟨p',u,hp',hWj,hrj,haj,e3,e4,hcj,hsj⟩:=h2;rw[ho] at ho';cases ho';rw[hp] at hp';cases hp';simp only at *
 subst e1;subst e2;subst e3;subst e4;unfold Rn at hsw;rw[aag] at hsw;obtain⟨hap,hsw⟩:=hsw;unfold apart at hap;simp only[aag] at hap;obtain⟨⟨q1,q2⟩,q3⟩:=hap;have d1:∀t∈je ops p,o.dst≠some t:=by
  grind [Bool.not_eq_true',wR]
 have d2:∀t∈je ops o,p.dst≠some t:=by
  grind [Bool.not_eq_true',wR]
 have d3:∀t,o.dst=some t->p.dst≠some t:=by
  intro t e1 e2;rw[e1,e2] at q3;simp at q3
 have cE:∀t∈je ops p,E.res o.dst r t=E t:=λt ht=>(iC (L:=L) (d1 t ht)).1;have cL:∀t∈je ops p,L.res o.dst r t=L t:=λt ht=>(iC (E:=E) (d1 t ht)).2;have cE':∀t∈je ops o,E.res p.dst u t=E t:=λt ht=>(iC (L:=L) (d2 t ht)).1;have cL':∀t∈je ops o,L.res p.dst u t=L t:=λt ht=>(iC (E:=E) (d2 t ht)).2;rw[II cE cL] at haj;obtain⟨h3,g1,g2,g3,g4,g5,g6⟩:=core HM HB hij hsw hkk hsi (λhw=>(GF cE).1 (hsj (by rw[uT cE];exact hw))) hck hri hai hci haj hcj;refine⟨(E.res p.dst u,L.res p.dst u,h3),⟨p,u,hp,hWj,?_,g1,rfl,rfl,g3,g5⟩,⟨o,r,ho,hWi,?_,?_,?_,?_,g4,λhw=>(GF cE').2 (g6 (by rw[<-uT cE'];exact hw))⟩⟩
 .intro hw;rw[<-Ce cE];exact hrj (by rw[uT cE];exact hw)
 .intro hw;rw[Ce cE'];exact hri (by rw[<-uT cE'];exact hw)
 .simp only;rw[II cE' cL'];exact g2
 .exact (Nl (L:=L) d3).1
 .exact (Nl (E:=E) d3).2
end Swap
theorem Eo (e:Edge):wN e=Region.binds .any e:=by
 unfold wN Region.binds;split<;>simp_all
theorem Nn {x:Nat}:∀{l a:η},x∈Wd l a->x∈l\/x∈a
 |[],a,h=>.inr h
 |y::l,a,h=>by
  rw[Wd] at h;rcases Nn h with h|h
  .exact .inl (IN _ h)
  .cases hm:HW a y with
   |true=>rw[hm] at h;exact .inr h
   |false=>
    rw[hm] at h;rcases List.mem_cons.1 h with rfl|h
    .exact .inl IT
    .exact .inr h
theorem GG {ops:Array Oper}{σ:η}(hn:σ.Nodup)(hr:∀i o e,ops[i]?=some o->e∈o.after.toList->wN e=true->Ms σ e.on i) :
  ∀(rest:List Oper) (acc:List η),(∀n o,rest[n]?=some o->ops[acc.length+n]?=some o)->(∀j i,i∈acc.getD j []->Ms σ i j) ->
   ∀j i,i∈(rest.foldl (λacc o=>acc++[Wd ((o.after.toList.filter wN).flatMap λe=>e.on::acc.getD e.on []) []]) acc).getD j []->Ms σ i j
 |[],acc,_,ha,j,i,hi=>ha j i hi
 |o::rest,acc,hs,ha,j,i,hi=>by
  refine GG hn hr rest _ ?_ ?_ j i hi
  .intro n o' ho';have:=hs (n+1) o' (by simpa using ho')
   grind
  .intro j i hi;have ho:=hs 0 o rfl;simp only[ai3] at ho;rcases akD j acc.length with hj|hj|hj
   .grind
   .subst hj;simp only[afS,ajs,Nat.lt_irrefl,afy,ai5,akK,akG] at hi;have hi:=(Nn hi).resolve_right (by simp);simp only[List.mem_flatMap,akO] at hi;obtain⟨e,⟨he,hb⟩,hi⟩:=hi;have h1:=hr _ o e ho he hb;rcases List.mem_cons.1 hi with rfl|hi
    .exact h1
    .exact IH hn (ha e.on i (by rw[afS];exact hi)) h1
   grind
theorem GH {mo:FuncId->Bool}{ops:Array Oper}{pr:List η}:∀{l:List (Nat×η)},Fg P mo ops pr l=true->∀i j,Ms (l.map (·.1)) i j ->
  ∃cj,(j,cj)∈l/\(i∈pr.getD j []\/∃o p,ops[i]?=some o/\ops[j]?=some p/\Rn P mo ops o p (HW cj i)=true)
 |[],_,_,_,hb=>by cases hb
 |(a,c)::l,hp,i,j,hb=>by
  unfold Fg at hp;rw[aag,agn] at hp;obtain⟨h1,h2⟩:=hp;cases hb with
  |cons _ hb=>
   obtain⟨cj,h3,h4⟩:=GH h2 i j hb;exact⟨cj,IN _ h3,h4⟩
  |cons_cons _ hb=>
   have:j∈l.map (·.1):=hb.subset (by simp)
   obtain⟨⟨j',cj⟩,hm,e⟩:=List.mem_map.1 this;simp only at e;subst e;refine⟨cj,IN _ hm,?_⟩;have h3:=h1 _ hm;simp only[ajc] at h3
   grind [wR]
theorem Pq {R:Type}{C:mR}{W:Wr}{nb:Nat}{ops:Array Oper}{l:List (Nat×η)}{E:Env}{K:Env->M R}{h:ab}{r:R×ab}(HM:∀f vs ca,C.mo f=true->C.st f vs=some ca->MoM ca.m)
  (HB:∀(j:Nat) cs (i:Nat) o p f,(j,cs)∈l->i∈cs->ops[i]?=some o->Ef (cls P ops o)=true->ops[j]?=some p->wM p=some f->∀vs ca,C.st f vs=some ca->IK (nb+i) ca.m) (hok:O1 P C.mo ops l=true) (t:Nat)
  (hx:iI P C W (some nb) ops l E fS.emp (λ_=>none) K h=some r) :
  iI P C W (some nb) ops ((Region.schedule (P.follows .mixedOrders) ops t).map λi=>(i,[])) E fS.emp (λ_=>none) K h=some r:=by
 unfold O1 at hok;simp only[aag] at hok;obtain⟨⟨⟨hmx,hpm⟩,hed⟩,hpr⟩:=hok;rw[Region.schedule,hmx,Bool.true_or,By rfl];have hpm:=List.isPerm_iff.1 hpm;have hlt:∀i o e,ops[i]?=some o->e∈o.after.toList->Region.binds .any e=true->e.on<i:=by
  intro i o e ho he hb;rw[agn] at hed;have h1:=hed (o,i) (by
   rw[List.mem_zipIdx_iff_getElem?];simpa using ho)
  simp only[agn] at h1;have h2:=h1 e he;rw[Eo,hb] at h2
  simp_all
 obtain⟨s1,s2,s3⟩:=Gw hlt t;generalize Region.linearise .any ops t=σ at s1 s2 s3;have hnd:(l.map (·.1)).Nodup:=(hpm.nodup_iff).2 aiP
 obtain⟨Af,Ck,Kk,E',L',h',hrun,hK,hks⟩:=GA l E fS.emp (λ_=>none) h hnd hx;have hp:=GG (ops:=ops) s1 (λi o e a b c=>s3 i o e a b (by rw[<-Eo];exact c)) ops.toList [] (by simp) (by simp);have hany:=CY.any σ (l.map (·.1)) (hpm.trans s2.symm) (λi j hij hji s s1' s2' q1 q2=>by
  obtain⟨cj,hm,hc⟩:=GH hpr i j hij;rcases hc with hc|⟨o,p,ho,hp',hsw⟩
  .exact absurd hji λhji=>Dk s1 (hp j i hc) hji
  .refine aaL HM (λhck hal f hf=>HB j cj i o p f hm (wR.1 hck) ho hal hp' hf) ho hp' ?_ hsw ?_ ?_ q1 q2
   .rintro rfl;exact Dk hnd hij hij
   .grind [wR]
   .intro hck hal;have hmem:=wR.1 hck;rw[(hks j cj hm i hmem).2.2];unfold EF
    grind) hrun
 exact GC σ _ (E,fS.emp,h) (E',L',h') hany hK
end Go.Ago
