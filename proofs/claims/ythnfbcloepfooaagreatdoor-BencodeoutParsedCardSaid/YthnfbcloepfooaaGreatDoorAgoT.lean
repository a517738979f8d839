
import Derived.Test.YthnfbcloepfooaaGreatDoorAgoF
set_option linter.all false
namespace Go.Ago
open Go
variable {P:Program}{h h' h1:af}
section Trace
variable {S:Type}
inductive xR (Step:Nat->S->S->Prop):η->S->S->Prop where
 |nil (s:S):xR Step [] s s
 |cons {i:Nat} {l:η} {s s1 s2:S}:Step i s s1->xR Step l s1 s2->xR Step (i::l) s s2
theorem xR.mono {St St':Nat->S->S->Prop}:∀{l:η} {s f:S},(∀i∈l,∀s s',St i s s'->St' i s s')->xR St l s f->xR St' l s f
 |[],_,_,_,.nil _=>.nil _
 |_::_,_,_,hc,.cons h1 h2=>.cons (hc _ (aaz ..) _ _ h1) (xR.mono (λi hi=>hc i (aan _ hi)) h2)
abbrev DO (l:η)(i j:Nat):Prop:=[i,j].Sublist l
theorem xR.front {Step:Nat->S->S->Prop}{x:Nat}:∀(t1:η) {t2:η} {s f:S},(∀y∈t1,∀s s1 s2,Step y s s1->Step x s1 s2->∃s1',Step x s s1'/\Step y s1' s2) ->
  xR Step (t1++x::t2) s f->xR Step (x::(t1++t2)) s f
 |[],t2,s,f,_,hr=>hr
 |y::t1,t2,s,f,hc,hr=>by
  cases hr with
  |cons h1 h2=>
   have ih:=xR.front t1 (λz hz=>hc z (aan _ hz)) h2;cases ih with
   |cons h3 h4=>
    obtain⟨s1',q1,q2⟩:=hc y (aaz ..) _ _ _ h1 h3;exact .cons q1 (.cons q2 h4)
theorem xR.any {Step:Nat->S->S->Prop}:∀(σ τ:η) {s f:S},τ.Perm σ ->
  (∀i j,DO τ i j->DO σ j i->∀s s1 s2,Step i s s1->Step j s1 s2->∃s1',Step j s s1'/\Step i s1' s2)->xR Step τ s f->xR Step σ s f
 |[],τ,s,f,hp,_,hr=>by
  have:=hp.eq_nil;subst this;exact hr
 |x::σ,τ,s,f,hp,hc,hr=>by
  have hx:x∈τ:=hp.symm.subset (aaz ..);obtain⟨t1,t2,rfl⟩:=List.append_of_mem hx;have hp':(t1++t2).Perm σ:=by
   have h1:(x::(t1++t2)).Perm (x::σ):=(List.perm_middle.symm).trans hp;exact h1.cons_inv
  have hf:=xR.front t1 (λy hy=>?_) hr
  .cases hf with
   |cons h1 h2=>
    refine .cons h1 (xR.any σ (t1++t2) hp' (λi j hij hji=>hc i j ?_ ?_) h2)
    .grind
    .exact hji.trans (aa2 ..)
  grind
end Trace
theorem nG:∀{l:η} {i j:Nat},l.Nodup->DO l i j->DO l j i->False
 |[],_,_,_,h,_=>by cases h
 |x::l,i,j,hn,h1,h2=>by
  obtain⟨hx,hn⟩:=List.nodup_cons.1 hn;cases h1 with
  |cons _ h1=>
   cases h2 with
   |cons _ h2=>exact nG hn h1 h2
   |cons_cons _ h2=>exact hx (h1.subset (by simp))
  |cons_cons _ h1=>
   grind
theorem Ej:∀{l:η} {i j k:Nat},l.Nodup->DO l i j->DO l j k->DO l i k
 |[],_,_,_,_,h,_=>by cases h
 |x::l,i,j,k,hn,h1,h2=>by
  obtain⟨hx,hn⟩:=List.nodup_cons.1 hn;cases h1 with
  |cons _ h1=>
   cases h2 with
   |cons _ h2=>exact .cons _ (Ej hn h1 h2)
   |cons_cons _ h2=>exact absurd (h1.subset (by simp)) hx
  |cons_cons _ h1=>
   grind
theorem JJ:∀{l1 l2:η},l1.Nodup->(∀i∈l1,i∈l2)->l1.length<=l2.length
 |[],_,_,_=>abO _
 |x::l,l2,hn,hs=>by
  obtain⟨hx,hn⟩:=List.nodup_cons.1 hn;have h1:=JJ (l2:=l2.erase x) hn λi hi=>(List.mem_erase_of_ne (λe=>hx (by subst e;exact hi))).2 (hs i (aan _ hi))
  grind
section Orders
variable {ops:Array Oper}
theorem Ln (hlt:∀i o e,ops[i]?=some o->e∈o.after.toList->Region.binds .any e=true->e.on<i) :
  ∀(fuel t:Nat) (listed:Array Bool) (acc:η),fuel+acc.length=ops.size->listed.size=ops.size->acc.Nodup ->
   (∀i,i<ops.size->(listed.getD i true=true↔i∈acc))->(∀i∈acc,i<ops.size) ->
   (∀i o e,ops[i]?=some o->i∈acc->e∈o.after.toList->Region.binds .any e=true->DO acc.reverse e.on i) ->
   ∃l,Region.linearise.go .any ops fuel t listed acc=l/\l.length=ops.size/\l.Nodup/\(∀i∈l,i<ops.size) /\
    (∀i o e,ops[i]?=some o->i∈l->e∈o.after.toList->Region.binds .any e=true->DO l e.on i)
 |0,t,listed,acc,hl,hs,hn,hm,hb,hr=>⟨acc.reverse,rfl,by simp;omega,by simpa[List.Nodup,List.pairwise_reverse,ne_comm] using hn,by simpa using hb,λi o e h1 h2 h3 h4=>hr i o e h1 (by simpa using h2) h3 h4⟩
 |fuel+1,t,listed,acc,hl,hs,hn,hm,hb,hr=>by
  unfold Region.linearise.go;generalize hrs:((List.range ops.size).filter λi=>!listed.getD i true&&((ops[i]?).map (·.after.all λe=>!Region.binds .any e||listed.getD e.on false)).getD false)=rs
  have hmem:∀i,i∈rs↔i<ops.size/\i∉acc/\∃o,ops[i]?=some o/\∀e∈o.after.toList,Region.binds .any e=true->e.on∈acc:=by
   intro i;subst hrs;rw[List.mem_filter,List.mem_range];refine and_congr_right λhi=>?_;have ho:ops[i]?=some ops[i]:=by simp[hi]
   rw[ho];have h1:(!listed.getD i true)=true↔i∉acc:=by
    rw[<-hm i hi];cases listed.getD i true<;>simp
   rw[aaf,h1];refine and_congr_right λ_=>?_;simp only[aby,Option.getD_some,IN,exists_eq_left',Array.all_eq_true',abt,abC,acf]
   grind
  have hne:rs≠[]:=by
   have hex:∃i,i<ops.size/\i∉acc:=by
    by_cases hc:∃i,i<ops.size/\i∉acc
    .exact hc
    .exfalso;have:=JJ ab8 (l2:=acc) λi hi=>by
      by_cases hia:i∈acc
      .exact hia
      .exact absurd ⟨i,List.mem_range.1 hi,hia⟩ hc
     simp at this;omega
   obtain⟨i,hi⟩:=hex;have hmin:∀n i,i<=n->i<ops.size/\i∉acc->∃k,k<ops.size/\k∉acc/\∀m,m<k->m∈acc:=by
    intro n
    induction n with
    |zero=>
     grind
    |succ n ih=>
     intro i h0 hi;by_cases hc:∃m,m<=n/\m<i/\m∉acc
     .obtain⟨m,h1,h2,h3⟩:=hc;exact ih m h1 ⟨by omega,h3⟩
     grind
   obtain⟨k,h1,h2,h3⟩:=hmin i i (aai _) hi;have:k∈rs:=(hmem k).2 ⟨h1,h2,ops[k],by simp[h1],λe he hbd=>h3 _ (hlt k _ e (by simp[h1]) he hbd)⟩;intro e;rw[e] at this;cases this
  have hlen:0<rs.length:=List.length_pos_iff.2 hne;have hget:rs[t%rs.length]?=some (rs[t%rs.length]'(acU _ hlen)):=aak _;simp only[hget];have hi:=(hmem _).1 (abn (acU t hlen));generalize rs[t%rs.length]'(acU _ hlen)=i at hi;obtain⟨h1,h2,o,ho,h3⟩:=hi;refine Ln hlt fuel _ _ (i::acc) (by simp;omega) (by simp[hs]) (List.nodup_cons.2 ⟨h2,hn⟩) (λj hj=>?_) (λj hj=>?_) (λj o' e hj hjm he hbd=>?_)
  .by_cases hij:i=j
   .subst hij;simp[aa8,abT,hs,hj]
   .rw[abz];have:(listed.setIfInBounds i true).getD j true=listed.getD j true:=by
     simp[aa8,abT,hij]
    grind
  .grind
  .rw[List.reverse_cons]
   grind
theorem wj (hlt:∀i o e,ops[i]?=some o->e∈o.after.toList->Region.binds .any e=true->e.on<i)(t:Nat) :
  (Region.linearise .any ops t).Nodup/\(Region.linearise .any ops t).Perm (List.range ops.size) /\
   (∀i o e,ops[i]?=some o->e∈o.after.toList->Region.binds .any e=true->DO (Region.linearise .any ops t) e.on i):=by
 obtain⟨l,e,hl,hn,hb,hr⟩:=Ln hlt ops.size t (Array.replicate ops.size false) [] (by simp) (by simp) List.nodup_nil
  (λi hi=>by simp[aa8,hi]) (by simp) (by simp)
 rw[Region.linearise,e];have hp:l.Perm (List.range ops.size):=(acx hn ab8).2 λi=>⟨λhi=>List.mem_range.2 (hb i hi),λhi=>by
  by_cases hc:i∈l
  .exact hc
  .have:=JJ (List.nodup_cons.2 ⟨hc,hn⟩) (l2:=List.range ops.size) λj hj=>by
    grind
   simp at this;omega⟩
 grind
end Orders
inductive ud where
 |val (v:ξ)
 |lit (x:Nat×δ)
def Env.res (E:Env)(d:μ):ud->Env
 |.val v=>E.put d v
 |.lit _=>E.del d
def cK.res (L:cK)(d:μ):ud->cK
 |.val _=>L.del d
 |.lit x=>L.put d x
def jZ (m:Option (ξ×af)):Option (ud×af):=match m with
 |some (v,h)=>some (.val v,h)
 |none=>none
def ex (P:Program)(C:eI)(nm:Nat)(ops:Array Oper)(E:Env)(L:cK)(o:Oper):M ud:=λh=>
 match o.op with
 |.pick c a b=>(match E.ev c with
  |some (.bool true)=>(match E.ev a with|some v=>some (.val v,h)|none=>none)
  |some (.bool false)=>(match E.ev b with|some v=>some (.val v,h)|none=>none)
  |_=>none)
 |.call c=>(match isBuiltin c with
  |true=>(match qt L c with
   |some (n,cs)=>jZ ((vH (yV ops o) E c (nZ P (!vG ops o) E c n cs)).exec h)
   |none=>(match vG ops o with
    |true=>none
    |false=>jZ ((vH (yV ops o) E c (uM P (some nm) E o)).exec h)))
  |false=>(match iQ C c with
   |some t=>(match pU E t c with
    |some (x,vs)=>(match C.dy t x vs with
     |some ca=>(match ca.m h with|some (x,h')=>some (.val (ca.pk x),h')|none=>none)
     |none=>none)
    |none=>none)
   |none=>(match callee E c with
    |some (f,vs)=>(match C.st f vs with
     |some ca=>(match ca.m h with|some (x,h')=>some (.val (ca.pk x),h')|none=>none)
     |none=>none)
    |none=>none)))
 |.buildSlice _ _ _=>(match tX P ops E o with
  |some x=>some (.lit x,h)
  |none=>jZ ((uM P (some nm) E o).exec h))
 |_=>jZ ((uM P (some nm) E o).exec h)
def want (ops:Array Oper)(E:Env)(o:Oper):Option Bool:=
 match o.guard with
 |none=>some true
 |some (j,w)=>(match (ops[j]?).bind (·.dst) with
  |some t=>(match E t with
   |some (.bool b)=>some (b==w)
   |some (.tuple _)=>some false
   |_=>none)
  |none=>none)
def act (P:Program)(C:eI)(nm:Nat)(ops:Array Oper)(E:Env)(L:cK)(o:Oper):M ud:=λh=>
 match want ops E o with
 |some true=>ex P C nm ops E L o h
 |some false=>some (.val undef,h)
 |none=>none
abbrev St:=Env×cK×af
def zX (E:Env)(o:Oper):θ:=
 match o.op with
 |.store _ x _=>(match E.ev x with|some (.pointer p)=>p|_=>none)
 |_=>none
def uT (E:Env)(o:Oper)(h:af)(ks:η):Prop:=tY o=true->ks≠[]->∃a,zX E o=some a/\SD h a ks=true
def Step (P:Program)(C:eI)(W:Wr)(nb:Nat)(ops:Array Oper)(Af:Nat->θ)(Ck:Nat->List θ)(Kk:Nat->η)(i:Nat)(s s':St):Prop:=
 ∃o r,ops[i]?=some o/\xk W o.dst=true/\(want ops s.1 o=some true->iR s.1 o=Af i)/\act P C (nb+i) ops s.1 s.2.1 o s.2.2=some (r,s'.2.2) /\
  s'.1=s.1.res o.dst r/\s'.2.1=s.2.1.res o.dst r/\(wc ops o=true->sameAt s.2.2 s'.2.2 (Ck i)=true)/\(want ops s.1 o=some true->uT s.1 o s.2.2 (Kk i))
theorem eL.of {h h':af}{b:Addr}(e:h'.get b.block=h.get b.block):eL h h' b:=by
 unfold eL;rw[e];split
 .rename_i h1 h2;rw[h1] at h2;cases h2;exact⟨rfl,rfl,rfl,rfl,rfl⟩
 .rfl
theorem eL.cast {h h' g g':af}{b:Addr}(hs:eL h h' b)(e:g.get b.block=h.get b.block)(e':g'.get b.block=h'.get b.block):eL g g' b:=by
 unfold eL at *
 rw[e,e'];exact hs
theorem sameAt_refl (h:af):∀l,sameAt h h l=true
 |[]=>rfl
 |none::r=>sameAt_refl h r
 |some b::r=>by
  unfold sameAt;split
  .exact sameAt_refl h r
  .rename_i q _;exact absurd (eL.of rfl) q
theorem pA {h h':af}:∀{l:List θ} {a:Addr},sameAt h h' l=true->some a∈l->eL h h' a
 |[],_,_,hm=>by cases hm
 |none::r,a,hs,hm=>by
  rcases List.mem_cons.1 hm with q|q
  .cases q
  .exact pA (l:=r) hs q
 |some b::r,a,hs,hm=>by
  unfold sameAt at hs;split at hs
  .rename_i q _;rcases List.mem_cons.1 hm with e|e
   .cases e;exact q
   .exact pA (l:=r) hs e
  .cases hs
theorem k7 {E:Env}{t:Nat}{v:ξ}(h:E t=some v):E.set t v=E:=by
 funext j;unfold Env.set;cases hj:Nat.beq j t
 .rfl
 .have:=IS hj;subst this;exact h.symm
theorem uU {E:Env}{c:Operand}{b:Bool}(h:E.ev c=some (.bool b)):E.nY c b=E:=by
 unfold Env.nY;split
 .exact k7 h
 .rfl
theorem za {R:Type}{r:R×af}{K:ξ->M R}:∀{A:Act} {h:af},A.run K h=some r↔∃v h',A.exec h=some (v,h')/\K v h'=some r
 |.val v,h=>by
  simp only[Act.run,Act.exec,IN,abm]
  grind
 |.none,h=>by simp[Act.run,Act.exec,AT]
 |.ask α m k,h=>by
  simp only[Act.run,Act.exec,AI];cases hm:m h with
  |none=>simp
  |some x=>exact za (A:=k x.1) (h:=x.2)
theorem H3 {α:Type}{as:List θ}{m:M α}{h:af}{x:α×af}(hx:kO as m h=some x):m h=some x/\sameAt h x.2 as=true:=by
 grind [kO]
theorem Cr {α:Type}{as:List θ}{m:M α}{h:af}{x:α×af}(hx:wrapM as m h=some x):m h=some x/\sameAt h x.2 as=true:=by
 unfold wrapM at hx;split at hx
 .exact⟨hx,rfl⟩
 .exact H3 hx
theorem JK {as:List θ}{A:Act}{h:af}{x:ξ×af}(hx:(pn as A).exec h=some x) :
  A.exec h=some x/\(∀α m (v:α->ξ),A=.ask α m (λy=>.val (v y))->sameAt h x.2 as=true):=by
 unfold pn at hx;split at hx
 .split at hx
  .exact⟨hx,λ_ _ _ _=>rfl⟩
  .simp only[Act.exec] at hx⊢;split at hx
   .rename_i m k _ _ _ y h2 hc;obtain⟨h1,h2⟩:=H3 hc;rw[h1];refine⟨hx,λα' m' v e=>?_⟩;cases e;simp only[Act.exec] at hx;cases hx;exact h2
   .cases hx
 grind
theorem yi {b:Bool}(h:ya b=.sil):False:=by cases b<;>cases h
theorem rE {b:Bool}(h:ya b=.ro):False:=by cases b<;>cases h
theorem ns {b:Bool}(h:ya b=.mro):False:=by cases b<;>cases h
theorem lV {b:Bool}(h:ya b=.alloc):False:=by cases b<;>cases h
theorem pB {b:Bool}(h:ya b=.mka):False:=by cases b<;>cases h
theorem Cs {b:Bool}(h:ya b=.add):b=false:=by cases b<;>first|rfl|cases h
theorem zY {h:af}{b:Bool}{E:Env}{c:Call}{A:Act}{r:ud×af}(e:jZ ((vH b E c A).exec h)=some r):vH b E c A=A:=by
 cases q:(vH b E c A).exec h with
 |none=>rw[q] at e;cases e
 |some v=>exact zP q
theorem H4 {E:Env}{c:Call}{n:Nat}{cs:δ}(b:Bool):(∃α m,∃v:α->ξ,nZ P b E c n cs=.ask α m (λy=>.val (v y)))\/nZ P b E c n cs=.none:=by
 unfold nZ
 repeat' (first|exact .inr rfl|exact .inl ⟨_,_,_,rfl⟩|split)
theorem MM {R:Type}{C:eI}{W:Wr}{nm:Nat}{cks:List θ}{ks:η}{ops:Array Oper}{E:Env}{L:cK}{o:Oper}{K:Env->cK->M R}{h:af}{q:R×af}
  (hx:jU P C W (some nm) cks ks ops E L o K h=some q):xk W o.dst=true/\∃r h',ex P C nm ops E L o h=some (r,h') /\
   (wc ops o=true->sameAt h h' cks=true)/\uT E o h ks/\K (E.res o.dst r) (L.res o.dst r) h'=some q:=by
 have gen:∀A:Act,(pn cks A).run (λv=>K (E.put o.dst v) (L.del o.dst)) h=some q->∃r h',jZ (A.exec h)=some (r,h') /\
   ((∃α m,∃v:α->ξ,A=.ask α m (λy=>.val (v y)))->sameAt h h' cks=true)/\K (E.res o.dst r) (L.res o.dst r) h'=some q:=by
  intro A hA;obtain⟨v,h',h1,h2⟩:=za.1 hA;obtain⟨h3,h4⟩:=JK h1;exact⟨.val v,h',by rw[h3];rfl,λ⟨α,m,v,e⟩=>h4 α m v e,h2⟩
 generalize hm:jU P C W (some nm) cks ks ops E L o K=m at hx;unfold jU at hm;cases hW:xk W o.dst
 .rw[hW] at hm;subst hm;simp[AT] at hx
 rw[hW] at hm;refine⟨rfl,?_⟩;have noSt:tY o=false->uT E o h ks:=λhs e=>by rw[hs] at e;cases e
 unfold ex wc;cases hop:o.op<;>simp only[hop] at hm⊢
 case pick c a b=>
  split at hm
  .rename_i t ht;cases t
   .simp only[kG,aag,aar,uU ht] at hm;split at hm
    .rename_i v hv;subst hm;exact⟨.val v,h,by simp[ht,hv],by simp,noSt (by simp[tY,hop]),hx⟩
    .subst hm;simp[AT] at hx
   .simp only[kG,aav,uU ht] at hm;split at hm
    .rename_i v hv;subst hm;exact⟨.val v,h,by simp[ht,hv],by simp,noSt (by simp[tY,hop]),hx⟩
    .subst hm;simp[AT] at hx
  .subst hm;simp[AT] at hx
 case call c=>
  cases hb:isBuiltin c<;>simp only[hb] at hm⊢
  .split at hm
   .rename_i t hds;split at hm
    .rename_i xv vs hcl;split at hm
     .rename_i ca hca;subst hm;simp only[AI] at hx;split at hx
      .rename_i x h' hm;obtain⟨h3,h4⟩:=Cr hm;exact⟨.val (ca.pk x),h',by simp[hds,hcl,hca,h3],λ_=>h4,noSt (by simp[tY,hop]),hx⟩
      .cases hx
     .subst hm;simp[AT] at hx
    .subst hm;simp[AT] at hx
   .rename_i hds;split at hm
    .rename_i f vs hcl;split at hm
     .rename_i ca hca;subst hm;simp only[AI] at hx;split at hx
      .rename_i x h' hm;obtain⟨h3,h4⟩:=Cr hm;exact⟨.val (ca.pk x),h',by simp[hds,hcl,hca,h3],λ_=>h4,noSt (by simp[tY,hop]),hx⟩
      .cases hx
     .subst hm;simp[AT] at hx
    .subst hm;simp[AT] at hx
  .split at hm
   .rename_i n cs hl;subst hm;rw[Jx] at hx;obtain⟨r,h',h1,h2,h3⟩:=gen _ hx;refine⟨r,h',by simpa[hl] using h1,λ_=>h2 ?_,noSt (by simp[tY,hop]),h3⟩;rcases H4 (P:=P) (E:=E) (c:=c) (n:=n) (cs:=cs) ((some nm).isSome&&!vG ops o) with h4|h4
    .rw[zY h1];exact h4
    .rw[zY h1,h4] at h1;simp[Act.exec,jZ] at h1
   .rename_i hl;cases hlx:vG ops o<;>rw[hlx] at hm
    .subst hm
     grind [tY]
    .subst hm;simp[AT] at hx
 case buildSlice t l ps=>
  split at hm
  .rename_i x hl;subst hm;exact⟨.lit x,h,by simp[hl],by simp,noSt (by simp[tY,hop]),hx⟩
  .rename_i hl;subst hm
   grind [tY]
 case store t x y=>
  have fin:(pn cks (uM P (some nm) E o)).run (λv=>K (E.put o.dst v) (L.del o.dst)) h=some q->uT E o h ks->∃r h',jZ ((uM P (some nm) E o).exec h)=some (r,h') /\
    (True->sameAt h h' cks=true)/\uT E o h ks/\K (E.res o.dst r) (L.res o.dst r) h'=some q:=by
   intro hx hs;obtain⟨r,h',h1,h2,h3⟩:=gen _ hx;refine⟨r,h',h1,λ_=>h2 ?_,hs,h3⟩;unfold uM at h1⊢;simp only[hop] at h1⊢;split at h1
   .unfold v8 at h1⊢;split at h1
    .simp only at h1;split at h1
     .grind
     .simp[Act.exec,jZ] at h1
    .simp[Act.exec,jZ] at h1
   .simp[Act.exec,jZ] at h1
  split at hm
  .subst hm;obtain⟨r,h',h1,h2,h3,h4⟩:=fin hx (λ_ e=>absurd rfl e);exact⟨r,h',h1,λ_=>h2 trivial,h3,h4⟩
  .split at hm
   .rename_i a ha;subst hm;have hok:uT E o h ks:=by
     intro _ _;refine⟨a,by simp only[zX,hop,ha],?_⟩;cases hA:pn cks (uM P (some nm) E o) with
     |val v=>
      exfalso;have h1:∀v,uM P (some nm) E o≠.val v:=by
       intro v e;unfold uM at e;simp only[hop] at e
       grind [v8]
      cases hB:uM P (some nm) E o with
      |val v'=>exact h1 v' hB
      |none=>rw[hB] at hA;simp[pn] at hA
      |ask α m k=>rw[hB] at hA;cases cks<;>simp[pn] at hA
     |none=>rw[hA] at hx;simp[Hq,Act.run,AT] at hx
     |ask α m k=>
      rw[hA] at hx;simp only[Hq,Act.run,AI] at hx
      grind [Ei]
    obtain⟨r,h',h1,h2,h3,h4⟩:=fin (Cq hx) hok;exact⟨r,h',h1,λ_=>h2 trivial,h3,h4⟩
   .subst hm;simp[AT] at hx
 all_goals
  subst hm;obtain⟨r,h',h1,_,h3⟩:=gen _ hx;exact⟨r,h',h1,by simp,noSt (by simp[tY,hop]),h3⟩
theorem w7 {R:Type}{C:eI}{W:Wr}{nm:Nat}{ops:Array Oper}{E:Env}{L:cK}{o:Oper}{K:Env->cK->M R}{h h':af}{r:ud}{q:R×af}
  (hW:xk W o.dst=true) (he:ex P C nm ops E L o h=some (r,h')) (hx:K (E.res o.dst r) (L.res o.dst r) h'=some q) :
  jU P C W (some nm) [] [] ops E L o K h=some q:=by
 have gen:∀A:Act,jZ (A.exec h)=some (r,h')->(pn [] A).run (λv=>K (E.put o.dst v) (L.del o.dst)) h=some q:=by
  intro A hA;have:pn [] A=A:=by cases A<;>rfl
  rw[this];unfold jZ at hA;split at hA
  .rename_i v h2 hv;cases hA;exact za.2 ⟨v,_,hv,hx⟩
  .cases hA
 unfold jU;rw[hW];unfold ex at he;cases hop:o.op<;>simp only[hop] at he⊢
 case pick c a b=>
  split at he
  .rename_i ht;simp only[ht,kG,aav,uU ht];split at he
   .rename_i v hv;cases he;simp only[hv];exact hx
   .cases he
  .rename_i ht;simp only[ht,kG,aag,aar,uU ht];split at he
   .rename_i v hv;cases he;simp only[hv];exact hx
   .cases he
  .cases he
 case call c=>
  cases hb:isBuiltin c<;>simp only[hb] at he⊢
  .split at he
   .rename_i t hds;simp only[hds];split at he
    .rename_i xv vs hcl;simp only[hcl];split at he
     .rename_i ca hca;split at he
      .rename_i x h2 hm;cases he;simp only[hca,AI,wrapM,hm];exact hx
      .cases he
     .cases he
    .cases he
   .rename_i hds;simp only[hds];split at he
    .rename_i f vs hcl;simp only[hcl];split at he
     .rename_i ca hca;split at he
      .rename_i x h2 hm;cases he;simp only[hca,AI,wrapM,hm];exact hx
      .cases he
     .cases he
    .cases he
  .split at he
   .rename_i n cs hl;simp only[hl,Jx];exact gen _ he
   .rename_i hl;cases hlx:vG ops o<;>simp only[hlx] at he⊢
    .simp only[hl];exact gen _ he
    .cases he
 case buildSlice t l ps=>
  split at he
  .rename_i x hl;cases he;simp only[hl];exact hx
  .rename_i hl;simp only[hl];exact gen _ he
 all_goals exact gen _ he
section Traces
variable {R:Type}{C:eI}{W:Wr}{nb:Nat}{ops:Array Oper}{K:Env->M R}{q:R×af}
theorem Step.congr {Af Af':Nat->θ}{Ck Ck':Nat->List θ}{Kk Kk':Nat->η}{i:Nat}{s s':St}(h1:Af i=Af' i)(h2:Ck i=Ck' i)(h3:Kk i=Kk' i)
  (hs:Step P C W nb ops Af Ck Kk i s s'):Step P C W nb ops Af' Ck' Kk' i s s':=by
 obtain⟨o,r,a,b,c,d,e,f,g,k⟩:=hs;exact⟨o,r,a,b,λw=>h1▸c w,d,e,f,λw=>h2▸g w,λw=>h3▸k w⟩
theorem yj:∀(l:List (Nat×η)) (E:Env) (L:cK) (A:Hr) (h:af),(l.map (·.1)).Nodup->dP P C W (some nb) ops l E L A K h=some q ->
  ∃(Af:Nat->θ) (Ck:Nat->List θ) (Kk:Nat->η) (E':Env) (L':cK) (h':af),xR (Step P C W nb ops Af Ck Kk) (l.map (·.1)) (E,L,h) (E',L',h')/\K E' h'=some q /\
   ∀j cs,(j,cs)∈l->∀k∈cs,(DO (l.map (·.1)) k j->Af k∈Ck j)/\(k∉l.map (·.1)->A k∈Ck j)/\Kk j=vI P ops (some nb) cs
 |[],E,L,A,h,_,hx=>⟨λ_=>none,λ_=>[],λ_=>[],E,L,h,.nil _,hx,by simp⟩
 |(i,c0)::rest,E,L,A,h,hn,hx=>by
  rw[aaK,List.nodup_cons] at hn;obtain⟨hni,hn⟩:=hn;generalize hm:dP P C W (some nb) ops ((i,c0)::rest) E L A K=m at hx;unfold dP at hm;have fin:∀(o:Oper) (r:ud) (A':Hr) (h2:af),ops[i]?=some o->xk W o.dst=true->(∀k,k≠i->A' k=A k)->(want ops E o=some true->iR E o=A' i) ->
    act P C (nb+i) ops E L o h=some (r,h2)->(wc ops o=true->sameAt h h2 (c0.map A)=true)->(want ops E o=some true->uT E o h (vI P ops (some nb) c0))->dP P C W (some nb) ops rest (E.res o.dst r) (L.res o.dst r) A' K h2=some q ->
    ∃(Af:Nat->θ) (Ck:Nat->List θ) (Kk:Nat->η) (E':Env) (L':cK) (h':af),xR (Step P C W nb ops Af Ck Kk) (i::rest.map (·.1)) (E,L,h) (E',L',h')/\K E' h'=some q /\
     ∀j cs,(j,cs)∈(i,c0)::rest->∀k∈cs,(DO (i::rest.map (·.1)) k j->Af k∈Ck j)/\(k∉i::rest.map (·.1)->A k∈Ck j)/\Kk j=vI P ops (some nb) cs:=by
   intro o r A' h2 ho hW hA hrd hact hck hst hx2;obtain⟨Af,Ck,Kk,E',L',h',hrun,hK,hks⟩:=yj rest _ _ _ _ hn hx2;refine⟨λk=>if k=i then A' i else Af k,λk=>if k=i then c0.map A else Ck k,λk=>if k=i then vI P ops (some nb) c0 else Kk k,E',L',h',.cons ⟨o,r,ho,hW,?_,hact,rfl,rfl,?_,?_⟩ (xR.mono (λk hk s s' hs=>hs.congr ?_ ?_ ?_) hrun),hK,?_⟩
   .simpa using hrd
   .simpa using hck
   .simpa using hst
   rotate_left
   .rw[By];rintro rfl;exact hni hk
   .rw[By];rintro rfl;exact hni hk
   .rw[By];rintro rfl;exact hni hk
   .intro j cs hj k hk;rcases List.mem_cons.1 hj with e|hj
    .grind
    .have hjm:j∈rest.map (·.1):=List.mem_map.2 ⟨(j,cs),hj,rfl⟩
     have hji:j≠i:=(by rintro rfl;exact hni hjm);obtain⟨h1,h2,h2b⟩:=hks j cs hj k hk;simp only[By hji];refine⟨λhb=>?_,λhb=>?_,h2b⟩
     .cases hb with
      |cons _ hb=>
       grind
      |cons_cons _ hb=>rw[BY rfl];exact h2 hni
     grind
  split at hm
  .subst hm;simp[AT] at hx
  .rename_i o ho;have run:want ops E o=some true->jU P C W (some (nb+i)) (c0.map A) (vI P ops (some nb) c0) ops E L o (λE' L'=>dP P C W (some nb) ops rest E' L' (λj=>cond (Nat.beq j i) (iR E o) (A j)) K) h=some q ->
     ∃(Af:Nat->θ) (Ck:Nat->List θ) (Kk:Nat->η) (E':Env) (L':cK) (h':af),xR (Step P C W nb ops Af Ck Kk) (i::rest.map (·.1)) (E,L,h) (E',L',h')/\K E' h'=some q /\
      ∀j cs,(j,cs)∈(i,c0)::rest->∀k∈cs,(DO (i::rest.map (·.1)) k j->Af k∈Ck j)/\(k∉i::rest.map (·.1)->A k∈Ck j)/\Kk j=vI P ops (some nb) cs:=by
    intro hw hx;obtain⟨hW,r,h2,he,hck,hst,hk⟩:=MM hx;refine fin o r _ h2 ho hW ?_ ?_ (by simp only[act,hw];exact he) hck (λ_=>hst) hk
    .grind [absurd,Nat.eq_of_beq_eq_true]
    .intro _;simp
   have skip:want ops E o=some false->(match xk W o.dst with|true=>dP P C W (some nb) ops rest (E.put o.dst undef) (L.del o.dst) A K|false=>AT) h=some q ->
     ∃(Af:Nat->θ) (Ck:Nat->List θ) (Kk:Nat->η) (E':Env) (L':cK) (h':af),xR (Step P C W nb ops Af Ck Kk) (i::rest.map (·.1)) (E,L,h) (E',L',h')/\K E' h'=some q /\
      ∀j cs,(j,cs)∈(i,c0)::rest->∀k∈cs,(DO (i::rest.map (·.1)) k j->Af k∈Ck j)/\(k∉i::rest.map (·.1)->A k∈Ck j)/\Kk j=vI P ops (some nb) cs:=by
    intro hw hx;cases hW:xk W o.dst<;>rw[hW] at hx
    .simp[AT] at hx
    .exact fin o (.val undef) A h ho hW (λ_ _=>rfl) (by rw[hw];simp) (by simp only[act,hw]) (λ_=>sameAt_refl _ _) (λhw2=>by rw[hw] at hw2;cases hw2) hx
   split at hm
   .rename_i hg;subst hm;exact run (by simp only[want,hg]) hx
   .rename_i j w hg;split at hm
    .rename_i t ht;split at hm
     .rename_i b hb;have hwant:want ops E o=some (b==w):=(by simp only[want,hg,ht,hb]);cases w<;>cases b<;>simp only[kG,aag,aar,aav,k7 hb] at hm<;>subst hm
      .exact run hwant hx
      .exact skip hwant hx
      .exact skip hwant hx
      .exact run hwant hx
     .rename_i vs hb;subst hm;exact skip (by simp only[want,hg,ht,hb]) hx
     .subst hm;simp[AT] at hx
    .subst hm;simp[AT] at hx
theorem Ct {Af:Nat->θ}{Ck:Nat->List θ}{Kk:Nat->η}:∀(l:η) (A:Hr) (s f:St),xR (Step P C W nb ops Af Ck Kk) l s f->K f.1 f.2.2=some q ->
  dP P C W (some nb) ops (l.map λi=>(i,[])) s.1 s.2.1 A K s.2.2=some q
 |[],A,s,f,hr,hK=>by cases hr;exact hK
 |i::l,A,(E,L,h),f,.cons (s1:=(E1,L1,h1)) ⟨o,r,ho,hW,_,hact,e1,e2,_⟩ hr,hK=>by
  simp only at e1 e2 hact;subst e1;subst e2;have ih:=λA=>Ct l A _ _ hr hK;simp only[aaK] at ih⊢;unfold dP;simp only[ho];unfold act at hact;unfold want at hact;cases hg:o.guard with
  |none=>
   simp only[hg] at hact;exact w7 hW hact (ih _)
  |some jw=>
   obtain⟨j,w⟩:=jw;simp only[hg] at hact⊢;cases ht:(ops[j]?).bind (·.dst) with
   |none=>simp[ht] at hact
   |some t=>
    simp only[ht] at hact⊢;split at hact
    .rename_i hwt;split at hwt
     .rename_i b hb;simp only[hb];cases w<;>cases b<;>simp at hwt
      .simp only[kG,aag,aar,k7 hb];exact w7 hW hact (ih _)
      .simp only[kG,aav,k7 hb];exact w7 hW hact (ih _)
     .simp at hwt
     .cases hwt
    .rename_i hwt;cases hact;split at hwt
     .rename_i b hb;simp only[hb];cases w<;>cases b<;>simp at hwt
      .simp only[kG,aav,k7 hb,hW];exact ih _
      .simp only[kG,aag,aar,k7 hb,hW];exact ih _
     .rename_i vs hb;simp only[hb,hW];exact ih _
     .cases hwt
    .cases hact
end Traces
section Congr
variable {E E':Env}{L L':cK}{ops:Array Oper}{o:Oper}{C:eI}
theorem rF:∀{xs:List Operand},(∀x∈xs,E.ev x=E'.ev x)->E.D9 xs=E'.D9 xs
 |[],_=>rfl
 |x::xs,h=>by
  simp only[Env.D9];rw[h x (aaz ..),rF λy hy=>h y (aan _ hy)]
theorem sO:∀{xs:List (Nat×Operand)},(∀x∈xs.map (·.2),E.ev x=E'.ev x)->partsOf E xs=partsOf E' xs
 |[],_=>rfl
 |(i,x)::xs,h=>by
  simp only[partsOf];rw[h x (by simp),sO λy hy=>h y (by simp at hy⊢;exact .inr hy)]
theorem uV {x:Option Operand}(h:∀y,x=some y->E.ev y=E'.ev y):A8 E x=A8 E' x:=by
 cases x with
 |none=>rfl
 |some y=>simp only[A8];rw[h y rfl]
theorem MN {nm:μ}(h:∀x∈o.op.operands,E.ev x=E'.ev x):uM P nm E o=uM P nm E' o:=by
 unfold uM;cases hop:o.op<;>simp only[hop] at h⊢
 case build t ps=>grind [sO,Op.operands]
 case buildSlice t l ps=>grind [sO,Op.operands]
 case makeFunc f a b=>
  rw[rF (xs:=a.toList) λx hx=>h x (by grind [Op.operands]),
   rF (xs:=b.toList) λx hx=>h x (by grind [Op.operands])]
 case makeMap t r=>grind [uV,Op.operands]
 case call c=>
  rw[rF (xs:=c.args.toList) λx hx=>h x (by grind [Op.operands,Call.operands])]
 case slice t x lo hi mx=>
  rw[h x (by simp[Op.operands]),uV (x:=lo) λy hy=>h y (by simp[Op.operands,hy]),
   uV (x:=hi) λy hy=>h y (by simp[Op.operands,hy]),uV (x:=mx) λy hy=>h y (by simp[Op.operands,hy])]
 all_goals simp[Op.operands] at h
 all_goals simp only[h]
theorem xS {x:Operand}{t:Nat}(hx:x∈o.op.operands)(e:x=.tmp t):t∈ir ops o:=by
 unfold ir;refine aaT _ (List.mem_filterMap.2 ⟨x,Array.mem_toList_iff.2 hx,?_⟩);subst e;rfl
theorem zb (h:∀t∈ir ops o,E t=E' t):∀x∈o.op.operands,E.ev x=E'.ev x:=by
 intro x hx;cases x<;>simp only[Env.ev];exact h _ (xS hx rfl)
theorem rU (h:∀t∈ir ops o,E t=E' t):want ops E o=want ops E' o:=by
 grind [want,ir,List.mem_append_right]
theorem zd (h:∀t∈ir ops o,E t=E' t):iR E o=iR E' o:=by
 have h:=zb h;unfold iR;cases hop:o.op<;>simp only[hop,Op.operands] at h⊢
 all_goals first|rfl|(rw[h _ (by simp)])
theorem MO {c:Call}(hop:o.op=.call c)(h:∀t∈ir ops o,L t=L' t):qt L c=qt L' c:=by
 unfold qt;split
 .rename_i x t hc ha;refine h t (xS (x:=.tmp t) ?_ rfl);rw[hop];simp only[Op.operands,Call.operands,acD];exact .inr (Array.mem_toList_iff.1 (by rw[ha];simp))
 .rfl
theorem Ek {nm:Nat}(h:∀t∈ir ops o,E t=E' t)(hL:∀t∈ir ops o,L t=L' t):act P C nm ops E L o=act P C nm ops E' L' o:=by
 funext hp;unfold act;rw[rU h];have he:ex P C nm ops E L o hp=ex P C nm ops E' L' o hp:=by
  have ha:=MN (P:=P) (nm:=some nm) (zb h);have hv:=zb h;unfold ex;cases hop:o.op<;>simp only
  case pick c a b=>
   grind [Op.operands]
  case call c=>
   rw[ha,MO hop hL];rw[hop] at hv;have hcw:∀A,vH (yV ops o) E c A=vH (yV ops o) E' c A:=λA=>by
    unfold vH;cases hca:c.args.toList with
    |nil=>rfl
    |cons s ss=>simp only[hv s (by simp only[Op.operands,Call.operands,acD];exact .inr (Array.mem_toList_iff.1 (by rw[hca];simp)))]
   simp only[hcw];have h1:callee E c=callee E' c:=by
    unfold callee;rw[rF (xs:=c.args.toList) λx hx=>hv x (by grind [Op.operands,Call.operands])]
    grind [Op.operands,Call.operands]
   have h3:∀t,iQ C c=some t->pU E t c=pU E' t c:=by
    intro t ht;unfold pU;rw[rF (xs:=c.args.toList) λx hx=>hv x (by grind [Op.operands,Call.operands])];have hcal:c.callee=.value (.tmp t):=by
     grind [iQ]
    have:E t=E' t:=hv (.tmp t) (by simp[Op.operands,Call.operands,hcal]);rw[this]
   have h4:(match iQ C c with
     |some t=>(match pU E t c with
      |some (x,vs)=>(match C.dy t x vs with
       |some ca=>(match ca.m hp with|some (x,h')=>some (ud.val (ca.pk x),h')|none=>none)
       |none=>none)
      |none=>none)
     |none=>(match callee E c with
      |some (f,vs)=>(match C.st f vs with
       |some ca=>(match ca.m hp with|some (x,h')=>some (.val (ca.pk x),h')|none=>none)
       |none=>none)
      |none=>none))=(match iQ C c with
     |some t=>(match pU E' t c with
      |some (x,vs)=>(match C.dy t x vs with
       |some ca=>(match ca.m hp with|some (x,h')=>some (ud.val (ca.pk x),h')|none=>none)
       |none=>none)
      |none=>none)
     |none=>(match callee E' c with
      |some (f,vs)=>(match C.st f vs with
       |some ca=>(match ca.m hp with|some (x,h')=>some (.val (ca.pk x),h')|none=>none)
       |none=>none)
      |none=>none)):=by
    grind
   have h2:∀b n cs,nZ P b E c n cs=nZ P b E' c n cs:=by
    intro b n cs;unfold nZ;split
    .rename_i t t' s u e1 e2;rw[hv s (by simp only[Op.operands,Call.operands,acD];exact .inr (Array.mem_toList_iff.1 (by rw[e2];simp)))]
    .rfl
   simp only[h4,h2]
  case buildSlice t l ps=>
   rw[ha];have:tX P ops E o=tX P ops E' o:=by
    unfold tX;rw[hop] at hv⊢;have hp:=sO (xs:=ps.toList) λx hx=>hv x (by simpa[Op.operands] using hx);cases o.dst
    .rfl
    .simp only[hp]
   rw[this]
  all_goals rw[ha]
 rw[he]
end Congr
section Classes
variable {E E':Env}{L L':cK}{ops:Array Oper}{o:Oper}{C:eI}
def Pm {α:Type}(m:M α):Prop:=∀h x h',m h=some (x,h')->h'=h/\∀h2,m h2=some (x,h2)
def Pa (A:Act):Prop:=∀h x h',A.exec h=some (x,h')->h'=h/\∀h2,A.exec h2=some (x,h2)
theorem eL.none {h h':af}{b:Addr}(hs:eL h h' b)(hn:h.get b.block≠Option.none):(∃c g base e c',h.get b.block=some (.cells c g base e)/\h'.get b.block=some (.cells c' g base e)/\c'.length=c.length/\c'.drop b.off=c.drop b.off)\/h'.get b.block=h.get b.block:=by
 unfold eL at hs;split at hs
 .rename_i c g base e c' g' base' e' h1 h2;obtain⟨rfl,rfl,rfl,q1,q2⟩:=hs;exact .inl ⟨c,_,_,_,c',h1,h2,q1,q2⟩
 .exact .inr hs
theorem eL.cell {h h':af}{a b:Addr}(hs:eL h h' b)(hb:a.block=b.block)(ho:b.off<=a.off):h'.cell a=h.cell a:=by
 unfold af.cell;rw[hb];cases hq:h.get b.block with
 |none=>
  unfold eL at hs;rw[hq] at hs;simp only at hs;rw[hs]
 |some o=>
  rcases hs.none (by rw[hq];simp) with⟨c,g,base,e,c',h1,h2,h3,h4⟩|h1
  .rw[h2];rw[hq] at h1;cases h1;simp only;have:∀l:δ,l[a.off]?=(l.drop b.off)[a.off-b.off]?:=λl=>by
    rw[aaJ];congr 1;omega
   rw[this c',this c,h4]
  .rw[h1,hq]
theorem eL.cells {h h':af}{b:Addr}(hs:eL h h' b){n:Nat}:bj h' (some b) n=bj h (some b) n:=by
 unfold bj;simp only;cases hq:h.get b.block with
 |none=>
  unfold eL at hs;rw[hq] at hs;simp only at hs;rw[hs]
 |some o=>
  rcases hs.none (by rw[hq];simp) with⟨c,g,base,e,c',h1,h2,h3,h4⟩|h1
  .rw[h2];rw[hq] at h1;cases h1;simp only[h3,h4]
  .rw[h1,hq]
theorem eL.elem {h h':af}{b:Addr}(hs:eL h h' b){s:Sl}(ha:s.a=some b){e:κ}:gx h' s e=gx h s e:=by
 unfold gx;rw[ha];simp only;cases hq:h.get b.block with
 |none=>
  unfold eL at hs;rw[hq] at hs;simp only at hs;rw[hs]
 |some o=>
  rcases hs.none (by rw[hq];simp) with⟨c,g,base,e,c',h1,h2,h3,h4⟩|h1
  .rw[h2];rw[hq] at h1;cases h1;rfl
  .rw[h1,hq]
def Rm (a:θ){α:Type}(m:M α):Prop:=∀h x h',m h=some (x,h')->h'=h /\
 ((∀h2,m h2=some (x,h2))\/∃b,a=some b/\h.get b.block≠none/\∀h2,eL h h2 b->m h2=some (x,h2))
def Ra (a:θ)(A:Act):Prop:=∀h x h',A.exec h=some (x,h')->h'=h /\
 ((∀h2,A.exec h2=some (x,h2))\/∃b,a=some b/\h.get b.block≠none/\∀h2,eL h h2 b->A.exec h2=some (x,h2))
theorem Pa.val {v:ξ}:Pa (.val v):=λh x h' e=>by cases e;exact⟨rfl,λ_=>rfl⟩
theorem Pa.none:Pa .none:=λh x h' e=>by cases e
theorem Pa.ask {α:Type}{m:M α}{k:α->Act}(hm:Pm m)(hk:∀x,Pa (k x)):Pa (.ask α m k):=λh x h' e=>by
 simp only[Act.exec] at e;split at e
 .rename_i y h1 he;obtain⟨rfl,h2⟩:=hm _ _ _ he;obtain⟨rfl,h3⟩:=hk _ _ _ _ e;exact⟨rfl,λh2'=>by simp only[Act.exec,h2 h2'];exact h3 h2'⟩
 .cases e
theorem Ra.of {a:θ}{A:Act}(h:Pa A):Ra a A:=λh0 x h' e=>⟨(h _ _ _ e).1,.inl (h _ _ _ e).2⟩
theorem Ra.ask {a:θ}{α:Type}{m:M α}{k:α->Act}(hm:Rm a m)(hk:∀x,Ra a (k x)):Ra a (.ask α m k):=λh x h' e=>by
 simp only[Act.exec] at e;split at e
 .rename_i y h1 he;obtain⟨rfl,h2⟩:=hm _ _ _ he;obtain⟨rfl,h3⟩:=hk _ _ _ _ e;refine⟨rfl,?_⟩
  grind [Act.exec]
 .cases e
theorem Pm.xZ (b:Bool):Pm (xZ b):=λh x h' e=>by
 cases b<;>simp only[Ago.xZ] at e
 .cases e
 .cases e;exact⟨rfl,λ_=>rfl⟩
theorem Pm.nn (p:θ):Pm (nn p):=λh x h' e=>by
 cases p<;>simp only[Ago.nn] at e
 .cases e
 .cases e;exact⟨rfl,λ_=>rfl⟩
theorem Pm.Sq (a b:θ):Pm (Sq a b):=λh x h' e=>by
 obtain⟨rfl,rfl,x,y,rfl,rfl,he⟩:=Hz e;exact⟨rfl,λh2=>by unfold Ago.Sq;simp only[he]⟩
theorem Pm.AO (p:θ)(n:Nat):Pm (AO p n):=λh x h' e=>by
 unfold Ago.AO at e⊢
 grind
theorem Pm.Xh (x:ξ):Pm (Xh x):=λh y h' e=>by
 unfold Ago.Xh at e;split at e
 .cases e;exact⟨rfl,λ_=>rfl⟩
 .cases e
theorem Pm.rM (v:ξ):Pm (rM v):=λh x h' e=>by
 unfold Ago.rM at e;split at e
 .cases e;exact⟨rfl,λ_=>rfl⟩
 .cases e;exact⟨rfl,λ_=>rfl⟩
 .cases e
theorem Pm.yS (x y:ζ):Pm (yS x y):=λh z h' e=>by
 unfold Ago.yS at e⊢;grind
theorem Pm.nO (s:ζ)(i:Int):Pm (nO s i):=λh z h' e=>by
 unfold Ago.nO at e⊢;split at e
 .grind
 .cases e
theorem Pm.MC (l:eh)(n:Nat)(cs:δ)(i:Int):Pm (MC l n cs i):=λh z h' e=>by
 unfold Ago.MC at e⊢;split at e
 .rename_i hb;split at e
  .rename_i hc;split at e
   .grind
   .cases e
  .cases e
 .cases e
theorem Pm.ao (s:Sl)(i:Int)(z:Nat):Pm (ao s i z):=λh x h' e=>by
 unfold Ago.ao at e⊢;split at e
 .grind
 .cases e
theorem Pm.ji (s:ζ)(l u:Int):Pm (ji s l u):=λh z h' e=>by
 unfold Ago.ji at e⊢;grind
theorem Pm.tC (a:Addr)(n:Nat)(l u:Int)(z:Nat):Pm (tC a n l u z):=λh x h' e=>by
 unfold Ago.tC at e⊢;grind
theorem Pm.DG (o:μ):Pm (DG o):=λh z h' e=>by
 unfold Ago.DG at e⊢;split at e
 .cases e;exact⟨rfl,λ_=>rfl⟩
 .cases e
theorem JL (op:BinOp)(a b:Nat):Pa (Hn op a b):=by
 unfold Hn
 grind [Pa.val,Pa.none,Pa.ask,Pm.DG,Xr,Xs,Xt,Xu]
theorem JM (op:BinOp)(k:IntKind)(a:Int)(k':IntKind)(b:Int):Pa (Hk op k a k' b):=by
 unfold Hk
 grind [Pa.val,Pa.none,Pa.ask,Pm.xZ]
theorem JN (op:BinOp)(a b:ζ):Pa (Hl op a b):=by
 unfold Hl
 grind [Pa.val,Pa.none,Pa.ask,Pm.yS]
theorem Cu (op:BinOp)(b:Bool):Pa (vy op b):=by
 unfold vy;split<;>first|exact Pa.val|exact Pa.none
theorem MP (op:BinOp)(t:κ)(x y:ξ):Pa (Pk P op t x y):=by
 unfold Pk;split
 .unfold BG
  grind [Pa.val,Pa.none,Pa.ask,Pm.rM]
 .unfold Pj
  grind [JM,JN,JL,Pa.val,Pa.none,Cu]
theorem PM (op:UnOp)(x:ξ):Pa (Xw op x):=by
 unfold Xw
 repeat' (first|exact Pa.val|exact Pa.none|split)
theorem JO {v:ξ}{k:Addr->Act}(h:∀a,Pa (k a)):Pa (v8 v k):=by
 unfold v8;split
 .exact h _
 .exact Pa.none
theorem Rm.ar (l:eh)(a b:Addr)(hb:a.block=b.block)(ho:b.off<=a.off):Rm (some b) (ar l a):=λh x h' e=>by
 unfold Ago.ar at e⊢;split at e
 .rename_i v hv;split at e
  .rename_i y hy;cases e;refine⟨rfl,.inr ⟨b,rfl,?_,λh2 e2=>?_⟩⟩
   .grind [af.cell]
   rw[<-eL.cell e2 hb ho] at hv;rw[hv];simp only[hy]
  .cases e
 .cases e
theorem Rm.bh (ls:List eh)(a:Addr):Rm (some a) (bh ls a):=λh x h' e=>by
 unfold Ago.bh at e⊢;split at e
 .rename_i vs hv;split at e
  .rename_i y hy;cases e;refine⟨rfl,.inr ⟨a,rfl,?_,λh2 e2=>?_⟩⟩
   .intro hn;simp[bj,hn] at hv
   rw[<-eL.cells e2] at hv;rw[hv];simp only[hy]
  .cases e
 .cases e
theorem H5 (a:Addr):∀(ls:List eh) (i:Nat) (acc:δ),Ra (some a) (xM a ls i acc)
 |[],i,acc=>Ra.of Pa.val
 |l::ls,i,acc=>Ra.ask (Rm.ar l _ a rfl (acE _ _)) λx=>H5 a ls _ _
theorem VG (t:κ)(a:Addr):Ra (some a) (Jv P t a):=by
 unfold Jv
 repeat' (first|exact Ra.of Pa.none|exact H5 _ _ _ _|exact Ra.ask (Rm.ar _ _ _ rfl (aai _)) λ_=>Ra.of Pa.val|exact Ra.ask (Rm.bh _ _) λ_=>Ra.of Pa.val|split)
theorem Rm.gf (s:Sl)(lo hi:Int)(e:κ)(z:Nat):Rm s.a (gf s lo hi e z):=λh x h' he=>by
 unfold Ago.gf at he⊢;split at he
 .rename_i hc;cases he;refine⟨rfl,?_⟩;obtain⟨h1,h2,h3,h4⟩:=hc;unfold gx at h4;split at h4
  .rename_i ha;refine .inl λh2'=>?_;rw[BY]
   grind [gx]
  .rename_i a ha;refine .inr ⟨a,ha,?_,λh2' e2=>?_⟩
   .intro hn;rw[hn] at h4;cases h4
   .rw[BY];have h6:=e2.elem ha (e:=e);unfold gx at h6
    grind [gx]
 .cases he
theorem Rm.sL (s:Sl)(lo hi m:Int)(e:κ)(z:Nat):Rm s.a (sL s lo hi m e z):=λh x h' he=>by
 unfold Ago.sL at he⊢;split at he
 .rename_i hc;cases he;refine⟨rfl,?_⟩;obtain⟨h1,h2,h3,h0,h5,h4⟩:=hc;unfold gx at h4;split at h4
  .grind
  .rename_i a ha;refine .inr ⟨a,ha,?_,λh2' e2=>?_⟩
   .intro hn;rw[hn] at h4;cases h4
   .rw[BY];have h6:=e2.elem ha (e:=e);unfold gx at h6
    grind [gx]
 .cases he
theorem Rm.strOf (s:Sl):Rm s.a (strOf s):=λh x h' he=>by
 unfold Ago.strOf at he⊢;split at he
 .rename_i cs hc;split at he
  .rename_i l hl;cases he;refine⟨rfl,?_⟩;unfold bj at hc;split at hc
   .rename_i ha;refine .inl λh2=>?_;have:bj h2 s.a s.len=some cs:=(by unfold bj;simp only[ha];exact hc);simp only[this,hl]
   .rename_i a ha;refine .inr ⟨a,ha,?_,λh2 e2=>?_⟩
    .intro hn;rw[hn] at hc;cases hc
    .have:bj h2 s.a s.len=some cs:=(by rw[ha,eL.cells e2];unfold bj;exact hc);simp only[this,hl]
  .cases he
 .cases he
theorem Lo {nm:μ}(hc:cls P ops o=.sil)(hn:∀t l ps,o.op≠.buildSlice t l ps):Pa (uM P nm E o):=by
 unfold cls at hc;unfold uM;cases hop:o.op<;>simp only[hop] at hc hn⊢<;>try (first|cases hc|done)
 case binOp=>repeat' (first|exact MP _ _ _ _|exact Pa.none|exact Pa.ask (Pm.Sq _ _) λ_=>Cu _ _|split)
 case unOp=>grind [PM,Pa.none]
 case nilCheck=>grind [Pa.ask,Pm.nn,Pa.val,Pm.Xh,Pa.none]
 case fieldAddr=>repeat' (first|exact JO λ_=>Pa.val|exact Pa.none|split)
 case indexAddr=>grind [Pa.ask,Pm.ao,Pa.val,Pm.xZ,Pa.none]
 case index=>grind [Pa.ask,Pm.nO,Pa.val,Pm.MC,Pa.none]
 case build=>
  split
  .grind [ES,Pa.val,Pa.none]
  .exact Pa.none
 case slice t x lo hi mx=>
  split
  .unfold B8
   grind [Pa.ask,Pm.ji,Pa.val,Pa.none,Pm.tC]
  .exact Pa.none
 case convert s d x=>
  split
  .unfold Ho
   grind [Pa.val,Pa.none]
  .exact Pa.none
 case buildSlice t l ps=>exact absurd rfl (hn t l ps)
 case call c=>
  split
  .rename_i b vs hb _;rw[hb] at hc;unfold nX;split<;>first|exact Pa.none|(simp only at hc;cases hc;done)|(simp only at hc;exact (yi hc).elim)|skip
   all_goals grind [Pa.val,Pa.none,Pa.ask,Pm.AO]
  .exact Pa.none
 all_goals repeat' (first|exact Pa.val|exact Pa.none|split)
theorem nH {m:Option (ξ×af)}{r:ud}{h':af}(e:jZ m=some (r,h')):∃v,m=some (v,h')/\r=.val v:=by
 unfold jZ at e;grind
theorem w8 {b:Bool}{c:Call}{A:Act}{r:ud×af}(e:jZ ((vH b E c A).exec h)=some r):jZ (A.exec h)=some r:=by rw[zY e] at e;exact e
theorem JP {nm:Nat}{d:Nat}(hd:o.dst=some d)(hu:Jw ops d=true){t:κ}{l:Nat}{ps:Array (Nat×Operand)}(hop:o.op=.buildSlice t l ps)(hl:tX P ops E o=none) :
  (uM P (some nm) E o).exec h=none:=by
 unfold tX at hl;unfold uM;simp only[hop,hd,hu] at hl⊢;split at hl
 .rename_i vs hv
  try simp only[hv]
  split at hl
  .cases hl
  .rename_i hc;unfold yU at hc;unfold p9;split at hc
   .grind [Act.exec,aJ]
   .rfl
 .rename_i hv
  try simp only[hv]
  rfl
theorem sP {nm:Nat}(hc:cls P ops o=.sil){r:ud}(hx:act P C nm ops E L o h=some (r,h')):h'=h/\∀h2,act P C nm ops E L o h2=some (r,h2):=by
 unfold act at hx⊢;split at hx
 .have gen:∀A:Act,Pa A->jZ (A.exec h)=some (r,h')->h'=h/\∀h2,jZ (A.exec h2)=some (r,h2):=by
   intro A hA e;obtain⟨v,e1,rfl⟩:=nH e;obtain⟨e2,e3⟩:=hA _ _ _ e1;exact⟨e2,λh2=>by rw[e3 h2];rfl⟩
  unfold ex at hx⊢;cases hop:o.op<;>simp only[hop] at hx⊢
  case pick c a b=>
   grind
  case call c=>
   have hl:qt L c=none:=by
    grind [qt,cls,yi]
   have hcp:yV ops o=false:=by
    unfold cls at hc;unfold yV;simp only[hop] at hc⊢;split
    .rename_i h1 _;simp only[h1] at hc;exact (yi hc).elim
    .rfl
   split at hx
   .rename_i hb;cases hlx:vG ops o<;>simp only[hl,hlx,hcp,vH] at hx⊢
    .exact gen _ (Lo hc (by simp[hop])) hx
    .cases hx
   .rename_i hb;unfold isBuiltin at hb;unfold cls at hc;simp only[hop] at hc
    grind
  case buildSlice t l ps=>
   unfold cls at hc;simp only[hop] at hc;split at hc
   .rename_i d hd;split at hc
    .rename_i hu;split at hx
     .grind
     .rename_i hl;rw[JP hd hu hop hl] at hx;cases hx
    .cases hc
   .cases hc
  all_goals exact gen _ (Lo hc (by simp[hop])) hx
 .cases hx;exact⟨rfl,λ_=>rfl⟩
 .cases hx
def rdL:ξ->θ
 |.pointer p=>p
 |_=>none
def XD:ξ->θ
 |.slice a _ _=>a
 |_=>none
theorem Cv {nm:Nat}(hc:cls P ops o=.ro){r:ud}(hx:act P C nm ops E L o h=some (r,h')):h'=h /\
  ((∀h2,act P C nm ops E L o h2=some (r,h2))\/(want ops E o=some true/\∃b,iR E o=some b/\h.get b.block≠none/\∀h2,eL h h2 b->act P C nm ops E L o h2=some (r,h2))):=by
 unfold act at hx⊢;split at hx
 .rename_i hw;simp only[hw,aaY];have gen:∀A:Act,Ra (iR E o) A->jZ (A.exec h)=some (r,h')->h'=h/\((∀h2,jZ (A.exec h2)=some (r,h2)) \/
    ∃b,iR E o=some b/\h.get b.block≠none/\∀h2,eL h h2 b->jZ (A.exec h2)=some (r,h2)):=by
   intro A hA e;obtain⟨v,e1,rfl⟩:=nH e;obtain⟨e2,e3⟩:=hA _ _ _ e1;refine⟨e2,?_⟩;rcases e3 with e3|⟨b,h1,h2,e3⟩
   .exact .inl λh2=>by rw[e3 h2];rfl
   .exact .inr ⟨b,h1,h2,λh2 q=>by rw[e3 h2 q];rfl⟩
  unfold ex at hx⊢;cases hop:o.op<;>simp only[hop] at hx⊢<;>try (unfold cls at hc;simp only[hop] at hc;contradiction)
  case load t x=>
   refine gen _ ?_ hx;unfold uM;simp only[hop];cases hv:E.ev x with
   |none=>exact Ra.of Pa.none
   |some v=>
    have hr:iR E o=rdL v:=(by simp only[iR,hop,hv];cases v<;>rfl);rw[hr];cases v<;>simp only[v8]<;>try exact Ra.of Pa.none
    rename_i p;cases p
    .exact Ra.of Pa.none
    .exact VG _ _
  case slice t x lo hi mx=>
   refine gen _ ?_ hx;unfold uM;unfold cls at hc;simp only[hop] at hc⊢;cases hv:E.ev x with
   |none=>exact Ra.of Pa.none
   |some v=>
    have hr:iR E o=XD v:=(by simp only[iR,hop,hv];cases v<;>rfl);rw[hr];split
    .rename_i v l u m he _ _ _;cases he;unfold B8;split
     .rename_i hu _;simp[hu] at hc
     .repeat' (first|exact Ra.ask (Rm.gf ⟨_,_,_⟩ _ _ _ _) λ_=>Ra.of Pa.val|exact Ra.of Pa.none|split)
     .rename_i hu _;simp[hu] at hc
     .repeat' (first|exact Ra.ask (Rm.sL ⟨_,_,_⟩ _ _ _ _ _) λ_=>Ra.of Pa.val|exact Ra.of Pa.none|split)
     .exact Ra.of Pa.none
    .exact Ra.of Pa.none
  case convert s d x=>
   refine gen _ ?_ hx;unfold uM;unfold cls at hc;simp only[hop] at hc⊢;cases hv:E.ev x with
   |none=>exact Ra.of Pa.none
   |some v=>
    have hr:iR E o=XD v:=(by simp only[iR,hop,hv];cases v<;>rfl);rw[hr];simp only;unfold Ho;split
    .rename_i h1 h2;simp[h1,h2] at hc
    .rename_i h1 h2;simp[h1,h2] at hc
    .exact Ra.of Pa.val
    .exact Ra.of Pa.val
    .exact Ra.of Pa.val
    .exact Ra.of Pa.val
    .rename_i h1 h2;simp[h1,h2] at hc
    .repeat' (first|exact Ra.ask (Rm.strOf ⟨_,_,_⟩) λ_=>Ra.of Pa.val|exact Ra.of Pa.none|split)
    .exact Ra.of Pa.none
  case buildSlice t l ps=>
   unfold cls at hc;simp only[hop] at hc
   grind
  case call c=>
   unfold cls at hc;simp only[hop] at hc
   grind [rE,ns,lV,pB]
 .grind
 .cases hx
def Na (nm:Nat)(A:Act):Prop:=∀h x h',A.exec h=some (x,h')->∃t cs,h.used nm=false/\nm<h.next/\h.get nm=none/\h'=h.bt nm h.next t cs /\
 ∀h2:af,h2.used nm=false->nm<h2.next->h2.get nm=none->A.exec h2=some (x,h2.bt nm h2.next t cs)
theorem Na.none {nm:Nat}:Na nm .none:=λh x h' e=>by cases e
theorem Na.new {nm:Nat}{t:κ}{cs:δ}{k:Nat->ξ}:Na nm (.ask Nat (aJ (some nm) t cs) λb=>.val (k b)):=λh x h' e=>by
 simp only[Act.exec,aJ] at e⊢;by_cases hs:cs.all fi=true
 .simp only[hs,aav] at e⊢;split at e
  .rename_i y h1 he;split at he
   .rename_i hk;cases he;cases e;refine⟨t,cs,hk.1,hk.2.1,Option.isNone_iff_eq_none.1 hk.2.2,rfl,λh2 a b c=>?_⟩;simp[a,b,c]
   .cases he
  .cases e
 .simp[hs] at e
theorem Na.pT {nm:Nat}{t:κ}{z:δ}{l c:Int}{k:Sl->ξ}:Na nm (.ask Sl (pT (some nm) t z l c) λr=>.val (k r)):=λh x h' e=>by
 simp only[Act.exec,Ago.pT] at e⊢;by_cases hb:0<=l/\l<=c/\c<=cN
 .simp only[hb,and_self,aav] at e⊢;split at e
  .rename_i y h1 he;split at he
   .rename_i b h2 hnb;cases he;cases e;have e0:(Act.ask Nat (aJ (some nm) t (List.replicate c.toNat z).flatten) λb=>.val (.int .i64 b)).exec h=some (.int .i64 b,h'):=(by simp only[Act.exec,hnb]);obtain⟨t',cs',a1,a2,a3,a4,a5⟩:=(Na.new (nm:=nm) (k:=λb=>.int .i64 b)) h _ _ e0;refine⟨t',cs',a1,a2,a3,a4,λh2 b1 b2 b3=>?_⟩;have:=a5 h2 b1 b2 b3;simp only[Act.exec] at this
    grind
   .cases he
  .cases e
 .simp[hb] at e
def ME (h h2:af):Prop:=∀m x,h.fj m=some x->h2.fj m=some x
theorem ME.of {h h2:af}(e:h2.fj=h.fj):ME h h2:=λm x q=>by rw[e];exact q
def Mm (A:Act):Prop:=∀h x h',A.exec h=some (x,h')->h'=h/\∀h2:af,ME h h2->A.exec h2=some (x,h2)
theorem Mm.of {A:Act}(hA:Pa A):Mm A:=λh x h' e=>⟨(hA h x h' e).1,λh2 _=>(hA h x h' e).2 h2⟩
theorem Mm.get {kt:κ}{T:Ty}{z:T.den}{m:μ}{k:ξ}{g:Bool×T.den->ξ}:Mm (.ask (Bool×T.den) (rN kt T z m k) λr=>.val (g r)):=λh x h' e=>by
 simp only[Act.exec] at e⊢;split at e
 .rename_i y h1 he;cases e;have key:h'=h/\∀h2:af,ME h h2->rN kt T z m k h2=some (y,h2):=by
   unfold rN at he⊢;split at he
   .cases he;exact⟨rfl,λ_ _=>rfl⟩
   .split at he
    .rename_i hm;split at he
     .rename_i hv;split at he
      .rename_i hu;cases he;refine⟨rfl,λh2 e2=>?_⟩;unfold ME at e2;grind [af.p8]
      .cases he
     .rename_i hv;cases he;refine⟨rfl,λh2 e2=>?_⟩;unfold ME at e2;grind [af.p8]
    .cases he
  exact⟨key.1,λh2 e2=>by simp only[key.2 h2 e2]⟩
 .cases e
theorem Mm.len {m:μ}{g:Nat->ξ}:Mm (.ask Nat (AN m) λr=>.val (g r)):=λh x h' e=>by
 simp only[Act.exec] at e⊢;split at e
 .rename_i y h1 he;cases e;have key:h'=h/\∀h2:af,ME h h2->AN m h2=some (y,h2):=by
   unfold AN at he⊢;unfold ME
   grind
  exact⟨key.1,λh2 e2=>by simp only[key.2 h2 e2]⟩
 .cases e
theorem w9 {nm:Nat}(hc:cls P ops o=.mro){r:ud}(hx:act P C nm ops E L o h=some (r,h')):h'=h/\∀h2:af,ME h h2->act P C nm ops E L o h2=some (r,h2):=by
 unfold act at hx⊢;split at hx
 .have gen:∀A:Act,Mm A->jZ (A.exec h)=some (r,h')->h'=h/\∀h2:af,ME h h2->jZ (A.exec h2)=some (r,h2):=by
   intro A hA e;obtain⟨v,e1,rfl⟩:=nH e;obtain⟨e2,e3⟩:=hA _ _ _ e1;exact⟨e2,λh2 q=>by rw[e3 h2 q];rfl⟩
  unfold ex at hx⊢;cases hop:o.op<;>simp only[hop] at hx⊢<;>try (unfold cls at hc;simp only[hop] at hc;contradiction)
  case lookup t x i ok=>
   refine gen _ ?_ hx;unfold uM;simp only[hop]
   repeat' (first|exact Mm.of Pa.none|exact Mm.get|split)
  case buildSlice t l ps=>
   unfold cls at hc
   grind
  case call c=>
   have hcal:c.callee=.builtin .len:=by
    unfold cls at hc;simp only[hop] at hc
    grind [ns]
   have hb:isBuiltin c=true:=by unfold isBuiltin;rw[hcal]
   have hl:qt L c=none:=by unfold qt;rw[hcal]
   have hlx:vG ops o=false:=by unfold vG;simp only[hop,hcal]
   have hcp:yV ops o=false:=by unfold yV;simp only[hop,hcal]
   simp only[hb,hl,hlx,hcp,vH] at hx⊢;refine gen _ ?_ hx;have hty:∃t r k e,c.argTypes.toList=t::r/\P.underlying t=some (.map k e):=by
    grind [cls]
   obtain⟨t,tr,k,e,ht,hu⟩:=hty;unfold uM;simp only[hop,hcal,ht];split
   .rename_i b vs hb2 _;cases hb2;unfold nX;split<;>first|exact Mm.of Pa.none|(simp_all;done)|skip
    all_goals repeat' (first|exact Mm.of Pa.none|exact Mm.of Pa.val|exact Mm.len|split)
   .exact Mm.of Pa.none
  all_goals
   grind [cls,rE,ns,lV,pB]
 .cases hx;exact⟨rfl,λ_ _=>rfl⟩
 .cases hx
theorem lW {nm:Nat}(hc:cls P ops o=.alloc){r:ud}(hx:act P C nm ops E L o h=some (r,h')):(h'=h/\∀h2,act P C nm ops E L o h2=some (r,h2)) \/
  ∃t cs,h.used nm=false/\nm<h.next/\h.get nm=none/\h'=h.bt nm h.next t cs /\
   ∀h2:af,h2.used nm=false->nm<h2.next->h2.get nm=none->act P C nm ops E L o h2=some (r,h2.bt nm h2.next t cs):=by
 unfold act at hx⊢;split at hx
 .refine .inr ?_;have gen:∀A:Act,Na nm A->jZ (A.exec h)=some (r,h')->∃t cs,h.used nm=false/\nm<h.next/\h.get nm=none/\h'=h.bt nm h.next t cs /\
    ∀h2:af,h2.used nm=false->nm<h2.next->h2.get nm=none->jZ (A.exec h2)=some (r,h2.bt nm h2.next t cs):=by
   intro A hA e;obtain⟨v,e1,rfl⟩:=nH e;obtain⟨t,cs,a,b,c,d,e2⟩:=hA _ _ _ e1;exact⟨t,cs,a,b,c,d,λh2 a b c=>by rw[e2 h2 a b c];rfl⟩
  unfold ex at hx⊢;cases hop:o.op<;>simp only[hop] at hx⊢<;>try (unfold cls at hc;simp only[hop] at hc;contradiction)
  case alloc t=>
   refine gen _ ?_ hx;unfold uM;simp only[hop];split
   .exact Na.new
   .exact Na.none
  case box t x=>
   refine gen _ ?_ hx;unfold uM;simp only[hop];split
   .exact Na.new
   .exact Na.none
  case makeSlice t l c=>
   refine gen _ ?_ hx;unfold uM;simp only[hop]
   repeat' (first|exact Na.none|exact Na.pT|split)
  case buildSlice t l ps=>
   have hl:tX P ops E o=none:=by
    unfold cls at hc;unfold tX;simp only[hop] at hc⊢
    grind
   simp only[hl] at hx⊢;refine gen _ ?_ hx;unfold uM;simp only[hop];split
   .unfold p9
    repeat' (first|exact Na.none|exact Na.new|split)
   .exact Na.none
  case call c=>
   unfold cls at hc;simp only[hop] at hc
   repeat' (first|(cases hc;done)|(exact (rE hc).elim)|(exact (ns hc).elim)|(exact (lV hc).elim)|(exact (pB hc).elim)|split at hc)
  all_goals
   unfold cls at hc;simp only[hop] at hc
   grind
 .cases hx;exact .inl ⟨rfl,λ_=>rfl⟩
 .cases hx
def Ka (A:Act):Prop:=∀h x h',A.exec h=some (x,h')->∀b,h.get b≠none->h'.get b=h.get b
theorem Ka.pure {A:Act}(hA:Pa A):Ka A:=λh x h' e b _=>by rw[(hA h x h' e).1]
theorem MQ {s:Sl}{sz:Nat}{e:κ}{n:Nat}{new:δ}{r:Sl}(hx:app true s sz e n new h=some (r,h')):∀b,h.get b≠none->h'.get b=h.get b:=by
 intro b hb;unfold app at hx;split at hx
 .cases hx
 rename_i hn;have hnx:h.get h.next=none:=by simpa using hn
 have hne:Nat.beq b h.next=false:=by
  cases hq:Nat.beq b h.next
  .rfl
  .rw[IS hq] at hb;exact absurd hnx hb
 have new:∀e cs,(h.new e cs).get b=h.get b:=λe cs=>by simp[af.new,af.bt,hne]
 grind [kF,ly]
theorem Ka.uW {s:Sl}{sz:Nat}{e:κ}{n:Nat}{new:δ}{k:Sl->ξ}:Ka (.ask Sl (app true s sz e n new) λr=>.val (k r)):=λh x h' he=>by
 grind [Act.exec,MQ]
theorem Ka.ask {α:Type}{m:M α}{k:α->Act}(hm:∀h x h',m h=some (x,h')->h'=h)(hk:∀x,Ka (k x)):Ka (.ask α m k):=λh x h' he=>by
 simp only[Act.exec] at he;split at he
 .rename_i y h1 hm1;rw[hm _ _ _ hm1] at he;exact hk _ _ _ _ he
 .cases he
theorem SY {nm:Nat}(hc:cls P ops o=.add){r:ud}(hx:act P C nm ops E L o h=some (r,h')):∀b,h.get b≠none->h'.get b=h.get b:=by
 unfold act at hx;split at hx
 .have gen:∀A:Act,Ka A->jZ (A.exec h)=some (r,h')->∀b,h.get b≠none->h'.get b=h.get b:=by
   intro A hA e;obtain⟨v,e1,rfl⟩:=nH e;exact hA _ _ _ e1
  unfold ex at hx;cases hop:o.op<;>simp only[hop] at hx<;>try (unfold cls at hc;simp only[hop] at hc;contradiction)
  case call c=>
   have hcal:c.callee=.builtin .append:=by
    unfold cls at hc;simp only[hop] at hc
    grind
   have hlx:vG ops o=false:=by
    grind [cls,Cs]
   simp only[hlx,aaV] at hx;split at hx
   .split at hx
    .refine gen _ ?_ (w8 hx);unfold nZ
     repeat' (first|exact Ka.uW|exact Ka.pure Pa.none|split)
    .refine gen _ ?_ (w8 hx);unfold uM;simp only[hop,hcal];split
     .rename_i b vs hb _;cases hb;unfold nX;split
      .contradiction
      .contradiction
      .contradiction
      .contradiction
      .contradiction
      .contradiction
      .contradiction
      .have hrd:∀(s:Sl) (z:Nat) h x h',DD s z h=some (x,h')->h'=h:=by
        grind [DD]
       repeat' (first|exact Ka.ask (hrd _ _) λ_=>Ka.uW|exact Ka.pure Pa.none|split)
      .repeat' (first|exact Ka.uW|exact Ka.pure Pa.none|split)
      .contradiction
      .contradiction
      .exact Ka.pure Pa.none
     .exact Ka.pure Pa.none
   .rename_i hb;simp[isBuiltin,hcal] at hb
  all_goals
   grind [cls,rE,ns,lV,pB]
 .cases hx;exact λ_ _=>rfl
 .cases hx
def Sm (h h2:af):Prop:=h2.next=h.next/\h2.get h2.next=none/\∀b,h.get b≠none->h2.get b=h.get b
def Kb (A:Act):Prop:=∀h x h',A.exec h=some (x,h')->h.get h.next=none/\((h'=h/\∀h2,Sm h h2->A.exec h2=some (x,h2))\/∃e cs,h'=h.new e cs/\∀h2,Sm h h2->A.exec h2=some (x,h2.new e cs))
theorem Kb.none:Kb .none:=λh x h' e=>by cases e
theorem Cw {h2:af}(S:Sm h h2){a:θ}{n:Nat}{l:δ}(e:bj h a n=some l):bj h2 a n=some l:=by
 unfold bj at *
 cases a with
 |none=>exact e
 |some a=>
  simp only at e⊢;rw[S.2.2 a.block (λq=>by rw[q] at e;cases e)];exact e
theorem VH {s:Sl}{sz:Nat}{e:κ}{n:Nat}{new:δ}(hc:s.cap≠0){r:Sl}{h1:af}(he:app true s sz e n new h=some (r,h1)) :
  h.get h.next=none/\((h1=h/\∀h2,Sm h h2->app true s sz e n new h2=some (r,h2))\/∃e' cs,h1=h.new e' cs/\∀h2,Sm h h2->app true s sz e n new h2=some (r,h2.new e' cs)):=by
 have hn:h.get h.next=none:=by
  unfold app at he;split at he
  .cases he
  .rename_i q;simpa using q
 refine⟨hn,?_⟩;unfold app kF at he⊢;rw[hn] at he;have g2:∀{h2:af},Sm h h2->(true&&(h2.get h2.next).isSome)=false:=λS=>by rw[S.2.1];rfl
 simp only[acq,acm] at he;by_cases h0:n=0
 .rw[BY h0] at he;refine .inl ?_;cases ha:s.a with
  |none=>rw[ha] at he;simp only at he;rw[By (λq=>hc q.2.1)] at he;cases he
  |some a=>
   rw[ha] at he;simp only at he;split at he
   .rename_i q;cases he;exact⟨rfl,λh2 S=>by simp only[g2 S];rw[BY h0,BY q]⟩
   .cases he
 .rw[By h0] at he;split at he
  .cases he
  rename_i q;refine .inr ?_;cases ha:s.a with
  |none=>rw[ha] at he;simp only at he;rw[By (λq=>hc q.2)] at he;cases he
  |some a=>
   rw[ha] at he;simp only at he;split at he
   .rename_i j7 c g base e' h1' h2';split at he
    .split at he
     .rename_i q2;simp at q2
     .cases he
    .rename_i q2;cases he;refine⟨e,j7++new,rfl,λh2 S=>?_⟩;have c2:=Cw S h1';have b2:=S.2.2 a.block (by rw[h2'];simp);simp only[g2 S];rw[By h0,By q];simp only[c2,b2,h2'];rw[By q2,BY hc,S.1]
   .cases he
theorem Kb.YY {s:Sl}{sz:Nat}{e:κ}{n:Nat}{new:δ}{k:Sl->ξ}(hc:s.cap≠0):Kb (.ask Sl (app true s sz e n new) λr=>.val (k r)):=λh x h' hx=>by
 simp only[Act.exec] at hx⊢;split at hx
 .rename_i y h1 he;cases hx;obtain⟨hn,⟨q1,q2⟩|⟨e',cs,q1,q2⟩⟩:=VH hc he
  .exact⟨hn,.inl ⟨q1,λh2 S=>by rw[q2 h2 S]⟩⟩
  .exact⟨hn,.inr ⟨e',cs,q1,λh2 S=>by rw[q2 h2 S]⟩⟩
 .cases hx
theorem Kb.rds {s:Sl}{sz:Nat}{k:δ->Act}(hk:∀l,Kb (k l)):Kb (.ask δ (DD s sz) k):=λh x h' hx=>by
 simp only[Act.exec] at hx⊢;split at hx
 .rename_i y h1 he;unfold Go.Ago.DD at he;split at he
  .rename_i cs hcs;cases he;obtain⟨hn,⟨q1,q2⟩|⟨e',cs',q1,q2⟩⟩:=hk _ _ _ _ hx
   .exact⟨hn,.inl ⟨q1,λh2 S=>by simp only[Go.Ago.DD,Cw S hcs];exact q2 h2 S⟩⟩
   .exact⟨hn,.inr ⟨e',cs',q1,λh2 S=>by simp only[Go.Ago.DD,Cw S hcs];exact q2 h2 S⟩⟩
  .cases he
 .cases hx
theorem SZ {nm:Nat}(hcap:yV ops o=true)(hca:cls P ops o=.add){r:ud}(hx:act P C nm ops E L o h=some (r,h')):(h'=h/\∀h2,act P C nm ops E L o h2=some (r,h2)) \/
  (h.get h.next=none/\((h'=h/\∀h2,Sm h h2->act P C nm ops E L o h2=some (r,h2))\/∃e cs,h'=h.new e cs/\∀h2,Sm h h2->act P C nm ops E L o h2=some (r,h2.new e cs))):=by
 unfold act at hx⊢;split at hx
 .refine .inr ?_;unfold ex at hx⊢;rw[hcap] at hx⊢;unfold yV at hcap;cases hop:o.op<;>simp only[hop] at hx hcap⊢<;>try (cases hcap;done)
  case call c=>
   split at hcap
   .rename_i d ds hcal harg;have hb:isBuiltin c=true:=(by unfold isBuiltin;rw[hcal]);have hlx:vG ops o=false:=by
     cases q:vG ops o with
     |false=>rfl
     |true=>unfold cls at hca;simp only[hop,hcal,q] at hca;cases hca
    simp only[hb,hlx] at hx⊢;have gen:∀A:Act,Kb A->jZ (A.exec h)=some (r,h')->h.get h.next=none/\((h'=h/\∀h2,Sm h h2->jZ (A.exec h2)=some (r,h2))\/∃e cs,h'=h.new e cs/\∀h2,Sm h h2->jZ (A.exec h2)=some (r,h2.new e cs)):=by
     intro A hA e;obtain⟨v,e1,rfl⟩:=nH e;obtain⟨hn,⟨q1,q2⟩|⟨e',cs,q1,q2⟩⟩:=hA _ _ _ e1
     .exact⟨hn,.inl ⟨q1,λh2 S=>by rw[q2 h2 S];rfl⟩⟩
     .exact⟨hn,.inr ⟨e',cs,q1,λh2 S=>by rw[q2 h2 S];rfl⟩⟩
    have cap:∀A:Act,(∀a n k,E.ev (.tmp d)=some (.slice a n k)->k≠0->Kb A)->Kb (vH true E c A):=λA hA=>by
     unfold vH;simp only[harg];split
     .rename_i a n k hev;split
      .exact Kb.none
      .rename_i hk;exact hA a n k hev λq=>by rw[q] at hk;cases hk
     .exact Kb.none
    split at hx
    .rename_i n cs hl;refine gen _ (cap _ λa m k hev hk=>?_) hx;show Kb (nZ P true E c n cs);unfold nZ;rw[harg];split
     .rename_i t t' s u e1 e2;cases e2;rw[hev];split
      .rename_i q1 q2 q3;cases q1
       repeat' (first|exact Kb.none|exact Kb.YY hk|split)
      .exact Kb.none
     .exact Kb.none
    .rename_i hl;refine gen _ (cap _ λa n k hev hk0=>?_) hx;unfold uM;simp only[hop,hcal];split
     .rename_i b vs hb2 hvs;cases hb2;have hv0:∃rest,vs=Value.slice a n k::rest:=by
       rw[harg] at hvs;unfold Env.D9 at hvs;rw[hev] at hvs;cases hr:E.D9 ds with
       |none=>rw[hr] at hvs;cases hvs
       |some r=>rw[hr] at hvs;cases hvs;exact⟨_,rfl⟩
      obtain⟨rest,rfl⟩:=hv0;show Kb (nX P true _ _ _);unfold nX;split<;>first|exact Kb.none|contradiction|(injections;subst_vars;repeat' (first|exact Kb.none|exact Kb.rds λ_=>Kb.YY hk0|exact Kb.YY hk0|split))
     .exact Kb.none
   .cases hcap
 .cases hx;exact .inl ⟨rfl,λ_=>rfl⟩
 .cases hx
theorem Lp {k:Nat}{t:κ}{cs:δ}(a2:k<h.next)(a3:h.get k=none)(hn:h.get h.next=none):Sm h (h.bt k h.next t cs):=by
 have q:∀j,j≠k->Nat.beq j k=false:=λj e=>by
  cases e2:Nat.beq j k
  .rfl
  .exact absurd (IS e2) e
 refine⟨rfl,?_,λb hb=>?_⟩
 .simp[af.bt,q h.next (by omega),hn]
 .have hbk:b≠k:=λe=>hb (e▸a3);simp[af.bt,q b hbk]
def Km (A:Act):Prop:=∀h x h',A.exec h=some (x,h')->h'.fj=h.fj
theorem Km.pure {A:Act}(hA:Pa A):Km A:=λh x h' e=>by rw[(hA h x h' e).1]
theorem XE {s:Sl}{sz:Nat}{e:κ}{n:Nat}{new:δ}{r:Sl}(hx:app true s sz e n new h=some (r,h')):h'.fj=h.fj:=by
 unfold app at hx;split at hx
 .cases hx
 unfold kF at hx
 repeat' (first|(cases hx;done)|(cases hx;rfl)|split at hx|simp only at hx)
theorem Km.uW {s:Sl}{sz:Nat}{e:κ}{n:Nat}{new:δ}{k:Sl->ξ}:Km (.ask Sl (app true s sz e n new) λr=>.val (k r)):=λh x h' he=>by
 grind [Act.exec,XE]
theorem Km.ask {α:Type}{m:M α}{k:α->Act}(hm:∀h x h',m h=some (x,h')->h'=h)(hk:∀x,Km (k x)):Km (.ask α m k):=λh x h' he=>by
 simp only[Act.exec] at he;split at he
 .rename_i y h1 hm1;rw[hm _ _ _ hm1] at he;exact hk _ _ _ _ he
 .cases he
theorem El {nm:Nat}(hc:cls P ops o=.add){r:ud}(hx:act P C nm ops E L o h=some (r,h')):h'.fj=h.fj:=by
 unfold act at hx;split at hx
 .have gen:∀A:Act,Km A->jZ (A.exec h)=some (r,h')->h'.fj=h.fj:=by
   intro A hA e;obtain⟨v,e1,rfl⟩:=nH e;exact hA _ _ _ e1
  unfold ex at hx;cases hop:o.op<;>simp only[hop] at hx<;>try (unfold cls at hc;simp only[hop] at hc;contradiction)
  case call c=>
   have hcal:c.callee=.builtin .append:=by
    unfold cls at hc;simp only[hop] at hc
    grind
   have hlx:vG ops o=false:=by
    grind [cls,Cs]
   simp only[hlx,aaV] at hx;split at hx
   .split at hx
    .refine gen _ ?_ (w8 hx);unfold nZ
     repeat' (first|exact Km.uW|exact Km.pure Pa.none|split)
    .refine gen _ ?_ (w8 hx);unfold uM;simp only[hop,hcal];split
     .rename_i b vs hb _;cases hb;unfold nX;split
      .contradiction
      .contradiction
      .contradiction
      .contradiction
      .contradiction
      .contradiction
      .contradiction
      .have hrd:∀(s:Sl) (z:Nat) h x h',DD s z h=some (x,h')->h'=h:=by
        grind [DD]
       repeat' (first|exact Km.ask (hrd _ _) λ_=>Km.uW|exact Km.pure Pa.none|split)
      .repeat' (first|exact Km.uW|exact Km.pure Pa.none|split)
      .contradiction
      .contradiction
      .exact Km.pure Pa.none
     .exact Km.pure Pa.none
   .rename_i hb;simp[isBuiltin,hcal] at hb
  all_goals
   grind [cls,rE,ns,lV,pB]
 .cases hx;rfl
 .cases hx
theorem PN (h:wc ops o=true):cls P ops o=.eff:=by
 unfold wc at h;unfold cls;split at h
 .rename_i hop;simp only[hop]
 .rename_i c hop;simp only[hop];rw[abt] at h;rcases h with h|h
  .grind [isBuiltin,absurd]
  .have hc:c.callee=.builtin .append:=by
    grind [vG]
   simp only[hc,h];rfl
 .cases h
theorem VI (h:tY o=true):cls P ops o=.eff:=by
 grind [tY,cls]
theorem MR {nm:Nat}(hs:tY o=true){r:ud}(hx:act P C nm ops E L o h=some (r,h')):(h'=h/\want ops E o≠some true/\∀h2,act P C nm ops E L o h2=some (r,h2)) \/
  (want ops E o=some true/\∃a vs c g base e,zX E o=some a/\h.get a.block=some (.cells c g base e)/\h'=h.mY a.block (bB c a.off vs) g base e /\
   ∀h2:af,h2.get a.block=some (.cells c g base e)->act P C nm ops E L o h2=some (r,h2.mY a.block (bB c a.off vs) g base e)):=by
 unfold act at hx⊢;split at hx
 .rename_i hw;refine .inr ⟨hw,?_⟩
  try simp only[hw]
  unfold tY at hs;split at hs
  .rename_i t x y hop;unfold ex at hx⊢;simp only[hop] at hx⊢;have gen:∀A:Act,A=uM P (some nm) E o->jZ (A.exec h)=some (r,h')->∃a vs c g base e,zX E o=some a/\h.get a.block=some (.cells c g base e)/\h'=h.mY a.block (bB c a.off vs) g base e /\
     ∀h2:af,h2.get a.block=some (.cells c g base e)->jZ (A.exec h2)=some (r,h2.mY a.block (bB c a.off vs) g base e):=by
    intro A hA e;unfold uM at hA;simp only[hop] at hA;split at hA
    .rename_i v u n hv hu hn;unfold v8 at hA;split at hA
     .rename_i a;split at hA
      .subst hA;simp only[Act.exec] at e⊢;unfold bE at e;generalize hg:h.get a.block=og at e;cases og with
       |none=>simp[jZ] at e
       |some aD=>
        cases aD with
        |cells c g base el=>
         simp only at e;by_cases hc:g≠0/\a.off+u.cells.toList.length<=c.length/\u.cells.toList.all fi=true
         .rw[BY hc] at e;simp only[jZ,IN,abm] at e;obtain⟨e1,e2⟩:=e;refine⟨a,u.cells.toList,c,g,base,el,by simp only[zX,hop,hv],hg,e2.symm,λh2 e3=>?_⟩;unfold bE;rw[e3];simp only;rw[BY hc,<-e1];rfl
         .rw[By hc] at e;simp[jZ] at e
        |_=>simp[jZ] at e
      .subst hA;simp[Act.exec,jZ] at e
     .subst hA;simp[Act.exec,jZ] at e
    .subst hA;simp[Act.exec,jZ] at e
   exact gen _ rfl hx
  .cases hs
 .grind
 .cases hx
theorem MS (h:∀t∈ir ops o,E t=E' t):zX E o=zX E' o:=by
 have h:=zb h;unfold zX;cases hop:o.op<;>simp only[hop,Op.operands] at h⊢;rw[h _ (by simp)]
theorem Cy {ks:η}(hE:∀t∈ir ops o,E t=E' t):uT E o h ks↔uT E' o h ks:=by
 unfold uT;rw[MS hE]
theorem xa {nm:Nat}(hc:cls P ops o=.mka){r:ud}(hx:act P C nm ops E L o h=some (r,h')):(h'=h/\∀h2,act P C nm ops E L o h2=some (r,h2)) \/
  ∃kt,h.fresh nm/\h'=h.sD nm kt/\∀h2:af,h2.fresh nm->act P C nm ops E L o h2=some (r,h2.sD nm kt):=by
 unfold act at hx⊢;split at hx
 .refine .inr ?_;unfold ex at hx⊢;cases hop:o.op<;>simp only[hop] at hx⊢<;>try (unfold cls at hc;simp only[hop] at hc;contradiction)
  case makeMap t x=>
   have gen:∀A:Act,(∀h x h',A.exec h=some (x,h')->∃kt,h.fresh nm/\h'=h.sD nm kt/\∀h2:af,h2.fresh nm->A.exec h2=some (x,h2.sD nm kt))->jZ (A.exec h)=some (r,h') ->
     ∃kt,h.fresh nm/\h'=h.sD nm kt/\∀h2:af,h2.fresh nm->jZ (A.exec h2)=some (r,h2.sD nm kt):=by
    intro A hA e;obtain⟨v,e1,rfl⟩:=nH e;obtain⟨kt,a,c,d⟩:=hA _ _ _ e1;exact⟨kt,a,c,λh2 a=>by rw[d h2 a];rfl⟩
   have one:∀(ty:κ) h x h',(Act.ask Nat (nV nm ty) λm=>.val (.map (some m))).exec h=some (x,h')->∃kt,h.fresh nm/\h'=h.sD nm kt/\∀h2:af,h2.fresh nm->(Act.ask Nat (nV nm ty) λm=>.val (.map (some m))).exec h2=some (x,h2.sD nm kt):=by
    intro ty h x h' e;simp only[Act.exec,nV,af.fresh,acA] at e⊢
    grind
   refine gen _ ?_ hx;unfold uM;simp only[hop]
   repeat' (first|exact one _|(intro h x h' e;simp[Act.exec] at e;done)|split)
  all_goals
   unfold cls at hc;simp only[hop] at hc
   grind [rE,ns,lV,pB]
 .cases hx;exact .inl ⟨rfl,λ_=>rfl⟩
 .cases hx
theorem VJ {nm:Nat}{mo:FuncId->Bool}(HM:∀f vs ca,mo f=true->C.st f vs=some ca->xK ca.m)(hc:yc mo o=true){k:Nat}{kt:κ}(h1:h.fresh k){r:ud}
  (hx:act P C nm ops E L o (h.sD k kt)=some (r,h')):∃h3,act P C nm ops E L o h=some (r,h3)/\h3.fresh k/\h'=h3.sD k kt:=by
 unfold act at hx⊢;split at hx
 .unfold yc at hc;split at hc
  .rename_i c hop;split at hc
   .rename_i f hf;have hb:isBuiltin c=false:=(by unfold isBuiltin;rw[hf]);have hd:iQ C c=none:=(by unfold iQ;rw[hf]);unfold ex at hx⊢;simp only[hop,hb,hd] at hx⊢;cases hev:E.D9 c.args.toList with
    |none=>
     grind [callee]
    |some vs=>
     have:callee E c=some (f,vs):=(by unfold callee;rw[hf,hev];simp[Env.ev]);simp only[this] at hx⊢;split at hx
     .rename_i ca hca;split at hx
      .rename_i x h4 hm;cases hx;obtain⟨h3,q1,q2,q3⟩:=(HM f vs ca hc hca).1 h k kt x h' h1 hm;exact⟨h3,by simp only[q1],q2,q3⟩
      .cases hx
     .cases hx
   .cases hc
  .cases hc
 .cases hx;exact⟨h,rfl,h1,rfl⟩
 .cases hx
theorem PQ {nm:Nat}{mo:FuncId->Bool}(HM:∀f vs ca,mo f=true->C.st f vs=some ca->xK ca.m)(hc:yc mo o=true){r:ud}
  (hx:act P C nm ops E L o h=some (r,h')):h'.fj=h.fj:=by
 unfold act at hx;split at hx
 .unfold yc at hc;split at hc
  .rename_i c hop;split at hc
   .rename_i f hf;have hb:isBuiltin c=false:=(by unfold isBuiltin;rw[hf]);have hd:iQ C c=none:=(by unfold iQ;rw[hf]);unfold ex at hx;simp only[hop,hb,hd] at hx;cases hev:E.D9 c.args.toList with
    |none=>
     grind [callee]
    |some vs=>
     have:callee E c=some (f,vs):=(by unfold callee;rw[hf,hev];simp[Env.ev]);simp only[this] at hx;split at hx
     .rename_i ca hca;split at hx
      .rename_i x h4 hm;cases hx;exact (HM f vs ca hc hca).2 h x _ hm
      .cases hx
     .cases hx
   .cases hc
  .cases hc
 .cases hx;rfl
 .cases hx
def ze {α:Type}(k:Nat)(m:M α):Prop:=∀(h:af) t cs (x:α) (h2:af),h.used k=false->k<h.next->h.get k=none->m (h.bt k h.next t cs)=some (x,h2) ->
 ∃h3,m h=some (x,h3)/\h3.used k=false/\k<h3.next/\h3.get k=none/\h2=h3.bt k h3.next t cs
theorem MT {α:Type}{k:Nat}{m:M α}{h:af}{x:α}{h1:af}(hx:vY k m h=some (x,h1)):m h=some (x,h1)/\BP k m h x h1:=by
 unfold vY at hx;split at hx
 .split at hx
  .rename_i hm _ hb _;cases hx;exact⟨hm,hb⟩
  .cases hx
 .cases hx
theorem S7 {α:Type}{k:Nat}{m:M α}{h:af}{x:α}{h1:af}(hm:m h=some (x,h1))(hb:BP k m h x h1):vY k m h=some (x,h1):=by
 unfold vY;rw[hm];simp only;split
 .rfl
 .rename_i hn _;exact absurd hb hn
theorem MU {α:Type}(k:Nat)(m:M α):ze k (vY k m):=λh t cs x h2 h1 h3 h4 hx=>by
 obtain⟨hm,hb⟩:=MT hx;obtain⟨h5,q1,q2,q3,q4,q5⟩:=hb h t cs h1 h3 h4 rfl;refine⟨h5,S7 q1 ?_,q2,q3,q4,q5⟩;intro h0 t' cs' _ _ _ e;rw[e] at h1;simp[af.bt,abe] at h1
theorem XF {nm:Nat}{f:FuncId}(hc:qQ o=some f){k:Nat}(HB:∀vs ca,C.st f vs=some ca->ze k ca.m){t:κ}{cs:δ}(h1:h.used k=false)(h2:k<h.next)(h3:h.get k=none){r:ud}
  (hx:act P C nm ops E L o (h.bt k h.next t cs)=some (r,h')):∃h3,act P C nm ops E L o h=some (r,h3)/\h3.used k=false/\k<h3.next/\h3.get k=none/\h'=h3.bt k h3.next t cs:=by
 unfold act at hx⊢;split at hx
 .unfold qQ at hc;split at hc
  .rename_i c hop;split at hc
   .rename_i g hf;cases hc;have hb:isBuiltin c=false:=(by unfold isBuiltin;rw[hf]);have hd:iQ C c=none:=(by unfold iQ;rw[hf]);unfold ex at hx⊢;simp only[hop,hb,hd] at hx⊢;cases hev:E.D9 c.args.toList with
    |none=>
     grind [callee]
    |some vs=>
     have:callee E c=some (f,vs):=(by unfold callee;rw[hf,hev];simp[Env.ev]);simp only[this] at hx⊢;split at hx
     .rename_i ca hca;split at hx
      .rename_i x h4 hm;cases hx;obtain⟨h5,q1,q2,q3,q4,q5⟩:=HB vs ca hca h t cs x h' h1 h2 h3 hm;exact⟨h5,by simp only[q1],q2,q3,q4,q5⟩
      .cases hx
     .cases hx
   .cases hc
  .cases hc
 .cases hx;exact⟨h,rfl,h1,h2,h3,rfl⟩
 .cases hx
theorem PS {p:Oper}{f:FuncId}(h:qQ p=some f):tY p=false:=by
 grind [qQ,tY]
theorem Em {h:af}{k k' nx:Nat}(hk:k≠k'){kt t:κ}{cs:δ}:(h.sD k kt).bt k' nx t cs=(h.bt k' nx t cs).sD k kt:=by
 unfold af.bt af.sD af.iP;simp only[af.mk.injEq,aaY,and_true];funext j;cases q1:Nat.beq j k<;>cases q2:Nat.beq j k'<;>simp
theorem JQ {h:af}{k k':Nat}{t:κ}{cs:δ}(hf:h.fresh k)(hk:k≠k'):(h.bt k' h.next t cs).fresh k:=by
 have:Nat.beq k k'=false:=by cases e:Nat.beq k k'<;>grind [Nat.eq_of_beq_eq_true]
 obtain⟨a,b,c,d⟩:=hf;exact⟨by simp[af.bt,this,a],b,c,by simp[af.bt,this,d]⟩
theorem DP {h:af}{k k':Nat}{t:κ}{cs:δ}(hf:(h.bt k' h.next t cs).fresh k)(hk:k≠k'):h.fresh k:=by
 have:Nat.beq k k'=false:=by cases e:Nat.beq k k'<;>grind [Nat.eq_of_beq_eq_true]
 obtain⟨a,b,c,d⟩:=hf;exact⟨by simpa[af.bt,this] using a,b,c,by simpa[af.bt,this] using d⟩
end Classes
section Swap
variable {C:eI}{W:Wr}{nb:Nat}{ops:Array Oper}{Af:Nat->θ}{Ck:Nat->List θ}{Kk:Nat->η}
theorem mI {l:η}{i:Nat}:B9 l i=true↔i∈l:=by
 grind [B9,List.any_eq_true,Nat.eq_of_beq_eq_true,Nat.beq_refl]
theorem gh {E:Env}{L:cK}{d:μ}{r:ud}{t:Nat}(h:d≠some t):E.res d r t=E t/\L.res d r t=L t:=by
 cases d with
 |none=>cases r<;>exact⟨rfl,rfl⟩
 |some i=>
  have:Nat.beq t i=false:=by
   cases hb:Nat.beq t i
   .rfl
   simp_all
  cases r<;>simp[Env.res,cK.res,Env.put,Env.set,Env.del,cK.put,cK.del,this]
theorem H6 {E:Env}{L:cK}{d e:μ}{r u:ud}(h:∀i,d=some i->e≠some i) :
  (E.res d r).res e u=(E.res e u).res d r/\(L.res d r).res e u=(L.res e u).res d r:=by
 constructor<;>funext t
 .by_cases hd:d=some t
  .have he:=h t hd;rw[(gh (E:=E.res d r) (L:=L) (r:=u) he).1];subst hd;cases r<;>simp[Env.res,Env.put,Env.set,Env.del]
  .rw[(gh (E:=E.res e u) (L:=L) (r:=r) hd).1];by_cases he:e=some t
   .subst he;cases u<;>simp[Env.res,Env.put,Env.set,Env.del]
   .rw[(gh (E:=E.res d r) (L:=L) (r:=u) he).1,(gh (E:=E) (L:=L) (r:=r) hd).1,(gh (E:=E) (L:=L) (r:=u) he).1]
 .by_cases hd:d=some t
  .have he:=h t hd;rw[(gh (E:=E) (L:=L.res d r) (r:=u) he).2];subst hd;cases r<;>simp[cK.res,cK.put,cK.del]
  .rw[(gh (E:=E) (L:=L.res e u) (r:=r) hd).2];by_cases he:e=some t
   .subst he;cases u<;>simp[cK.res,cK.put,cK.del]
   .rw[(gh (E:=E) (L:=L.res d r) (r:=u) he).2,(gh (E:=E) (L:=L) (r:=r) hd).2,(gh (E:=E) (L:=L) (r:=u) he).2]
theorem MV {h:af}{k1 k2:Nat}(hk:k1≠k2){t1 t2:κ}{c1 c2:δ} :
  (h.bt k1 h.next t1 c1).bt k2 h.next t2 c2=(h.bt k2 h.next t2 c2).bt k1 h.next t1 c1:=by
 have hb:∀j,Nat.beq j k1=true->Nat.beq j k2=false:=λj e=>by
  cases e2:Nat.beq j k2
  .rfl
  .exact absurd ((IS e).symm.trans (IS e2)) hk
 unfold af.bt;simp only[af.mk.injEq,ly,aaY,and_true];refine⟨?_,?_,?_⟩<;>funext j
 .cases e1:Nat.beq j k1
  .rfl
  .simp[hb j e1]
 .cases e1:Nat.beq j (k1+1)
  .simp
  .have:Nat.beq j (k2+1)=false:=by
    cases e2:Nat.beq j (k2+1)
    .rfl
    .have h1:=IS e1;have h2:=IS e2;omega
   simp[this]
 .cases e1:Nat.beq j k1
  .rfl
  .simp[hb j e1]
theorem PT {h:af}{k:Nat}(hk:k≠h.next){t1 t2:κ}{c1 c2:δ}:(h.bt k h.next t1 c1).new t2 c2=(h.new t2 c2).bt k (h.new t2 c2).next t1 c1:=by
 have hb:∀j a b,a≠b->Nat.beq j a=true->Nat.beq j b=false:=λj a b hab e=>by
  cases e2:Nat.beq j b
  .rfl
  .exact absurd ((IS e).symm.trans (IS e2)) hab
 unfold af.new af.bt;simp only[af.mk.injEq,ly,aaY,and_true];refine⟨?_,?_,?_⟩<;>funext j
 .cases e1:Nat.beq j k
  .rfl
  .simp[hb j k h.next hk e1]
 .cases e1:Nat.beq j (k+1)
  .rfl
  .simp[hb j (k+1) (h.next+1) (by omega) e1]
 .cases e1:Nat.beq j k
  .rfl
  .simp[hb j k h.next hk e1]
theorem core {mo:FuncId->Bool}(HM:∀f vs ca,mo f=true->C.st f vs=some ca->xK ca.m){i j:Nat}{o p:Oper}{ck:Bool}(HB:ck=true->wa (cls P ops o)=true->∀f,qQ p=some f->∀vs ca,C.st f vs=some ca->ze (nb+i) ca.m){E:Env}{L:cK}{h h1 h2:af}{r u:ud}(hij:i≠j)
  (hsw:(match cls P ops o,cls P ops p with
   |.sil,_|_,.sil | .ro,.ro | .ro,.alloc | .ro,.add | .alloc,.alloc=>true
   |.ro,.mro | .mro,.ro | .mro,.mro | .mro,.alloc | .mro,.add | .alloc,.mro | .add,.mro=>true
   |.ro,.eff=>ck&&wc ops p
   |.alloc,.eff=>ck&&(tY p||(qQ p).isSome)
   |.ro,.mka | .mka,.ro | .mka,.alloc | .alloc,.mka | .mro,.mka=>true
   |.mka,.eff | .mro,.eff=>yc mo p
   |.add,.alloc=>yV ops o
   |_,_=>false)=true) (hkk:ck=true->wa (cls P ops o)=true->nb+i∈Kk j) (si:want ops E o=some true->uT E o h (Kk i)) (sj:want ops E p=some true->uT E p h1 (Kk j)) (hck:ck=true->Af i∈Ck j) (hrd:want ops E o=some true->iR E o=Af i)
  (hi:act P C (nb+i) ops E L o h=some (r,h1)) (ci:wc ops o=true->sameAt h h1 (Ck i)=true)
  (hj:act P C (nb+j) ops E L p h1=some (u,h2)) (cj:wc ops p=true->sameAt h1 h2 (Ck j)=true) :
  ∃h3,act P C (nb+j) ops E L p h=some (u,h3)/\act P C (nb+i) ops E L o h3=some (r,h2) /\
   (wc ops p=true->sameAt h h3 (Ck j)=true)/\(wc ops o=true->sameAt h3 h2 (Ck i)=true) /\
   (want ops E p=some true->uT E p h (Kk j))/\(want ops E o=some true->uT E o h3 (Kk i)):=by
 have noSt:∀{q:Oper} {hh:af} {ks:η},cls P ops q≠.eff->want ops E q=some true->uT E q hh ks:=λhq _ hs=>absurd (VI hs) hq;have first:h1=h->cls P ops o≠.eff->(∀h2,act P C (nb+i) ops E L o h2=some (r,h2))->∃h3,act P C (nb+j) ops E L p h=some (u,h3)/\act P C (nb+i) ops E L o h3=some (r,h2) /\
   (wc ops p=true->sameAt h h3 (Ck j)=true)/\(wc ops o=true->sameAt h3 h2 (Ck i)=true) /\
   (want ops E p=some true->uT E p h (Kk j))/\(want ops E o=some true->uT E o h3 (Kk i)):=by
  grind [sameAt_refl]
 have second:h2=h1->cls P ops p≠.eff->act P C (nb+j) ops E L p h=some (u,h)->∃h3,act P C (nb+j) ops E L p h=some (u,h3)/\act P C (nb+i) ops E L o h3=some (r,h2) /\
   (wc ops p=true->sameAt h h3 (Ck j)=true)/\(wc ops o=true->sameAt h3 h2 (Ck i)=true) /\
   (want ops E p=some true->uT E p h (Kk j))/\(want ops E o=some true->uT E o h3 (Kk i)):=by
  grind [sameAt_refl]
 have noCk:∀{q:Oper},cls P ops q≠.eff->∀{X:Prop},wc ops q=true->X:=λhq X hc=>absurd (PN hc) hq;cases ho:cls P ops o
 case sil=>grind [sP]
 case add=>
  cases hp:cls P ops p<;>rw[ho,hp] at hsw
  case sil=>grind [sP]
  case mro=>grind [w9,El,ME.of]
  case alloc=>
   rcases lW hp hj with⟨e1,e3⟩|⟨t,cs,a1,a2,a3,rfl,a4⟩
   .exact second e1 (by rw[hp];simp) (e3 _)
   rcases SZ hsw ho hi with⟨rfl,q⟩|⟨hn,⟨rfl,q⟩|⟨e,ds,rfl,q⟩⟩
   .exact first rfl (by rw[ho];simp) q
   .exact⟨_,hj,q _ (Lp a2 a3 hn),noCk (by rw[hp];simp),noCk (by rw[ho];simp),noSt (by rw[hp];simp),noSt (by rw[ho];simp)⟩
   .have hne:Nat.beq (nb+j) h.next=false:=by
     cases e2:Nat.beq (nb+j) h.next
     .rfl
     .simp[af.new,af.bt,e2] at a1
    have hnx:nb+j≠h.next:=λe3=>by rw[e3,abe] at hne;cases hne
    have b1:h.used (nb+j)=false:=(by simpa[af.new,af.bt,hne] using a1);have b2:nb+j<h.next:=by have:nb+j<h.next+1:=a2;omega
    have b3:h.get (nb+j)=none:=(by simpa[af.new,af.bt,hne] using a3);refine⟨_,a4 h b1 b2 b3,?_,noCk (by rw[hp];simp),noCk (by rw[ho];simp),noSt (by rw[hp];simp),noSt (by rw[ho];simp)⟩;rw[q _ (Lp b2 b3 hn)]
    congr 2
    exact PT hnx
  all_goals cases hsw
 case mro=>
  obtain⟨rfl,e2⟩:=w9 ho hi;cases hp:cls P ops p<;>rw[ho,hp] at hsw
  case sil=>grind [sP]
  case ro=>obtain⟨rfl,_⟩:=Cv hp hj;exact second rfl (by rw[hp];simp) hj
  case mro=>obtain⟨rfl,_⟩:=w9 hp hj;exact second rfl (by rw[hp];simp) hj
  case alloc=>
   rcases lW hp hj with⟨e1,e3⟩|⟨t,cs,a1,a2,a3,rfl,a4⟩
   .exact second e1 (by rw[hp];simp) (e3 _)
   .exact⟨_,hj,e2 _ (ME.of rfl),noCk (by rw[hp];simp),noCk (by rw[ho];simp),noSt (by rw[hp];simp),noSt (by rw[ho];simp)⟩
  case add=>exact⟨_,hj,e2 _ (ME.of (El hp hj)),noCk (by rw[hp];simp),noCk (by rw[ho];simp),noSt (by rw[hp];simp),noSt (by rw[ho];simp)⟩
  case eff=>exact⟨_,hj,e2 _ (ME.of (PQ HM hsw hj)),cj,noCk (by rw[ho];simp),sj,noSt (by rw[ho];simp)⟩
  case mka=>
   rcases xa hp hj with⟨e1,e3⟩|⟨kt,a1,rfl,a4⟩
   .exact second e1 (by rw[hp];simp) (e3 _)
   .refine⟨_,hj,e2 _ λm x hm=>?_,noCk (by rw[hp];simp),noCk (by rw[ho];simp),noSt (by rw[hp];simp),noSt (by rw[ho];simp)⟩;have hn:Nat.beq m (nb+j)=false:=by
     cases q:Nat.beq m (nb+j)
     .rfl
     .rw[IS q,a1.2.2.1] at hm;cases hm
    simp[af.sD,af.iP,hn,hm]
  all_goals cases hsw
 case eff=>
  cases hp:cls P ops p<;>rw[ho,hp] at hsw
  case sil=>grind [sP]
  all_goals cases hsw
 case ro=>
  obtain⟨rfl,e2⟩:=Cv ho hi;rcases e2 with e2|⟨hw,b,hb,hn,e2⟩
  .exact first rfl (by rw[ho];simp) e2
  .cases hp:cls P ops p
   case sil=>grind [sP]
   case ro=>obtain⟨rfl,_⟩:=Cv hp hj;exact second rfl (by rw[hp];simp) hj
   case mro=>obtain⟨rfl,_⟩:=w9 hp hj;exact second rfl (by rw[hp];simp) hj
   case alloc=>
    rcases lW hp hj with⟨e1,e3⟩|⟨t,cs,a1,a2,a3,rfl,a4⟩
    .exact second e1 (by rw[hp];simp) (e3 _)
    .refine⟨_,hj,e2 _ (eL.of ?_),noCk (by rw[hp];simp),noCk (by rw[ho];simp),noSt (by rw[hp];simp),noSt (by rw[ho];simp)⟩;have:Nat.beq b.block (nb+j)=false:=by
      cases e:Nat.beq b.block (nb+j)
      .rfl
      .rw[IS e] at hn;exact absurd a3 hn
     simp[af.bt,this]
   case add=>exact⟨_,hj,e2 _ (eL.of (SY hp hj _ hn)),noCk (by rw[hp];simp),noCk (by rw[ho];simp),noSt (by rw[hp];simp),noSt (by rw[ho];simp)⟩
   case mka=>
    rcases xa hp hj with⟨e1,e3⟩|⟨kt,a1,rfl,a4⟩
    .exact second e1 (by rw[hp];simp) (e3 _)
    .exact⟨_,hj,e2 _ (eL.of rfl),noCk (by rw[hp];simp),noCk (by rw[ho];simp),noSt (by rw[hp];simp),noSt (by rw[ho];simp)⟩
   case eff=>
    rw[ho,hp] at hsw;simp only[aaf] at hsw;have hm:=hck hsw.1;rw[<-hrd hw,hb] at hm;exact⟨_,hj,e2 _ (pA (cj hsw.2) hm),cj,noCk (by rw[ho];simp),sj,noSt (by rw[ho];simp)⟩
 case mka=>
  cases hp:cls P ops p<;>rw[ho,hp] at hsw
  case sil=>grind [sP]
  case ro=>
   obtain⟨rfl,e2⟩:=Cv hp hj;rcases xa ho hi with⟨e1,e3⟩|⟨kt,a1,rfl,a4⟩
   .exact first e1 (by rw[ho];simp) e3
   rcases e2 with e2|⟨hw,b,hb,hn,e2⟩
   .exact second rfl (by rw[hp];simp) (e2 _)
   .exact second rfl (by rw[hp];simp) (e2 _ (eL.of rfl))
  case eff=>
   rcases xa ho hi with⟨e1,e3⟩|⟨kt,a1,rfl,a4⟩
   .exact first e1 (by rw[ho];simp) e3
   obtain⟨h3,q1,q2,rfl⟩:=VJ HM hsw a1 hj;refine⟨h3,q1,a4 h3 q2,λhcp=>?_,noCk (by rw[ho];simp),λ_ hs=>?_,noSt (by rw[ho];simp)⟩
   .have hsm:=cj hcp;refine rD λx hx b hb=>?_;subst hb;exact (pA hsm hx).cast rfl rfl
   grind [yc,tY]
  case alloc=>
   rcases xa ho hi with⟨e1,e3⟩|⟨kt,a1,rfl,a4⟩
   .exact first e1 (by rw[ho];simp) e3
   rcases lW hp hj with⟨e1,e3⟩|⟨t,cs,b1,b2,b3,rfl,b4⟩
   .exact second e1 (by rw[hp];simp) (e3 _)
   have hne:Nat.beq (nb+j) (nb+i)=false:=by
    grind [Nat.eq_of_beq_eq_true]
   have hne':Nat.beq (nb+i) (nb+j)=false:=by
    grind [Nat.eq_of_beq_eq_true]
   have c1:h.used (nb+j)=false:=by simpa[af.sD,hne] using b1
   refine⟨_,b4 h c1 b2 b3,?_,noCk (by rw[hp];simp),noCk (by rw[ho];simp),noSt (by rw[hp];simp),noSt (by rw[ho];simp)⟩;rw[a4 _ (JQ a1 (by omega)),Em (by omega)];rfl
  all_goals cases hsw
 case alloc=>
  cases hp:cls P ops p
  case sil=>grind [sP]
  case mka=>
   rcases lW ho hi with⟨e1,e3⟩|⟨t,cs,b1,b2,b3,rfl,b4⟩
   .exact first e1 (by rw[ho];simp) e3
   rcases xa hp hj with⟨e1,e3⟩|⟨kt,a1,rfl,a4⟩
   .exact second e1 (by rw[hp];simp) (e3 _)
   have hne:Nat.beq (nb+j) (nb+i)=false:=by
    grind [Nat.eq_of_beq_eq_true]
   have hne':Nat.beq (nb+i) (nb+j)=false:=by
    grind [Nat.eq_of_beq_eq_true]
   refine⟨_,a4 h (DP a1 (by omega)),?_,noCk (by rw[hp];simp),noCk (by rw[ho];simp),noSt (by rw[hp];simp),noSt (by rw[ho];simp)⟩;rw[b4 (h.sD (nb+j) kt) (by simp[af.sD,hne',b1]) b2 b3,Em (by omega)];rfl
  case mro=>
   obtain⟨e1,e2⟩:=w9 hp hj;rcases lW ho hi with⟨rfl,_⟩|⟨t,cs,a1,a2,a3,rfl,a4⟩
   .exact second e1 (by rw[hp];simp) (e2 _ (ME.of rfl))
   .exact second e1 (by rw[hp];simp) (e2 _ (ME.of rfl))
  case alloc=>
   rcases lW ho hi with⟨e1,e2⟩|⟨t,cs,a1,a2,a3,rfl,a4⟩
   .exact first e1 (by rw[ho];simp) e2
   rcases lW hp hj with⟨e1,e2⟩|⟨t',cs',b1,b2,b3,rfl,b4⟩
   .exact second e1 (by rw[hp];simp) (e2 _)
   have hne:Nat.beq (nb+j) (nb+i)=false:=by
    grind [Nat.eq_of_beq_eq_true]
   have hne':Nat.beq (nb+i) (nb+j)=false:=by
    grind [Nat.eq_of_beq_eq_true]
   simp only[af.bt,hne,abV,ly] at b1 b2 b3;refine⟨_,b4 h b1 b2 b3,?_,noCk (by rw[hp];simp),noCk (by rw[ho];simp),noSt (by rw[hp];simp),noSt (by rw[ho];simp)⟩;have:=a4 (h.bt (nb+j) h.next t' cs') (by simp[af.bt,hne',a1]) a2 (by simp[af.bt,hne',a3])
   rw[this]
   congr 2
   exact (MV (by omega)).symm
  case eff=>
   rw[ho,hp] at hsw;simp only[aaf] at hsw;obtain⟨hc1,hst⟩:=hsw;rcases lW ho hi with⟨e1,e2⟩|⟨t,cs,a1,a2,a3,rfl,a4⟩
   .exact first e1 (by rw[ho];simp) e2
   have hk:=hkk hc1 (by rw[ho];rfl);cases hsc:qQ p with
   |some f=>
    obtain⟨h3,q1,q2,q3,q4,rfl⟩:=XF hsc (HB hc1 (by rw[ho];rfl) f hsc) a1 a2 a3 hj;refine⟨h3,q1,a4 h3 q2 q3 q4,λhcp=>?_,noCk (by rw[ho];simp),λ_ hs=>?_,noSt (by rw[ho];simp)⟩
    .have hsm:=cj hcp;refine rD λx hx b hb=>?_;subst hb;have h5:=pA hsm hx;cases q5:Nat.beq b.block (nb+i)
     .exact h5.cast (by simp[af.bt,q5]) (by simp[af.bt,q5])
     .refine eL.of ?_;rw[IS q5,q4,a3]
    .rw[PS hsc] at hs;cases hs
   |none=>
   rw[hsc] at hst;simp only[acq,abL] at hst;rcases MR hst hj with⟨e1,e2,e3⟩|⟨hw,a,vs,c,g,base,e,b1,b2,rfl,b4⟩
   .grind [sameAt_refl,absurd]
   .have hne:Kk j≠[]:=List.ne_nil_of_mem hk;obtain⟨a',c1,c2⟩:=sj hw hst hne;rw[b1] at c1;cases c1;have c2':=c2;unfold SD at c2;rw[b2] at c2;have c3:=List.all_eq_true.1 c2 _ hk;simp only[aaf,abC] at c3;obtain⟨d1,d2⟩:=c3;have hga:(h.bt (nb+i) h.next t cs).get a.block=h.get a.block:=by simp[af.bt,d1]
    have b2':h.get a.block=some (.cells c g base e):=(by rw[<-hga];exact b2);have hka:Nat.beq (nb+i) a.block=false:=by
     cases hb:Nat.beq (nb+i) a.block
     .rfl
     grind [Nat.eq_of_beq_eq_true,Nat.beq_refl]
    have hkg:Nat.beq (nb+i+1) g=false:=by
     grind [Nat.eq_of_beq_eq_true,Nat.beq_refl]
    have hnone:(h.mY a.block (bB c a.off vs) g base e).get (nb+i)=none:=(by simp[af.mY,hka,a3]);have hcomm:(h.mY a.block (bB c a.off vs) g base e).bt (nb+i) h.next t cs=(h.bt (nb+i) h.next t cs).mY a.block (bB c a.off vs) g base e:=by
     unfold af.bt af.mY;simp only[af.mk.injEq,aaY,and_true];funext q;cases q1:Nat.beq q (nb+i)
     .cases q2:Nat.beq q a.block<;>simp[q1]
     grind [Nat.eq_of_beq_eq_true]
    refine⟨_,b4 h b2',?_,λhcp=>?_,noCk (by rw[ho];simp),λ_ _ _=>⟨a,b1,?_⟩,noSt (by rw[ho];simp)⟩
    .have:=a4 (h.mY a.block (bB c a.off vs) g base e) a1 a2 hnone;rw[this]
     congr 2
    .have hsm:=cj hcp;refine rD λx hx b hb=>?_;subst hb;have h5:=pA hsm hx;cases q1:Nat.beq b.block (nb+i)
     .exact h5.cast (by simp[af.bt,q1]) (by simp[af.mY,af.bt,q1])
     .refine eL.of ?_;rw[IS q1,hnone,a3]
    grind [SD]
  all_goals
   rw[ho,hp] at hsw;cases hsw
theorem Lq {mo:FuncId->Bool}(HM:∀f vs ca,mo f=true->C.st f vs=some ca->xK ca.m){i j:Nat}{o p:Oper}{ck:Bool}(HB:ck=true->wa (cls P ops o)=true->∀f,qQ p=some f->∀vs ca,C.st f vs=some ca->ze (nb+i) ca.m){s s1 s2:St}(ho:ops[i]?=some o)(hp:ops[j]?=some p)(hij:i≠j)(hsw:Hs P mo ops o p ck=true)(hck:ck=true->Af i∈Ck j)(hkk:ck=true->wa (cls P ops o)=true->nb+i∈Kk j)
  (h1:Step P C W nb ops Af Ck Kk i s s1) (h2:Step P C W nb ops Af Ck Kk j s1 s2):∃s1',Step P C W nb ops Af Ck Kk j s s1'/\Step P C W nb ops Af Ck Kk i s1' s2:=by
 obtain⟨E,L,h⟩:=s;obtain⟨E1,L1,h1'⟩:=s1;obtain⟨E2,L2,h2'⟩:=s2;obtain⟨o',r,ho',hWi,hri,hai,e1,e2,hci,hsi⟩:=h1;obtain⟨p',u,hp',hWj,hrj,haj,e3,e4,hcj,hsj⟩:=h2;rw[ho] at ho';cases ho';rw[hp] at hp';cases hp';simp only at *
 subst e1;subst e2;subst e3;subst e4;unfold Hs at hsw;rw[aaf] at hsw;obtain⟨hap,hsw⟩:=hsw;unfold apart at hap;simp only[aaf] at hap;obtain⟨⟨q1,q2⟩,q3⟩:=hap;have d1:∀t∈ir ops p,o.dst≠some t:=by
  grind [Bool.not_eq_true',mI]
 have d2:∀t∈ir ops o,p.dst≠some t:=by
  grind [Bool.not_eq_true',mI]
 have d3:∀t,o.dst=some t->p.dst≠some t:=by
  intro t e1 e2;rw[e1,e2] at q3;simp at q3
 have cE:∀t∈ir ops p,E.res o.dst r t=E t:=λt ht=>(gh (L:=L) (d1 t ht)).1;have cL:∀t∈ir ops p,L.res o.dst r t=L t:=λt ht=>(gh (E:=E) (d1 t ht)).2;have cE':∀t∈ir ops o,E.res p.dst u t=E t:=λt ht=>(gh (L:=L) (d2 t ht)).1;have cL':∀t∈ir ops o,L.res p.dst u t=L t:=λt ht=>(gh (E:=E) (d2 t ht)).2;rw[Ek cE cL] at haj;obtain⟨h3,g1,g2,g3,g4,g5,g6⟩:=core HM HB hij hsw hkk hsi (λhw=>(Cy cE).1 (hsj (by rw[rU cE];exact hw))) hck hri hai hci haj hcj;refine⟨(E.res p.dst u,L.res p.dst u,h3),⟨p,u,hp,hWj,?_,g1,rfl,rfl,g3,g5⟩,⟨o,r,ho,hWi,?_,?_,?_,?_,g4,λhw=>(Cy cE').2 (g6 (by rw[<-rU cE'];exact hw))⟩⟩
 .intro hw;rw[<-zd cE];exact hrj (by rw[rU cE];exact hw)
 .intro hw;rw[zd cE'];exact hri (by rw[<-rU cE'];exact hw)
 .simp only;rw[Ek cE' cL'];exact g2
 .exact (H6 (L:=L) d3).1
 .exact (H6 (E:=E) d3).2
end Swap
theorem sQ (e:Edge):tZ e=Region.binds .any e:=by
 unfold tZ Region.binds;split<;>simp_all
theorem H7 {x:Nat}:∀{l a:η},x∈Pp l a->x∈l\/x∈a
 |[],a,h=>.inr h
 |y::l,a,h=>by
  rw[Pp] at h;rcases H7 h with h|h
  .exact .inl (aan _ h)
  .cases hm:B9 a y with
   |true=>rw[hm] at h;exact .inr h
   |false=>
    rw[hm] at h;rcases List.mem_cons.1 h with rfl|h
    .exact .inl aaz
    .exact .inr h
theorem yk {ops:Array Oper}{σ:η}(hn:σ.Nodup)(hr:∀i o e,ops[i]?=some o->e∈o.after.toList->tZ e=true->DO σ e.on i) :
  ∀(rest:List Oper) (acc:List η),(∀n o,rest[n]?=some o->ops[acc.length+n]?=some o)->(∀j i,i∈acc.getD j []->DO σ i j) ->
   ∀j i,i∈(rest.foldl (λacc o=>acc++[Pp ((o.after.toList.filter tZ).flatMap λe=>e.on::acc.getD e.on []) []]) acc).getD j []->DO σ i j
 |[],acc,_,ha,j,i,hi=>ha j i hi
 |o::rest,acc,hs,ha,j,i,hi=>by
  refine yk hn hr rest _ ?_ ?_ j i hi
  .intro n o' ho';have:=hs (n+1) o' (by simpa using ho')
   grind
  .intro j i hi;have ho:=hs 0 o rfl;simp only[aaG] at ho;rcases Nat.lt_trichotomy j acc.length with hj|hj|hj
   .grind
   .subst hj;simp only[acy,abD,Nat.lt_irrefl,aar,abI,List.getElem?_cons_zero,Option.getD_some] at hi;have hi:=(H7 hi).resolve_right (by simp);simp only[List.mem_flatMap,List.mem_filter] at hi;obtain⟨e,⟨he,hb⟩,hi⟩:=hi;have h1:=hr _ o e ho he hb;rcases List.mem_cons.1 hi with rfl|hi
    .exact h1
    .exact Ej hn (ha e.on i (by rw[acy];exact hi)) h1
   grind
theorem uX {mo:FuncId->Bool}{ops:Array Oper}{pr:List η}:∀{l:List (Nat×η)},qY P mo ops pr l=true->∀i j,DO (l.map (·.1)) i j ->
  ∃cj,(j,cj)∈l/\(i∈pr.getD j []\/∃o p,ops[i]?=some o/\ops[j]?=some p/\Hs P mo ops o p (B9 cj i)=true)
 |[],_,_,_,hb=>by cases hb
 |(a,c)::l,hp,i,j,hb=>by
  unfold qY at hp;rw[aaf,aaR] at hp;obtain⟨h1,h2⟩:=hp;cases hb with
  |cons _ hb=>
   obtain⟨cj,h3,h4⟩:=uX h2 i j hb;exact⟨cj,aan _ h3,h4⟩
  |cons_cons _ hb=>
   have:j∈l.map (·.1):=hb.subset (by simp)
   obtain⟨⟨j',cj⟩,hm,e⟩:=List.mem_map.1 this;simp only at e;subst e;refine⟨cj,aan _ hm,?_⟩;have h3:=h1 _ hm;simp only[abt] at h3
   grind [mI]
theorem JR {R:Type}{C:eI}{W:Wr}{nb:Nat}{ops:Array Oper}{l:List (Nat×η)}{E:Env}{K:Env->M R}{h:af}{r:R×af}(HM:∀f vs ca,C.mo f=true->C.st f vs=some ca->xK ca.m)
  (HB:∀(j:Nat) cs (i:Nat) o p f,(j,cs)∈l->i∈cs->ops[i]?=some o->wa (cls P ops o)=true->ops[j]?=some p->qQ p=some f->∀vs ca,C.st f vs=some ca->ze (nb+i) ca.m) (hok:Ca P C.mo ops l=true) (t:Nat)
  (hx:dP P C W (some nb) ops l E cK.emp (λ_=>none) K h=some r) :
  dP P C W (some nb) ops ((Region.schedule (P.follows .mixedOrders) ops t).map λi=>(i,[])) E cK.emp (λ_=>none) K h=some r:=by
 unfold Ca at hok;simp only[aaf] at hok;obtain⟨⟨⟨hmx,hpm⟩,hed⟩,hpr⟩:=hok;rw[Region.schedule,hmx,acF,BY rfl];have hpm:=List.isPerm_iff.1 hpm;have hlt:∀i o e,ops[i]?=some o->e∈o.after.toList->Region.binds .any e=true->e.on<i:=by
  intro i o e ho he hb;rw[aaR] at hed;have h1:=hed (o,i) (by
   rw[acn];simpa using ho)
  simp only[aaR] at h1;have h2:=h1 e he;rw[sQ,hb] at h2
  simp_all
 obtain⟨s1,s2,s3⟩:=wj hlt t;generalize Region.linearise .any ops t=σ at s1 s2 s3;have hnd:(l.map (·.1)).Nodup:=(hpm.nodup_iff).2 ab8
 obtain⟨Af,Ck,Kk,E',L',h',hrun,hK,hks⟩:=yj l E cK.emp (λ_=>none) h hnd hx;have hp:=yk (ops:=ops) s1 (λi o e a b c=>s3 i o e a b (by rw[<-sQ];exact c)) ops.toList [] (by simp) (by simp);have hany:=xR.any σ (l.map (·.1)) (hpm.trans s2.symm) (λi j hij hji s s1' s2' q1 q2=>by
  obtain⟨cj,hm,hc⟩:=uX hpr i j hij;rcases hc with hc|⟨o,p,ho,hp',hsw⟩
  .exact absurd hji λhji=>nG s1 (hp j i hc) hji
  .refine Lq HM (λhck hal f hf=>HB j cj i o p f hm (mI.1 hck) ho hal hp' hf) ho hp' ?_ hsw ?_ ?_ q1 q2
   .rintro rfl;exact nG hnd hij hij
   .grind [mI]
   .intro hck hal;have hmem:=mI.1 hck;rw[(hks j cj hm i hmem).2.2];unfold vI
    grind) hrun
 exact Ct σ _ (E,cK.emp,h) (E',L',h') hany hK
end Go.Ago
