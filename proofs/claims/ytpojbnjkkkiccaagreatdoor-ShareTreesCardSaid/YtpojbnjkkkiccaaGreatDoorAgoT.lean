
import Derived.Test.YtpojbnjkkkiccaaGreatDoorAgoF
set_option linter.all false
namespace Go.Ago
open Go
variable {P:Program}{h h' h1:ai}
section Trace
variable {S:Type}
inductive GC (Step:Nat->S->S->Prop):η->S->S->Prop where
 |nil (s:S):GC Step [] s s
 |cons {i:Nat} {l:η} {s s1 s2:S}:Step i s s1->GC Step l s1 s2->GC Step (i::l) s s2
theorem GC.mono {St St':Nat->S->S->Prop}:∀{l} {s f},(∀i∈l,∀s s',St i s s'->St' i s s')->GC St l s f->GC St' l s f
 |[],_,_,_,.nil _=>.nil _
 |_::_,_,_,hc,.cons h1 h2=>.cons (hc _ (IS ..) _ _ h1) (GC.mono (λi hi=>hc i (BY _ hi)) h2)
abbrev Fg (l:η)(i j:Nat):Prop:=[i,j].Sublist l
theorem GC.front {Step:Nat->S->S->Prop}{x}:∀t1 {t2} {s f},(∀y∈t1,∀s s1 s2,Step y s s1->Step x s1 s2->∃s1',Step x s s1'/\Step y s1' s2) ->
  GC Step (t1++x::t2) s f->GC Step (x::(t1++t2)) s f
 |[],t2,s,f,_,hr=>hr
 |y::t1,t2,s,f,hc,hr=>by
  cases hr with
  |cons h1 h2=>
   have ih:=GC.front t1 (λz hz=>hc z (BY _ hz)) h2;cases ih with
   |cons h3 h4=>
    obtain⟨s1',q1,q2⟩:=hc y (IS ..) _ _ _ h1 h3;exact .cons q1 (.cons q2 h4)
theorem GC.any {Step:Nat->S->S->Prop}:∀σ τ {s f},τ.Perm σ ->
  (∀i j,Fg τ i j->Fg σ j i->∀s s1 s2,Step i s s1->Step j s1 s2->∃s1',Step j s s1'/\Step i s1' s2)->GC Step τ s f->GC Step σ s f
 |[],τ,s,f,hp,_,hr=>by
  simp_all
 |x::σ,τ,s,f,hp,hc,hr=>by
  have hx:x∈τ:=hp.symm.subset (IS ..);obtain⟨t1,t2,rfl⟩:=List.append_of_mem hx;have hp':(t1++t2).Perm σ:=by
   have h1:(x::(t1++t2)).Perm (x::σ):=(List.perm_middle.symm).trans hp;exact h1.cons_inv
  have hf:=GC.front t1 (λy hy=>?_) hr
  .cases hf with
   |cons h1 h2=>
    refine .cons h1 (GC.any σ (t1++t2) hp' (λi j hij hji=>hc i j ?_ ?_) h2)
    .grind
    grind
  grind
end Trace
theorem oX:∀{l} {i j},l.Nodup->Fg l i j->Fg l j i->False
 |[],_,_,_,h,_=>by cases h
 |x::l,i,j,hn,h1,h2=>by
  obtain⟨hx,hn⟩:=List.nodup_cons.1 hn;cases h1 with
  |cons _ h1=>
   cases h2 with
   |cons _ h2=>exact oX hn h1 h2
   |cons_cons _ h2=>grind
  |cons_cons _ h1=>
   grind
theorem Ma:∀{l} {i j k},l.Nodup->Fg l i j->Fg l j k->Fg l i k
 |[],_,_,_,_,h,_=>by cases h
 |x::l,i,j,k,hn,h1,h2=>by
  obtain⟨hx,hn⟩:=List.nodup_cons.1 hn;cases h1 with
  |cons _ h1=>
   cases h2 with
   |cons _ h2=>exact .cons _ (Ma hn h1 h2)
   |cons_cons _ h2=>grind
  |cons_cons _ h1=>
   grind
theorem Rt:∀{l1 l2:η},l1.Nodup->(∀i∈l1,i∈l2)->l1.length<=l2.length
 |[],_,_,_=>alg _
 |x::l,l2,hn,hs=>by
  obtain⟨hx,hn⟩:=List.nodup_cons.1 hn;have h1:=Rt hn λi hi=>(apW (λe=>hx (by subst e;exact hi))).2 (hs i (BY _ hi))
  grind
section Orders
variable {ops:Array Oper}
theorem T6 (hlt:∀i o e,ops[i]?=some o->e∈o.after.toList->Region.binds .any e=true->e.on<i) :
  ∀fuel t listed acc ,fuel+acc.length=ops.size->listed.size=ops.size->acc.Nodup ->
   (∀i,i<ops.size->(listed.getD i true=true↔i∈acc))->(∀i∈acc,i<ops.size) ->
   (∀i o e,ops[i]?=some o->i∈acc->e∈o.after.toList->Region.binds .any e=true->Fg acc.reverse e.on i) ->
   ∃l,Region.linearise.go .any ops fuel t listed acc=l/\l.length=ops.size/\l.Nodup/\(∀i∈l,i<ops.size) /\
    (∀i o e,ops[i]?=some o->i∈l->e∈o.after.toList->Region.binds .any e=true->Fg l e.on i)
 |0,t,listed,acc,hl,hs,hn,hm,hb,hr=>⟨acc.reverse,rfl,by simp;omega,by grind,by simpa using hb,λi o e h1 h2 h3 h4=>hr i o e h1 (by simpa using h2) h3 h4⟩
 |fuel+1,t,listed,acc,hl,hs,hn,hm,hb,hr=>by
  unfold Region.linearise.go;generalize hrs:((List.range ops.size).filter λi=>!listed.getD i true&&((ops[i]?).map (·.after.all λe=>!Region.binds .any e||listed.getD e.on false)).getD false)=rs
  have hmem:∀i,i∈rs↔i<ops.size/\i∉acc/\∃o,ops[i]?=some o/\∀e∈o.after.toList,Region.binds .any e=true->e.on∈acc:=by
   intro i;subst hrs;rw[ao5,apR];refine and_congr_right λhi=>?_;have ho:ops[i]?=some ops[i]:=by simp[hi]
   rw[ho];have h1:(!listed.getD i true)=true↔i∉acc:=by
    grind
   rw[abw,h1];refine and_congr_right λ_=>?_;simp only[amS,Option.getD_some,acU,exists_eq_left',Array.all_eq_true',anU,aot,Array.mem_toList_iff]
   grind
  have hne:rs≠[]:=by
   have hex:∃i,i<ops.size/\i∉acc:=by
    by_cases hc:∃i,i<ops.size/\i∉acc
    .exact hc
    .exfalso;have:=Rt ama λi hi=>by
      by_cases hia:i∈acc
      .exact hia
      .exact absurd ⟨i,List.mem_range.1 hi,hia⟩ hc
     simp at this;omega
   obtain⟨i,hi⟩:=hex;have hmin:∀n i,i<=n->i<ops.size/\i∉acc->∃k,k<ops.size/\k∉acc/\∀m,m<k->m∈acc:=by
    intro n
    induction n with
    |zero=>
     grind
    |succ n ih=>
     intro i h0 hi;by_cases hc:∃m,m<=n/\m<i/\m∉acc
     .obtain⟨m,h1,h2,h3⟩:=hc;exact ih m h1 ⟨by omega,h3⟩
     grind
   obtain⟨k,h1,h2,h3⟩:=hmin i i (abi _) hi;have:k∈rs:=(hmem k).2 ⟨h1,h2,ops[k],by simp[h1],λe he hbd=>h3 _ (hlt k _ e (by simp[h1]) he hbd)⟩
   grind
  have hlen:0<rs.length:=List.length_pos_iff.2 hne;have hget:rs[t%rs.length]?=some (rs[t%rs.length]'(an5 _ hlen)):=aci _;simp only[hget];have hi:=(hmem _).1 (anJ (an5 t hlen));generalize rs[t%rs.length]'(an5 _ hlen)=i at hi;obtain⟨h1,h2,o,ho,h3⟩:=hi;refine T6 hlt fuel _ _ (i::acc) (by simp;omega) (by simp[hs]) (List.nodup_cons.2 ⟨h2,hn⟩) (λj hj=>?_) (λj hj=>?_) (λj o' e hj hjm he hbd=>?_)
  .by_cases hij:i=j
   .subst hij;simp[amK,an2,hs,hj]
   .rw[aok];have:(listed.setIfInBounds i true).getD j true=listed.getD j true:=by
     simp[amK,an2,hij]
    grind
  .grind
  .rw[List.reverse_cons]
   grind
theorem JB (hlt:∀i o e,ops[i]?=some o->e∈o.after.toList->Region.binds .any e=true->e.on<i) t :
  (Region.linearise .any ops t).Nodup/\(Region.linearise .any ops t).Perm (List.range ops.size) /\
   (∀i o e,ops[i]?=some o->e∈o.after.toList->Region.binds .any e=true->Fg (Region.linearise .any ops t) e.on i):=by
 obtain⟨l,e,hl,hn,hb,hr⟩:=T6 hlt ops.size t (Array.replicate ops.size false) [] (by simp) (by simp) apl
  (λi hi=>by simp_all) (by simp) (by simp)
 rw[Region.linearise];have hp:l.Perm (List.range ops.size):=(List.perm_ext_iff_of_nodup hn ama).2 λi=>⟨λhi=>List.mem_range.2 (hb i hi),λhi=>by
  by_cases hc:i∈l
  .exact hc
  .have:=Rt (List.nodup_cons.2 ⟨hc,hn⟩) (l2:=List.range ops.size) λj hj=>by
    grind
   simp at this;omega⟩
 grind
end Orders
inductive Res where
 |val (v:ξ)
 |lit (x:Nat×δ)
def Env.res (E:Env)(d:μ):Res->Env
 |.val v=>E.put d v
 |.lit _=>E.del d
def fK.res (L:fK)(d:μ):Res->fK
 |.val _=>L.del d
 |.lit x=>L.put d x
def lU (m:Option (ξ×ai)):Option (Res×ai):=match m with
 |some (v,h)=>some (.val v,h)
 |none=>none
def ex (P:Program)(C:Ea)(nm:Nat)(ops:Array Oper)(E:Env)(L:fK)(o:Oper):M Res:=λh=>
 match o.op with
 |.pick c a b=>(match E.ev c with
  |some (.bool true)=>(match E.ev a with|some v=>some (.val v,h)|none=>none)
  |some (.bool false)=>(match E.ev b with|some v=>some (.val v,h)|none=>none)
  |_=>none)
 |.call c=>(match isBuiltin c with
  |true=>(match xb L c with
   |some (n,cs)=>lU ((AX (Fq ops o) E c (sR P (!CZ ops o) E c n cs)).exec h)
   |none=>(match CZ ops o with
    |true=>none
    |false=>lU ((AX (Fq ops o) E c (yY P (some nm) E o)).exec h)))
  |false=>(match vP C c with
   |some t=>(match wy E t c with
    |some (x,vs)=>(match C.dy t x vs with
     |some ca=>(match ca.m h with|some (x,h')=>some (.val (ca.pk x),h')|none=>none)
     |none=>none)
    |none=>none)
   |none=>(match callee E c with
    |some (f,vs)=>(match C.st f vs with
     |some ca=>(match ca.m h with|some (x,h')=>some (.val (ca.pk x),h')|none=>none)
     |none=>none)
    |none=>none)))
 |.buildSlice _ _ _=>(match AJ P ops E o with
  |some x=>some (.lit x,h)
  |none=>lU ((yY P (some nm) E o).exec h))
 |_=>lU ((yY P (some nm) E o).exec h)
def want (ops:Array Oper)(E:Env)(o:Oper):Option Bool:=
 match o.guard with
 |none=>some true
 |some (j,w)=>(match (ops[j]?).bind (·.dst) with
  |some t=>(match E t with
   |some (.bool b)=>some (b==w)
   |some (.tuple _)=>some false
   |_=>none)
  |none=>none)
def act (P:Program)(C:Ea)(nm:Nat)(ops:Array Oper)(E:Env)(L:fK)(o:Oper):M Res:=λh=>
 match want ops E o with
 |some true=>ex P C nm ops E L o h
 |some false=>some (.val undef,h)
 |none=>none
abbrev St:=Env×fK×ai
def DV (E:Env)(o:Oper):θ:=
 match o.op with
 |.store _ x _=>(match E.ev x with|some (.pointer p)=>p|_=>none)
 |_=>none
def zQ (E:Env)(o:Oper)(h:ai)(ks:η):Prop:=AY o=true->ks≠[]->∃a,DV E o=some a/\okK h a ks=true
def Step (P:Program)(C:Ea)(W:Wr)(nb:Nat)(ops:Array Oper)(Af:Nat->θ)(Ck:Nat->List θ)(Kk:Nat->η)(i:Nat)(s s':St):Prop:=
 ∃o r,ops[i]?=some o/\GI W o.dst=true/\(want ops s.1 o=some true->mA s.1 o=Af i)/\act P C (nb+i) ops s.1 s.2.1 o s.2.2=some (r,s'.2.2) /\
  s'.1=s.1.res o.dst r/\s'.2.1=s.2.1.res o.dst r/\(Bz ops o=true->sameAt s.2.2 s'.2.2 (Ck i)=true)/\(want ops s.1 o=some true->zQ s.1 o s.2.2 (Kk i))
theorem gN.of {h h'}{b}(e:h'.get b.block=h.get b.block):gN h h' b:=by
 unfold gN
 grind
theorem gN.cast {h h' g g'}{b}(hs:gN h h' b)(e:g.get b.block=h.get b.block)(e':g'.get b.block=h'.get b.block):gN g g' b:=by
 grind [gN]
theorem sameAt_refl h:∀l,sameAt h h l=true
 |[]=>rfl
 |none::r=>sameAt_refl h r
 |some b::r=>by
  unfold sameAt;split
  .exact sameAt_refl h r
  .rename_i q _;exact absurd (gN.of rfl) q
theorem xh {h h'}:∀{l} {a},sameAt h h' l=true->some a∈l->gN h h' a
 |[],_,_,hm=>by cases hm
 |none::r,a,hs,hm=>by
  rcases List.mem_cons.1 hm with q|q
  .cases q
  .exact xh (l:=r) hs q
 |some b::r,a,hs,hm=>by
  unfold sameAt at hs;split at hs
  .rename_i q _;rcases List.mem_cons.1 hm with e|e
   .cases e;exact q
   .exact xh hs e
  .cases hs
theorem sV {E:Env}{t}{v}(h:E t=some v):E.set t v=E:=by
 funext j;unfold Env.set
 grind [Nat.eq_of_beq_eq_true]
theorem zR {E:Env}{c}{b}(h:E.ev c=some (.bool b)):E.vz c b=E:=by
 unfold Env.vz;split
 .exact sV h
 .rfl
theorem JC {R}{r:R×ai}{K}:∀{A:Act} {h},A.run K h=some r↔∃v h',A.exec h=some (v,h')/\K v h'=some r
 |.val v,h=>by
  simp[Act.run,Act.exec,acU,aof]
  grind
 |.none,h=>by simp[Act.run,Act.exec,AS]
 |.ask α m k,h=>by
  simp[Act.run,Act.exec,sh];cases hm:m h with
  |none=>simp
  |some x=>exact JC
theorem Pr {α}{as}{m:M α}{h}{x}(hx:tX as m h=some x):m h=some x/\sameAt h x.2 as=true:=by
 grind [tX]
theorem JD {α}{as}{m:M α}{h}{x}(hx:wrapM as m h=some x):m h=some x/\sameAt h x.2 as=true:=by
 unfold wrapM at hx;split at hx
 .exact⟨hx,rfl⟩
 .exact Pr hx
theorem Ru {as}{A}{h}{x}(hx:(um as A).exec h=some x) :
  A.exec h=some x/\(∀α m (v:α->ξ),A=.ask α m (λy=>.val (v y))->sameAt h x.2 as=true):=by
 unfold um at hx;split at hx
 .split at hx
  .exact⟨hx,λ_ _ _ _=>rfl⟩
  .simp only[Act.exec] at hx⊢;split at hx
   .rename_i m k _ _ _ y h2 hc;obtain⟨h1,h2⟩:=Pr hc;rw[h1];refine⟨hx,λα' m' v e=>?_⟩;cases e;cases hx;exact h2
   .cases hx
 grind
theorem Eh {b}(h:Eb b=.sil):False:=by cases b<;>cases h
theorem wS {b}(h:Eb b=.ro):False:=by cases b<;>cases h
theorem rP {b}(h:Eb b=.mro):False:=by cases b<;>cases h
theorem qn {b}(h:Eb b=.alloc):False:=by cases b<;>cases h
theorem uB {b}(h:Eb b=.mka):False:=by cases b<;>cases h
theorem JE {b}(h:Eb b=.add):b=false:=by cases b<;>first|rfl|cases h
theorem GS {h}{b}{E}{c}{A}{r}(e:lU ((AX b E c A).exec h)=some r):AX b E c A=A:=by
 cases q:(AX b E c A).exec h with
 |none=>rw[q] at e;cases e
 |some v=>exact GJ q
theorem Ps {E}{c}{n}{cs} b:(∃α m,∃v:α->ξ,sR P b E c n cs=.ask α m (λy=>.val (v y)))\/sR P b E c n cs=.none:=by
 unfold sR
 repeat' (first|exact .inr rfl|exact .inl ⟨_,_,_,rfl⟩|split)
theorem Mb {R}{C}{W}{nm}{cks}{ks}{ops}{E}{L}{o}{K:Env->fK->M R}{h}{q}
  (hx:yZ P C W (some nm) cks ks ops E L o K h=some q):GI W o.dst=true/\∃r h',ex P C nm ops E L o h=some (r,h') /\
   (Bz ops o=true->sameAt h h' cks=true)/\zQ E o h ks/\K (E.res o.dst r) (L.res o.dst r) h'=some q:=by
 have gen:∀A:Act,(um cks A).run (λv=>K (E.put o.dst v) (L.del o.dst)) h=some q->∃r h',lU (A.exec h)=some (r,h') /\
   ((∃α m,∃v:α->ξ,A=.ask α m (λy=>.val (v y)))->sameAt h h' cks=true)/\K (E.res o.dst r) (L.res o.dst r) h'=some q:=by
  intro A hA;obtain⟨v,h',h1,h2⟩:=JC.1 hA;obtain⟨h3,h4⟩:=Ru h1;exact⟨.val v,h',by rw[h3];rfl,λ⟨α,m,v,e⟩=>h4 α m v e,h2⟩
 generalize hm:yZ P C W (some nm) cks ks ops E L o K=m at hx;unfold yZ at hm;cases hW:GI W o.dst
 .rw[hW] at hm;subst hm;simp[AS] at hx
 rw[hW] at hm;refine⟨rfl,?_⟩;have noSt:AY o=false->zQ E o h ks:=λhs e=>by rw[hs] at e;cases e
 unfold ex Bz;cases hop:o.op<;>simp only[hop] at hm⊢
 case pick c a b=>
  split at hm
  .rename_i t ht;cases t
   .simp[yC,aft,afM,zR ht] at hm;split at hm
    .rename_i v hv;subst hm;exact⟨.val v,h,by simp[ht,hv],by simp,noSt (by simp[AY,hop]),hx⟩
    .subst hm;simp[AS] at hx
   .simp[yC,amt,zR ht] at hm;split at hm
    .rename_i v hv;subst hm;exact⟨.val v,h,by simp[ht,hv],by simp,noSt (by simp[AY,hop]),hx⟩
    .subst hm;simp[AS] at hx
  .subst hm;simp[AS] at hx
 case call c=>
  cases hb:isBuiltin c<;>simp only[hb] at hm⊢
  .split at hm
   .rename_i t hds;split at hm
    .rename_i xv vs hcl;split at hm
     .rename_i ca hca;subst hm;simp[sh] at hx;split at hx
      .rename_i x h' hm;obtain⟨h3,h4⟩:=JD hm;exact⟨.val (ca.pk x),h',by simp[hds,hcl,hca,h3],λ_=>h4,noSt (by simp[AY,hop]),hx⟩
      .cases hx
     .subst hm;simp[AS] at hx
    .subst hm;simp[AS] at hx
   .rename_i hds;split at hm
    .rename_i f vs hcl;split at hm
     .rename_i ca hca;subst hm;simp[sh] at hx;split at hx
      .rename_i x h' hm;obtain⟨h3,h4⟩:=JD hm;exact⟨.val (ca.pk x),h',by simp[hds,hcl,hca,h3],λ_=>h4,noSt (by simp[AY,hop]),hx⟩
      .cases hx
     .subst hm;simp[AS] at hx
    .subst hm;simp[AS] at hx
  .split at hm
   .rename_i n cs hl;subst hm;rw[Rc] at hx;obtain⟨r,h',h1,h2,h3⟩:=gen _ hx;refine⟨r,h',by simpa[hl] using h1,λ_=>h2 ?_,noSt (by simp[AY,hop]),h3⟩;rcases Ps (P:=P) (E:=E) (c:=c) (n:=n) (cs:=cs) ((some nm).isSome&&!CZ ops o) with h4|h4
    .rw[GS h1];exact h4
    .rw[GS h1,h4] at h1;simp[Act.exec,lU] at h1
   .rename_i hl;cases hlx:CZ ops o<;>rw[hlx] at hm
    .subst hm
     grind [AY]
    .subst hm;simp[AS] at hx
 case buildSlice t l ps=>
  split at hm
  .rename_i x hl;subst hm;exact⟨.lit x,h,by simp[hl],by simp,noSt (by simp[AY,hop]),hx⟩
  .rename_i hl;subst hm
   grind [AY]
 case store t x y=>
  have fin:(um cks (yY P (some nm) E o)).run (λv=>K (E.put o.dst v) (L.del o.dst)) h=some q->zQ E o h ks->∃r h',lU ((yY P (some nm) E o).exec h)=some (r,h') /\
    (True->sameAt h h' cks=true)/\zQ E o h ks/\K (E.res o.dst r) (L.res o.dst r) h'=some q:=by
   intro hx hs;obtain⟨r,h',h1,h2,h3⟩:=gen _ hx;refine⟨r,h',h1,λ_=>h2 ?_,hs,h3⟩;unfold yY at h1⊢;simp[hop] at h1⊢;split at h1
   .unfold Bw at h1⊢;split at h1
    .simp at h1;split at h1
     .grind
     .simp[Act.exec,lU] at h1
    .simp[Act.exec,lU] at h1
   .simp[Act.exec,lU] at h1
  split at hm
  .subst hm;obtain⟨r,h',h1,h2,h3,h4⟩:=fin hx (λ_ e=>absurd rfl e)
   grind
  .split at hm
   .rename_i a ha;subst hm;have hok:zQ E o h ks:=by
     intro _ _;refine⟨a,by simp[DV,hop,ha],?_⟩;cases hA:um cks (yY P (some nm) E o) with
     |val v=>
      exfalso;have h1:∀v,yY P (some nm) E o≠.val v:=by
       intro v e;unfold yY at e;simp[hop] at e
       grind [Bw]
      cases hB:yY P (some nm) E o with
      |val v'=>exact h1 v' hB
      |none=>grind [um]
      |ask α m k=>grind [um]
     |none=>rw[hA] at hx;simp[ON,Act.run,AS] at hx
     |ask α m k=>
      rw[hA] at hx;simp[ON,Act.run,sh] at hx
      grind [L9]
    obtain⟨r,h',h1,h2,h3,h4⟩:=fin (JA hx) hok
    grind
   .subst hm;simp[AS] at hx
 all_goals
  subst hm;obtain⟨r,h',h1,_,h3⟩:=gen _ hx;exact⟨r,h',h1,by simp,noSt (by simp[AY,hop]),h3⟩
theorem GU {R}{C}{W}{nm}{ops}{E}{L}{o}{K:Env->fK->M R}{h h'}{r}{q}
  (hW:GI W o.dst=true) (he:ex P C nm ops E L o h=some (r,h')) (hx:K (E.res o.dst r) (L.res o.dst r) h'=some q) :
  yZ P C W (some nm) [] [] ops E L o K h=some q:=by
 have gen:∀A:Act,lU (A.exec h)=some (r,h')->(um [] A).run (λv=>K (E.put o.dst v) (L.del o.dst)) h=some q:=by
  intro A hA;have:um [] A=A:=by cases A<;>rfl
  rw[this];unfold lU at hA;split at hA
  .rename_i v h2 hv;cases hA;exact JC.2 ⟨v,_,hv,hx⟩
  .cases hA
 unfold yZ;rw[hW];unfold ex at he;cases hop:o.op<;>simp only[hop] at he⊢
 case pick c a b=>
  split at he
  .rename_i ht;simp[ht,yC,amt,zR ht];split at he
   .rename_i v hv;cases he;simp[hv];exact hx
   .cases he
  .rename_i ht;simp[ht,yC,aft,afM,zR ht];split at he
   .rename_i v hv;cases he;simp[hv];exact hx
   .cases he
  .cases he
 case call c=>
  cases hb:isBuiltin c<;>simp only[hb] at he⊢
  .split at he
   .rename_i t hds;simp[hds];split at he
    .rename_i xv vs hcl;simp[hcl];split at he
     .rename_i ca hca;split at he
      .rename_i x h2 hm;cases he;simp[hca,sh,wrapM,hm];exact hx
      .cases he
     .cases he
    .cases he
   .rename_i hds;simp[hds];split at he
    .rename_i f vs hcl;simp[hcl];split at he
     .rename_i ca hca;split at he
      .rename_i x h2 hm;cases he;simp[hca,sh,wrapM,hm];exact hx
      .cases he
     .cases he
    .cases he
  .split at he
   .rename_i n cs hl;simp only[hl,Rc];exact gen _ he
   .rename_i hl;cases hlx:CZ ops o<;>simp only[hlx] at he⊢
    .simp[hl];exact gen _ he
    .cases he
 case buildSlice t l ps=>
  split at he
  .rename_i x hl;cases he;simp[hl];exact hx
  simp_all
 all_goals exact gen _ he
section Traces
variable {R:Type}{C:Ea}{W:Wr}{nb:Nat}{ops:Array Oper}{K:Env->M R}{q:R×ai}
theorem Step.congr {Af Af'}{Ck Ck'}{Kk Kk'}{i}{s s'}(h1:Af i=Af' i)(h2:Ck i=Ck' i)(h3:Kk i=Kk' i)
  (hs:Step P C W nb ops Af Ck Kk i s s'):Step P C W nb ops Af' Ck' Kk' i s s':=by
 obtain⟨o,r,a,b,c,d,e,f,g,k⟩:=hs;exact⟨o,r,a,b,λw=>h1▸c w,d,e,f,λw=>h2▸g w,λw=>h3▸k w⟩
theorem Ei:∀l E L A h ,(l.map (·.1)).Nodup->jn P C W (some nb) ops l E L A K h=some q ->
  ∃(Af:Nat->θ) (Ck:Nat->List θ) (Kk:Nat->η) (E':Env) (L':fK) (h':ai),GC (Step P C W nb ops Af Ck Kk) (l.map (·.1)) (E,L,h) (E',L',h')/\K E' h'=some q /\
   ∀j cs,(j,cs)∈l->∀k∈cs,(Fg (l.map (·.1)) k j->Af k∈Ck j)/\(k∉l.map (·.1)->A k∈Ck j)/\Kk j=H8 P ops (some nb) cs
 |[],E,L,A,h,_,hx=>⟨λ_=>none,λ_=>[],λ_=>[],E,L,h,.nil _,hx,by simp⟩
 |(i,c0)::rest,E,L,A,h,hn,hx=>by
  rw[acW,ao7] at hn;obtain⟨hni,hn⟩:=hn;generalize hm:jn P C W (some nb) ops ((i,c0)::rest) E L A K=m at hx;unfold jn at hm;have fin:∀(o:Oper) (r:Res) (A':amj) (h2:ai),ops[i]?=some o->GI W o.dst=true->(∀k,k≠i->A' k=A k)->(want ops E o=some true->mA E o=A' i) ->
    act P C (nb+i) ops E L o h=some (r,h2)->(Bz ops o=true->sameAt h h2 (c0.map A)=true)->(want ops E o=some true->zQ E o h (H8 P ops (some nb) c0))->jn P C W (some nb) ops rest (E.res o.dst r) (L.res o.dst r) A' K h2=some q ->
    ∃(Af:Nat->θ) (Ck:Nat->List θ) (Kk:Nat->η) (E':Env) (L':fK) (h':ai),GC (Step P C W nb ops Af Ck Kk) (i::rest.map (·.1)) (E,L,h) (E',L',h')/\K E' h'=some q /\
     ∀j cs,(j,cs)∈(i,c0)::rest->∀k∈cs,(Fg (i::rest.map (·.1)) k j->Af k∈Ck j)/\(k∉i::rest.map (·.1)->A k∈Ck j)/\Kk j=H8 P ops (some nb) cs:=by
   intro o r A' h2 ho hW hA hrd hact hck hst hx2;obtain⟨Af,Ck,Kk,E',L',h',hrun,hK,hks⟩:=Ei rest _ _ _ _ hn hx2;refine⟨λk=>if k=i then A' i else Af k,λk=>if k=i then c0.map A else Ck k,λk=>if k=i then H8 P ops (some nb) c0 else Kk k,E',L',h',.cons ⟨o,r,ho,hW,?_,hact,rfl,rfl,?_,?_⟩ (GC.mono (λk hk s s' hs=>hs.congr ?_ ?_ ?_) hrun),hK,?_⟩
   .simpa using hrd
   .simpa using hck
   .simpa using hst
   rotate_left
   .rw[AT];rintro rfl;exact hni hk
   .rw[AT];rintro rfl;exact hni hk
   .rw[AT];rintro rfl;exact hni hk
   .intro j cs hj k hk;rcases List.mem_cons.1 hj with e|hj
    .grind
    .have hjm:j∈rest.map (·.1):=List.mem_map.2 ⟨(j,cs),hj,rfl⟩
     have hji:j≠i:=(by rintro rfl;exact hni hjm);obtain⟨h1,h2,h2b⟩:=hks j cs hj k hk;simp only[AT hji];refine⟨λhb=>?_,λhb=>?_,h2b⟩
     .cases hb with
      |cons _ hb=>
       grind
      |cons_cons _ hb=>grind
     grind
  split at hm
  .subst hm;simp[AS] at hx
  .rename_i o ho;have run:want ops E o=some true->yZ P C W (some (nb+i)) (c0.map A) (H8 P ops (some nb) c0) ops E L o (λE' L'=>jn P C W (some nb) ops rest E' L' (λj=>cond (Nat.beq j i) (mA E o) (A j)) K) h=some q ->
     ∃(Af:Nat->θ) (Ck:Nat->List θ) (Kk:Nat->η) (E':Env) (L':fK) (h':ai),GC (Step P C W nb ops Af Ck Kk) (i::rest.map (·.1)) (E,L,h) (E',L',h')/\K E' h'=some q /\
      ∀j cs,(j,cs)∈(i,c0)::rest->∀k∈cs,(Fg (i::rest.map (·.1)) k j->Af k∈Ck j)/\(k∉i::rest.map (·.1)->A k∈Ck j)/\Kk j=H8 P ops (some nb) cs:=by
    intro hw hx;obtain⟨hW,r,h2,he,hck,hst,hk⟩:=Mb hx;refine fin o r _ h2 ho hW ?_ ?_ (by simp[act,hw];exact he) hck (λ_=>hst) hk
    .grind [absurd,Nat.eq_of_beq_eq_true]
    .intro _;simp
   have skip:want ops E o=some false->(match GI W o.dst with|true=>jn P C W (some nb) ops rest (E.put o.dst undef) (L.del o.dst) A K|false=>AS) h=some q ->
     ∃(Af:Nat->θ) (Ck:Nat->List θ) (Kk:Nat->η) (E':Env) (L':fK) (h':ai),GC (Step P C W nb ops Af Ck Kk) (i::rest.map (·.1)) (E,L,h) (E',L',h')/\K E' h'=some q /\
      ∀j cs,(j,cs)∈(i,c0)::rest->∀k∈cs,(Fg (i::rest.map (·.1)) k j->Af k∈Ck j)/\(k∉i::rest.map (·.1)->A k∈Ck j)/\Kk j=H8 P ops (some nb) cs:=by
    intro hw hx;cases hW:GI W o.dst<;>rw[hW] at hx
    .simp[AS] at hx
    .exact fin o (.val undef) A h ho hW (λ_ _=>rfl) (by rw[hw];simp) (by simp[act,hw]) (λ_=>sameAt_refl _ _) (λhw2=>by rw[hw] at hw2;cases hw2) hx
   split at hm
   .rename_i hg;subst hm;exact run (by simp[want,hg]) hx
   .rename_i j w hg;split at hm
    .rename_i t ht;split at hm
     .rename_i b hb;have hwant:want ops E o=some (b==w):=(by simp[want,hg,ht,hb]);cases w<;>cases b<;>simp only[yC,aft,afM,amt,sV hb] at hm<;>subst hm
      .exact run hwant hx
      .exact skip hwant hx
      .exact skip hwant hx
      .exact run hwant hx
     .rename_i vs hb;subst hm;exact skip (by simp[want,hg,ht,hb]) hx
     .subst hm;simp[AS] at hx
    .subst hm;simp[AS] at hx
theorem Ej {Af}{Ck}{Kk}:∀l A s f ,GC (Step P C W nb ops Af Ck Kk) l s f->K f.1 f.2.2=some q ->
  jn P C W (some nb) ops (l.map λi=>(i,[])) s.1 s.2.1 A K s.2.2=some q
 |[],A,s,f,hr,hK=>by cases hr;exact hK
 |i::l,A,(E,L,h),f,.cons (s1:=(E1,L1,h1)) ⟨o,r,ho,hW,_,hact,e1,e2,_⟩ hr,hK=>by
  simp at e1 e2 hact;subst e1;subst e2;have ih:=λA=>Ej l A _ _ hr hK;simp at ih⊢;unfold jn;simp only[ho];unfold act at hact;unfold want at hact;cases hg:o.guard with
  |none=>
   simp[hg] at hact;exact GU hW hact (ih _)
  |some jw=>
   obtain⟨j,w⟩:=jw;simp only[hg] at hact⊢;cases ht:(ops[j]?).bind (·.dst) with
   |none=>simp[ht] at hact
   |some t=>
    simp only[ht] at hact⊢;split at hact
    .rename_i hwt;split at hwt
     .rename_i b hb;simp only[hb];cases w<;>cases b<;>simp at hwt
      .simp only[yC,aft,afM,sV hb];exact GU hW hact (ih _)
      .simp only[yC,amt,sV hb];exact GU hW hact (ih _)
     .simp at hwt
     .cases hwt
    .rename_i hwt;cases hact;split at hwt
     .rename_i b hb;simp only[hb];cases w<;>cases b<;>simp at hwt
      .simp[yC,amt,sV hb,hW];exact ih _
      .simp[yC,aft,afM,sV hb,hW];exact ih _
     .rename_i vs hb;simp[hb,hW];exact ih _
     .cases hwt
    .cases hact
end Traces
section Congr
variable {E E':Env}{L L':fK}{ops:Array Oper}{o:Oper}{C:Ea}
theorem wT:∀{xs},(∀x∈xs,E.ev x=E'.ev x)->E.QW xs=E'.QW xs
 |[],_=>rfl
 |x::xs,h=>by
  simp[Env.QW];rw[h x (IS ..),wT λy hy=>h y (BY _ hy)]
theorem ye:∀{xs},(∀x∈xs.map (·.2),E.ev x=E'.ev x)->partsOf E xs=partsOf E' xs
 |[],_=>rfl
 |(i,x)::xs,h=>by
  simp[partsOf];rw[h x (by simp),ye λy hy=>h y (by grind)]
theorem zS {x}(h:∀y,x=some y->E.ev y=E'.ev y):H7 E x=H7 E' x:=by
 cases x with
 |none=>rfl
 |some y=>simp[H7];rw[h y rfl]
theorem VU {nm}(h:∀x∈o.op.operands,E.ev x=E'.ev x):yY P nm E o=yY P nm E' o:=by
 unfold yY;cases hop:o.op<;>simp only[hop] at h⊢
 case build t ps=>grind [ye,Op.operands]
 case buildSlice t l ps=>grind [ye,Op.operands]
 case makeFunc f a b=>
  rw[wT λx hx=>h x (by grind [Op.operands]),
   wT λx hx=>h x (by grind [Op.operands])]
 case makeMap t r=>grind [zS,Op.operands]
 case call c=>
  rw[wT λx hx=>h x (by grind [Op.operands,Call.operands])]
 case slice t x lo hi mx=>
  rw[h x (by simp[Op.operands]),zS λy hy=>h y (by simp[Op.operands,hy]),
   zS λy hy=>h y (by simp[Op.operands,hy]),zS λy hy=>h y (by simp[Op.operands,hy])]
 all_goals simp[Op.operands] at h
 all_goals simp only[h]
theorem DW {x}{t:Nat}(hx:x∈o.op.operands)(e:x=.tmp t):t∈eO ops o:=by
 refine acC _ (List.mem_filterMap.2 ⟨x,Array.mem_toList_iff.2 hx,?_⟩);subst e;rfl
theorem Fy (h:∀t∈eO ops o,E t=E' t):∀x∈o.op.operands,E.ev x=E'.ev x:=by
 intro x hx;cases x<;>simp[Env.ev];exact h _ (DW hx rfl)
theorem nI (h:∀t∈eO ops o,E t=E' t):want ops E o=want ops E' o:=by
 grind [want,eO,List.mem_append_right]
theorem wC (h:∀t∈eO ops o,E t=E' t):mA E o=mA E' o:=by
 have h:=Fy h;unfold mA;cases hop:o.op<;>simp only[hop,Op.operands] at h⊢
 all_goals grind
theorem VV {c}(hop:o.op=.call c)(h:∀t∈eO ops o,L t=L' t):xb L c=xb L' c:=by
 unfold xb;split
 .rename_i x t hc ha;refine h t (DW ?_ rfl);rw[hop];simp[Op.operands,Call.operands,apC];exact .inr (Array.mem_toList_iff.1 (by rw[ha];simp))
 .rfl
theorem CI {nm}(h:∀t∈eO ops o,E t=E' t)(hL:∀t∈eO ops o,L t=L' t):act P C nm ops E L o=act P C nm ops E' L' o:=by
 funext hp;unfold act;rw[nI h];have he:ex P C nm ops E L o hp=ex P C nm ops E' L' o hp:=by
  have ha:=VU (P:=P) (nm:=some nm) (Fy h);have hv:=Fy h;unfold ex;cases hop:o.op<;>simp only
  case pick c a b=>
   grind [Op.operands]
  case call c=>
   rw[ha,VV hop hL];rw[hop] at hv;have hcw:∀A,AX (Fq ops o) E c A=AX (Fq ops o) E' c A:=λA=>by
    unfold AX;cases hca:c.args.toList with
    |nil=>rfl
    |cons s ss=>simp[hv s (by simp[Op.operands,Call.operands,apC];exact .inr (Array.mem_toList_iff.1 (by rw[hca];simp)))]
   simp[hcw];have h1:callee E c=callee E' c:=by
    unfold callee;rw[wT λx hx=>hv x (by grind [Op.operands,Call.operands])]
    grind [Op.operands,Call.operands]
   have h3:∀t,vP C c=some t->wy E t c=wy E' t c:=by
    intro t ht;unfold wy;rw[wT λx hx=>hv x (by grind [Op.operands,Call.operands])];have hcal:c.callee=.value (.tmp t):=by
     grind [vP]
    have:E t=E' t:=hv (.tmp t) (by simp[Op.operands,Call.operands,hcal]);rw[this]
   have h4:(match vP C c with
     |some t=>(match wy E t c with
      |some (x,vs)=>(match C.dy t x vs with
       |some ca=>(match ca.m hp with|some (x,h')=>some (Res.val (ca.pk x),h')|none=>none)
       |none=>none)
      |none=>none)
     |none=>(match callee E c with
      |some (f,vs)=>(match C.st f vs with
       |some ca=>(match ca.m hp with|some (x,h')=>some (.val (ca.pk x),h')|none=>none)
       |none=>none)
      |none=>none))=(match vP C c with
     |some t=>(match wy E' t c with
      |some (x,vs)=>(match C.dy t x vs with
       |some ca=>(match ca.m hp with|some (x,h')=>some (Res.val (ca.pk x),h')|none=>none)
       |none=>none)
      |none=>none)
     |none=>(match callee E' c with
      |some (f,vs)=>(match C.st f vs with
       |some ca=>(match ca.m hp with|some (x,h')=>some (.val (ca.pk x),h')|none=>none)
       |none=>none)
      |none=>none)):=by
    grind
   have h2:∀b n cs,sR P b E c n cs=sR P b E' c n cs:=by
    intro b n cs;unfold sR;split
    .rename_i t t' s u e1 e2;rw[hv s (by simp[Op.operands,Call.operands,apC];exact .inr (Array.mem_toList_iff.1 (by rw[e2];simp)))]
    .rfl
   simp[h4,h2]
  case buildSlice t l ps=>
   rw[ha];have:AJ P ops E o=AJ P ops E' o:=by
    unfold AJ;rw[hop] at hv⊢;have hp:=ye (xs:=ps.toList) λx hx=>hv x (by simpa[Op.operands] using hx)
    grind
   rw[this]
  all_goals rw[ha]
 rw[he]
end Congr
section Classes
variable {E E':Env}{L L':fK}{ops:Array Oper}{o:Oper}{C:Ea}
def Pm {α}(m:M α):Prop:=∀h x h',m h=some (x,h')->h'=h/\∀h2,m h2=some (x,h2)
def Pa (A:Act):Prop:=∀h x h',A.exec h=some (x,h')->h'=h/\∀h2,A.exec h2=some (x,h2)
theorem gN.none {h h'}{b}(hs:gN h h' b)(hn:h.get b.block≠Option.none):(∃c g base e c',h.get b.block=some (.cells c g base e)/\h'.get b.block=some (.cells c' g base e)/\c'.length=c.length/\c'.drop b.off=c.drop b.off)\/h'.get b.block=h.get b.block:=by
 grind [gN]
theorem gN.cell {h h'}{a b}(hs:gN h h' b)(hb:a.block=b.block)(ho:b.off<=a.off):h'.cell a=h.cell a:=by
 unfold ai.cell;rw[hb];cases hq:h.get b.block with
 |none=>
  grind [gN]
 |some o=>
  rcases hs.none (by rw[hq];simp) with⟨c,g,base,e,c',h1,h2,h3,h4⟩|h1
  .rw[h2];rw[hq] at h1;cases h1;simp;have:∀l:δ,l[a.off]?=(l.drop b.off)[a.off-b.off]?:=λl=>by
    grind
   rw[this c',this c,h4]
  .rw[h1,hq]
theorem gN.cells {h h'}{b}(hs:gN h h' b){n}:bu h' (some b) n=bu h (some b) n:=by
 grind [bu,gN]
theorem gN.elem {h h'}{b}(hs:gN h h' b){s}(ha:s.a=some b){e}:lO h' s e=lO h s e:=by
 unfold lO;rw[ha]
 grind [gN]
def Rm (a:θ){α}(m:M α):Prop:=∀h x h',m h=some (x,h')->h'=h /\
 ((∀h2,m h2=some (x,h2))\/∃b,a=some b/\h.get b.block≠none/\∀h2,gN h h2 b->m h2=some (x,h2))
def Ra (a:θ)(A:Act):Prop:=∀h x h',A.exec h=some (x,h')->h'=h /\
 ((∀h2,A.exec h2=some (x,h2))\/∃b,a=some b/\h.get b.block≠none/\∀h2,gN h h2 b->A.exec h2=some (x,h2))
theorem Pa.val {v}:Pa (.val v):=λh x h' e=>by cases e;exact⟨rfl,λ_=>rfl⟩
theorem Pa.none:Pa .none:=λh x h' e=>by cases e
theorem Pa.ask {α}{m}{k}(hm:Pm m)(hk:∀x,Pa (k x)):Pa (.ask α m k):=λh x h' e=>by
 simp[Act.exec] at e;split at e
 .rename_i y h1 he;obtain⟨rfl,h2⟩:=hm _ _ _ he;obtain⟨rfl,h3⟩:=hk _ _ _ _ e;exact⟨rfl,λh2'=>by simp[Act.exec,h2 h2'];exact h3 h2'⟩
 .cases e
theorem Ra.of {a}{A}(h:Pa A):Ra a A:=λh0 x h' e=>⟨(h _ _ _ e).1,.inl (h _ _ _ e).2⟩
theorem Ra.ask {a}{α}{m}{k}(hm:Rm a m)(hk:∀x,Ra a (k x)):Ra a (.ask α m k):=λh x h' e=>by
 simp[Act.exec] at e;split at e
 .rename_i y h1 he;obtain⟨rfl,h2⟩:=hm _ _ _ he;obtain⟨rfl,h3⟩:=hk _ _ _ _ e
  grind [Act.exec]
 .cases e
theorem Pm.pD b:Pm (pD b):=λh x h' e=>by
 cases b<;>simp only[Ago.pD] at e
 .cases e
 .cases e;exact⟨rfl,λ_=>rfl⟩
theorem Pm.nn p:Pm (nn p):=λh x h' e=>by
 cases p<;>simp only[Ago.nn] at e
 .cases e
 .cases e;exact⟨rfl,λ_=>rfl⟩
theorem Pm.eqP a b:Pm (eqP a b):=λh x h' e=>by
 obtain⟨rfl,rfl,x,y,rfl,rfl,he⟩:=OZ e;exact⟨rfl,λh2=>by unfold Ago.eqP;simp[he]⟩
theorem Pm.Jh p n:Pm (Jh p n):=λh x h' e=>by
 unfold Ago.Jh at e⊢
 grind
theorem Pm.nnF x:Pm (nnF x):=λh y h' e=>by
 unfold Ago.nnF at e;split at e
 .cases e;exact⟨rfl,λ_=>rfl⟩
 .cases e
theorem Pm.kR v:Pm (kR v):=λh x h' e=>by
 unfold Ago.kR at e;split at e
 .cases e;exact⟨rfl,λ_=>rfl⟩
 .cases e;exact⟨rfl,λ_=>rfl⟩
 .cases e
theorem Pm.kc x y:Pm (kc x y):=λh z h' e=>by
 unfold Ago.kc at e⊢;grind
theorem Pm.lj s i:Pm (lj s i):=λh z h' e=>by
 unfold Ago.lj at e⊢;split at e
 .grind
 .cases e
theorem Pm.MV l n cs i:Pm (MV l n cs i):=λh z h' e=>by
 unfold Ago.MV at e⊢;split at e
 .split at e
  .split at e
   .grind
   .cases e
  .cases e
 .cases e
theorem Pm.mz s i z:Pm (mz s i z):=λh x h' e=>by
 unfold Ago.mz at e⊢;split at e
 .grind
 .cases e
theorem Pm.im s l u:Pm (im s l u):=λh z h' e=>by
 unfold Ago.im at e⊢;grind
theorem Pm.o7 a n l u z:Pm (o7 a n l u z):=λh x h' e=>by
 unfold Ago.o7 at e⊢;grind
theorem Pm.Lf o:Pm (Lf o):=λh z h' e=>by
 unfold Ago.Lf at e⊢;split at e
 .grind
 .cases e
theorem Rv op a b:Pa (OJ op a b):=by
 unfold OJ
 grind [Pa.val,Pa.none,Pa.ask,Pm.Lf,amd,ame,OE,amf]
theorem Rw op k a k' b:Pa (Oz op k a k' b):=by
 unfold Oz
 grind [Pa.val,Pa.none,Pa.ask,Pm.pD]
theorem Rx op a b:Pa (OA op a b):=by
 unfold OA
 grind [Pa.val,Pa.none,Pa.ask,Pm.kc]
theorem JF op b:Pa (AG op b):=by
 unfold AG;split<;>first|exact Pa.val|exact Pa.none
theorem VW op t x y:Pa (Yz P op t x y):=by
 unfold Yz;split
 .unfold IK
  grind [Pa.val,Pa.none,Pa.ask,Pm.kR]
 .unfold Yy
  grind [Rw,Rx,Rv,Pa.val,Pa.none,JF]
theorem Y1 op x:Pa (aun op x):=by
 unfold aun
 repeat' (first|exact Pa.val|exact Pa.none|split)
theorem Ry {v}{k}(h:∀a,Pa (k a)):Pa (Bw v k):=by
 unfold Bw;split
 .exact h _
 .exact Pa.none
theorem Rm.dL l a b (hb:a.block=b.block)(ho:b.off<=a.off):Rm (some b) (dL l a):=λh x h' e=>by
 unfold Ago.dL at e⊢;split at e
 .rename_i v hv;split at e
  .rename_i y hy;cases e;refine⟨rfl,.inr ⟨b,rfl,?_,λh2 e2=>?_⟩⟩
   .grind [ai.cell]
   rw[<-gN.cell e2 hb ho] at hv;rw[hv];simp[hy]
  .cases e
 .cases e
theorem Rm.cT ls a:Rm (some a) (cT ls a):=λh x h' e=>by
 unfold Ago.cT at e⊢;split at e
 .rename_i vs hv;split at e
  .rename_i y hy;cases e;refine⟨rfl,.inr ⟨a,rfl,?_,λh2 e2=>?_⟩⟩
   .grind [bu]
   rw[<-gN.cells e2] at hv;rw[hv];simp[hy]
  .cases e
 .cases e
theorem Pt a:∀ls i acc ,Ra (some a) (Fm a ls i acc)
 |[],i,acc=>Ra.of Pa.val
 |l::ls,i,acc=>Ra.ask (Rm.dL l _ a rfl (aoX _ _)) λx=>Pt a ls _ _
theorem aib t a:Ra (some a) (Q8 P t a):=by
 unfold Q8
 repeat' (first|exact Ra.of Pa.none|exact Pt _ _ _ _|exact Ra.ask (Rm.dL _ _ _ rfl (abi _)) λ_=>Ra.of Pa.val|exact Ra.ask (Rm.cT _ _) λ_=>Ra.of Pa.val|split)
theorem Rm.iM s lo hi e z:Rm s.a (iM s lo hi e z):=λh x h' he=>by
 unfold Ago.iM at he⊢;split at he
 .rename_i hc;cases he;refine⟨rfl,?_⟩;obtain⟨h1,h2,h3,h4⟩:=hc;unfold lO at h4;split at h4
  .grind [lO]
  .rename_i a ha;refine .inr ⟨a,ha,?_,λh2' e2=>?_⟩
   .grind
   .have h6:=e2.elem ha (e:=e)
    grind [lO]
 .cases he
theorem Rm.strOf s:Rm s.a (strOf s):=λh x h' he=>by
 unfold Ago.strOf at he⊢;split at he
 .rename_i cs hc;split at he
  .rename_i l hl;cases he;refine⟨rfl,?_⟩;unfold bu at hc;split at hc
   .grind [bu]
   .rename_i a ha;refine .inr ⟨a,ha,?_,λh2 e2=>?_⟩
    .grind
    .have:bu h2 s.a s.len=some cs:=(by rw[ha,gN.cells e2];exact hc);simp[this,hl]
  .cases he
 .cases he
theorem T7 {nm}(hc:cls P ops o=.sil)(hn:∀t l ps,o.op≠.buildSlice t l ps):Pa (yY P nm E o):=by
 unfold cls at hc;unfold yY;cases hop:o.op<;>simp only[hop] at hc hn⊢<;>try (first|cases hc|done)
 case binOp=>repeat' (first|exact VW _ _ _ _|exact Pa.none|exact Pa.ask (Pm.eqP _ _) λ_=>JF _ _|split)
 case unOp=>grind [Y1,Pa.none]
 case nilCheck=>grind [Pa.ask,Pm.nn,Pa.val,Pm.nnF,Pa.none]
 case fieldAddr=>repeat' (first|exact Ry λ_=>Pa.val|exact Pa.none|split)
 case indexAddr=>grind [Pa.ask,Pm.mz,Pa.val,Pm.pD,Pa.none]
 case index=>grind [Pa.ask,Pm.lj,Pa.val,Pm.MV,Pa.none]
 case build=>
  split
  .grind [M0,Pa.val,Pa.none]
  .exact Pa.none
 case slice t x lo hi mx=>
  split
  .unfold Ji
   grind [Pa.ask,Pm.im,Pa.val,Pa.none,Pm.o7]
  .exact Pa.none
 case convert s d x=>
  split
  .unfold OL
   grind [Pa.val,Pa.none]
  .exact Pa.none
 case buildSlice t l ps=>grind
 case call c=>
  split
  .rename_i b vs hb _;rw[hb] at hc;unfold sQ;split<;>first|exact Pa.none|(simp only at hc;cases hc;done)|(simp at hc;exact (Eh hc).elim)|skip
   all_goals grind [Pa.val,Pa.none,Pa.ask,Pm.Jh]
  .exact Pa.none
 all_goals repeat' (first|exact Pa.val|exact Pa.none|split)
theorem su {m}{r}{h'}(e:lU m=some (r,h')):∃v,m=some (v,h')/\r=.val v:=by
 unfold lU at e;grind
theorem CJ {b}{c}{A}{r}(e:lU ((AX b E c A).exec h)=some r):lU (A.exec h)=some r:=by grind [GS]
theorem Rz {nm}{d:Nat}(hd:o.dst=some d)(hu:Rb ops d=true){t}{l}{ps}(hop:o.op=.buildSlice t l ps)(hl:AJ P ops E o=none) :
  (yY P (some nm) E o).exec h=none:=by
 unfold AJ at hl;unfold yY;simp[hop,hd,hu] at hl⊢;split at hl
 .split at hl
  .cases hl
  .rename_i hc;unfold Fp at hc;unfold vy;split at hc
   .grind [Act.exec,iI]
   .rfl
 .rfl
theorem zT {nm}(hc:cls P ops o=.sil){r}(hx:act P C nm ops E L o h=some (r,h')):h'=h/\∀h2,act P C nm ops E L o h2=some (r,h2):=by
 unfold act at hx⊢;split at hx
 .have gen:∀A:Act,Pa A->lU (A.exec h)=some (r,h')->h'=h/\∀h2,lU (A.exec h2)=some (r,h2):=by
   intro A hA e;obtain⟨v,e1,rfl⟩:=su e;obtain⟨e2,e3⟩:=hA _ _ _ e1;exact⟨e2,λh2=>by rw[e3 h2];rfl⟩
  unfold ex at hx⊢;cases hop:o.op<;>simp only[hop] at hx⊢
  case pick c a b=>
   grind
  case call c=>
   have hl:xb L c=none:=by
    grind [xb,cls,Eh]
   have hcp:Fq ops o=false:=by
    unfold cls at hc;unfold Fq;simp only[hop] at hc⊢
    grind [Eh]
   split at hx
   .grind [CZ,AX,T7]
   .rename_i hb;unfold isBuiltin at hb;unfold cls at hc;simp[hop] at hc
    grind
  case buildSlice t l ps=>
   unfold cls at hc;simp[hop] at hc;split at hc
   .rename_i d hd;split at hc
    .rename_i hu;split at hx
     .grind
     .rename_i hl;rw[Rz hd hu hop hl] at hx;cases hx
    .cases hc
   .cases hc
  all_goals exact gen _ (T7 hc (by simp[hop])) hx
 .grind
 .cases hx
def rdL:ξ->θ
 |.pointer p=>p
 |_=>none
def amn:ξ->θ
 |.slice a _ _=>a
 |_=>none
theorem Np {nm}(hc:cls P ops o=.ro){r}(hx:act P C nm ops E L o h=some (r,h')):h'=h /\
  ((∀h2,act P C nm ops E L o h2=some (r,h2))\/(want ops E o=some true/\∃b,mA E o=some b/\h.get b.block≠none/\∀h2,gN h h2 b->act P C nm ops E L o h2=some (r,h2))):=by
 unfold act at hx⊢;split at hx
 .rename_i hw;simp only[hw,anX];have gen:∀A:Act,Ra (mA E o) A->lU (A.exec h)=some (r,h')->h'=h/\((∀h2,lU (A.exec h2)=some (r,h2)) \/
    ∃b,mA E o=some b/\h.get b.block≠none/\∀h2,gN h h2 b->lU (A.exec h2)=some (r,h2)):=by
   intro A hA e;obtain⟨v,e1,rfl⟩:=su e;obtain⟨e2,e3⟩:=hA _ _ _ e1;refine⟨e2,?_⟩;rcases e3 with e3|⟨b,h1,h2,e3⟩
   .exact .inl λh2=>by rw[e3 h2];rfl
   .exact .inr ⟨b,h1,h2,λh2 q=>by rw[e3 h2 q];rfl⟩
  unfold ex at hx⊢;cases hop:o.op<;>simp only[hop] at hx⊢<;>try (unfold cls at hc;simp only[hop] at hc;contradiction)
  case load t x=>
   refine gen _ ?_ hx;unfold yY;simp[hop];cases hv:E.ev x with
   |none=>exact Ra.of Pa.none
   |some v=>
    have hr:mA E o=rdL v:=(by simp[mA,hop,hv];cases v<;>rfl);rw[hr];cases v<;>simp only[Bw]<;>try exact Ra.of Pa.none
    rename_i p;cases p
    .exact Ra.of Pa.none
    .exact aib _ _
  case slice t x lo hi mx=>
   refine gen _ ?_ hx;unfold yY;unfold cls at hc;simp[hop] at hc⊢;cases hv:E.ev x with
   |none=>exact Ra.of Pa.none
   |some v=>
    have hr:mA E o=amn v:=(by simp[mA,hop,hv];cases v<;>rfl);rw[hr];split
    .rename_i v l u m he _ _ _;cases he;unfold Ji;split
     .grind
     .repeat' (first|exact Ra.ask (Rm.iM ⟨_,_,_⟩ _ _ _ _) λ_=>Ra.of Pa.val|exact Ra.of Pa.none|split)
     .grind
     .exact Ra.of Pa.none
    .exact Ra.of Pa.none
  case convert s d x=>
   refine gen _ ?_ hx;unfold yY;unfold cls at hc;simp[hop] at hc⊢;cases hv:E.ev x with
   |none=>exact Ra.of Pa.none
   |some v=>
    have hr:mA E o=amn v:=(by simp[mA,hop,hv];cases v<;>rfl);rw[hr];simp;unfold OL;split
    .grind
    .grind
    .exact Ra.of Pa.val
    .exact Ra.of Pa.val
    .exact Ra.of Pa.val
    .grind
    .repeat' (first|exact Ra.ask (Rm.strOf ⟨_,_,_⟩) λ_=>Ra.of Pa.val|exact Ra.of Pa.none|split)
    .exact Ra.of Pa.none
  case buildSlice t l ps=>
   unfold cls at hc;simp[hop] at hc
   grind
  case call c=>
   unfold cls at hc;simp[hop] at hc
   grind [wS,rP,qn,uB]
 .grind
 .cases hx
def Na (nm:Nat)(A:Act):Prop:=∀h x h',A.exec h=some (x,h')->∃t cs,h.used nm=false/\nm<h.next/\h.get nm=none/\h'=h.cM nm h.next t cs /\
 ∀h2:ai,h2.used nm=false->nm<h2.next->h2.get nm=none->A.exec h2=some (x,h2.cM nm h2.next t cs)
theorem Na.none {nm}:Na nm .none:=λh x h' e=>by cases e
theorem Na.new {nm}{t}{cs}{k:Nat->ξ}:Na nm (.ask Nat (iI (some nm) t cs) λb=>.val (k b)):=λh x h' e=>by
 simp only[Act.exec,iI] at e⊢;by_cases hs:cs.all fk=true
 .simp only[hs,amt] at e⊢;split at e
  .rename_i y h1 he;split at he
   .rename_i hk;cases he;cases e;refine⟨t,cs,hk.1,hk.2.1,Option.isNone_iff_eq_none.1 hk.2.2,rfl,λh2 a b c=>?_⟩;simp[a,b,c]
   .cases he
  .cases e
 .simp[hs] at e
theorem Na.w9 {nm}{t}{z}{l c}{k:Sl->ξ}:Na nm (.ask Sl (w9 (some nm) t z l c) λr=>.val (k r)):=λh x h' e=>by
 simp only[Act.exec,Ago.w9] at e⊢;by_cases hb:0<=l/\l<=c/\c<=da
 .simp only[hb,and_self,amt] at e⊢;split at e
  .rename_i y h1 he;split at he
   .rename_i b h2 hnb;cases he;cases e;have e0:(Act.ask Nat (iI (some nm) t (List.replicate c.toNat z).flatten) λb=>.val (.int .i64 b)).exec h=some (.int .i64 b,h'):=(by simp[Act.exec,hnb]);obtain⟨t',cs',a1,a2,a3,a4,a5⟩:=(Na.new) h _ _ e0;refine⟨t',cs',a1,a2,a3,a4,λh2 b1 b2 b3=>?_⟩;have:=a5 h2 b1 b2 b3;simp[Act.exec] at this
    grind
   .cases he
  .cases e
 .simp[hb] at e
def ME (h h2:ai):Prop:=∀m x,h.jz m=some x->h2.jz m=some x
theorem ME.of {h h2}(e:h2.jz=h.jz):ME h h2:=λm x q=>by rw[e];exact q
def Mm (A:Act):Prop:=∀h x h',A.exec h=some (x,h')->h'=h/\∀h2:ai,ME h h2->A.exec h2=some (x,h2)
theorem Mm.of {A}(hA:Pa A):Mm A:=λh x h' e=>⟨(hA h x h' e).1,λh2 _=>(hA h x h' e).2 h2⟩
theorem Mm.get {kt}{T}{z}{m}{k}{g:Bool×T.den->ξ}:Mm (.ask (Bool×T.den) (vx kt T z m k) λr=>.val (g r)):=λh x h' e=>by
 simp[Act.exec] at e⊢;split at e
 .rename_i y h1 he;cases e;have key:h'=h/\∀h2:ai,ME h h2->vx kt T z m k h2=some (y,h2):=by
   unfold vx at he⊢;split at he
   .grind
   .split at he
    .split at he
     .split at he
      .cases he;refine⟨rfl,λh2 e2=>?_⟩;unfold ME at e2;grind [ai.Fk]
      .cases he
     .cases he;refine⟨rfl,λh2 e2=>?_⟩;unfold ME at e2;grind [ai.Fk]
    .cases he
  grind
 .cases e
theorem Mm.len {m}{g:Nat->ξ}:Mm (.ask Nat (DQ m) λr=>.val (g r)):=λh x h' e=>by
 simp[Act.exec] at e⊢;split at e
 .rename_i y h1 he;cases e;have key:h'=h/\∀h2:ai,ME h h2->DQ m h2=some (y,h2):=by
   unfold DQ at he⊢;unfold ME
   grind
  grind
 .cases e
theorem FA {nm}(hc:cls P ops o=.mro){r}(hx:act P C nm ops E L o h=some (r,h')):h'=h/\∀h2:ai,ME h h2->act P C nm ops E L o h2=some (r,h2):=by
 unfold act at hx⊢;split at hx
 .have gen:∀A:Act,Mm A->lU (A.exec h)=some (r,h')->h'=h/\∀h2:ai,ME h h2->lU (A.exec h2)=some (r,h2):=by
   intro A hA e;obtain⟨v,e1,rfl⟩:=su e;obtain⟨e2,e3⟩:=hA _ _ _ e1;exact⟨e2,λh2 q=>by rw[e3 h2 q];rfl⟩
  unfold ex at hx⊢;cases hop:o.op<;>simp only[hop] at hx⊢<;>try (unfold cls at hc;simp only[hop] at hc;contradiction)
  case lookup t x i ok=>
   refine gen _ ?_ hx;unfold yY;simp[hop]
   repeat' (first|exact Mm.of Pa.none|exact Mm.get|split)
  case buildSlice t l ps=>
   unfold cls at hc
   grind
  case call c=>
   have hcal:c.callee=.builtin .len:=by
    unfold cls at hc;simp[hop] at hc
    grind [rP]
   have hb:isBuiltin c=true:=by grind [isBuiltin]
   have hl:xb L c=none:=by unfold xb;rw[hcal]
   have hlx:CZ ops o=false:=by grind
   have hcp:Fq ops o=false:=by grind [Fq]
   simp[hb,hl,hlx,hcp,AX] at hx⊢;refine gen _ ?_ hx;have hty:∃t r k e,c.argTypes.toList=t::r/\P.underlying t=some (.map k e):=by
    grind [cls]
   obtain⟨t,tr,k,e,ht,hu⟩:=hty;unfold yY;simp only[hop,hcal,ht];split
   .rename_i b vs hb2 _;cases hb2;unfold sQ;split<;>first|exact Mm.of Pa.none|(simp_all;done)|skip
    all_goals repeat' (first|exact Mm.of Pa.none|exact Mm.of Pa.val|exact Mm.len|split)
   .exact Mm.of Pa.none
  all_goals
   grind [cls,wS,rP,qn,uB]
 .grind
 .cases hx
theorem qo {nm}(hc:cls P ops o=.alloc){r}(hx:act P C nm ops E L o h=some (r,h')):(h'=h/\∀h2,act P C nm ops E L o h2=some (r,h2)) \/
  ∃t cs,h.used nm=false/\nm<h.next/\h.get nm=none/\h'=h.cM nm h.next t cs /\
   ∀h2:ai,h2.used nm=false->nm<h2.next->h2.get nm=none->act P C nm ops E L o h2=some (r,h2.cM nm h2.next t cs):=by
 unfold act at hx⊢;split at hx
 .refine .inr ?_;have gen:∀A:Act,Na nm A->lU (A.exec h)=some (r,h')->∃t cs,h.used nm=false/\nm<h.next/\h.get nm=none/\h'=h.cM nm h.next t cs /\
    ∀h2:ai,h2.used nm=false->nm<h2.next->h2.get nm=none->lU (A.exec h2)=some (r,h2.cM nm h2.next t cs):=by
   intro A hA e;obtain⟨v,e1,rfl⟩:=su e;obtain⟨t,cs,a,b,c,d,e2⟩:=hA _ _ _ e1;exact⟨t,cs,a,b,c,d,λh2 a b c=>by rw[e2 h2 a b c];rfl⟩
  unfold ex at hx⊢;cases hop:o.op<;>simp only[hop] at hx⊢<;>try (unfold cls at hc;simp only[hop] at hc;contradiction)
  case alloc t=>
   refine gen _ ?_ hx;unfold yY;simp[hop];split
   .exact Na.new
   .exact Na.none
  case box t x=>
   refine gen _ ?_ hx;unfold yY;simp[hop];split
   .exact Na.new
   .exact Na.none
  case makeSlice t l c=>
   refine gen _ ?_ hx;unfold yY;simp[hop]
   repeat' (first|exact Na.none|exact Na.w9|split)
  case buildSlice t l ps=>
   have hl:AJ P ops E o=none:=by
    unfold cls at hc;unfold AJ;simp[hop] at hc⊢
    grind
   simp only[hl] at hx⊢;refine gen _ ?_ hx;unfold yY;simp[hop];split
   .unfold vy
    repeat' (first|exact Na.none|exact Na.new|split)
   .exact Na.none
  case call c=>
   unfold cls at hc;simp[hop] at hc
   repeat' (first|(cases hc;done)|(exact (wS hc).elim)|(exact (rP hc).elim)|(exact (qn hc).elim)|(exact (uB hc).elim)|split at hc)
  all_goals
   unfold cls at hc;simp[hop] at hc
   grind
 .grind
 .cases hx
def Ka (A:Act):Prop:=∀h x h',A.exec h=some (x,h')->∀b,h.get b≠none->h'.get b=h.get b
theorem Ka.pure {A}(hA:Pa A):Ka A:=λh x h' e b _=>by rw[(hA h x h' e).1]
theorem VX {s}{sz}{e}{n}{new}{r}(hx:app true s sz e n new h=some (r,h')):∀b,h.get b≠none->h'.get b=h.get b:=by
 intro b hb;unfold app at hx;split at hx
 .cases hx
 rename_i hn;have hnx:h.get h.next=none:=by simpa using hn
 have hne:Nat.beq b h.next=false:=by
  grind [Nat.eq_of_beq_eq_true,absurd]
 have new:∀e cs,(h.new e cs).get b=h.get b:=λe cs=>by simp[ai.new,ai.cM,hne]
 grind [AW,D8]
theorem Ka.zV {s}{sz}{e}{n}{new}{k:Sl->ξ}:Ka (.ask Sl (app true s sz e n new) λr=>.val (k r)):=λh x h' he=>by
 grind [Act.exec,VX]
theorem Ka.ask {α}{m}{k}(hm:∀h x h',m h=some (x,h')->h'=h)(hk:∀x,Ka (k x)):Ka (.ask α m k):=λh x h' he=>by
 simp[Act.exec] at he;split at he
 .rename_i y h1 hm1;rw[hm _ _ _ hm1] at he;exact hk _ _ _ _ he
 .cases he
theorem adk {nm}(hc:cls P ops o=.add){r}(hx:act P C nm ops E L o h=some (r,h')):∀b,h.get b≠none->h'.get b=h.get b:=by
 unfold act at hx;split at hx
 .have gen:∀A:Act,Ka A->lU (A.exec h)=some (r,h')->∀b,h.get b≠none->h'.get b=h.get b:=by
   intro A hA e;obtain⟨v,e1,rfl⟩:=su e;exact hA _ _ _ e1
  unfold ex at hx;cases hop:o.op<;>simp only[hop] at hx<;>try (unfold cls at hc;simp only[hop] at hc;contradiction)
  case call c=>
   have hcal:c.callee=.builtin .append:=by
    unfold cls at hc;simp[hop] at hc
    grind
   have hlx:CZ ops o=false:=by
    grind [cls,JE]
   simp[hlx,Bool.not_false] at hx;split at hx
   .split at hx
    .refine gen _ ?_ (CJ hx);unfold sR
     repeat' (first|exact Ka.zV|exact Ka.pure Pa.none|split)
    .refine gen _ ?_ (CJ hx);unfold yY;simp only[hop,hcal];split
     .rename_i b vs hb _;cases hb;unfold sQ;split
      .contradiction
      .contradiction
      .contradiction
      .contradiction
      .contradiction
      .contradiction
      .have hrd:∀(s:Sl) (z:Nat) h x h',Jd s z h=some (x,h')->h'=h:=by
        grind [Jd]
       repeat' (first|exact Ka.ask (hrd _ _) λ_=>Ka.zV|exact Ka.pure Pa.none|split)
      .repeat' (first|exact Ka.zV|exact Ka.pure Pa.none|split)
      .contradiction
      .contradiction
      .exact Ka.pure Pa.none
     .exact Ka.pure Pa.none
   grind [isBuiltin]
  all_goals
   grind [cls,wS,rP,qn,uB]
 .grind
 .cases hx
def Sm (h h2:ai):Prop:=h2.next=h.next/\h2.get h2.next=none/\∀b,h.get b≠none->h2.get b=h.get b
def Kb (A:Act):Prop:=∀h x h',A.exec h=some (x,h')->h.get h.next=none/\((h'=h/\∀h2,Sm h h2->A.exec h2=some (x,h2))\/∃e cs,h'=h.new e cs/\∀h2,Sm h h2->A.exec h2=some (x,h2.new e cs))
theorem Kb.none:Kb .none:=λh x h' e=>by cases e
theorem BD {h2}(S:Sm h h2){a}{n}{l}(e:bu h a n=some l):bu h2 a n=some l:=by
 unfold bu at *
 cases a with
 |none=>exact e
 |some a=>
  simp at e⊢;rw[S.2.2 a.block (λq=>by rw[q] at e;cases e)];exact e
theorem aic {s}{sz}{e}{n}{new}(hc:s.cap≠0){r}{h1}(he:app true s sz e n new h=some (r,h1)) :
  h.get h.next=none/\((h1=h/\∀h2,Sm h h2->app true s sz e n new h2=some (r,h2))\/∃e' cs,h1=h.new e' cs/\∀h2,Sm h h2->app true s sz e n new h2=some (r,h2.new e' cs)):=by
 have hn:h.get h.next=none:=by
  unfold app at he;split at he
  .cases he
  simp_all
 refine⟨hn,?_⟩;unfold app AW at he⊢;rw[hn] at he;have g2:∀{h2:ai},Sm h h2->(true&&(h2.get h2.next).isSome)=false:=λS=>by rw[S.2.1];rfl
 simp only[Option.isSome_none,Bool.and_false] at he;by_cases h0:n=0
 .rw[By h0] at he;refine .inl ?_
  grind
 .rw[AT h0] at he;split at he
  .cases he
  rename_i q;refine .inr ?_;cases ha:s.a with
  |none=>grind
  |some a=>
   rw[ha] at he;simp only at he;split at he
   .rename_i lA c g base e' h1' h2';split at he
    .grind
    .rename_i q2;cases he;refine⟨e,lA++new,rfl,λh2 S=>?_⟩;have c2:=BD S h1';have b2:=S.2.2 a.block (by rw[h2'];simp);simp only[g2 S];rw[AT h0,AT q];simp only[c2,b2,h2'];rw[AT q2,By hc,S.1]
   .cases he
theorem Kb.apd {s}{sz}{e}{n}{new}{k:Sl->ξ}(hc:s.cap≠0):Kb (.ask Sl (app true s sz e n new) λr=>.val (k r)):=λh x h' hx=>by
 simp[Act.exec] at hx⊢
 grind [aic]
theorem Kb.rds {s}{sz}{k}(hk:∀l,Kb (k l)):Kb (.ask δ (Jd s sz) k):=λh x h' hx=>by
 simp[Act.exec] at hx⊢;split at hx
 .rename_i y h1 he;unfold Go.Ago.Jd at he;split at he
  .cases he;obtain⟨hn,⟨q1,q2⟩|⟨e',cs',q1,q2⟩⟩:=hk _ _ _ _ hx
   .grind [Go.Ago.Jd,BD]
   grind [Go.Ago.Jd,BD]
  split at he
  .rename_i cs hcs;cases he;obtain⟨hn,⟨q1,q2⟩|⟨e',cs',q1,q2⟩⟩:=hk _ _ _ _ hx
   .grind [Go.Ago.Jd,BD]
   grind [Go.Ago.Jd,BD]
  .cases he
 .cases hx
theorem adl {nm}(hcap:Fq ops o=true)(hca:cls P ops o=.add){r}(hx:act P C nm ops E L o h=some (r,h')):(h'=h/\∀h2,act P C nm ops E L o h2=some (r,h2)) \/
  (h.get h.next=none/\((h'=h/\∀h2,Sm h h2->act P C nm ops E L o h2=some (r,h2))\/∃e cs,h'=h.new e cs/\∀h2,Sm h h2->act P C nm ops E L o h2=some (r,h2.new e cs))):=by
 unfold act at hx⊢;split at hx
 .refine .inr ?_;unfold ex at hx⊢;rw[hcap] at hx⊢;unfold Fq at hcap;cases hop:o.op<;>simp only[hop] at hx hcap⊢<;>try (cases hcap;done)
  case call c=>
   split at hcap
   .rename_i d ds hcal harg;have hb:isBuiltin c=true:=(by grind [isBuiltin]);have hlx:CZ ops o=false:=by
     cases q:CZ ops o with
     |false=>rfl
     |true=>unfold cls at hca;simp[hop,hcal,q] at hca;cases hca
    simp only[hb,hlx] at hx⊢;have gen:∀A:Act,Kb A->lU (A.exec h)=some (r,h')->h.get h.next=none/\((h'=h/\∀h2,Sm h h2->lU (A.exec h2)=some (r,h2))\/∃e cs,h'=h.new e cs/\∀h2,Sm h h2->lU (A.exec h2)=some (r,h2.new e cs)):=by
     intro A hA e;obtain⟨v,e1,rfl⟩:=su e;obtain⟨hn,⟨q1,q2⟩|⟨e',cs,q1,q2⟩⟩:=hA _ _ _ e1
     .exact⟨hn,.inl ⟨q1,λh2 S=>by rw[q2 h2 S];rfl⟩⟩
     .exact⟨hn,.inr ⟨e',cs,q1,λh2 S=>by rw[q2 h2 S];rfl⟩⟩
    have cap:∀A:Act,(∀a n k,E.ev (.tmp d)=some (.slice a n k)->k≠0->Kb A)->Kb (AX true E c A):=λA hA=>by
     unfold AX;simp[harg];split
     .rename_i a n k hev;split
      .exact Kb.none
      .rename_i hk;exact hA a n k hev λq=>by rw[q] at hk;cases hk
     .exact Kb.none
    split at hx
    .rename_i n cs hl;refine gen _ (cap _ λa m k hev hk=>?_) hx;show Kb (sR P true E c n cs);unfold sR;rw[harg];split
     .rename_i t t' s u e1 e2;cases e2;rw[hev];split
      .rename_i q1 q2 q3;cases q1
       repeat' (first|exact Kb.none|exact Kb.apd hk|split)
      .exact Kb.none
     .exact Kb.none
    .rename_i hl;refine gen _ (cap _ λa n k hev hk0=>?_) hx;unfold yY;simp only[hop,hcal];split
     .rename_i b vs hb2 hvs;cases hb2;have hv0:∃rest,vs=Value.slice a n k::rest:=by
       rw[harg] at hvs;unfold Env.QW at hvs
       grind
      obtain⟨rest,rfl⟩:=hv0;show Kb (sQ P true _ _ _);unfold sQ;split<;>first|exact Kb.none|contradiction|(injections;subst_vars;repeat' (first|exact Kb.none|exact Kb.rds λ_=>Kb.apd hk0|exact Kb.apd hk0|split))
     .exact Kb.none
   .cases hcap
 .grind
 .cases hx
theorem T8 {k}{t}{cs}(a2:k<h.next)(a3:h.get k=none)(hn:h.get h.next=none):Sm h (h.cM k h.next t cs):=by
 have q:∀j,j≠k->Nat.beq j k=false:=λj e=>by
  grind [absurd,Nat.eq_of_beq_eq_true]
 refine⟨rfl,?_,λb hb=>?_⟩
 .simp[ai.cM,q h.next (by omega),hn]
 .have hbk:b≠k:=λe=>hb (e▸a3);simp[ai.cM,q b hbk]
def Km (A:Act):Prop:=∀h x h',A.exec h=some (x,h')->h'.jz=h.jz
theorem Km.pure {A}(hA:Pa A):Km A:=λh x h' e=>by rw[(hA h x h' e).1]
theorem amo {s}{sz}{e}{n}{new}{r}(hx:app true s sz e n new h=some (r,h')):h'.jz=h.jz:=by
 unfold app at hx;split at hx
 .cases hx
 unfold AW at hx
 repeat' (first|(cases hx;done)|(cases hx;rfl)|split at hx|simp only at hx)
theorem Km.zV {s}{sz}{e}{n}{new}{k:Sl->ξ}:Km (.ask Sl (app true s sz e n new) λr=>.val (k r)):=λh x h' he=>by
 grind [Act.exec,amo]
theorem Km.ask {α}{m}{k}(hm:∀h x h',m h=some (x,h')->h'=h)(hk:∀x,Km (k x)):Km (.ask α m k):=λh x h' he=>by
 simp[Act.exec] at he;split at he
 .rename_i y h1 hm1;rw[hm _ _ _ hm1] at he;exact hk _ _ _ _ he
 .cases he
theorem Mc {nm}(hc:cls P ops o=.add){r}(hx:act P C nm ops E L o h=some (r,h')):h'.jz=h.jz:=by
 unfold act at hx;split at hx
 .have gen:∀A:Act,Km A->lU (A.exec h)=some (r,h')->h'.jz=h.jz:=by
   intro A hA e;obtain⟨v,e1,rfl⟩:=su e;exact hA _ _ _ e1
  unfold ex at hx;cases hop:o.op<;>simp only[hop] at hx<;>try (unfold cls at hc;simp only[hop] at hc;contradiction)
  case call c=>
   have hcal:c.callee=.builtin .append:=by
    unfold cls at hc;simp[hop] at hc
    grind
   have hlx:CZ ops o=false:=by
    grind [cls,JE]
   simp[hlx,Bool.not_false] at hx;split at hx
   .split at hx
    .refine gen _ ?_ (CJ hx);unfold sR
     repeat' (first|exact Km.zV|exact Km.pure Pa.none|split)
    .refine gen _ ?_ (CJ hx);unfold yY;simp only[hop,hcal];split
     .rename_i b vs hb _;cases hb;unfold sQ;split
      .contradiction
      .contradiction
      .contradiction
      .contradiction
      .contradiction
      .contradiction
      .have hrd:∀(s:Sl) (z:Nat) h x h',Jd s z h=some (x,h')->h'=h:=by
        grind [Jd]
       repeat' (first|exact Km.ask (hrd _ _) λ_=>Km.zV|exact Km.pure Pa.none|split)
      .repeat' (first|exact Km.zV|exact Km.pure Pa.none|split)
      .contradiction
      .contradiction
      .exact Km.pure Pa.none
     .exact Km.pure Pa.none
   grind [isBuiltin]
  all_goals
   grind [cls,wS,rP,qn,uB]
 .cases hx;rfl
 .cases hx
theorem Y2 (h:Bz ops o=true):cls P ops o=.eff:=by
 unfold Bz at h;unfold cls;split at h
 .rename_i hop;simp[hop]
 .rename_i c hop;simp[hop];rw[anU] at h;rcases h with h|h
  .grind [isBuiltin,absurd]
  .have hc:c.callee=.builtin .append:=by
    grind [CZ]
   simp[hc,h];rfl
 .cases h
theorem aie (h:AY o=true):cls P ops o=.eff:=by
 grind [AY,cls]
theorem VY {nm}(hs:AY o=true){r}(hx:act P C nm ops E L o h=some (r,h')):(h'=h/\want ops E o≠some true/\∀h2,act P C nm ops E L o h2=some (r,h2)) \/
  (want ops E o=some true/\∃a vs c g base e,DV E o=some a/\h.get a.block=some (.cells c g base e)/\h'=h.wj a.block (aM c a.off vs) g base e /\
   ∀h2:ai,h2.get a.block=some (.cells c g base e)->act P C nm ops E L o h2=some (r,h2.wj a.block (aM c a.off vs) g base e)):=by
 unfold act at hx⊢;split at hx
 .rename_i hw;refine .inr ⟨hw,?_⟩;unfold AY at hs;split at hs
  .rename_i t x y hop;unfold ex at hx⊢;simp only[hop] at hx⊢;have gen:∀A:Act,A=yY P (some nm) E o->lU (A.exec h)=some (r,h')->∃a vs c g base e,DV E o=some a/\h.get a.block=some (.cells c g base e)/\h'=h.wj a.block (aM c a.off vs) g base e /\
     ∀h2:ai,h2.get a.block=some (.cells c g base e)->lU (A.exec h2)=some (r,h2.wj a.block (aM c a.off vs) g base e):=by
    intro A hA e;unfold yY at hA;simp[hop] at hA;split at hA
    .rename_i v u n hv hu hn;unfold Bw at hA;split at hA
     .rename_i a;split at hA
      .subst hA;simp only[Act.exec] at e⊢;unfold rN at e;generalize hg:h.get a.block=og at e;cases og with
       |none=>simp[lU] at e
       |some ar=>
        cases ar with
        |cells c g base el=>
         simp only at e;by_cases hc:g≠0/\a.off+u.cells.toList.length<=c.length/\u.cells.toList.all fk=true
         .rw[By hc] at e;simp[lU,acU,aof] at e;obtain⟨e1,e2⟩:=e;refine⟨a,u.cells.toList,c,g,base,el,by simp[DV,hop,hv],hg,e2.symm,λh2 e3=>?_⟩;unfold rN;rw[e3];simp only;rw[By hc,<-e1];rfl
         .rw[AT hc] at e;simp[lU] at e
        |_=>simp[lU] at e
      .subst hA;simp[Act.exec,lU] at e
     .subst hA;simp[Act.exec,lU] at e
    .subst hA;simp[Act.exec,lU] at e
   exact gen _ rfl hx
  .cases hs
 .grind
 .cases hx
theorem VZ (h:∀t∈eO ops o,E t=E' t):DV E o=DV E' o:=by
 have h:=Fy h;unfold DV;cases hop:o.op<;>simp only[hop,Op.operands] at h⊢;rw[h _ (by simp)]
theorem zW {ks}(hE:∀t∈eO ops o,E t=E' t):zQ E o h ks↔zQ E' o h ks:=by
 unfold zQ;rw[VZ hE]
theorem CK {nm}(hc:cls P ops o=.mka){r}(hx:act P C nm ops E L o h=some (r,h')):(h'=h/\∀h2,act P C nm ops E L o h2=some (r,h2)) \/
  ∃kt,h.fresh nm/\h'=h.Bt nm kt/\∀h2:ai,h2.fresh nm->act P C nm ops E L o h2=some (r,h2.Bt nm kt):=by
 unfold act at hx⊢;split at hx
 .refine .inr ?_;unfold ex at hx⊢;cases hop:o.op<;>simp only[hop] at hx⊢<;>try (unfold cls at hc;simp only[hop] at hc;contradiction)
  case makeMap t x=>
   have gen:∀A:Act,(∀h x h',A.exec h=some (x,h')->∃kt,h.fresh nm/\h'=h.Bt nm kt/\∀h2:ai,h2.fresh nm->A.exec h2=some (x,h2.Bt nm kt))->lU (A.exec h)=some (r,h') ->
     ∃kt,h.fresh nm/\h'=h.Bt nm kt/\∀h2:ai,h2.fresh nm->lU (A.exec h2)=some (r,h2.Bt nm kt):=by
    intro A hA e;obtain⟨v,e1,rfl⟩:=su e;obtain⟨kt,a,c,d⟩:=hA _ _ _ e1;exact⟨kt,a,c,λh2 a=>by rw[d h2 a];rfl⟩
   have one:∀(ty:κ) h x h',(Act.ask Nat (sP nm ty) λm=>.val (.map (some m))).exec h=some (x,h')->∃kt,h.fresh nm/\h'=h.Bt nm kt/\∀h2:ai,h2.fresh nm->(Act.ask Nat (sP nm ty) λm=>.val (.map (some m))).exec h2=some (x,h2.Bt nm kt):=by
    intro ty h x h' e;simp only[Act.exec,sP,ai.fresh,Option.isNone_iff_eq_none] at e⊢
    grind
   refine gen _ ?_ hx;unfold yY;simp only[hop]
   repeat' (first|exact one _|(intro h x h' e;simp[Act.exec] at e;done)|split)
  all_goals
   unfold cls at hc;simp[hop] at hc
   grind [wS,rP,qn,uB]
 .grind
 .cases hx
theorem aif {nm}{mo}(HM:∀f vs ca,mo f=true->C.st f vs=some ca->GA ca.m)(hc:Ec mo o=true){k}{kt}(h1:h.fresh k){r}
  (hx:act P C nm ops E L o (h.Bt k kt)=some (r,h')):∃h3,act P C nm ops E L o h=some (r,h3)/\h3.fresh k/\h'=h3.Bt k kt:=by
 unfold act at hx⊢;split at hx
 .unfold Ec at hc;split at hc
  .rename_i c hop;split at hc
   .rename_i f hf;have hb:isBuiltin c=false:=(by unfold isBuiltin;rw[hf]);have hd:vP C c=none:=(by unfold vP;rw[hf]);unfold ex at hx⊢;simp[hop,hb,hd] at hx⊢;cases hev:E.QW c.args.toList with
    |none=>
     grind [callee]
    |some vs=>
     have:callee E c=some (f,vs):=(by unfold callee;rw[hf,hev];simp[Env.ev]);simp[this] at hx⊢;split at hx
     .rename_i ca hca;split at hx
      .rename_i x h4 hm;cases hx;obtain⟨h3,q1,q2,q3⟩:=(HM f vs ca hc hca).1 h k kt x h' h1 hm
       grind
      .cases hx
     .cases hx
   .cases hc
  .cases hc
 .grind
 .cases hx
theorem Y3 {nm}{mo}(HM:∀f vs ca,mo f=true->C.st f vs=some ca->GA ca.m)(hc:Ec mo o=true){r}
  (hx:act P C nm ops E L o h=some (r,h')):h'.jz=h.jz:=by
 unfold act at hx;split at hx
 .unfold Ec at hc;split at hc
  .rename_i c hop;split at hc
   .rename_i f hf;have hb:isBuiltin c=false:=(by unfold isBuiltin;rw[hf]);have hd:vP C c=none:=(by unfold vP;rw[hf]);unfold ex at hx;simp[hop,hb,hd] at hx;cases hev:E.QW c.args.toList with
    |none=>
     grind [callee]
    |some vs=>
     have:callee E c=some (f,vs):=(by unfold callee;rw[hf,hev];simp[Env.ev]);simp[this] at hx;split at hx
     .rename_i ca hca;split at hx
      .rename_i x h4 hm;cases hx;exact (HM f vs ca hc hca).2 h x _ hm
      .cases hx
     .cases hx
   .cases hc
  .cases hc
 .cases hx;rfl
 .cases hx
theorem Md {h:ai}{k k' nx}(hk:k≠k'){kt t}{cs}:(h.Bt k kt).cM k' nx t cs=(h.cM k' nx t cs).Bt k kt:=by
 unfold ai.cM ai.Bt ai.o8
 grind
theorem RA {h:ai}{k k'}{t}{cs}(hf:h.fresh k)(hk:k≠k'):(h.cM k' h.next t cs).fresh k:=by
 have:Nat.beq k k'=false:=by grind [Nat.eq_of_beq_eq_true]
 obtain⟨a,b,c,d⟩:=hf;exact⟨by simp[ai.cM,this,a],b,c,by simp[ai.cM,this,d]⟩
theorem Lm {h:ai}{k k'}{t}{cs}(hf:(h.cM k' h.next t cs).fresh k)(hk:k≠k'):h.fresh k:=by
 have:Nat.beq k k'=false:=by grind [Nat.eq_of_beq_eq_true]
 obtain⟨a,b,c,d⟩:=hf;exact⟨by simpa[ai.cM,this] using a,b,c,by simpa[ai.cM,this] using d⟩
end Classes
section Swap
variable {C:Ea}{W:Wr}{nb:Nat}{ops:Array Oper}{Af:Nat->θ}{Ck:Nat->List θ}{Kk:Nat->η}
theorem pO {l}{i}:Bx l i=true↔i∈l:=by
 grind [Bx,List.any_eq_true,Nat.eq_of_beq_eq_true,Nat.beq_refl]
theorem jd {E:Env}{L:fK}{d}{r}{t}(h:d≠some t):E.res d r t=E t/\L.res d r t=L t:=by
 cases d with
 |none=>cases r<;>exact⟨rfl,rfl⟩
 |some i=>
  have:Nat.beq t i=false:=by
   cases hb:Nat.beq t i
   .rfl
   simp_all
  cases r<;>simp[Env.res,fK.res,Env.put,Env.set,Env.del,fK.put,fK.del,this]
theorem Pv {E:Env}{L:fK}{d e}{r u}(h:∀i,d=some i->e≠some i) :
  (E.res d r).res e u=(E.res e u).res d r/\(L.res d r).res e u=(L.res e u).res d r:=by
 constructor<;>funext t
 .by_cases hd:d=some t
  .have he:=h t hd;rw[(jd (L:=L) he).1];subst hd;cases r<;>simp[Env.res,Env.put,Env.set,Env.del]
  .rw[(jd (L:=L) hd).1];by_cases he:e=some t
   .subst he;cases u<;>simp[Env.res,Env.put,Env.set,Env.del]
   .rw[(jd (L:=L) he).1,(jd (L:=L) hd).1,(jd (L:=L) he).1]
 .by_cases hd:d=some t
  .have he:=h t hd;rw[(jd (E:=E) he).2];subst hd;cases r<;>simp[fK.res,fK.put,fK.del]
  .rw[(jd (E:=E) hd).2];by_cases he:e=some t
   .subst he;cases u<;>simp[fK.res,fK.put,fK.del]
   .rw[(jd (E:=E) he).2,(jd (E:=E) hd).2,(jd (E:=E) he).2]
theorem V0 {h:ai}{k1 k2}(hk:k1≠k2){t1 t2}{c1 c2} :
  (h.cM k1 h.next t1 c1).cM k2 h.next t2 c2=(h.cM k2 h.next t2 c2).cM k1 h.next t1 c1:=by
 have hb:∀j,Nat.beq j k1=true->Nat.beq j k2=false:=λj e=>by
  grind [absurd,Nat.eq_of_beq_eq_true]
 unfold ai.cM;simp[ai.mk.injEq,D8,anX,and_true];refine⟨?_,?_,?_⟩<;>funext j
 .cases e1:Nat.beq j k1
  .rfl
  .simp[hb j e1]
 .cases e1:Nat.beq j (k1+1)
  .simp
  .have:Nat.beq j (k2+1)=false:=by
    cases e2:Nat.beq j (k2+1)
    .rfl
    .have h1:=IT e1;have h2:=IT e2;omega
   simp[this]
 .cases e1:Nat.beq j k1
  .rfl
  .simp[hb j e1]
theorem Y4 {h:ai}{k}(hk:k≠h.next){t1 t2}{c1 c2}:(h.cM k h.next t1 c1).new t2 c2=(h.new t2 c2).cM k (h.new t2 c2).next t1 c1:=by
 have hb:∀j a b,a≠b->Nat.beq j a=true->Nat.beq j b=false:=λj a b hab e=>by
  grind [absurd,Nat.eq_of_beq_eq_true]
 unfold ai.new ai.cM;simp[ai.mk.injEq,D8,anX,and_true]
 grind
theorem core {mo}(HM:∀f vs ca,mo f=true->C.st f vs=some ca->GA ca.m){i j}{o p}{ck}{E}{L}{h h1 h2}{r u}(hij:i≠j)
  (hsw:(match cls P ops o,cls P ops p with
   |.sil,_|_,.sil | .ro,.ro | .ro,.alloc | .ro,.add | .alloc,.alloc=>true
   |.ro,.mro | .mro,.ro | .mro,.mro | .mro,.alloc | .mro,.add | .alloc,.mro | .add,.mro=>true
   |.ro,.eff=>ck&&Bz ops p
    |.alloc,.eff=>ck&&AY p
   |.ro,.mka | .mka,.ro | .mka,.alloc | .alloc,.mka | .mro,.mka=>true
   |.mka,.eff | .mro,.eff=>Ec mo p
   |.add,.alloc=>Fq ops o
   |_,_=>false)=true) (hkk:ck=true->YC (cls P ops o)=true->nb+i∈Kk j) (si:want ops E o=some true->zQ E o h (Kk i)) (sj:want ops E p=some true->zQ E p h1 (Kk j)) (hck:ck=true->Af i∈Ck j) (hrd:want ops E o=some true->mA E o=Af i)
  (hi:act P C (nb+i) ops E L o h=some (r,h1)) (ci:Bz ops o=true->sameAt h h1 (Ck i)=true)
  (hj:act P C (nb+j) ops E L p h1=some (u,h2)) (cj:Bz ops p=true->sameAt h1 h2 (Ck j)=true) :
  ∃h3,act P C (nb+j) ops E L p h=some (u,h3)/\act P C (nb+i) ops E L o h3=some (r,h2) /\
   (Bz ops p=true->sameAt h h3 (Ck j)=true)/\(Bz ops o=true->sameAt h3 h2 (Ck i)=true) /\
   (want ops E p=some true->zQ E p h (Kk j))/\(want ops E o=some true->zQ E o h3 (Kk i)):=by
 have noSt:∀{q:Oper} {hh:ai} {ks:η},cls P ops q≠.eff->want ops E q=some true->zQ E q hh ks:=λhq _ hs=>absurd (aie hs) hq;have first:h1=h->cls P ops o≠.eff->(∀h2,act P C (nb+i) ops E L o h2=some (r,h2))->∃h3,act P C (nb+j) ops E L p h=some (u,h3)/\act P C (nb+i) ops E L o h3=some (r,h2) /\
   (Bz ops p=true->sameAt h h3 (Ck j)=true)/\(Bz ops o=true->sameAt h3 h2 (Ck i)=true) /\
   (want ops E p=some true->zQ E p h (Kk j))/\(want ops E o=some true->zQ E o h3 (Kk i)):=by
  grind [sameAt_refl]
 have second:h2=h1->cls P ops p≠.eff->act P C (nb+j) ops E L p h=some (u,h)->∃h3,act P C (nb+j) ops E L p h=some (u,h3)/\act P C (nb+i) ops E L o h3=some (r,h2) /\
   (Bz ops p=true->sameAt h h3 (Ck j)=true)/\(Bz ops o=true->sameAt h3 h2 (Ck i)=true) /\
   (want ops E p=some true->zQ E p h (Kk j))/\(want ops E o=some true->zQ E o h3 (Kk i)):=by
  grind [sameAt_refl]
 have noCk:∀{q:Oper},cls P ops q≠.eff->∀{X:Prop},Bz ops q=true->X:=λhq X hc=>absurd (Y2 hc) hq;cases ho:cls P ops o
 case sil=>grind [zT]
 case add=>
  cases hp:cls P ops p<;>rw[ho,hp] at hsw
  case sil=>grind [zT]
  case mro=>grind [FA,Mc,ME.of]
  case alloc=>
   rcases qo hp hj with⟨e1,e3⟩|⟨t,cs,a1,a2,a3,rfl,a4⟩
   .grind
   rcases adl hsw ho hi with⟨rfl,q⟩|⟨hn,⟨rfl,q⟩|⟨e,ds,rfl,q⟩⟩
   .grind
   .exact⟨_,hj,q _ (T8 a2 a3 hn),noCk (by rw[hp];simp),noCk (by rw[ho];simp),noSt (by rw[hp];simp),noSt (by rw[ho];simp)⟩
   .have hne:Nat.beq (nb+j) h.next=false:=by
     cases e2:Nat.beq (nb+j) h.next
     .rfl
     .simp[ai.new,ai.cM,e2] at a1
    have hnx:nb+j≠h.next:=λe3=>by grind [Nat.beq_refl]
    have b1:h.used (nb+j)=false:=(by simpa[ai.new,ai.cM,hne] using a1);have b2:nb+j<h.next:=by have:nb+j<h.next+1:=a2;omega
    have b3:h.get (nb+j)=none:=(by simpa[ai.new,ai.cM,hne] using a3);refine⟨_,a4 h b1 b2 b3,?_,noCk (by rw[hp];simp),noCk (by rw[ho];simp),noSt (by rw[hp];simp),noSt (by rw[ho];simp)⟩
    grind [T8,Y4]
  all_goals cases hsw
 case mro=>
  obtain⟨rfl,e2⟩:=FA ho hi;cases hp:cls P ops p<;>rw[ho,hp] at hsw
  case sil=>grind [zT]
  case ro=>obtain⟨rfl,_⟩:=Np hp hj;grind
  case mro=>obtain⟨rfl,_⟩:=FA hp hj;grind
  case alloc=>
   rcases qo hp hj with⟨e1,e3⟩|⟨t,cs,a1,a2,a3,rfl,a4⟩
   .grind
   .exact⟨_,hj,e2 _ (ME.of rfl),noCk (by rw[hp];simp),noCk (by rw[ho];simp),noSt (by rw[hp];simp),noSt (by rw[ho];simp)⟩
  case add=>exact⟨_,hj,e2 _ (ME.of (Mc hp hj)),noCk (by rw[hp];simp),noCk (by rw[ho];simp),noSt (by rw[hp];simp),noSt (by rw[ho];simp)⟩
  case eff=>exact⟨_,hj,e2 _ (ME.of (Y3 HM hsw hj)),cj,noCk (by rw[ho];simp),sj,noSt (by rw[ho];simp)⟩
  case mka=>
   rcases CK hp hj with⟨e1,e3⟩|⟨kt,a1,rfl,a4⟩
   .grind
   .refine⟨_,hj,e2 _ λm x hm=>?_,noCk (by rw[hp];simp),noCk (by rw[ho];simp),noSt (by rw[hp];simp),noSt (by rw[ho];simp)⟩;have hn:Nat.beq m (nb+j)=false:=by
     cases q:Nat.beq m (nb+j)
     .rfl
     .rw[IT q,a1.2.2.1] at hm;cases hm
    simp[ai.Bt,ai.o8,hn,hm]
  all_goals cases hsw
 case eff=>
  cases hp:cls P ops p<;>rw[ho,hp] at hsw
  case sil=>grind [zT]
  all_goals cases hsw
 case ro=>
  obtain⟨rfl,e2⟩:=Np ho hi;rcases e2 with e2|⟨hw,b,hb,hn,e2⟩
  .grind
  .cases hp:cls P ops p
   case sil=>grind [zT]
   case ro=>obtain⟨rfl,_⟩:=Np hp hj;grind
   case mro=>obtain⟨rfl,_⟩:=FA hp hj;grind
   case alloc=>
    rcases qo hp hj with⟨e1,e3⟩|⟨t,cs,a1,a2,a3,rfl,a4⟩
    .grind
    .refine⟨_,hj,e2 _ (gN.of ?_),noCk (by rw[hp];simp),noCk (by rw[ho];simp),noSt (by rw[hp];simp),noSt (by rw[ho];simp)⟩;have:Nat.beq b.block (nb+j)=false:=by
      grind [Nat.eq_of_beq_eq_true,absurd]
     simp[ai.cM,this]
   case add=>exact⟨_,hj,e2 _ (gN.of (adk hp hj _ hn)),noCk (by rw[hp];simp),noCk (by rw[ho];simp),noSt (by rw[hp];simp),noSt (by rw[ho];simp)⟩
   case mka=>
    rcases CK hp hj with⟨e1,e3⟩|⟨kt,a1,rfl,a4⟩
    .grind
    .exact⟨_,hj,e2 _ (gN.of rfl),noCk (by rw[hp];simp),noCk (by rw[ho];simp),noSt (by rw[hp];simp),noSt (by rw[ho];simp)⟩
   case eff=>
    rw[ho,hp] at hsw;simp at hsw;have hm:=hck hsw.1;rw[<-hrd hw,hb] at hm;exact⟨_,hj,e2 _ (xh (cj hsw.2) hm),cj,noCk (by rw[ho];simp),sj,noSt (by rw[ho];simp)⟩
 case mka=>
  cases hp:cls P ops p<;>rw[ho,hp] at hsw
  case sil=>grind [zT]
  case ro=>
   obtain⟨rfl,e2⟩:=Np hp hj;rcases CK ho hi with⟨e1,e3⟩|⟨kt,a1,rfl,a4⟩
   .grind
   rcases e2 with e2|⟨hw,b,hb,hn,e2⟩
   .grind
   .exact second rfl (by rw[hp];simp) (e2 _ (gN.of rfl))
  case eff=>
   rcases CK ho hi with⟨e1,e3⟩|⟨kt,a1,rfl,a4⟩
   .grind
   obtain⟨h3,q1,q2,rfl⟩:=aif HM hsw a1 hj;refine⟨h3,q1,a4 h3 q2,λhcp=>?_,noCk (by rw[ho];simp),λ_ hs=>?_,noSt (by rw[ho];simp)⟩
   .have hsm:=cj hcp;refine CH λx hx b hb=>?_;subst hb;exact (xh hsm hx).cast rfl rfl
   grind [Ec,AY]
  case alloc=>
   rcases CK ho hi with⟨e1,e3⟩|⟨kt,a1,rfl,a4⟩
   .grind
   rcases qo hp hj with⟨e1,e3⟩|⟨t,cs,b1,b2,b3,rfl,b4⟩
   .grind
   have hne:Nat.beq (nb+j) (nb+i)=false:=by
    grind [Nat.eq_of_beq_eq_true]
   have hne':Nat.beq (nb+i) (nb+j)=false:=by
    grind [Nat.eq_of_beq_eq_true]
   have c1:h.used (nb+j)=false:=by simpa[ai.Bt,hne] using b1
   refine⟨_,b4 h c1 b2 b3,?_,noCk (by rw[hp];simp),noCk (by rw[ho];simp),noSt (by rw[hp];simp),noSt (by rw[ho];simp)⟩;rw[a4 _ (RA a1 (by omega)),Md (by omega)];rfl
  all_goals cases hsw
 case alloc=>
  cases hp:cls P ops p
  case sil=>grind [zT]
  case mka=>
   rcases qo ho hi with⟨e1,e3⟩|⟨t,cs,b1,b2,b3,rfl,b4⟩
   .exact first e1 (by rw[ho];simp) e3
   rcases CK hp hj with⟨e1,e3⟩|⟨kt,a1,rfl,a4⟩
   .exact second e1 (by rw[hp];simp) (e3 _)
   have hne:Nat.beq (nb+j) (nb+i)=false:=by
    grind [Nat.eq_of_beq_eq_true]
   have hne':Nat.beq (nb+i) (nb+j)=false:=by
    grind [Nat.eq_of_beq_eq_true]
   refine⟨_,a4 h (Lm a1 (by omega)),?_,noCk (by rw[hp];simp),noCk (by rw[ho];simp),noSt (by rw[hp];simp),noSt (by rw[ho];simp)⟩;rw[b4 (h.Bt (nb+j) kt) (by simp[ai.Bt,hne',b1]) b2 b3,Md (by omega)];rfl
  case mro=>
   obtain⟨e1,e2⟩:=FA hp hj;rcases qo ho hi with⟨rfl,_⟩|⟨t,cs,a1,a2,a3,rfl,a4⟩
   .grind
   .exact second e1 (by rw[hp];simp) (e2 _ (ME.of rfl))
  case alloc=>
   rcases qo ho hi with⟨e1,e2⟩|⟨t,cs,a1,a2,a3,rfl,a4⟩
   .exact first e1 (by rw[ho];simp) e2
   rcases qo hp hj with⟨e1,e2⟩|⟨t',cs',b1,b2,b3,rfl,b4⟩
   .exact second e1 (by rw[hp];simp) (e2 _)
   have hne:Nat.beq (nb+j) (nb+i)=false:=by
    grind [Nat.eq_of_beq_eq_true]
   have hne':Nat.beq (nb+i) (nb+j)=false:=by
    grind [Nat.eq_of_beq_eq_true]
   simp[ai.cM,hne,aos,D8] at b1 b2 b3;refine⟨_,b4 h b1 b2 b3,?_,noCk (by rw[hp];simp),noCk (by rw[ho];simp),noSt (by rw[hp];simp),noSt (by rw[ho];simp)⟩;have:=a4 (h.cM (nb+j) h.next t' cs') (by simp[ai.cM,hne',a1]) a2 (by simp[ai.cM,hne',a3])
   rw[this]
   congr 2
   exact (V0 (by omega)).symm
  case eff=>
   rw[ho,hp] at hsw;simp only[abw] at hsw;obtain⟨hc1,hst⟩:=hsw;rcases qo ho hi with⟨e1,e2⟩|⟨t,cs,a1,a2,a3,rfl,a4⟩
   .grind
   have hk:=hkk hc1 (by rw[ho];rfl);rcases VY hst hj with⟨e1,e2,e3⟩|⟨hw,a,vs,c,g,base,e,b1,b2,rfl,b4⟩
   .grind [sameAt_refl,absurd]
   .have hne:Kk j≠[]:=List.ne_nil_of_mem hk;obtain⟨a',c1,c2⟩:=sj hw hst hne;rw[b1] at c1;cases c1;have c2':=c2;unfold okK at c2;rw[b2] at c2;have c3:=List.all_eq_true.1 c2 _ hk;simp at c3;obtain⟨d1,d2⟩:=c3;have hga:(h.cM (nb+i) h.next t cs).get a.block=h.get a.block:=by simp[ai.cM,d1]
    have b2':h.get a.block=some (.cells c g base e):=(by rw[<-hga];exact b2);have hka:Nat.beq (nb+i) a.block=false:=by
     grind [Nat.eq_of_beq_eq_true,Nat.beq_refl]
    have hkg:Nat.beq (nb+i+1) g=false:=by
     grind [Nat.eq_of_beq_eq_true,Nat.beq_refl]
    have hnone:(h.wj a.block (aM c a.off vs) g base e).get (nb+i)=none:=(by simp[ai.wj,hka,a3]);have hcomm:(h.wj a.block (aM c a.off vs) g base e).cM (nb+i) h.next t cs=(h.cM (nb+i) h.next t cs).wj a.block (aM c a.off vs) g base e:=by
     unfold ai.cM ai.wj;simp only[ai.mk.injEq,anX,and_true];funext q;cases q1:Nat.beq q (nb+i)
     .cases q2:Nat.beq q a.block<;>simp[q1]
     grind [Nat.eq_of_beq_eq_true]
    refine⟨_,b4 h b2',?_,λhcp=>?_,noCk (by rw[ho];simp),λ_ _ _=>⟨a,b1,?_⟩,noSt (by rw[ho];simp)⟩
    .have:=a4 (h.wj a.block (aM c a.off vs) g base e) a1 a2 hnone;rw[this]
     congr 2
    .have hsm:=cj hcp;refine CH λx hx b hb=>?_;subst hb;have h5:=xh hsm hx;cases q1:Nat.beq b.block (nb+i)
     .exact h5.cast (by simp[ai.cM,q1]) (by simp[ai.wj,ai.cM,q1])
     .refine gN.of ?_
      grind [Nat.eq_of_beq_eq_true]
    grind [okK]
  all_goals
   grind
theorem adm {mo}(HM:∀f vs ca,mo f=true->C.st f vs=some ca->GA ca.m){i j}{o p}{ck}{s s1 s2}(ho:ops[i]?=some o)(hp:ops[j]?=some p)(hij:i≠j)(hsw:OO P mo ops o p ck=true)(hck:ck=true->Af i∈Ck j)(hkk:ck=true->YC (cls P ops o)=true->nb+i∈Kk j)
  (h1:Step P C W nb ops Af Ck Kk i s s1) (h2:Step P C W nb ops Af Ck Kk j s1 s2):∃s1',Step P C W nb ops Af Ck Kk j s s1'/\Step P C W nb ops Af Ck Kk i s1' s2:=by
 obtain⟨E,L,h⟩:=s;obtain⟨E1,L1,h1'⟩:=s1;obtain⟨E2,L2,h2'⟩:=s2;obtain⟨o',r,ho',hWi,hri,hai,e1,e2,hci,hsi⟩:=h1;obtain⟨p',u,hp',hWj,hrj,haj,e3,e4,hcj,hsj⟩:=h2;rw[ho] at ho';cases ho';rw[hp] at hp';cases hp';simp only at *
 subst e1;subst e2;subst e3;subst e4;unfold OO at hsw;rw[abw] at hsw;obtain⟨hap,hsw⟩:=hsw;unfold apart at hap;simp at hap;obtain⟨⟨q1,q2⟩,q3⟩:=hap;have d1:∀t∈eO ops p,o.dst≠some t:=by
  grind [Bool.not_eq_true',pO]
 have d2:∀t∈eO ops o,p.dst≠some t:=by
  grind [Bool.not_eq_true',pO]
 have d3:∀t,o.dst=some t->p.dst≠some t:=by
  intro t e1 e2
  simp_all
 have cE:∀t∈eO ops p,E.res o.dst r t=E t:=λt ht=>(jd (L:=L) (d1 t ht)).1;have cL:∀t∈eO ops p,L.res o.dst r t=L t:=λt ht=>(jd (E:=E) (d1 t ht)).2;have cE':∀t∈eO ops o,E.res p.dst u t=E t:=λt ht=>(jd (L:=L) (d2 t ht)).1;have cL':∀t∈eO ops o,L.res p.dst u t=L t:=λt ht=>(jd (E:=E) (d2 t ht)).2;rw[CI cE cL] at haj;obtain⟨h3,g1,g2,g3,g4,g5,g6⟩:=core HM hij hsw hkk hsi (λhw=>(zW cE).1 (hsj (by rw[nI cE];exact hw))) hck hri hai hci haj hcj;refine⟨(E.res p.dst u,L.res p.dst u,h3),⟨p,u,hp,hWj,?_,g1,rfl,rfl,g3,g5⟩,⟨o,r,ho,hWi,?_,?_,?_,?_,g4,λhw=>(zW cE').2 (g6 (by rw[<-nI cE'];exact hw))⟩⟩
 .intro hw;rw[<-wC cE];exact hrj (by rw[nI cE];exact hw)
 .intro hw;rw[wC cE'];exact hri (by rw[<-nI cE'];exact hw)
 .simp;rw[CI cE' cL'];exact g2
 .exact (Pv (L:=L) d3).1
 .exact (Pv (E:=E) d3).2
end Swap
theorem HR e:y0 e=Region.binds .any e:=by
 unfold y0 Region.binds;split<;>simp_all
theorem Pw {x}:∀{l a},x∈YD l a->x∈l\/x∈a
 |[],a,h=>.inr h
 |y::l,a,h=>by
  rw[YD] at h;rcases Pw h with h|h
  .grind
  grind
theorem JG {ops:Array Oper}{σ}(hn:σ.Nodup)(hr:∀i o e,ops[i]?=some o->e∈o.after.toList->y0 e=true->Fg σ e.on i) :
  ∀(rest:List Oper) acc ,(∀n o,rest[n]?=some o->ops[acc.length+n]?=some o)->(∀j i,i∈acc.getD j []->Fg σ i j) ->
   ∀j i,i∈(rest.foldl (λacc o=>acc++[YD ((o.after.toList.filter y0).flatMap λe=>e.on::acc.getD e.on []) []]) acc).getD j []->Fg σ i j
 |[],acc,_,ha,j,i,hi=>ha j i hi
 |o::rest,acc,hs,ha,j,i,hi=>by
  refine JG hn hr rest _ ?_ ?_ j i hi
  .intro n o' ho';have:=hs (n+1) o' (by simpa using ho')
   grind
  .intro j i hi;have ho:=hs 0 o rfl;simp at ho;rcases apv j acc.length with hj|hj|hj
   .grind
   .subst hj;simp at hi;have hi:=(Pw hi).resolve_right (by simp);simp only[List.mem_flatMap,ao5] at hi;obtain⟨e,⟨he,hb⟩,hi⟩:=hi;have h1:=hr _ o e ho he hb;rcases List.mem_cons.1 hi with rfl|hi
    .exact h1
    .exact Ma hn (ha e.on i (by grind)) h1
   grind
theorem JH {mo}{ops}{pr}{ks}:∀{l},IM P mo ops pr ks l=true->∀i j,Fg (l.map (·.1)) i j->∃cj,(j,cj)∈l/\(M4 P mo ops pr i j cj=true\/j∈ks)
 |[],_,_,_,hb=>by cases hb
 |(a,c)::l,hp,i,j,hb=>by
  unfold IM at hp;rw[abw] at hp;obtain⟨h1,h2⟩:=hp;cases hb with
  |cons _ hb=>
   obtain⟨cj,h3,h4⟩:=JH h2 i j hb
   grind
  |cons_cons _ hb=>
   have:j∈l.map (·.1):=hb.subset (by simp)
   obtain⟨⟨j',cj⟩,hm,e⟩:=List.mem_map.1 this;simp at e;grind [pO]
theorem V1 {mo}{ops}{pr}{i j}{cj}(h:M4 P mo ops pr i j cj=true):i∈pr.getD j []\/∃o p,ops[i]?=some o/\ops[j]?=some p/\OO P mo ops o p (Bx cj i)=true:=by
 unfold M4 at h
 grind [pO]
theorem y9 {mo}{ops}{pr}{k d}{bad}:∀{l} {pre},(k,d,bad)∈yD P mo ops pr pre l->yc ops k=some d/\k∈l.map (·.1)/\∃ck,(k,ck)∈l/\∀i,i∈pre\/Fg (l.map (·.1)) i k->(k∉pre->(l.map (·.1)).Nodup->M4 P mo ops pr i k ck=true\/i∈bad)
 |[],_,h=>by cases h
 |(j,cj)::r,pre,h=>by
  unfold yD at h;have next:(k,d,bad)∈yD P mo ops pr (j::pre) r->yc ops k=some d/\k∈((j,cj)::r).map (·.1)/\∃ck,(k,ck)∈(j,cj)::r/\∀i,i∈pre\/Fg (((j,cj)::r).map (·.1)) i k->(k∉pre->(((j,cj)::r).map (·.1)).Nodup->M4 P mo ops pr i k ck=true\/i∈bad):=λh=>by
   obtain⟨h1,h2,ck,h3,h4⟩:=y9 h;refine⟨h1,BY _ h2,ck,BY _ h3,λi hi hk hn=>?_⟩;rw[acW,ao7] at hn;have hkj:k≠j:=λe=>hn.1 (by rw[<-e];exact h2);refine h4 i ?_ (by simp[hkj,hk]) hn.2;rcases hi with hi|hi
   .exact .inl (BY _ hi)
   .cases hi with
    |cons _ hi=>exact .inr hi
    |cons_cons _ hi=>exact .inl (IS ..)
  split at h
  .rename_i d' hd;split at h
   .exact next h
   .rename_i hne;rcases List.mem_cons.1 h with h|h
    rotate_left
    .exact next h
    cases h;refine⟨hd,IS ..,cj,IS ..,λi hi hk hn=>?_⟩;rcases hi with hi|hi
    .cases hp:M4 P mo ops pr i k cj
     .exact .inr (List.mem_filter.2 ⟨hi,by simp[hp]⟩)
     .exact .inl rfl
    .exfalso;rw[acW,ao7] at hn;cases hi with
     |cons _ hi=>exact hn.1 (hi.subset (by simp))
     |cons_cons _ hi=>exact hn.1 (hi.subset (by simp))
  .exact next h
theorem Y5 (p:Nat->Bool):∀s:η,∃q r,s=q++r/\(∀x∈r,p x=false)/\∀x∈q,∃c,p c=true/\(x=c\/Fg q x c)
 |[]=>⟨[],[],rfl,by simp,by simp⟩
 |y::s=>by
  obtain⟨q,r,rfl,h1,h2⟩:=Y5 p s;cases q with
  |nil=>
   cases hy:p y
   .exact⟨[],y::r,rfl,by simpa[hy] using h1,by simp⟩
   .exact⟨[y],r,rfl,h1,λx hx=>⟨y,hy,.inl (by simpa using hx)⟩⟩
  |cons z q=>
   refine⟨y::z::q,r,rfl,h1,λx hx=>?_⟩;rcases List.mem_cons.1 hx with rfl|hx
   .obtain⟨c,h3,h4⟩:=h2 z (IS ..);refine⟨c,h3,.inr (List.Sublist.cons_cons _ (List.singleton_sublist.2 ?_))⟩;rcases h4 with rfl|h4
    .exact IS ..
    .exact h4.subset (by simp)
   .obtain⟨c,h3,h4⟩:=h2 x hx;exact⟨c,h3,h4.imp (λx=>x) λh=>.cons _ h⟩
theorem GC.mem {S}{St:Nat->S->S->Prop}{k}:∀{l} {s f},GC St l s f->k∈l->∃s s',St k s s'
 |_,_,_,.nil _,hk=>by cases hk
 |_,_,_,.cons h1 h2,hk=>by
  rcases List.mem_cons.1 hk with rfl|hk
  .exact⟨_,_,h1⟩
  .exact h2.mem hk
section Late
variable {C:Ea}{W:Wr}{nb:Nat}{ops:Array Oper}{Af:Nat->θ}{Ck:Nat->List θ}{Kk:Nat->η}
theorem Y6 {E:Env}{L:fK}{d t:Nat}(h:t≠d):E.del (some d) t=E t/\L.del (some d) t=L t:=by
 simp[Env.del,fK.del,bf,h]
theorem GC.del {k d}(hk:∀o,ops[k]?=some o->o.dst=some d){rest f}:∀q {E L h},(∀j∈q++[k],∀o,ops[j]?=some o->d∉eO ops o)->(∀j∈q,∀o,ops[j]?=some o->o.dst≠some d) ->
  GC (Step P C W nb ops Af Ck Kk) (q++k::rest) (E,L,h) f->GC (Step P C W nb ops Af Ck Kk) (q++k::rest) (E.del (some d),L.del (some d),h) f:=by
 have cong:∀{o:Oper} {E:Env} {L:fK},d∉eO ops o->(∀t∈eO ops o,E t=E.del (some d) t)/\∀t∈eO ops o,L t=L.del (some d) t:=λhr=>by
  constructor<;>intro t ht
  .exact (Y6 (L:=fK.emp) λe=>hr (by rw[<-e];exact ht)).1.symm
  .exact (Y6 (E:=Env.emp) λe=>hr (by rw[<-e];exact ht)).2.symm
 intro q
 induction q with
 |nil=>
  intro E L h hr _ hx;cases hx with
  |cons h1 h2=>
   rename_i s1;obtain⟨o,r,ho,hW,hrd,hact,e1,e2,hck,hst⟩:=h1;obtain⟨c1,c2⟩:=cong (E:=E) (L:=L) (hr k (by simp) o ho);refine .cons (s1:=s1) ⟨o,r,ho,hW,?_,?_,?_,?_,hck,?_⟩ h2
   .simp only at hrd⊢;rw[<-nI c1,<-wC c1];exact hrd
   .simp only at hact⊢;rw[<-CI c1 c2];exact hact
   .rw[e1,hk o ho];funext t;cases r<;>simp[Env.res,Env.put,Env.set,Env.del,bf]<;>grind
   .rw[e2,hk o ho];funext t;cases r<;>simp[fK.res,fK.put,fK.del,bf]<;>grind
   .simp only at hst⊢;rw[<-nI c1,<-zW c1];exact hst
 |cons j q ih=>
  intro E L h hr hd hx;cases hx with
  |cons h1 h2=>
   rename_i s1;obtain⟨E1,L1,h1'⟩:=s1;obtain⟨o,r,ho,hW,hrd,hact,e1,e2,hck,hst⟩:=h1;obtain⟨c1,c2⟩:=cong (E:=E) (L:=L) (hr j (by simp) o ho);have hdo:=hd j (by simp) o ho;refine .cons (s1:=(E1.del (some d),L1.del (some d),h1')) ⟨o,r,ho,hW,?_,?_,?_,?_,hck,?_⟩ (ih (λi hi=>hr i (BY _ hi)) (λi hi=>hd i (BY _ hi)) h2)
   .simp only at hrd⊢;rw[<-nI c1,<-wC c1];exact hrd
   .simp only at hact⊢;rw[<-CI c1 c2];exact hact
   .simp only at e1⊢;subst e1;funext t;cases hod:o.dst<;>cases r<;>simp[Env.res,Env.put,Env.set,Env.del,bf]<;>grind
   .simp only at e2⊢;subst e2;funext t;cases hod:o.dst<;>cases r<;>simp[fK.res,fK.put,fK.del,bf]<;>grind
   .simp only at hst⊢;rw[<-nI c1,<-zW c1];exact hst
theorem JI {k d}(h:yc ops k=some d):∃o t,ops[k]?=some o/\o.op=.alloc t/\o.guard=none/\o.dst=some d:=by
 unfold yc at h
 grind
def Wr.Yq (W:Wr)(D:η):Wr:=(W.1,some ((match W.2 with|some l=>l|none=>List.range W.1).filter λi=>decide (i∉D)))
theorem adn {D:η}{e}(h:GI W e=true)(hd:∀d∈D,e≠some d):GI (W.Yq D) e=true:=by
 unfold GI Wr.Yq at *
 cases e with
 |none=>rfl
 |some i=>
  have hb:i∉D:=λx=>hd i x rfl;simp only[abw,List.any_eq_true,ao5] at h⊢;refine⟨h.1,i,⟨?_,by simp[hb]⟩,al3 i⟩;have h2:=h.2;split at h2
  .rename_i l hl;rw[hl];obtain⟨x,q1,q2⟩:=List.any_eq_true.1 h2;rw[IT q2];exact q1
  .rename_i hl;rw[hl];exact List.mem_range.2 (by simpa[Nat.blt_eq] using h.1)
theorem Nq {l:η}{i}:l.any (Nat.beq i)=false↔i∉l:=by
 rw[List.any_eq_false];exact⟨λh hi=>h i hi (al3 i),λh x hx e=>h (by rw[IT e];exact hx)⟩
theorem Fw.Da {D}{d}{t t':ν}(h:Fw (W.Yq D) t t')(hd:d∈D):t'[d]?=t[d]?:=h.2 _ rfl d (Nq.2 λq=>by
 have:=(List.mem_filter.1 q).2;simp[hd] at this)
theorem Fw.Yq {D}{t t':ν}(h:Fw (W.Yq D) t t'):Fw W t t':=⟨h.1,λl hl i hi=>h.2 _ rfl i (Nq.2 λq=>by
 have:=(List.mem_filter.1 q).1;rw[hl] at this;exact Nq.1 hi this)⟩
structure aih (P:Program) (W:Wr) (ops:Array Oper) (G F:Fz) (t:ν) (D:List (Nat×Nat×Nat)):Prop where
 one:∀x∈D,GI W (some x.2.1)=true/\t[x.2.1]?=some (.pointer (some ⟨x.2.2,0,none⟩))/\G x.2.2=none/\∃o e z,ops[x.1]?=some o/\o.op=.alloc e/\o.guard=none/\o.dst=some x.2.1/\zeroOf P e=some z/\F x.2.2=some (.cells z.cells e (0,0))/\¬F.rd x.2.2
 ds:(D.map (·.2.1)).Nodup
 bs:(D.map (·.2.2)).Nodup
theorem BE (l:η):(l.map λi=>(i,([]:η))).map (·.1)=l:=by induction l<;>simp_all
theorem Px {R}(HT:BC P C){G}{ι}{K:Env->M R}{r}{t0}(hlib:Fs G){Q}(hQ:∀a w,YZ P G ι W t0 K r a w->Q .normal a w){rest}:∀(D:List (Nat×Nat×Nat)) {t1 ι1 F1},aih P W ops G F1 t1 D->Fw W t0 t1->ι.le ι1->Jn G F1 ->
  Y0 P C W (W.Yq (D.map (·.2.1))) (some nb) ops K r t1 ι1 F1 ((D.map (·.1)++rest).map λi=>(i,[])) (wpOps P ops Q rest)
 |[],t1,ι1,F1,_,hf,hι,hF=>λE L A F0 ι0 h a w R0 HE HL hd hs hfr hle hF0 hx=>by
  have:=Fx HT hlib hQ (W:=W) (rest.map λi=>(i,[])) E L A F0 ι0 h a w R0 HE HL hd hs (hf.trans hfr.Yq) (hι.trans hle) (hF.trans hF0) hx;rw[BE] at this;exact this
 |(k,d,b)::D,t1,ι1,F1,pd,hf,hι,hF=>λE2 L2 A2 F2 ι2 h2 a2 w2 R2 HE2 HL2 hd2 hs2 hfr2 hle2 hF2 hx2=>by
  obtain⟨hwd,ht,hG,o,t,z,ho,hop,hg,hd,hz,hFb,hrd⟩:=pd.one _ (IS ..);simp only at hwd ht hG ho hd hFb hrd;obtain⟨hfl,hz1,_⟩:=fE hz;have hsc:∀v∈z.cells.toList,fk v=true:=λv hv=>vg (List.all_eq_true.1 hfl v hv);rw[acW,acV,acW] at hx2;unfold jn at hx2;simp only[ho,hg] at hx2;obtain⟨hW,r',h3,hex,_,_,hk2⟩:=Mb hx2;simp only[ex,hop,yY,hz,Act.exec,iI] at hex;rw[By (List.all_eq_true.2 hsc)] at hex;split at hex
  rotate_left
  .cases hex
  rename_i hnew;split at hnew
  rotate_left
  .cases hnew
  rename_i hkk;obtain⟨u1,u2,u3⟩:=hkk;cases hnew;cases hex;rw[hd] at hk2;have hb2:=hF2.1 _ _ hFb;have hrd2:¬F2.rd b:=λx=>hrd ((hF2.2.1.2 _ _ hFb).1 x);have hFr:=(hF.trans hF2).rem hG;obtain⟨ι3,l1,l2,R3⟩:=R2.late hb2 hrd2 (hFr.GL hlib) u1 u2 (aW.flat hfl) hsc;have nb1:=pd.bs;have nd1:=pd.ds;simp only[acW,ao7] at nb1 nd1;refine Px HT hlib hQ D (t1:=a2.tmps) (ι1:=ι3) (F1:=VM F2 b) ⟨λx hx=>?_,nd1.2,nb1.2⟩ (hf.trans hfr2.Yq) (hι.trans (hle2.trans l1)) hFr _ _ _ (VM F2 b) ι3 _ a2 w2 R3 (λj u hj=>?_) (λj n cs hj=>?_) hd2 hs2 (.refl _ _) (.refl _) (.refl _) hk2
  .obtain⟨c1,c2,c3,o',t',z',c4,c5,c6,c7,c8,c9,c10⟩:=pd.one x (BY _ hx);have hne:x.2.2≠b:=λe=>nb1.1 (by rw[<-e];exact anE hx);refine⟨c1,by rw[hfr2.Da (anE (BY _ hx))];exact c2,c3,o',t',z',c4,c5,c6,c7,c8,?_,λq=>c10 ((hF2.2.1.2 _ _ c9).1 q)⟩;show (if x.2.2=b then none else F2 x.2.2)=_;rw[AT hne];exact hF2.1 _ _ c9
  .simp[Env.res,Env.put,Env.set,bf] at hj;split at hj
   .rename_i e;subst e;cases hj;exact⟨.pointer (some ⟨b,0,none⟩),(hfr2.Da (IS ..)).trans ht,.ptr _ _ ⟨rfl,rfl,_,l2,rfl,rfl⟩⟩
   .obtain⟨v',q1,q2⟩:=HE2 j u hj;exact⟨v',q1,q2.mono l1⟩
  .simp[fK.res,fK.del,bf] at hj;obtain⟨_,hj⟩:=hj;obtain⟨b',cs',e,q1,⟨q2,q3⟩,q4,q5⟩:=HL2 j n cs hj;refine⟨b',cs',e,q1,⟨?_,q3⟩,q4.mono l1,q5⟩;show (if b'=b then none else F2 b')=_;rw[AT λx=>hrd2 (by rw[<-x];exact q3)];exact q2
theorem JJ {R}(HT:BC P C){G}{ι}{K:Env->M R}{r}{t0}(hlib:Fs G){Q}(hQ:∀a w,YZ P G ι W t0 K r a w->Q .normal a w){rest ks:η}(hks:∀k∈ks,∃d,yc ops k=some d):∀(s:η) (D:List (Nat×Nat×Nat)) {t1 ι1 F1},aih P W ops G F1 t1 D->Fw W t0 t1->ι.le ι1->Jn G F1->(∀x∈D,x.1∈ks) ->
  (∀j∈s,∀o,ops[j]?=some o->∀k∈ks,∀d,yc ops k=some d->d∉eO ops o/\(j≠k->o.dst≠some d))->(D.map (·.1)++s).Nodup->(s++rest).Nodup->(∀x∈D,x.1∉rest) ->
  (∀k∈ks,∀k'∈ks,∀d,yc ops k=some d->yc ops k'=some d->k=k') ->
  Y0 P C W (W.Yq (D.map (·.2.1))) (some nb) ops K r t1 ι1 F1 ((s.filter (λi=>decide (i∉ks))++(D.map (·.1)++s.filter (λi=>decide (i∈ks))++rest)).map λi=>(i,[])) (wpOps P ops Q (s++rest))
 |[],D,t1,ι1,F1,pd,hf,hι,hF,_,_,_,_,_,_=>by
  have:=Px HT (K:=K) (r:=r) (nb:=nb) hlib hQ (rest:=rest) D pd hf hι hF;simpa using this
 |k::s,D,t1,ι1,F1,pd,hf,hι,hF,hD,hc,hn,hn2,hnr,hdd=>by
  have hn2':=(List.nodup_cons.1 hn2).2;by_cases hk:k∈ks
  .obtain⟨d,hkd⟩:=hks k hk;obtain⟨o,t,ho,hop,hg,hd⟩:=JI hkd;have hperm:(D.map (·.1)++k::s).Perm ((D.map (·.1)++[k])++s):=by simp
   have hnk:=hperm.nodup_iff.1 hn;have kD:∀x∈D,x.1≠k:=λx hx e=>by
    have:=(List.nodup_append.1 hn).2.2 x.1 (anE hx) k (IS ..);exact this e
   have dD:∀x∈D,x.2.1≠d:=λx hx e=>by
    obtain⟨_,_,_,o',t',z',c4,c5,c6,c7,_⟩:=pd.one x hx;have:yc ops x.1=some d:=(by unfold yc;rw[c4];simp only[c5,c6,c7,e]);exact kD x hx (hdd _ (hD x hx) _ hk d this hkd)
   intro E L A F0 ι0 h a w R0 HE HL hdf hs hfr hle hF0 hx;have hrk:d∉eO ops o:=by simp[eO,hop,hg,Op.operands]
   have hsplit:((k::s).filter (λi=>decide (i∉ks))++(D.map (·.1)++(k::s).filter (λi=>decide (i∈ks))++rest))=(s.filter (λi=>decide (i∉ks))++D.map (·.1))++k::(s.filter (λi=>decide (i∈ks))++rest):=by
    simp[hk]
   rw[hsplit] at hx;have hnm:((s.filter (λi=>decide (i∉ks))++D.map (·.1))++k::(s.filter (λi=>decide (i∈ks))++rest)).Nodup:=by
    rw[<-hsplit];have h1:(D.map (·.1)++(k::s)).Nodup:=hn
    have h2:=hn2;rw[al6] at h1 h2⊢;refine⟨h1.2.1.filter _,?_,λa ha b hb e=>?_⟩
    .rw[al6,al6];refine⟨⟨h1.1,h1.2.1.filter _,λa ha b hb=>h1.2.2 a ha b (List.mem_filter.1 hb).1⟩,h2.2.1,λa ha b hb=>?_⟩;rcases List.mem_append.1 ha with ha|ha
     .obtain⟨x,hx,rfl⟩:=List.mem_map.1 ha;exact λe=>hnr x hx (e▸hb)
     .exact h2.2.2 a (List.mem_filter.1 ha).1 b hb
    .subst e;obtain⟨a1,a2⟩:=List.mem_filter.1 ha;rcases List.mem_append.1 hb with hb|hb
     .rcases List.mem_append.1 hb with hb|hb
      .exact h1.2.2 a hb a a1 rfl
      .have:=(List.mem_filter.1 hb).2;simp at a2 this;exact a2 this
     .exact h2.2.2 a a1 a hb rfl
   obtain⟨Af,Ck,Kk,E',L',h',hrun,hK,_⟩:=Ei _ _ _ _ _ (by rw[BE];exact hnm) hx;rw[BE] at hrun;have lA:∀j,j∈s.filter (λi=>decide (i∉ks))++D.map (·.1)->∀o',ops[j]?=some o'->d∉eO ops o'/\o'.dst≠some d:=λj hj o' ho'=>by
    rcases List.mem_append.1 hj with hj|hj
    .have hjs:=(List.mem_filter.1 hj).1;obtain⟨q1,q2⟩:=hc j (BY _ hjs) o' ho' k hk d hkd;exact⟨q1,q2 λe=>(List.nodup_cons.1 hn2).1 (acC _ (e▸hjs))⟩
    .obtain⟨x,hx,rfl⟩:=List.mem_map.1 hj;obtain⟨_,_,_,o2,t',z',c4,c5,c6,c7,_⟩:=pd.one x hx;rw[c4] at ho';cases ho';exact⟨by simp[eO,c5,c6,Op.operands],λe=>dD x hx (by rw[c7] at e;exact acZ e)⟩
   have hx:=Ej _ A _ _ (hrun.del (λo' ho'=>by rw[ho] at ho';cases ho';exact hd) _ (λj hj o' ho'=>by
    rcases List.mem_append.1 hj with hj|hj
    .exact (lA j hj o' ho').1
    .rw[ac1] at hj;subst hj;rw[ho] at ho';cases ho';exact hrk) λj hj o' ho'=>(lA j hj o' ho').2) hK
   obtain⟨z,hz⟩:∃z,zeroOf P t=some z:=by
    obtain⟨s,s',o',r',ho',_,_,hact,_⟩:=hrun.mem (k:=k) (by simp);rw[ho] at ho';cases ho';simp only[act,want,hg,ex,hop,yY] at hact;cases hz:zeroOf P t with
    |none=>simp[hz,Act.exec,lU] at hact
    |some z=>exact⟨z,rfl⟩
   have hwd:GI W (some d)=true:=by
    obtain⟨s,s',o',r',ho',hW,_⟩:=hrun.mem (k:=k) (by simp);rw[ho] at ho';cases ho';rw[<-hd];exact hW
   obtain⟨hfl,hz1,_⟩:=fE hz;have hnone:F0 w.heap.size=none:=by
    cases hc:F0 w.heap.size with
    |none=>rfl
    |some ob=>have:=(Array.getElem?_eq_some_iff.1 (R0.lA _ ob hc)).1;omega
   have R1:Rel P (Lh F0 w.heap.size (.cells z.cells t (0,0)) False) ι0 h { w with heap:=w.heap.push (.cells z.cells t (0,0)) }:=by
    refine (R0.TN _).TO (by simp) (λn l hl=>?_) λm r hm=>?_
    .have:=hold R0 n l hl;omega
    .obtain⟨_,es,c,q⟩:=R0.mp.loc m r hm
     grind
   have hrun:(execOp a.eval o).run P w=.ok (.value (.pointer (some ⟨w.heap.size,0,none⟩))) { w with heap:=w.heap.push (.cells z.cells t (0,0)) }:=by
    unfold execOp;simp[hop,Instr.alloc,hz1,newVar,newRow]
   have hlt:d<a.tmps.size:=Nat.lt_of_lt_of_eq (Rq hwd) (show W.1=a.tmps.size from hs.symm);rw[acV];simp only[wpOps,ho];rw[By (by simp[Region.wanted,hg])];refine .inl ?_;unfold Oper.wp;rw[hrun];have hF1:=Jn.add (o:=.cells z.cells t (0,0)) (q:=False) hnone;have ht1:∀x∈D,(a.put (some d) (.pointer (some ⟨w.heap.size,0,none⟩))).tmps[x.2.1]?=t1[x.2.1]?:=λx hx=>by
    rw[<-hfr.Da (anE hx)];have:=dD x hx;simp[Act.put]
    grind
   have pd':aih P W ops G (Lh F0 w.heap.size (.cells z.cells t (0,0)) False) (a.put (some d) (.pointer (some ⟨w.heap.size,0,none⟩))).tmps (D++[(k,d,w.heap.size)]):=by
    have bD:∀x∈D,x.2.2≠w.heap.size:=λx hx e=>by
     obtain⟨_,_,_,_,_,_,_,_,_,_,_,c9,_⟩:=pd.one x hx;have:=hF0.1 _ _ c9;rw[e,hnone] at this;cases this
    refine⟨λx hx=>?_,?_,?_⟩
    .rcases List.mem_append.1 hx with hx|hx
     .obtain⟨c1,c2,c3,o',t',z',c4,c5,c6,c7,c8,c9,c10⟩:=pd.one x hx;have c11:=(hF0.trans hF1).1 _ _ c9;exact⟨c1,(ht1 x hx).trans c2,c3,o',t',z',c4,c5,c6,c7,c8,c11,λq=>c10 (((hF0.trans hF1).2.1.2 _ _ c9).1 q)⟩
     .rw[ac1] at hx;subst hx;refine⟨hwd,by simp[Act.put,hlt],?_,o,t,z,ho,hop,hg,hd,hz,by simp[Lh],by simp[Lh]⟩;cases hc:G w.heap.size with
      |none=>rfl
      |some ob=>rw[(hF.trans hF0).1 _ _ hc] at hnone;cases hnone
    .rw[ahO,al6];exact⟨pd.ds,by simp,λa ha b hb e=>by
      obtain⟨x,hx,rfl⟩:=List.mem_map.1 ha;simp at hb;exact dD x hx (e.trans hb)⟩
    .rw[ahO,al6];exact⟨pd.bs,by simp,λa ha b hb e=>by
      obtain⟨x,hx,rfl⟩:=List.mem_map.1 ha;simp at hb;exact bD x hx (e.trans hb)⟩
   have step:=JJ HT (K:=K) (r:=r) hlib hQ hks s (D++[(k,d,w.heap.size)]) pd' ((hf.trans hfr.Yq).trans (Fw.put hwd _)) (hι.trans hle) ((hF.trans hF0).trans hF1) (λx hx=>by
    rcases List.mem_append.1 hx with hx|hx
    .exact hD x hx
    .rw[ac1] at hx;subst hx;exact hk) (λj hj=>hc j (BY _ hj)) (by simpa using hn) hn2' (λx hx=>by
    rcases List.mem_append.1 hx with hx|hx
    .exact hnr x hx
    .rw[ac1] at hx;subst hx;exact λq=>(List.nodup_cons.1 hn2).1 (OF _ q)) hdd
   have e:∀{N:Go.Act->Prop},N (a.put (some d) (.pointer (some ⟨w.heap.size,0,none⟩)))->N (a.put o.dst (.pointer (some ⟨w.heap.size,0,none⟩))):=λh=>by rw[hd];exact h
   refine e (N:=λa=>wpOps P ops Q (s++rest) a _) (step _ _ _ _ _ _ _ _ R1 (λj u hj=>?_) ((HL.mono hF1 (.refl _)).del _ _) hdf (by simpa[Act.put,Wr.Yq] using hs) (.refl _ _) (.refl _) (.refl _) (by simpa using hx));simp only[Env.del,bf] at hj;split at hj
   .cases hj
   .rename_i hne;obtain⟨u',x1,x2⟩:=HE j u hj;exact⟨u',by simp[Act.put];grind,x2⟩
  .have ih:=JJ HT (K:=K) (r:=r) hlib hQ hks s D pd hf hι hF hD (λj hj=>hc j (BY _ hj)) (hn.sublist ((ahy k s).append_left _)) hn2' hnr hdd;have:=GR HT ih [(k,[])] (λi o' hi ho' hw=>by
    simp at hi;subst hi;refine adn hw λd' hd'=>?_;obtain⟨x,hx,rfl⟩:=List.mem_map.1 hd';obtain⟨d2,hkd⟩:=hks x.1 (hD x hx);obtain⟨_,_,_,o2,t',z',c4,c5,c6,c7,_⟩:=pd.one x hx;have e:yc ops x.1=some x.2.1:=(by unfold yc;rw[c4];simp only[c5,c6,c7]);exact (hc i (IS ..) o' ho' x.1 (hD x hx) _ e).2 λq=>hk (q▸hD x hx))
   simpa[hk] using this
end Late
theorem JK {l:η}{i j}(h:Fg l i j):i∈l/\j∈l:=⟨h.subset (by simp),h.subset (by simp)⟩
theorem RB {a b:η}{i j}(hi:i∈a)(hj:j∈b):Fg (a++b) i j:=(aom (List.singleton_sublist.2 hi) (List.singleton_sublist.2 hj):List.Sublist ([i]++[j]) _)
theorem V2 {R}{C}(HT:BC P C){F}{ι}{W}{nb}{ops}{l}{K:Env->M R}{r}{t0}(hlib:Fs F){Q}(hQ:∀a w,YZ P F ι W t0 K r a w->Q .normal a w)(hok:Rd P C.mo ops l=true) t {E h a w}
  (R0:Rel P F ι h w) (HE:lv P ι E a.tmps) (hd:a.defers=F.QZ) (hs:a.tmps.size=W.1) (hfr:Fw W t0 a.tmps) (hx:jn P C W (some nb) ops l E fK.emp (λ_=>none) K h=some r) :
  wpOps P ops Q (Region.schedule (P.follows .mixedOrders) ops t) a w:=by
 unfold Rd at hok;simp only[abw] at hok;obtain⟨⟨⟨hmx,hpm⟩,hed⟩,hpr⟩:=hok;rw[Region.schedule,hmx,Bool.true_or,By rfl];have hpm:=List.isPerm_iff.1 hpm;have hlt:∀i o e,ops[i]?=some o->e∈o.after.toList->Region.binds .any e=true->e.on<i:=by
  intro i o e ho he hb;rw[al1] at hed;have h1:=hed (o,i) (by
   grind)
  simp only[al1] at h1;have h2:=h1 e he;rw[HR,hb] at h2
  simp_all
 obtain⟨s1,s2,s3⟩:=JB hlt t;generalize Region.linearise .any ops t=σ at s1 s2 s3;have hnd:(l.map (·.1)).Nodup:=(hpm.nodup_iff).2 ama
 obtain⟨Af,Ck,Kk,E',L',h',hrun,hK,hks⟩:=Ei l E fK.emp (λ_=>none) h hnd hx;have hp:=JG s1 (λi o e a b c=>s3 i o e a b (by grind [HR])) ops.toList [] (by simp) (by simp);have hmap:∀l:η,(l.map λi=>(i,([]:η))).map (·.1)=l:=λl=>by induction l<;>simp_all
 have hmem:∀x,x∈σ↔x∈l.map (·.1):=λx=>(hpm.trans s2.symm).mem_iff.symm
 have hsz:∀x,x∈σ->∃o,ops[x]?=some o:=λx hx=>by
  have:=List.mem_range.1 (s2.mem_iff.1 hx);exact⟨ops[x],by simp[this]⟩
 have swap:∀i j cj,(j,cj)∈l->Fg (l.map (·.1)) i j->(∃o p,ops[i]?=some o/\ops[j]?=some p/\OO P C.mo ops o p (Bx cj i)=true) ->
   ∀s s1 s2,Step P C W nb ops Af Ck Kk i s s1->Step P C W nb ops Af Ck Kk j s1 s2->∃s1',Step P C W nb ops Af Ck Kk j s s1'/\Step P C W nb ops Af Ck Kk i s1' s2:=by
  intro i j cj hm hij hsw s s1' s2' q1 q2;obtain⟨o,p,ho,hp',hsw⟩:=hsw;refine adm HT.mo ho hp' ?_ hsw ?_ ?_ q1 q2
  .rintro rfl;exact oX hnd hij hij
  .grind [pO]
  .intro hck hal;have hmem:=pO.1 hck;rw[(hks j cj hm i hmem).2.2];unfold H8
   grind
 unfold YE at hpr;simp only[abw] at hpr;obtain⟨⟨hpr,hbk⟩,hlk⟩:=hpr;generalize hks':(yD P C.mo ops (vf ops.toList) [] l).map (·.1)=ks at hpr hbk
 generalize hbad':(yD P C.mo ops (vf ops.toList) [] l).flatMap (·.2.2)=bad at hbk hlk
 have late:∀k∈ks,∃d b,(k,d,b)∈yD P C.mo ops (vf ops.toList) [] l:=λk hk=>by
  rw[<-hks'] at hk;obtain⟨⟨k',d,b⟩,h1,rfl⟩:=List.mem_map.1 hk;exact⟨d,b,h1⟩
 have hlk:∀k∈ks,∀d,yc ops k=some d->∀b o,ops[b]?=some o->(d∈eO ops o->k∈(vf ops.toList).getD b [])/\(b≠k->o.dst≠some d)/\(k∈(vf ops.toList).getD b []->∀c∈bad,c∈(vf ops.toList).getD b []):=λk hk d hd b o ho=>by
  obtain⟨d',b',hm⟩:=late k hk;have hd':=(y9 hm).1;rw[hd] at hd';cases hd';have h1:=List.all_eq_true.1 (List.all_eq_true.1 hlk _ hm) (o,b) (by grind);simp only[abw,anU,aot,al1] at h1;obtain⟨⟨h1,h2⟩,h3⟩:=h1;refine⟨λh=>?_,λhb hd=>?_,λh c hc=>?_⟩
  .grind [pO]
  .rcases h2 with h2|h2
   .exact hb (IT h2)
   .rw[hd] at h2;simp[al3] at h2
  .grind [pO]
 have hbk:∀c∈bad,c∉ks:=λc hc=>by
  have:=List.all_eq_true.1 hbk c hc
  grind [pO]
 obtain⟨s,rest,rfl,hc1,hc2⟩:=Y5 (Bx bad) σ;have hperm:(s.filter (λi=>decide (i∉ks))++(s.filter (λi=>decide (i∈ks))++rest)).Perm (s++rest):=by
  rw[<-acX];refine aow _ ?_;have:=List.filter_append_perm (λi=>decide (i∉ks)) s;simpa using this
 generalize hm:s.filter (λi=>decide (i∉ks))++(s.filter (λi=>decide (i∈ks))++rest)=m at hperm;have hnm:=hperm.nodup_iff.2 s1;have noq:∀x∈s,∀k∈ks,k∉(vf ops.toList).getD x []:=λx hx k hk hkx=>by
  obtain⟨o,ho⟩:=hsz x (by simp[hx]);obtain⟨d,b,hm⟩:=late k hk;obtain⟨c,h1,h2⟩:=hc2 x hx;have h3:=hp x c ((hlk k hk d (y9 hm).1 x o ho).2.2 hkx c (pO.1 h1));rcases h2 with rfl|h2
  .exact oX s1 h3 h3
  .exact oX s1 h3 (h2.trans (ang s rest))
 have inR:∀{i j},j∈rest->Fg m j i->Fg (s++rest) j i:=λ{i j} hj hb=>by
  subst hm;have hir:i∈rest:=adj λhir=>by
   have hi:=(JK hb).2;rw[<-acX] at hi hb hnm;rcases List.mem_append.1 hi with hi|hi
   .exact oX hnm hb (RB hi hj)
   .exact hir hi
  have:=hb.filter λx=>decide (x∈rest);have e:([j,i]:η).filter (λx=>decide (x∈rest))=[j,i]:=by simp[hj,hir]
  rw[e] at this;have nr:∀x∈rest,x∉s:=λx hx hs=>(List.nodup_append.1 s1).2.2 x hs x hx rfl;have e2:(s.filter (λi=>decide (i∉ks))++(s.filter (λi=>decide (i∈ks))++rest)).filter (λx=>decide (x∈rest))=rest:=by
   rw[anV,anV,List.filter_eq_nil_iff.2,List.filter_eq_nil_iff.2,List.filter_eq_self.2]<;>simp
   .exact λa ha _ hr=>nr a hr ha
   .exact λa ha _ hr=>nr a hr ha
  rw[e2] at this;exact this.trans (ahY s rest)
 have Ve:∀{i j},(i∈ks↔j∈ks)->Fg m j i->Fg (s++rest) j i:=λ{i j} hij hb=>by
  subst hm;by_cases hi:i∈ks
  .have:=hb.filter λx=>decide (x∈ks);have e:([j,i]:η).filter (λx=>decide (x∈ks))=[j,i]:=by simp[hi,hij.1 hi]
   rw[e] at this;refine this.trans ?_;simp only[anV,List.filter_filter];have e1:s.filter (λa=>decide (a∈ks)&&decide (a∉ks))=[]:=List.filter_eq_nil_iff.2 λa _=>by simp
   rw[e1,afk];exact aom (anS) (anS)
  .have:=hb.filter λx=>decide (x∉ks);have hj:j∉ks:=λq=>hi (hij.2 q);have e:([j,i]:η).filter (λx=>decide (x∉ks))=[j,i]:=by simp[hi,hj]
   rw[e] at this;refine this.trans ?_;simp only[anV,List.filter_filter];have e1:s.filter (λa=>decide (a∉ks)&&decide (a∈ks))=[]:=List.filter_eq_nil_iff.2 λa _=>by simp
   rw[e1,afk];exact aom (anS) (anS)
 have before:∀{i j},i∈s->i∉ks->(j∈rest\/j∈s/\j∈ks)->Fg m i j:=λ{i j} hi hk hj=>by
  subst hm;refine RB (List.mem_filter.2 ⟨hi,by simpa using hk⟩) ?_;rcases hj with hj|⟨h1,h2⟩
  .exact OF _ hj
  .exact acC _ (List.mem_filter.2 ⟨h1,by simpa using h2⟩)
 have where':∀{x},x∈m->x∈s\/x∈rest:=λhx=>List.mem_append.1 (hperm.mem_iff.1 hx);have lin:∀{i j},i∈(vf ops.toList).getD j []->¬Fg m j i:=λ{i j} hij hb=>by
  have h1:=hp j i hij;rcases where' (JK hb).1 with hj|hj
  rotate_left
  .exact oX s1 h1 (inR hj hb)
  by_cases hik:i∈ks
  .exact noq j hj i hik hij
  .by_cases hjk:j∈ks
   .rcases where' (JK hb).2 with hi|hi
    .exact oX hnm hb (before hi hik (.inr ⟨hj,hjk⟩))
    .exact oX s1 h1 (RB hj hi)
   .exact oX s1 h1 (Ve ⟨λq=>absurd q hik,λq=>absurd q hjk⟩ hb)
 have hany:=GC.any m (l.map (·.1)) ((hpm.trans s2.symm).trans hperm.symm) (λi j hij hji=>by
  have ok:∀cj,(j,cj)∈l->M4 P C.mo ops (vf ops.toList) i j cj=true->∀s s1 s2,Step P C W nb ops Af Ck Kk i s s1->Step P C W nb ops Af Ck Kk j s1 s2->∃s1',Step P C W nb ops Af Ck Kk j s s1'/\Step P C W nb ops Af Ck Kk i s1' s2:=λcj hm hc=>by
   rcases V1 hc with hc|hsw
   .exact absurd hji (lin hc)
   .exact swap i j cj hm hij hsw
  obtain⟨cj,hm,hc⟩:=JH hpr i j hij;rcases hc with hc|hjk
  .exact ok cj hm hc
  .obtain⟨d,b,hlm⟩:=late j hjk;obtain⟨_,_,ck,hck,hb⟩:=y9 hlm;rcases hb i (.inr hij) (by simp) hnd with hc|hc
   .exact ok ck hck hc
   .have hib:i∈bad:=(by rw[<-hbad'];exact List.mem_flatMap.2 ⟨_,hlm,hc⟩);exfalso;have his:i∈s:=(where' (JK hji).2).resolve_right λq=>by
     have:=hc1 i q;rw[pO.2 hib] at this;cases this
    refine oX hnm hji (before his (hbk i hib) ?_);rcases where' (JK hji).1 with q|q
    .exact .inr ⟨q,hjk⟩
    .exact .inl q) hrun
 have hl:=JJ HT (K:=K) (r:=r) (nb:=nb) hlib hQ (rest:=rest) (ks:=ks) (λk hk=>let ⟨d,b,hm⟩:=late k hk;⟨d,(y9 hm).1⟩) s [] (t1:=a.tmps) (ι1:=ι) (F1:=F) ⟨λx hx=>(by cases hx),apl,apl⟩ hfr (.refl _) (.refl _) (λx hx=>(by cases hx))
  (λj hj o ho k hk d hd=>⟨λhr=>noq j hj k hk ((hlk k hk d hd j o ho).1 hr),(hlk k hk d hd j o ho).2.1⟩) (s1.sublist (ang s rest)) s1 (λx hx=>(by cases hx)) λk hk k' hk' d h1 h2=>adj λhne=>by
   obtain⟨o,_,ho,_,_,hd⟩:=JI h1;exact (hlk k' hk' d h2 k o ho).2.1 hne hd
 simp only[apD,afk] at hl;rw[hm] at hl;exact hl E fK.emp (λ_=>none) F ι h a w R0 HE .emp hd (by simpa[Wr.Yq] using hs) (.refl _ _) (.refl _) (.refl _) (Ej _ (λ_=>none) (E,fK.emp,h) (E',L',h') hany hK)
end Go.Ago
