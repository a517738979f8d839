
import Derived.Test.YtajnpfnomgjlaaaGreatDoorAgoF
set_option linter.all false
namespace Go.Ago
open Go
variable {P:Program}{h h' h1:ai}
section Trace
variable {S:Type}
inductive CP (Step:Nat->S->S->Prop):η->S->S->Prop where
 |nil (s:S):CP Step [] s s
 |cons {i:Nat} {l:η} {s s1 s2:S}:Step i s s1->CP Step l s1 s2->CP Step (i::l) s s2
theorem CP.mono {St St':Nat->S->S->Prop}:∀{l} {s f},(∀i∈l,∀s s',St i s s'->St' i s s')->CP St l s f->CP St' l s f
 |[],_,_,_,.nil _=>.nil _
 |_::_,_,_,hc,.cons h1 h2=>.cons (hc _ (OF ..) _ _ h1) (CP.mono (λi hi=>hc i (IN _ hi)) h2)
abbrev LU (l:η)(i j:Nat):Prop:=[i,j].Sublist l
theorem CP.front {Step:Nat->S->S->Prop}{x}:∀t1 {t2} {s f},(∀y∈t1,∀s s1 s2,Step y s s1->Step x s1 s2->∃s1',Step x s s1'/\Step y s1' s2) ->
  CP Step (t1++x::t2) s f->CP Step (x::(t1++t2)) s f
 |[],t2,s,f,_,hr=>hr
 |y::t1,t2,s,f,hc,hr=>by
  cases hr with
  |cons h1 h2=>
   have ih:=CP.front t1 (λz hz=>hc z (IN _ hz)) h2;cases ih with
   |cons h3 h4=>
    obtain⟨s1',q1,q2⟩:=hc y (OF ..) _ _ _ h1 h3;exact .cons q1 (.cons q2 h4)
theorem CP.any {Step:Nat->S->S->Prop}:∀σ τ {s f},τ.Perm σ ->
  (∀i j,LU τ i j->LU σ j i->∀s s1 s2,Step i s s1->Step j s1 s2->∃s1',Step j s s1'/\Step i s1' s2)->CP Step τ s f->CP Step σ s f
 |[],τ,s,f,hp,_,hr=>by
  simp_all
 |x::σ,τ,s,f,hp,hc,hr=>by
  have hx:x∈τ:=hp.symm.subset (OF ..);obtain⟨t1,t2,rfl⟩:=List.append_of_mem hx;have hp':(t1++t2).Perm σ:=by
   have h1:(x::(t1++t2)).Perm (x::σ):=(List.perm_middle.symm).trans hp;exact h1.cons_inv
  have hf:=CP.front t1 (λy hy=>?_) hr
  .cases hf with
   |cons h1 h2=>
    refine .cons h1 (CP.any σ (t1++t2) hp' (λi j hij hji=>hc i j ?_ ?_) h2)
    .grind
    grind
  grind
end Trace
theorem Dd:∀{l} {i j},l.Nodup->LU l i j->LU l j i->False
 |[],_,_,_,h,_=>by cases h
 |x::l,i,j,hn,h1,h2=>by
  obtain⟨hx,hn⟩:=List.nodup_cons.1 hn;cases h1 with
  |cons _ h1=>
   cases h2 with
   |cons _ h2=>exact Dd hn h1 h2
   |cons_cons _ h2=>grind
  |cons_cons _ h1=>
   grind
theorem Io:∀{l} {i j k},l.Nodup->LU l i j->LU l j k->LU l i k
 |[],_,_,_,_,h,_=>by cases h
 |x::l,i,j,k,hn,h1,h2=>by
  obtain⟨hx,hn⟩:=List.nodup_cons.1 hn;cases h1 with
  |cons _ h1=>
   cases h2 with
   |cons _ h2=>exact .cons _ (Io hn h1 h2)
   |cons_cons _ h2=>grind
  |cons_cons _ h1=>
   grind
theorem OH:∀{l1 l2:η},l1.Nodup->(∀i∈l1,i∈l2)->l1.length<=l2.length
 |[],_,_,_=>agD _
 |x::l,l2,hn,hs=>by
  obtain⟨hx,hn⟩:=List.nodup_cons.1 hn;have h1:=OH hn λi hi=>(List.mem_erase_of_ne (λe=>hx (by subst e;exact hi))).2 (hs i (IN _ hi))
  grind
section Orders
variable {ops:Array Oper}
theorem QD (hlt:∀i o e,ops[i]?=some o->e∈o.after.toList->Region.binds .any e=true->e.on<i) :
  ∀fuel t listed acc ,fuel+acc.length=ops.size->listed.size=ops.size->acc.Nodup ->
   (∀i,i<ops.size->(listed.getD i true=true↔i∈acc))->(∀i∈acc,i<ops.size) ->
   (∀i o e,ops[i]?=some o->i∈acc->e∈o.after.toList->Region.binds .any e=true->LU acc.reverse e.on i) ->
   ∃l,Region.linearise.go .any ops fuel t listed acc=l/\l.length=ops.size/\l.Nodup/\(∀i∈l,i<ops.size) /\
    (∀i o e,ops[i]?=some o->i∈l->e∈o.after.toList->Region.binds .any e=true->LU l e.on i)
 |0,t,listed,acc,hl,hs,hn,hm,hb,hr=>⟨acc.reverse,rfl,by simp;omega,by grind,by simpa using hb,λi o e h1 h2 h3 h4=>hr i o e h1 (by simpa using h2) h3 h4⟩
 |fuel+1,t,listed,acc,hl,hs,hn,hm,hb,hr=>by
  unfold Region.linearise.go;generalize hrs:((List.range ops.size).filter λi=>!listed.getD i true&&((ops[i]?).map (·.after.all λe=>!Region.binds .any e||listed.getD e.on false)).getD false)=rs
  have hmem:∀i,i∈rs↔i<ops.size/\i∉acc/\∃o,ops[i]?=some o/\∀e∈o.after.toList,Region.binds .any e=true->e.on∈acc:=by
   intro i;subst hrs;rw[ajU,ajZ];refine and_congr_right λhi=>?_;have ho:ops[i]?=some ops[i]:=by simp[hi]
   rw[ho];have h1:(!listed.getD i true)=true↔i∉acc:=by
    grind
   rw[ach,h1];refine and_congr_right λ_=>?_;simp only[ahH,Option.getD_some,adA,exists_eq_left',Array.all_eq_true',ajr,ajG,Array.mem_toList_iff]
   grind
  have hne:rs≠[]:=by
   have hex:∃i,i<ops.size/\i∉acc:=by
    by_cases hc:∃i,i<ops.size/\i∉acc
    .exact hc
    .exfalso;have:=OH aho λi hi=>by
      by_cases hia:i∈acc
      .exact hia
      .exact absurd ⟨i,List.mem_range.1 hi,hia⟩ hc
     simp at this;omega
   obtain⟨i,hi⟩:=hex;have hmin:∀n i,i<=n->i<ops.size/\i∉acc->∃k,k<ops.size/\k∉acc/\∀m,m<k->m∈acc:=by
    intro n
    induction n with
    |zero=>
     grind
    |succ n ih=>
     intro i h0 hi;by_cases hc:∃m,m<=n/\m<i/\m∉acc
     .obtain⟨m,h1,h2,h3⟩:=hc;exact ih m h1 ⟨by omega,h3⟩
     grind
   obtain⟨k,h1,h2,h3⟩:=hmin i i (abi _) hi;have:k∈rs:=(hmem k).2 ⟨h1,h2,ops[k],by simp[h1],λe he hbd=>h3 _ (hlt k _ e (by simp[h1]) he hbd)⟩
   grind
  have hlen:0<rs.length:=List.length_pos_iff.2 hne;have hget:rs[t%rs.length]?=some (rs[t%rs.length]'(aj4 _ hlen)):=ace _;simp only[hget];have hi:=(hmem _).1 (aif (aj4 t hlen));generalize rs[t%rs.length]'(aj4 _ hlen)=i at hi;obtain⟨h1,h2,o,ho,h3⟩:=hi;refine QD hlt fuel _ _ (i::acc) (by simp;omega) (by simp[hs]) (List.nodup_cons.2 ⟨h2,hn⟩) (λj hj=>?_) (λj hj=>?_) (λj o' e hj hjm he hbd=>?_)
  .by_cases hij:i=j
   .subst hij;simp[ah2,aiH,hs,hj]
   .rw[List.mem_cons];have:(listed.setIfInBounds i true).getD j true=listed.getD j true:=by
     simp[ah2,aiH,hij]
    grind
  .grind
  .rw[List.reverse_cons]
   grind
theorem Gb (hlt:∀i o e,ops[i]?=some o->e∈o.after.toList->Region.binds .any e=true->e.on<i) t :
  (Region.linearise .any ops t).Nodup/\(Region.linearise .any ops t).Perm (List.range ops.size) /\
   (∀i o e,ops[i]?=some o->e∈o.after.toList->Region.binds .any e=true->LU (Region.linearise .any ops t) e.on i):=by
 obtain⟨l,e,hl,hn,hb,hr⟩:=QD hlt ops.size t (Array.replicate ops.size false) [] (by simp) (by simp) List.nodup_nil
  (λi hi=>by simp_all) (by simp) (by simp)
 rw[Region.linearise];have hp:l.Perm (List.range ops.size):=(List.perm_ext_iff_of_nodup hn aho).2 λi=>⟨λhi=>List.mem_range.2 (hb i hi),λhi=>by
  by_cases hc:i∈l
  .exact hc
  .have:=OH (List.nodup_cons.2 ⟨hc,hn⟩) (l2:=List.range ops.size) λj hj=>by
    grind
   simp at this;omega⟩
 grind
end Orders
inductive Z7 where
 |val (v:ξ)
 |lit (x:Nat×δ)
def Env.res (E:Env)(d:μ):Z7->Env
 |.val v=>E.put d v
 |.lit _=>E.del d
def jl.res (L:jl)(d:μ):Z7->jl
 |.val _=>L.del d
 |.lit x=>L.put d x
def nH (m:Option (ξ×ai)):Option (Z7×ai):=match m with
 |some (v,h)=>some (.val v,h)
 |none=>none
def ex (P:Program)(C:sT)(nm:Nat)(ops:Array Oper)(E:Env)(L:jl)(o:Oper):M Z7:=λh=>
 match o.op with
 |.pick c a b=>(match E.ev c with
  |some (.bool true)=>(match E.ev a with|some v=>some (.val v,h)|none=>none)
  |some (.bool false)=>(match E.ev b with|some v=>some (.val v,h)|none=>none)
  |_=>none)
 |.call c=>(match isBuiltin c with
  |true=>(match vE L c with
   |some (n,cs)=>nH ((yM (B8 ops o) E c (rK P (!Au ops o) E c n cs)).exec h)
   |none=>(match Au ops o with
    |true=>none
    |false=>nH ((yM (B8 ops o) E c (xH P (some nm) E o)).exec h)))
  |false=>(match rJ C c with
   |some t=>(match uY E t c with
    |some (x,vs)=>(match C.dy t x vs with
     |some ca=>(match ca.m h with|some (x,h')=>some (.val (ca.pk x),h')|none=>none)
     |none=>none)
    |none=>none)
   |none=>(match callee E c with
    |some (f,vs)=>(match C.st f vs with
     |some ca=>(match ca.m h with|some (x,h')=>some (.val (ca.pk x),h')|none=>none)
     |none=>none)
    |none=>none)))
 |.buildSlice _ _ _=>(match yF P ops E o with
  |some x=>some (.lit x,h)
  |none=>nH ((xH P (some nm) E o).exec h))
 |_=>nH ((xH P (some nm) E o).exec h)
def want (ops:Array Oper)(E:Env)(o:Oper):Option Bool:=
 match o.guard with
 |none=>some true
 |some (j,w)=>(match (ops[j]?).bind (·.dst) with
  |some t=>(match E t with
   |some (.bool b)=>some (b==w)
   |some (.tuple _)=>some false
   |_=>none)
  |none=>none)
def act (P:Program)(C:sT)(nm:Nat)(ops:Array Oper)(E:Env)(L:jl)(o:Oper):M Z7:=λh=>
 match want ops E o with
 |some true=>ex P C nm ops E L o h
 |some false=>some (.val undef,h)
 |none=>none
abbrev St:=Env×jl×ai
def A3 (E:Env)(o:Oper):θ:=
 match o.op with
 |.store _ x _=>(match E.ev x with|some (.pointer p)=>p|_=>none)
 |_=>none
def xO (E:Env)(o:Oper)(h:ai)(ks:η):Prop:=xd o=true->ks≠[]->∃a,A3 E o=some a/\ZO h a ks=true
def Step (P:Program)(C:sT)(W:Wr)(nb:Nat)(ops:Array Oper)(Af:Nat->θ)(Ck:Nat->List θ)(Kk:Nat->η)(i:Nat)(s s':St):Prop:=
 ∃o r,ops[i]?=some o/\LS W o.dst=true/\(want ops s.1 o=some true->nO s.1 o=Af i)/\act P C (nb+i) ops s.1 s.2.1 o s.2.2=some (r,s'.2.2) /\
  s'.1=s.1.res o.dst r/\s'.2.1=s.2.1.res o.dst r/\(zh ops o=true->sameAt s.2.2 s'.2.2 (Ck i)=true)/\(want ops s.1 o=some true->xO s.1 o s.2.2 (Kk i))
theorem gb.of {h h' b}(e:h'.get b.block=h.get b.block):gb h h' b:=by
 unfold gb
 grind
theorem gb.cast {h h' g g' b}(hs:gb h h' b)(e:g.get b.block=h.get b.block)(e':g'.get b.block=h'.get b.block):gb g g' b:=by
 grind [gb]
theorem sameAt_refl h:∀l,sameAt h h l=true
 |[]=>rfl
 |none::r=>sameAt_refl h r
 |some b::r=>by
  unfold sameAt;split
  .exact sameAt_refl h r
  .rename_i q _;exact absurd (gb.of rfl) q
theorem tx {h h'}:∀{l} {a},sameAt h h' l=true->some a∈l->gb h h' a
 |[],_,_,hm=>by cases hm
 |none::r,a,hs,hm=>by
  rcases List.mem_cons.1 hm with q|q
  .cases q
  .exact tx (l:=r) hs q
 |some b::r,a,hs,hm=>by
  unfold sameAt at hs;split at hs
  .rename_i q _;rcases List.mem_cons.1 hm with e|e
   .cases e;exact q
   .exact tx hs e
  .cases hs
theorem rP {E:Env}{t v}(h:E t=some v):E.set t v=E:=by
 funext j;unfold Env.set
 grind [Nat.eq_of_beq_eq_true]
theorem xP {E:Env}{c b}(h:E.ev c=some (.bool b)):E.uq c b=E:=by
 unfold Env.uq;split
 .exact rP h
 .rfl
theorem Gc {R}{r:R×ai}{K}:∀{A:Act} {h},A.run K h=some r↔∃v h',A.exec h=some (v,h')/\K v h'=some r
 |.val v,h=>by
  simp[Act.run,Act.exec,adA,air]
  grind
 |.none,h=>by simp[Act.run,Act.exec,AS]
 |.ask α m k,h=>by
  simp[Act.run,Act.exec,sh];cases hm:m h with
  |none=>simp
  |some x=>exact Gc
theorem MJ {α as}{m:M α}{h x}(hx:k8 as m h=some x):m h=some x/\sameAt h x.2 as=true:=by
 grind [k8]
theorem Gd {α as}{m:M α}{h x}(hx:wrapM as m h=some x):m h=some x/\sameAt h x.2 as=true:=by
 unfold wrapM at hx;split at hx
 .exact⟨hx,rfl⟩
 .exact MJ hx
theorem OJ {as A h x}(hx:(td as A).exec h=some x) :
  A.exec h=some x/\(∀α m (v:α->ξ),A=.ask α m (λy=>.val (v y))->sameAt h x.2 as=true):=by
 unfold td at hx;split at hx
 .split at hx
  .exact⟨hx,λ_ _ _ _=>rfl⟩
  .simp only[Act.exec] at hx⊢;split at hx
   .rename_i m k _ _ _ y h2 hc;obtain⟨h1,h2⟩:=MJ hc;rw[h1];refine⟨hx,λα' m' v e=>?_⟩;cases e;cases hx;exact h2
   .cases hx
 grind
theorem Bi {b}(h:Ba b=.sil):False:=by cases b<;>cases h
theorem vr {b}(h:Ba b=.ro):False:=by cases b<;>cases h
theorem qO {b}(h:Ba b=.mro):False:=by cases b<;>cases h
theorem pU {b}(h:Ba b=.alloc):False:=by cases b<;>cases h
theorem tA {b}(h:Ba b=.mka):False:=by cases b<;>cases h
theorem Ge {b}(h:Ba b=.add):b=false:=by cases b<;>first|rfl|cases h
theorem De {h b E c A r}(e:nH ((yM b E c A).exec h)=some r):yM b E c A=A:=by
 cases q:(yM b E c A).exec h with
 |none=>rw[q] at e;cases e
 |some v=>exact CT q
theorem MK {E c n cs} b:(∃α m,∃v:α->ξ,rK P b E c n cs=.ask α m (λy=>.val (v y)))\/rK P b E c n cs=.none:=by
 unfold rK
 repeat' (first|exact .inr rfl|exact .inl ⟨_,_,_,rfl⟩|split)
theorem Sa {R C W nm cks ks ops E L o}{K:Env->jl->M R}{h q}
  (hx:xe P C W (some nm) cks ks ops E L o K h=some q):LS W o.dst=true/\∃r h',ex P C nm ops E L o h=some (r,h') /\
   (zh ops o=true->sameAt h h' cks=true)/\xO E o h ks/\K (E.res o.dst r) (L.res o.dst r) h'=some q:=by
 have gen:∀A:Act,(td cks A).run (λv=>K (E.put o.dst v) (L.del o.dst)) h=some q->∃r h',nH (A.exec h)=some (r,h') /\
   ((∃α m,∃v:α->ξ,A=.ask α m (λy=>.val (v y)))->sameAt h h' cks=true)/\K (E.res o.dst r) (L.res o.dst r) h'=some q:=by
  intro A hA;obtain⟨v,h',h1,h2⟩:=Gc.1 hA;obtain⟨h3,h4⟩:=OJ h1;exact⟨.val v,h',by rw[h3];rfl,λ⟨α,m,v,e⟩=>h4 α m v e,h2⟩
 generalize hm:xe P C W (some nm) cks ks ops E L o K=m at hx;unfold xe at hm;cases hW:LS W o.dst
 .rw[hW] at hm;subst hm;simp[AS] at hx
 rw[hW] at hm;refine⟨rfl,?_⟩;have noSt:xd o=false->xO E o h ks:=λhs e=>by rw[hs] at e;cases e
 unfold ex zh;cases hop:o.op<;>simp only[hop] at hm⊢
 case pick c a b=>
  split at hm
  .rename_i t ht;cases t
   .simp[wR,afl,ahk,xP ht] at hm;split at hm
    .rename_i v hv;subst hm;exact⟨.val v,h,by simp[ht,hv],by simp,noSt (by simp[xd,hop]),hx⟩
    .subst hm;simp[AS] at hx
   .simp[wR,aiG,xP ht] at hm;split at hm
    .rename_i v hv;subst hm;exact⟨.val v,h,by simp[ht,hv],by simp,noSt (by simp[xd,hop]),hx⟩
    .subst hm;simp[AS] at hx
  .subst hm;simp[AS] at hx
 case call c=>
  cases hb:isBuiltin c<;>simp only[hb] at hm⊢
  .split at hm
   .rename_i t hds;split at hm
    .rename_i xv vs hcl;split at hm
     .rename_i ca hca;subst hm;simp[sh] at hx;split at hx
      .rename_i x h' hm;obtain⟨h3,h4⟩:=Gd hm;exact⟨.val (ca.pk x),h',by simp[hds,hcl,hca,h3],λ_=>h4,noSt (by simp[xd,hop]),hx⟩
      .cases hx
     .subst hm;simp[AS] at hx
    .subst hm;simp[AS] at hx
   .rename_i hds;split at hm
    .rename_i f vs hcl;split at hm
     .rename_i ca hca;subst hm;simp[sh] at hx;split at hx
      .rename_i x h' hm;obtain⟨h3,h4⟩:=Gd hm;exact⟨.val (ca.pk x),h',by simp[hds,hcl,hca,h3],λ_=>h4,noSt (by simp[xd,hop]),hx⟩
      .cases hx
     .subst hm;simp[AS] at hx
    .subst hm;simp[AS] at hx
  .split at hm
   .rename_i n cs hl;subst hm;rw[Ol] at hx;obtain⟨r,h',h1,h2,h3⟩:=gen _ hx;refine⟨r,h',by simpa[hl] using h1,λ_=>h2 ?_,noSt (by simp[xd,hop]),h3⟩;rcases MK (P:=P) (E:=E) (c:=c) (n:=n) (cs:=cs) ((some nm).isSome&&!Au ops o) with h4|h4
    .rw[De h1];exact h4
    .rw[De h1,h4] at h1;simp[Act.exec,nH] at h1
   .rename_i hl;cases hlx:Au ops o<;>rw[hlx] at hm
    .subst hm
     grind [xd]
    .subst hm;simp[AS] at hx
 case buildSlice t l ps=>
  split at hm
  .rename_i x hl;subst hm;exact⟨.lit x,h,by simp[hl],by simp,noSt (by simp[xd,hop]),hx⟩
  .rename_i hl;subst hm
   grind [xd]
 case store t x y=>
  have fin:(td cks (xH P (some nm) E o)).run (λv=>K (E.put o.dst v) (L.del o.dst)) h=some q->xO E o h ks->∃r h',nH ((xH P (some nm) E o).exec h)=some (r,h') /\
    (True->sameAt h h' cks=true)/\xO E o h ks/\K (E.res o.dst r) (L.res o.dst r) h'=some q:=by
   intro hx hs;obtain⟨r,h',h1,h2,h3⟩:=gen _ hx;refine⟨r,h',h1,λ_=>h2 ?_,hs,h3⟩;unfold xH at h1⊢;simp[hop] at h1⊢;split at h1
   .unfold zg at h1⊢;split at h1
    .simp at h1;split at h1
     .grind
     .simp[Act.exec,nH] at h1
    .simp[Act.exec,nH] at h1
   .simp[Act.exec,nH] at h1
  split at hm
  .subst hm;obtain⟨r,h',h1,h2,h3,h4⟩:=fin hx (λ_ e=>absurd rfl e)
   grind
  .split at hm
   .rename_i a ha;subst hm;have hok:xO E o h ks:=by
     intro _ _;refine⟨a,by simp[A3,hop,ha],?_⟩;cases hA:td cks (xH P (some nm) E o) with
     |val v=>
      exfalso;have h1:∀v,xH P (some nm) E o≠.val v:=by
       intro v e;unfold xH at e;simp[hop] at e
       grind [zg]
      cases hB:xH P (some nm) E o with
      |val v'=>exact h1 v' hB
      |none=>grind [td]
      |ask α m k=>grind [td]
     |none=>rw[hA] at hx;simp[L9,Act.run,AS] at hx
     |ask α m k=>
      rw[hA] at hx;simp[L9,Act.run,sh] at hx
      grind [Im]
    obtain⟨r,h',h1,h2,h3,h4⟩:=fin (Ga hx) hok
    grind
   .subst hm;simp[AS] at hx
 all_goals
  subst hm;obtain⟨r,h',h1,_,h3⟩:=gen _ hx;exact⟨r,h',h1,by simp,noSt (by simp[xd,hop]),h3⟩
theorem Df {R C W nm ops E L o}{K:Env->jl->M R}{h h' r q}
  (hW:LS W o.dst=true)(he:ex P C nm ops E L o h=some (r,h'))(hx:K (E.res o.dst r) (L.res o.dst r) h'=some q) :
  xe P C W (some nm) [] [] ops E L o K h=some q:=by
 have gen:∀A:Act,nH (A.exec h)=some (r,h')->(td [] A).run (λv=>K (E.put o.dst v) (L.del o.dst)) h=some q:=by
  intro A hA;have:td [] A=A:=by cases A<;>rfl
  rw[this];unfold nH at hA;split at hA
  .rename_i v h2 hv;cases hA;exact Gc.2 ⟨v,_,hv,hx⟩
  .cases hA
 unfold xe;rw[hW];unfold ex at he;cases hop:o.op<;>simp only[hop] at he⊢
 case pick c a b=>
  split at he
  .rename_i ht;simp[ht,wR,aiG,xP ht];split at he
   .rename_i v hv;cases he;simp[hv];exact hx
   .cases he
  .rename_i ht;simp[ht,wR,afl,ahk,xP ht];split at he
   .rename_i v hv;cases he;simp[hv];exact hx
   .cases he
  .cases he
 case call c=>
  cases hb:isBuiltin c<;>simp only[hb] at he⊢
  .split at he
   .rename_i t hds;simp[hds];split at he
    .rename_i xv vs hcl;simp[hcl];split at he
     .rename_i ca hca;split at he
      .rename_i x h2 hm;cases he;simp[hca,sh,wrapM,hm];exact hx
      .cases he
     .cases he
    .cases he
   .rename_i hds;simp[hds];split at he
    .rename_i f vs hcl;simp[hcl];split at he
     .rename_i ca hca;split at he
      .rename_i x h2 hm;cases he;simp[hca,sh,wrapM,hm];exact hx
      .cases he
     .cases he
    .cases he
  .split at he
   .rename_i n cs hl;simp only[hl,Ol];exact gen _ he
   .rename_i hl;cases hlx:Au ops o<;>simp only[hlx] at he⊢
    .simp[hl];exact gen _ he
    .cases he
 case buildSlice t l ps=>
  split at he
  .rename_i x hl;cases he;simp[hl];exact hx
  simp_all
 all_goals exact gen _ he
section Traces
variable {R:Type}{C:sT}{W:Wr}{nb:Nat}{ops:Array Oper}{K:Env->M R}{q:R×ai}
theorem Step.congr {Af Af' Ck Ck' Kk Kk' i s s'}(h1:Af i=Af' i)(h2:Ck i=Ck' i)(h3:Kk i=Kk' i)
  (hs:Step P C W nb ops Af Ck Kk i s s'):Step P C W nb ops Af' Ck' Kk' i s s':=by
 obtain⟨o,r,a,b,c,d,e,f,g,k⟩:=hs;exact⟨o,r,a,b,λw=>h1▸c w,d,e,f,λw=>h2▸g w,λw=>h3▸k w⟩
theorem Gf:∀l E L A h ,(l.map (·.1)).Nodup->ki P C W (some nb) ops l E L A K h=some q ->
  ∃(Af:Nat->θ) (Ck:Nat->List θ) (Kk:Nat->η) (E':Env) (L':jl) (h':ai),CP (Step P C W nb ops Af Ck Kk) (l.map (·.1)) (E,L,h) (E',L',h')/\K E' h'=some q /\
   ∀j cs,(j,cs)∈l->∀k∈cs,(LU (l.map (·.1)) k j->Af k∈Ck j)/\(k∉l.map (·.1)->A k∈Ck j)/\Kk j=Ez P ops (some nb) cs
 |[],E,L,A,h,_,hx=>⟨λ_=>none,λ_=>[],λ_=>[],E,L,h,.nil _,hx,by simp⟩
 |(i,c0)::rest,E,L,A,h,hn,hx=>by
  rw[adR,List.nodup_cons] at hn;obtain⟨hni,hn⟩:=hn;generalize hm:ki P C W (some nb) ops ((i,c0)::rest) E L A K=m at hx;unfold ki at hm;have fin:∀(o:Oper) (r:Z7) (A':agL) (h2:ai),ops[i]?=some o->LS W o.dst=true->(∀k,k≠i->A' k=A k)->(want ops E o=some true->nO E o=A' i) ->
    act P C (nb+i) ops E L o h=some (r,h2)->(zh ops o=true->sameAt h h2 (c0.map A)=true)->(want ops E o=some true->xO E o h (Ez P ops (some nb) c0))->ki P C W (some nb) ops rest (E.res o.dst r) (L.res o.dst r) A' K h2=some q ->
    ∃(Af:Nat->θ) (Ck:Nat->List θ) (Kk:Nat->η) (E':Env) (L':jl) (h':ai),CP (Step P C W nb ops Af Ck Kk) (i::rest.map (·.1)) (E,L,h) (E',L',h')/\K E' h'=some q /\
     ∀j cs,(j,cs)∈(i,c0)::rest->∀k∈cs,(LU (i::rest.map (·.1)) k j->Af k∈Ck j)/\(k∉i::rest.map (·.1)->A k∈Ck j)/\Kk j=Ez P ops (some nb) cs:=by
   intro o r A' h2 ho hW hA hrd hact hck hst hx2;obtain⟨Af,Ck,Kk,E',L',h',hrun,hK,hks⟩:=Gf rest _ _ _ _ hn hx2;refine⟨λk=>if k=i then A' i else Af k,λk=>if k=i then c0.map A else Ck k,λk=>if k=i then Ez P ops (some nb) c0 else Kk k,E',L',h',.cons ⟨o,r,ho,hW,?_,hact,rfl,rfl,?_,?_⟩ (CP.mono (λk hk s s' hs=>hs.congr ?_ ?_ ?_) hrun),hK,?_⟩
   .simpa using hrd
   .simpa using hck
   .simpa using hst
   rotate_left
   .rw[AT];rintro rfl;exact hni hk
   .rw[AT];rintro rfl;exact hni hk
   .rw[AT];rintro rfl;exact hni hk
   .intro j cs hj k hk;rcases List.mem_cons.1 hj with e|hj
    .grind
    .have hjm:j∈rest.map (·.1):=List.mem_map.2 ⟨(j,cs),hj,rfl⟩
     have hji:j≠i:=(by rintro rfl;exact hni hjm);obtain⟨h1,h2,h2b⟩:=hks j cs hj k hk;simp only[AT hji];refine⟨λhb=>?_,λhb=>?_,h2b⟩
     .cases hb with
      |cons _ hb=>
       grind
      |cons_cons _ hb=>grind
     grind
  split at hm
  .subst hm;simp[AS] at hx
  .rename_i o ho;have run:want ops E o=some true->xe P C W (some (nb+i)) (c0.map A) (Ez P ops (some nb) c0) ops E L o (λE' L'=>ki P C W (some nb) ops rest E' L' (λj=>cond (Nat.beq j i) (nO E o) (A j)) K) h=some q ->
     ∃(Af:Nat->θ) (Ck:Nat->List θ) (Kk:Nat->η) (E':Env) (L':jl) (h':ai),CP (Step P C W nb ops Af Ck Kk) (i::rest.map (·.1)) (E,L,h) (E',L',h')/\K E' h'=some q /\
      ∀j cs,(j,cs)∈(i,c0)::rest->∀k∈cs,(LU (i::rest.map (·.1)) k j->Af k∈Ck j)/\(k∉i::rest.map (·.1)->A k∈Ck j)/\Kk j=Ez P ops (some nb) cs:=by
    intro hw hx;obtain⟨hW,r,h2,he,hck,hst,hk⟩:=Sa hx;refine fin o r _ h2 ho hW ?_ ?_ (by simp[act,hw];exact he) hck (λ_=>hst) hk
    .grind [absurd,Nat.eq_of_beq_eq_true]
    .intro _;simp
   have skip:want ops E o=some false->(match LS W o.dst with|true=>ki P C W (some nb) ops rest (E.put o.dst undef) (L.del o.dst) A K|false=>AS) h=some q ->
     ∃(Af:Nat->θ) (Ck:Nat->List θ) (Kk:Nat->η) (E':Env) (L':jl) (h':ai),CP (Step P C W nb ops Af Ck Kk) (i::rest.map (·.1)) (E,L,h) (E',L',h')/\K E' h'=some q /\
      ∀j cs,(j,cs)∈(i,c0)::rest->∀k∈cs,(LU (i::rest.map (·.1)) k j->Af k∈Ck j)/\(k∉i::rest.map (·.1)->A k∈Ck j)/\Kk j=Ez P ops (some nb) cs:=by
    intro hw hx;cases hW:LS W o.dst<;>rw[hW] at hx
    .simp[AS] at hx
    .exact fin o (.val undef) A h ho hW (λ_ _=>rfl) (by rw[hw];simp) (by simp[act,hw]) (λ_=>sameAt_refl _ _) (λhw2=>by rw[hw] at hw2;cases hw2) hx
   split at hm
   .rename_i hg;subst hm;exact run (by simp[want,hg]) hx
   .rename_i j w hg;split at hm
    .rename_i t ht;split at hm
     .rename_i b hb;have hwant:want ops E o=some (b==w):=(by simp[want,hg,ht,hb]);cases w<;>cases b<;>simp only[wR,afl,ahk,aiG,rP hb] at hm<;>subst hm
      .exact run hwant hx
      .exact skip hwant hx
      .exact skip hwant hx
      .exact run hwant hx
     .rename_i vs hb;subst hm;exact skip (by simp[want,hg,ht,hb]) hx
     .subst hm;simp[AS] at hx
    .subst hm;simp[AS] at hx
theorem Gg {Af Ck Kk}:∀l A s f ,CP (Step P C W nb ops Af Ck Kk) l s f->K f.1 f.2.2=some q ->
  ki P C W (some nb) ops (l.map λi=>(i,[])) s.1 s.2.1 A K s.2.2=some q
 |[],A,s,f,hr,hK=>by cases hr;exact hK
 |i::l,A,(E,L,h),f,.cons (s1:=(E1,L1,h1)) ⟨o,r,ho,hW,_,hact,e1,e2,_⟩ hr,hK=>by
  simp at e1 e2 hact;subst e1;subst e2;have ih:=λA=>Gg l A _ _ hr hK;simp at ih⊢;unfold ki;simp only[ho];unfold act at hact;unfold want at hact;cases hg:o.guard with
  |none=>
   simp[hg] at hact;exact Df hW hact (ih _)
  |some jw=>
   obtain⟨j,w⟩:=jw;simp only[hg] at hact⊢;cases ht:(ops[j]?).bind (·.dst) with
   |none=>simp[ht] at hact
   |some t=>
    simp only[ht] at hact⊢;split at hact
    .rename_i hwt;split at hwt
     .rename_i b hb;simp only[hb];cases w<;>cases b<;>simp at hwt
      .simp only[wR,afl,ahk,rP hb];exact Df hW hact (ih _)
      .simp only[wR,aiG,rP hb];exact Df hW hact (ih _)
     .simp at hwt
     .cases hwt
    .rename_i hwt;cases hact;split at hwt
     .rename_i b hb;simp only[hb];cases w<;>cases b<;>simp at hwt
      .simp[wR,aiG,rP hb,hW];exact ih _
      .simp[wR,afl,ahk,rP hb,hW];exact ih _
     .rename_i vs hb;simp[hb,hW];exact ih _
     .cases hwt
    .cases hact
end Traces
section Congr
variable {E E':Env}{L L':jl}{ops:Array Oper}{o:Oper}{C:sT}
theorem vt:∀{xs},(∀x∈xs,E.ev x=E'.ev x)->E.LX xs=E'.LX xs
 |[],_=>rfl
 |x::xs,h=>by
  simp[Env.LX];rw[h x (OF ..),vt λy hy=>h y (IN _ hy)]
theorem wD:∀{xs},(∀x∈xs.map (·.2),E.ev x=E'.ev x)->partsOf E xs=partsOf E' xs
 |[],_=>rfl
 |(i,x)::xs,h=>by
  simp[partsOf];rw[h x (by simp),wD λy hy=>h y (by grind)]
theorem xQ {x}(h:∀y,x=some y->E.ev y=E'.ev y):Ey E x=Ey E' x:=by
 cases x with
 |none=>rfl
 |some y=>simp[Ey];rw[h y rfl]
theorem Sb {nm}(h:∀x∈o.op.operands,E.ev x=E'.ev x):xH P nm E o=xH P nm E' o:=by
 unfold xH;cases hop:o.op<;>simp only[hop] at h⊢
 case build t ps=>grind [wD,Op.operands]
 case buildSlice t l ps=>grind [wD,Op.operands]
 case makeFunc f a b=>
  rw[vt λx hx=>h x (by grind [Op.operands]),
   vt λx hx=>h x (by grind [Op.operands])]
 case makeMap t r=>grind [xQ,Op.operands]
 case call c=>
  rw[vt λx hx=>h x (by grind [Op.operands,Call.operands])]
 case slice t x lo hi mx=>
  rw[h x (by simp[Op.operands]),xQ λy hy=>h y (by simp[Op.operands,hy]),
   xQ λy hy=>h y (by simp[Op.operands,hy]),xQ λy hy=>h y (by simp[Op.operands,hy])]
 all_goals simp[Op.operands] at h
 all_goals simp only[h]
theorem A4 {x}{t:Nat}(hx:x∈o.op.operands)(e:x=.tmp t):t∈lM ops o:=by
 refine adz _ (List.mem_filterMap.2 ⟨x,Array.mem_toList_iff.2 hx,?_⟩);subst e;rfl
theorem Cc (h:∀t∈lM ops o,E t=E' t):∀x∈o.op.operands,E.ev x=E'.ev x:=by
 intro x hx;cases x<;>simp[Env.ev];exact h _ (A4 hx rfl)
theorem vJ (h:∀t∈lM ops o,E t=E' t):want ops E o=want ops E' o:=by
 grind [want,lM,List.mem_append_right]
theorem Cd (h:∀t∈lM ops o,E t=E' t):nO E o=nO E' o:=by
 have h:=Cc h;unfold nO;cases hop:o.op<;>simp only[hop,Op.operands] at h⊢
 all_goals grind
theorem Sd {c}(hop:o.op=.call c)(h:∀t∈lM ops o,L t=L' t):vE L c=vE L' c:=by
 unfold vE;split
 .rename_i x t hc ha;refine h t (A4 ?_ rfl);rw[hop];simp[Op.operands,Call.operands,ajL];exact .inr (Array.mem_toList_iff.1 (by rw[ha];simp))
 .rfl
theorem Ip {nm}(h:∀t∈lM ops o,E t=E' t)(hL:∀t∈lM ops o,L t=L' t):act P C nm ops E L o=act P C nm ops E' L' o:=by
 funext hp;unfold act;rw[vJ h];have he:ex P C nm ops E L o hp=ex P C nm ops E' L' o hp:=by
  have ha:=Sb (P:=P) (nm:=some nm) (Cc h);have hv:=Cc h;unfold ex;cases hop:o.op<;>simp only
  case pick c a b=>
   grind [Op.operands]
  case call c=>
   rw[ha,Sd hop hL];rw[hop] at hv;have hcw:∀A,yM (B8 ops o) E c A=yM (B8 ops o) E' c A:=λA=>by
    unfold yM;cases hca:c.args.toList with
    |nil=>rfl
    |cons s ss=>simp[hv s (by simp[Op.operands,Call.operands,ajL];exact .inr (Array.mem_toList_iff.1 (by rw[hca];simp)))]
   simp[hcw];have h1:callee E c=callee E' c:=by
    unfold callee;rw[vt λx hx=>hv x (by grind [Op.operands,Call.operands])]
    grind [Op.operands,Call.operands]
   have h3:∀t,rJ C c=some t->uY E t c=uY E' t c:=by
    intro t ht;unfold uY;rw[vt λx hx=>hv x (by grind [Op.operands,Call.operands])];have hcal:c.callee=.value (.tmp t):=by
     grind [rJ]
    have:E t=E' t:=hv (.tmp t) (by simp[Op.operands,Call.operands,hcal]);rw[this]
   have h4:(match rJ C c with
     |some t=>(match uY E t c with
      |some (x,vs)=>(match C.dy t x vs with
       |some ca=>(match ca.m hp with|some (x,h')=>some (Z7.val (ca.pk x),h')|none=>none)
       |none=>none)
      |none=>none)
     |none=>(match callee E c with
      |some (f,vs)=>(match C.st f vs with
       |some ca=>(match ca.m hp with|some (x,h')=>some (.val (ca.pk x),h')|none=>none)
       |none=>none)
      |none=>none))=(match rJ C c with
     |some t=>(match uY E' t c with
      |some (x,vs)=>(match C.dy t x vs with
       |some ca=>(match ca.m hp with|some (x,h')=>some (Z7.val (ca.pk x),h')|none=>none)
       |none=>none)
      |none=>none)
     |none=>(match callee E' c with
      |some (f,vs)=>(match C.st f vs with
       |some ca=>(match ca.m hp with|some (x,h')=>some (.val (ca.pk x),h')|none=>none)
       |none=>none)
      |none=>none)):=by
    grind
   have h2:∀b n cs,rK P b E c n cs=rK P b E' c n cs:=by
    intro b n cs;unfold rK;split
    .rename_i t t' s u e1 e2;rw[hv s (by simp[Op.operands,Call.operands,ajL];exact .inr (Array.mem_toList_iff.1 (by rw[e2];simp)))]
    .rfl
   simp[h4,h2]
  case buildSlice t l ps=>
   rw[ha];have:yF P ops E o=yF P ops E' o:=by
    unfold yF;rw[hop] at hv⊢;have hp:=wD (xs:=ps.toList) λx hx=>hv x (by simpa[Op.operands] using hx)
    grind
   rw[this]
  all_goals rw[ha]
 rw[he]
end Congr
section Classes
variable {E E':Env}{L L':jl}{ops:Array Oper}{o:Oper}{C:sT}
def Pm {α}(m:M α):Prop:=∀h x h',m h=some (x,h')->h'=h/\∀h2,m h2=some (x,h2)
def Pa (A:Act):Prop:=∀h x h',A.exec h=some (x,h')->h'=h/\∀h2,A.exec h2=some (x,h2)
theorem gb.none {h h' b}(hs:gb h h' b)(hn:h.get b.block≠Option.none):(∃c g base e c',h.get b.block=some (.cells c g base e)/\h'.get b.block=some (.cells c' g base e)/\c'.length=c.length/\c'.drop b.off=c.drop b.off)\/h'.get b.block=h.get b.block:=by
 grind [gb]
theorem gb.cell {h h' a b}(hs:gb h h' b)(hb:a.block=b.block)(ho:b.off<=a.off):h'.cell a=h.cell a:=by
 unfold ai.cell;rw[hb];cases hq:h.get b.block with
 |none=>
  grind [gb]
 |some o=>
  rcases hs.none (by rw[hq];simp) with⟨c,g,base,e,c',h1,h2,h3,h4⟩|h1
  .rw[h2];rw[hq] at h1;cases h1;simp;have:∀l:δ,l[a.off]?=(l.drop b.off)[a.off-b.off]?:=λl=>by
    grind
   rw[this c',this c,h4]
  .rw[h1,hq]
theorem gb.cells {h h' b}(hs:gb h h' b){n}:aQ h' (some b) n=aQ h (some b) n:=by
 grind [aQ,gb]
theorem gb.elem {h h' b}(hs:gb h h' b){s}(ha:s.a=some b){e}:kc h' s e=kc h s e:=by
 unfold kc;rw[ha]
 grind [gb]
def Rm (a:θ){α}(m:M α):Prop:=∀h x h',m h=some (x,h')->h'=h /\
 ((∀h2,m h2=some (x,h2))\/∃b,a=some b/\h.get b.block≠none/\∀h2,gb h h2 b->m h2=some (x,h2))
def Ra (a:θ)(A:Act):Prop:=∀h x h',A.exec h=some (x,h')->h'=h /\
 ((∀h2,A.exec h2=some (x,h2))\/∃b,a=some b/\h.get b.block≠none/\∀h2,gb h h2 b->A.exec h2=some (x,h2))
theorem Pa.val {v}:Pa (.val v):=λh x h' e=>by cases e;exact⟨rfl,λ_=>rfl⟩
theorem Pa.none:Pa .none:=λh x h' e=>by cases e
theorem Pa.ask {α m k}(hm:Pm m)(hk:∀x,Pa (k x)):Pa (.ask α m k):=λh x h' e=>by
 simp[Act.exec] at e;split at e
 .rename_i y h1 he;obtain⟨rfl,h2⟩:=hm _ _ _ he;obtain⟨rfl,h3⟩:=hk _ _ _ _ e;exact⟨rfl,λh2'=>by simp[Act.exec,h2 h2'];exact h3 h2'⟩
 .cases e
theorem Ra.of {a A}(h:Pa A):Ra a A:=λh0 x h' e=>⟨(h _ _ _ e).1,.inl (h _ _ _ e).2⟩
theorem Ra.ask {a α m k}(hm:Rm a m)(hk:∀x,Ra a (k x)):Ra a (.ask α m k):=λh x h' e=>by
 simp[Act.exec] at e;split at e
 .rename_i y h1 he;obtain⟨rfl,h2⟩:=hm _ _ _ he;obtain⟨rfl,h3⟩:=hk _ _ _ _ e
  grind [Act.exec]
 .cases e
theorem Pm.px b:Pm (px b):=λh x h' e=>by
 cases b<;>simp only[Ago.px] at e
 .cases e
 .cases e;exact⟨rfl,λ_=>rfl⟩
theorem Pm.nn p:Pm (nn p):=λh x h' e=>by
 cases p<;>simp only[Ago.nn] at e
 .cases e
 .cases e;exact⟨rfl,λ_=>rfl⟩
theorem Pm.ZB a b:Pm (ZB a b):=λh x h' e=>by
 obtain⟨rfl,rfl,x,y,rfl,rfl,he⟩:=Mi e;exact⟨rfl,λh2=>by unfold Ago.ZB;simp[he]⟩
theorem Pm.D7 p n:Pm (D7 p n):=λh x h' e=>by
 unfold Ago.D7 at e⊢
 grind
theorem Pm.nnF x:Pm (nnF x):=λh y h' e=>by
 unfold Ago.nnF at e;split at e
 .cases e;exact⟨rfl,λ_=>rfl⟩
 .cases e
theorem Pm.ke v:Pm (ke v):=λh x h' e=>by
 unfold Ago.ke at e;split at e
 .cases e;exact⟨rfl,λ_=>rfl⟩
 .cases e;exact⟨rfl,λ_=>rfl⟩
 .cases e
theorem Pm.nN x y:Pm (nN x y):=λh z h' e=>by
 unfold Ago.nN at e⊢;grind
theorem Pm.oL s i:Pm (oL s i):=λh z h' e=>by
 unfold Ago.oL at e⊢;split at e
 .grind
 .cases e
theorem Pm.A9 l n cs i:Pm (A9 l n cs i):=λh z h' e=>by
 unfold Ago.A9 at e⊢;split at e
 .split at e
  .split at e
   .grind
   .cases e
  .cases e
 .cases e
theorem Pm.ar s i z:Pm (ar s i z):=λh x h' e=>by
 unfold Ago.ar at e⊢;split at e
 .grind
 .cases e
theorem Pm.iq s l u:Pm (iq s l u):=λh z h' e=>by
 unfold Ago.iq at e⊢;grind
theorem Pm.nM a n l u z:Pm (nM a n l u z):=λh x h' e=>by
 unfold Ago.nM at e⊢;grind
theorem Pm.At o:Pm (At o):=λh z h' e=>by
 unfold Ago.At at e⊢;split at e
 .grind
 .cases e
theorem OL op a b:Pa (L7 op a b):=by
 unfold L7
 grind [Pa.val,Pa.none,Pa.ask,Pm.At,RY,RZ,Ex,R4]
theorem OM op k a k' b:Pa (L4 op k a k' b):=by
 unfold L4
 grind [Pa.val,Pa.none,Pa.ask,Pm.px]
theorem ON op a b:Pa (L5 op a b):=by
 unfold L5
 grind [Pa.val,Pa.none,Pa.ask,Pm.nN]
theorem Gh op b:Pa (yE op b):=by
 unfold yE;split<;>first|exact Pa.val|exact Pa.none
theorem Se op t x y:Pa (U8 P op t x y):=by
 unfold U8;split
 .unfold Fi
  grind [Pa.val,Pa.none,Pa.ask,Pm.ke]
 .unfold U7
  grind [OM,ON,OL,Pa.val,Pa.none,Gh]
theorem Vz op x:Pa (aun op x):=by
 unfold aun
 repeat' (first|exact Pa.val|exact Pa.none|split)
theorem OO {v k}(h:∀a,Pa (k a)):Pa (zg v k):=by
 unfold zg;split
 .exact h _
 .exact Pa.none
theorem Rm.aq l a b (hb:a.block=b.block)(ho:b.off<=a.off):Rm (some b) (aq l a):=λh x h' e=>by
 unfold Ago.aq at e⊢;split at e
 .rename_i v hv;split at e
  .rename_i y hy;cases e;refine⟨rfl,.inr ⟨b,rfl,?_,λh2 e2=>?_⟩⟩
   .grind [ai.cell]
   rw[<-gb.cell e2 hb ho] at hv;rw[hv];simp[hy]
  .cases e
 .cases e
theorem Rm.aE ls a:Rm (some a) (aE ls a):=λh x h' e=>by
 unfold Ago.aE at e⊢;split at e
 .rename_i vs hv;split at e
  .rename_i y hy;cases e;refine⟨rfl,.inr ⟨a,rfl,?_,λh2 e2=>?_⟩⟩
   .grind [aQ]
   rw[<-gb.cells e2] at hv;rw[hv];simp[hy]
  .cases e
 .cases e
theorem MM a:∀ls i acc ,Ra (some a) (B5 a ls i acc)
 |[],i,acc=>Ra.of Pa.val
 |l::ls,i,acc=>Ra.ask (Rm.aq l _ a rfl (ajm _ _)) λx=>MM a ls _ _
theorem aeg t a:Ra (some a) (LR P t a):=by
 unfold LR
 repeat' (first|exact Ra.of Pa.none|exact MM _ _ _ _|exact Ra.ask (Rm.aq _ _ _ rfl (abi _)) λ_=>Ra.of Pa.val|exact Ra.ask (Rm.aE _ _) λ_=>Ra.of Pa.val|split)
theorem Rm.gm s lo hi e z:Rm s.a (gm s lo hi e z):=λh x h' he=>by
 unfold Ago.gm at he⊢;split at he
 .rename_i hc;cases he;refine⟨rfl,?_⟩;obtain⟨h1,h2,h3,h4⟩:=hc;unfold kc at h4;split at h4
  .grind [kc]
  .rename_i a ha;refine .inr ⟨a,ha,?_,λh2' e2=>?_⟩
   .grind
   .have h6:=e2.elem ha (e:=e)
    grind [kc]
 .cases he
theorem Rm.strOf s:Rm s.a (strOf s):=λh x h' he=>by
 unfold Ago.strOf at he⊢;split at he
 .rename_i cs hc;split at he
  .rename_i l hl;cases he;refine⟨rfl,?_⟩;unfold aQ at hc;split at hc
   .grind [aQ]
   .rename_i a ha;refine .inr ⟨a,ha,?_,λh2 e2=>?_⟩
    .grind
    .have:aQ h2 s.a s.len=some cs:=(by rw[ha,gb.cells e2];exact hc);simp[this,hl]
  .cases he
 .cases he
theorem QE {nm}(hc:cls P ops o=.sil)(hn:∀t l ps,o.op≠.buildSlice t l ps):Pa (xH P nm E o):=by
 unfold cls at hc;unfold xH;cases hop:o.op<;>simp only[hop] at hc hn⊢<;>try (first|cases hc|done)
 case binOp=>repeat' (first|exact Se _ _ _ _|exact Pa.none|exact Pa.ask (Pm.ZB _ _) λ_=>Gh _ _|split)
 case unOp=>grind [Vz,Pa.none]
 case nilCheck=>grind [Pa.ask,Pm.nn,Pa.val,Pm.nnF,Pa.none]
 case fieldAddr=>repeat' (first|exact OO λ_=>Pa.val|exact Pa.none|split)
 case indexAddr=>grind [Pa.ask,Pm.ar,Pa.val,Pm.px,Pa.none]
 case index=>grind [Pa.ask,Pm.oL,Pa.val,Pm.A9,Pa.none]
 case build=>
  split
  .grind [IU,Pa.val,Pa.none]
  .exact Pa.none
 case slice t x lo hi mx=>
  split
  .unfold FT
   grind [Pa.ask,Pm.iq,Pa.val,Pa.none,Pm.nM]
  .exact Pa.none
 case convert s d x=>
  split
  .unfold L8
   grind [Pa.val,Pa.none]
  .exact Pa.none
 case buildSlice t l ps=>grind
 case call c=>
  split
  .rename_i b vs hb _;rw[hb] at hc;unfold rI;split<;>first|exact Pa.none|(simp only at hc;cases hc;done)|(simp at hc;exact (Bi hc).elim)|skip
   all_goals grind [Pa.val,Pa.none,Pa.ask,Pm.D7]
  .exact Pa.none
 all_goals repeat' (first|exact Pa.val|exact Pa.none|split)
theorem rj {m r h'}(e:nH m=some (r,h')):∃v,m=some (v,h')/\r=.val v:=by
 unfold nH at e;grind
theorem Ai {b c A r}(e:nH ((yM b E c A).exec h)=some r):nH (A.exec h)=some r:=by grind [De]
theorem OP {nm}{d:Nat}(hd:o.dst=some d)(hu:Oj ops d=true){t l ps}(hop:o.op=.buildSlice t l ps)(hl:yF P ops E o=none) :
  (xH P (some nm) E o).exec h=none:=by
 unfold yF at hl;unfold xH;simp[hop,hd,hu] at hl⊢;split at hl
 .split at hl
  .cases hl
  .rename_i hc;unfold B7 at hc;unfold uo;split at hc
   .grind [Act.exec,aF]
   .rfl
 .rfl
theorem xR {nm}(hc:cls P ops o=.sil){r}(hx:act P C nm ops E L o h=some (r,h')):h'=h/\∀h2,act P C nm ops E L o h2=some (r,h2):=by
 unfold act at hx⊢;split at hx
 .have gen:∀A:Act,Pa A->nH (A.exec h)=some (r,h')->h'=h/\∀h2,nH (A.exec h2)=some (r,h2):=by
   intro A hA e;obtain⟨v,e1,rfl⟩:=rj e;obtain⟨e2,e3⟩:=hA _ _ _ e1;exact⟨e2,λh2=>by rw[e3 h2];rfl⟩
  unfold ex at hx⊢;cases hop:o.op<;>simp only[hop] at hx⊢
  case pick c a b=>
   grind
  case call c=>
   have hl:vE L c=none:=by
    grind [vE,cls,Bi]
   have hcp:B8 ops o=false:=by
    unfold cls at hc;unfold B8;simp only[hop] at hc⊢
    grind [Bi]
   split at hx
   .grind [Au,yM,QE]
   .rename_i hb;unfold isBuiltin at hb;unfold cls at hc;simp[hop] at hc
    grind
  case buildSlice t l ps=>
   unfold cls at hc;simp[hop] at hc;split at hc
   .rename_i d hd;split at hc
    .rename_i hu;split at hx
     .grind
     .rename_i hl;rw[OP hd hu hop hl] at hx;cases hx
    .cases hc
   .cases hc
  all_goals exact gen _ (QE hc (by simp[hop])) hx
 .grind
 .cases hx
def rdL:ξ->θ
 |.pointer p=>p
 |_=>none
def agR:ξ->θ
 |.slice a _ _=>a
 |_=>none
theorem Jd {nm}(hc:cls P ops o=.ro){r}(hx:act P C nm ops E L o h=some (r,h')):h'=h /\
  ((∀h2,act P C nm ops E L o h2=some (r,h2))\/(want ops E o=some true/\∃b,nO E o=some b/\h.get b.block≠none/\∀h2,gb h h2 b->act P C nm ops E L o h2=some (r,h2))):=by
 unfold act at hx⊢;split at hx
 .rename_i hw;simp only[hw,aim];have gen:∀A:Act,Ra (nO E o) A->nH (A.exec h)=some (r,h')->h'=h/\((∀h2,nH (A.exec h2)=some (r,h2)) \/
    ∃b,nO E o=some b/\h.get b.block≠none/\∀h2,gb h h2 b->nH (A.exec h2)=some (r,h2)):=by
   intro A hA e;obtain⟨v,e1,rfl⟩:=rj e;obtain⟨e2,e3⟩:=hA _ _ _ e1;refine⟨e2,?_⟩;rcases e3 with e3|⟨b,h1,h2,e3⟩
   .exact .inl λh2=>by rw[e3 h2];rfl
   .exact .inr ⟨b,h1,h2,λh2 q=>by rw[e3 h2 q];rfl⟩
  unfold ex at hx⊢;cases hop:o.op<;>simp only[hop] at hx⊢<;>try (unfold cls at hc;simp only[hop] at hc;contradiction)
  case load t x=>
   refine gen _ ?_ hx;unfold xH;simp[hop];cases hv:E.ev x with
   |none=>exact Ra.of Pa.none
   |some v=>
    have hr:nO E o=rdL v:=(by simp[nO,hop,hv];cases v<;>rfl);rw[hr];cases v<;>simp only[zg]<;>try exact Ra.of Pa.none
    rename_i p;cases p
    .exact Ra.of Pa.none
    .exact aeg _ _
  case slice t x lo hi mx=>
   refine gen _ ?_ hx;unfold xH;unfold cls at hc;simp[hop] at hc⊢;cases hv:E.ev x with
   |none=>exact Ra.of Pa.none
   |some v=>
    have hr:nO E o=agR v:=(by simp[nO,hop,hv];cases v<;>rfl);rw[hr];split
    .rename_i v l u m he _ _ _;cases he;unfold FT;split
     .grind
     .repeat' (first|exact Ra.ask (Rm.gm ⟨_,_,_⟩ _ _ _ _) λ_=>Ra.of Pa.val|exact Ra.of Pa.none|split)
     .grind
     .exact Ra.of Pa.none
    .exact Ra.of Pa.none
  case convert s d x=>
   refine gen _ ?_ hx;unfold xH;unfold cls at hc;simp[hop] at hc⊢;cases hv:E.ev x with
   |none=>exact Ra.of Pa.none
   |some v=>
    have hr:nO E o=agR v:=(by simp[nO,hop,hv];cases v<;>rfl);rw[hr];simp;unfold L8;split
    .grind
    .grind
    .exact Ra.of Pa.val
    .exact Ra.of Pa.val
    .repeat' (first|exact Ra.ask (Rm.strOf ⟨_,_,_⟩) λ_=>Ra.of Pa.val|exact Ra.of Pa.none|split)
    .exact Ra.of Pa.none
  case buildSlice t l ps=>
   unfold cls at hc;simp[hop] at hc
   grind
  case call c=>
   unfold cls at hc;simp[hop] at hc
   grind [vr,qO,pU,tA]
 .grind
 .cases hx
def Na (nm:Nat)(A:Act):Prop:=∀h x h',A.exec h=some (x,h')->∃t cs,h.used nm=false/\nm<h.next/\h.get nm=none/\h'=h.aX nm h.next t cs /\
 ∀h2:ai,h2.used nm=false->nm<h2.next->h2.get nm=none->A.exec h2=some (x,h2.aX nm h2.next t cs)
theorem Na.none {nm}:Na nm .none:=λh x h' e=>by cases e
theorem Na.new {nm t cs}{k:Nat->ξ}:Na nm (.ask Nat (aF (some nm) t cs) λb=>.val (k b)):=λh x h' e=>by
 simp only[Act.exec,aF] at e⊢;by_cases hs:cs.all eS=true
 .simp only[hs,aiG] at e⊢;split at e
  .rename_i y h1 he;split at he
   .rename_i hk;cases he;cases e;refine⟨t,cs,hk.1,hk.2.1,Option.isNone_iff_eq_none.1 hk.2.2,rfl,λh2 a b c=>?_⟩;simp[a,b,c]
   .cases he
  .cases e
 .simp[hs] at e
theorem Na.qM {nm t z l c}{k:Sl->ξ}:Na nm (.ask Sl (qM (some nm) t z l c) λr=>.val (k r)):=λh x h' e=>by
 simp only[Act.exec,Ago.qM] at e⊢;by_cases hb:0<=l/\l<=c/\c<=cF
 .simp only[hb,and_self,aiG] at e⊢;split at e
  .rename_i y h1 he;split at he
   .rename_i b h2 hnb;cases he;cases e;have e0:(Act.ask Nat (aF (some nm) t (List.replicate c.toNat z).flatten) λb=>.val (.int .i64 b)).exec h=some (.int .i64 b,h'):=(by simp[Act.exec,hnb]);obtain⟨t',cs',a1,a2,a3,a4,a5⟩:=(Na.new) h _ _ e0;refine⟨t',cs',a1,a2,a3,a4,λh2 b1 b2 b3=>?_⟩;have:=a5 h2 b1 b2 b3;simp[Act.exec] at this
    grind
   .cases he
  .cases e
 .simp[hb] at e
def ME (h h2:ai):Prop:=∀m x,h.gH m=some x->h2.gH m=some x
theorem ME.of {h h2}(e:h2.gH=h.gH):ME h h2:=λm x q=>by rw[e];exact q
def Mm (A:Act):Prop:=∀h x h',A.exec h=some (x,h')->h'=h/\∀h2:ai,ME h h2->A.exec h2=some (x,h2)
theorem Mm.of {A}(hA:Pa A):Mm A:=λh x h' e=>⟨(hA h x h' e).1,λh2 _=>(hA h x h' e).2 h2⟩
theorem Mm.get {kt T z m k}{g:Bool×T.den->ξ}:Mm (.ask (Bool×T.den) (um kt T z m k) λr=>.val (g r)):=λh x h' e=>by
 simp[Act.exec] at e⊢;split at e
 .rename_i y h1 he;cases e;have key:h'=h/\∀h2:ai,ME h h2->um kt T z m k h2=some (y,h2):=by
   unfold um at he⊢;split at he
   .grind
   .split at he
    .split at he
     .split at he
      .cases he;refine⟨rfl,λh2 e2=>?_⟩;unfold ME at e2;grind [ai.vC]
      .cases he
     .cases he;refine⟨rfl,λh2 e2=>?_⟩;unfold ME at e2;grind [ai.vC]
    .cases he
  grind
 .cases e
theorem Mm.len {m}{g:Nat->ξ}:Mm (.ask Nat (LY m) λr=>.val (g r)):=λh x h' e=>by
 simp[Act.exec] at e⊢;split at e
 .rename_i y h1 he;cases e;have key:h'=h/\∀h2:ai,ME h h2->LY m h2=some (y,h2):=by
   unfold LY at he⊢;unfold ME
   grind
  grind
 .cases e
theorem Ce {nm}(hc:cls P ops o=.mro){r}(hx:act P C nm ops E L o h=some (r,h')):h'=h/\∀h2:ai,ME h h2->act P C nm ops E L o h2=some (r,h2):=by
 unfold act at hx⊢;split at hx
 .have gen:∀A:Act,Mm A->nH (A.exec h)=some (r,h')->h'=h/\∀h2:ai,ME h h2->nH (A.exec h2)=some (r,h2):=by
   intro A hA e;obtain⟨v,e1,rfl⟩:=rj e;obtain⟨e2,e3⟩:=hA _ _ _ e1;exact⟨e2,λh2 q=>by rw[e3 h2 q];rfl⟩
  unfold ex at hx⊢;cases hop:o.op<;>simp only[hop] at hx⊢<;>try (unfold cls at hc;simp only[hop] at hc;contradiction)
  case lookup t x i ok=>
   refine gen _ ?_ hx;unfold xH;simp[hop]
   repeat' (first|exact Mm.of Pa.none|exact Mm.get|split)
  case buildSlice t l ps=>
   unfold cls at hc
   grind
  case call c=>
   have hcal:c.callee=.builtin .len:=by
    unfold cls at hc;simp[hop] at hc
    grind [qO]
   have hb:isBuiltin c=true:=by grind [isBuiltin]
   have hl:vE L c=none:=by unfold vE;rw[hcal]
   have hlx:Au ops o=false:=by grind
   have hcp:B8 ops o=false:=by grind [B8]
   simp[hb,hl,hlx,hcp,yM] at hx⊢;refine gen _ ?_ hx;have hty:∃t r k e,c.argTypes.toList=t::r/\P.underlying t=some (.map k e):=by
    grind [cls]
   obtain⟨t,tr,k,e,ht,hu⟩:=hty;unfold xH;simp only[hop,hcal,ht];split
   .rename_i b vs hb2 _;cases hb2;unfold rI;split<;>first|exact Mm.of Pa.none|(simp_all;done)|skip
    all_goals repeat' (first|exact Mm.of Pa.none|exact Mm.of Pa.val|exact Mm.len|split)
   .exact Mm.of Pa.none
  all_goals
   grind [cls,vr,qO,pU,tA]
 .grind
 .cases hx
theorem pV {nm}(hc:cls P ops o=.alloc){r}(hx:act P C nm ops E L o h=some (r,h')):(h'=h/\∀h2,act P C nm ops E L o h2=some (r,h2)) \/
  ∃t cs,h.used nm=false/\nm<h.next/\h.get nm=none/\h'=h.aX nm h.next t cs /\
   ∀h2:ai,h2.used nm=false->nm<h2.next->h2.get nm=none->act P C nm ops E L o h2=some (r,h2.aX nm h2.next t cs):=by
 unfold act at hx⊢;split at hx
 .refine .inr ?_;have gen:∀A:Act,Na nm A->nH (A.exec h)=some (r,h')->∃t cs,h.used nm=false/\nm<h.next/\h.get nm=none/\h'=h.aX nm h.next t cs /\
    ∀h2:ai,h2.used nm=false->nm<h2.next->h2.get nm=none->nH (A.exec h2)=some (r,h2.aX nm h2.next t cs):=by
   intro A hA e;obtain⟨v,e1,rfl⟩:=rj e;obtain⟨t,cs,a,b,c,d,e2⟩:=hA _ _ _ e1;exact⟨t,cs,a,b,c,d,λh2 a b c=>by rw[e2 h2 a b c];rfl⟩
  unfold ex at hx⊢;cases hop:o.op<;>simp only[hop] at hx⊢<;>try (unfold cls at hc;simp only[hop] at hc;contradiction)
  case alloc t=>
   refine gen _ ?_ hx;unfold xH;simp[hop];split
   .exact Na.new
   .exact Na.none
  case box t x=>
   refine gen _ ?_ hx;unfold xH;simp[hop];split
   .exact Na.new
   .exact Na.none
  case makeSlice t l c=>
   refine gen _ ?_ hx;unfold xH;simp[hop]
   repeat' (first|exact Na.none|exact Na.qM|split)
  case buildSlice t l ps=>
   have hl:yF P ops E o=none:=by
    unfold cls at hc;unfold yF;simp[hop] at hc⊢
    grind
   simp only[hl] at hx⊢;refine gen _ ?_ hx;unfold xH;simp[hop];split
   .unfold uo
    repeat' (first|exact Na.none|exact Na.new|split)
   .exact Na.none
  case call c=>
   unfold cls at hc;simp[hop] at hc
   repeat' (first|(cases hc;done)|(exact (vr hc).elim)|(exact (qO hc).elim)|(exact (pU hc).elim)|(exact (tA hc).elim)|split at hc)
  all_goals
   unfold cls at hc;simp[hop] at hc
   grind
 .grind
 .cases hx
def Ka (A:Act):Prop:=∀h x h',A.exec h=some (x,h')->∀b,h.get b≠none->h'.get b=h.get b
theorem Ka.pure {A}(hA:Pa A):Ka A:=λh x h' e b _=>by rw[(hA h x h' e).1]
theorem Sf {s sz e n new r}(hx:app true s sz e n new h=some (r,h')):∀b,h.get b≠none->h'.get b=h.get b:=by
 intro b hb;unfold app at hx;split at hx
 .cases hx
 rename_i hn;have hnx:h.get h.next=none:=by simpa using hn
 have hne:Nat.beq b h.next=false:=by
  grind [Nat.eq_of_beq_eq_true,absurd]
 have new:∀e cs,(h.new e cs).get b=h.get b:=λe cs=>by simp[ai.new,ai.aX,hne]
 grind [oK,nL]
theorem Ka.xS {s sz e n new}{k:Sl->ξ}:Ka (.ask Sl (app true s sz e n new) λr=>.val (k r)):=λh x h' he=>by
 grind [Act.exec,Sf]
theorem Ka.ask {α m k}(hm:∀h x h',m h=some (x,h')->h'=h)(hk:∀x,Ka (k x)):Ka (.ask α m k):=λh x h' he=>by
 simp[Act.exec] at he;split at he
 .rename_i y h1 hm1;rw[hm _ _ _ hm1] at he;exact hk _ _ _ _ he
 .cases he
theorem Z8 {nm}(hc:cls P ops o=.add){r}(hx:act P C nm ops E L o h=some (r,h')):∀b,h.get b≠none->h'.get b=h.get b:=by
 unfold act at hx;split at hx
 .have gen:∀A:Act,Ka A->nH (A.exec h)=some (r,h')->∀b,h.get b≠none->h'.get b=h.get b:=by
   intro A hA e;obtain⟨v,e1,rfl⟩:=rj e;exact hA _ _ _ e1
  unfold ex at hx;cases hop:o.op<;>simp only[hop] at hx<;>try (unfold cls at hc;simp only[hop] at hc;contradiction)
  case call c=>
   have hcal:c.callee=.builtin .append:=by
    unfold cls at hc;simp[hop] at hc
    grind
   have hlx:Au ops o=false:=by
    grind [cls,Ge]
   simp[hlx,Bool.not_false] at hx;split at hx
   .split at hx
    .refine gen _ ?_ (Ai hx);unfold rK
     repeat' (first|exact Ka.xS|exact Ka.pure Pa.none|split)
    .refine gen _ ?_ (Ai hx);unfold xH;simp only[hop,hcal];split
     .rename_i b vs hb _;cases hb;unfold rI;split
      .contradiction
      .contradiction
      .contradiction
      .contradiction
      .contradiction
      .have hrd:∀(s:Sl) (z:Nat) h x h',BW s z h=some (x,h')->h'=h:=by
        grind [BW]
       repeat' (first|exact Ka.ask (hrd _ _) λ_=>Ka.xS|exact Ka.pure Pa.none|split)
      .repeat' (first|exact Ka.xS|exact Ka.pure Pa.none|split)
      .contradiction
      .contradiction
      .exact Ka.pure Pa.none
     .exact Ka.pure Pa.none
   grind [isBuiltin]
  all_goals
   grind [cls,vr,qO,pU,tA]
 .grind
 .cases hx
def Sm (h h2:ai):Prop:=h2.next=h.next/\h2.get h2.next=none/\∀b,h.get b≠none->h2.get b=h.get b
def Kb (A:Act):Prop:=∀h x h',A.exec h=some (x,h')->h.get h.next=none/\((h'=h/\∀h2,Sm h h2->A.exec h2=some (x,h2))\/∃e cs,h'=h.new e cs/\∀h2,Sm h h2->A.exec h2=some (x,h2.new e cs))
theorem Kb.none:Kb .none:=λh x h' e=>by cases e
theorem Gi {h2}(S:Sm h h2){a n l}(e:aQ h a n=some l):aQ h2 a n=some l:=by
 unfold aQ at *
 cases a with
 |none=>exact e
 |some a=>
  simp at e⊢;rw[S.2.2 a.block (λq=>by rw[q] at e;cases e)];exact e
theorem aeh {s sz e n new}(hc:s.cap≠0){r h1}(he:app true s sz e n new h=some (r,h1)) :
  h.get h.next=none/\((h1=h/\∀h2,Sm h h2->app true s sz e n new h2=some (r,h2))\/∃e' cs,h1=h.new e' cs/\∀h2,Sm h h2->app true s sz e n new h2=some (r,h2.new e' cs)):=by
 have hn:h.get h.next=none:=by
  unfold app at he;split at he
  .cases he
  simp_all
 refine⟨hn,?_⟩;unfold app oK at he⊢;rw[hn] at he;have g2:∀{h2:ai},Sm h h2->(true&&(h2.get h2.next).isSome)=false:=λS=>by rw[S.2.1];rfl
 simp only[Option.isSome_none,Bool.and_false] at he;by_cases h0:n=0
 .rw[By h0] at he;refine .inl ?_
  grind
 .rw[AT h0] at he;split at he
  .cases he
  rename_i q;refine .inr ?_;cases ha:s.a with
  |none=>grind
  |some a=>
   rw[ha] at he;simp only at he;split at he
   .rename_i nF c g base e' h1' h2';split at he
    .grind
    .rename_i q2;cases he;refine⟨e,nF++new,rfl,λh2 S=>?_⟩;have c2:=Gi S h1';have b2:=S.2.2 a.block (by rw[h2'];simp);simp only[g2 S];rw[AT h0,AT q];simp only[c2,b2,h2'];rw[AT q2,By hc,S.1]
   .cases he
theorem Kb.apd {s sz e n new}{k:Sl->ξ}(hc:s.cap≠0):Kb (.ask Sl (app true s sz e n new) λr=>.val (k r)):=λh x h' hx=>by
 simp[Act.exec] at hx⊢
 grind [aeh]
theorem Kb.rds {s sz k}(hk:∀l,Kb (k l)):Kb (.ask δ (BW s sz) k):=λh x h' hx=>by
 simp[Act.exec] at hx⊢;split at hx
 .rename_i y h1 he;unfold Go.Ago.BW at he;split at he
  .rename_i cs hcs;cases he;obtain⟨hn,⟨q1,q2⟩|⟨e',cs',q1,q2⟩⟩:=hk _ _ _ _ hx
   .grind [Go.Ago.BW,Gi]
   grind [Go.Ago.BW,Gi]
  .cases he
 .cases hx
theorem Z9 {nm}(hcap:B8 ops o=true)(hca:cls P ops o=.add){r}(hx:act P C nm ops E L o h=some (r,h')):(h'=h/\∀h2,act P C nm ops E L o h2=some (r,h2)) \/
  (h.get h.next=none/\((h'=h/\∀h2,Sm h h2->act P C nm ops E L o h2=some (r,h2))\/∃e cs,h'=h.new e cs/\∀h2,Sm h h2->act P C nm ops E L o h2=some (r,h2.new e cs))):=by
 unfold act at hx⊢;split at hx
 .refine .inr ?_;unfold ex at hx⊢;rw[hcap] at hx⊢;unfold B8 at hcap;cases hop:o.op<;>simp only[hop] at hx hcap⊢<;>try (cases hcap;done)
  case call c=>
   split at hcap
   .rename_i d ds hcal harg;have hb:isBuiltin c=true:=(by grind [isBuiltin]);have hlx:Au ops o=false:=by
     cases q:Au ops o with
     |false=>rfl
     |true=>unfold cls at hca;simp[hop,hcal,q] at hca;cases hca
    simp only[hb,hlx] at hx⊢;have gen:∀A:Act,Kb A->nH (A.exec h)=some (r,h')->h.get h.next=none/\((h'=h/\∀h2,Sm h h2->nH (A.exec h2)=some (r,h2))\/∃e cs,h'=h.new e cs/\∀h2,Sm h h2->nH (A.exec h2)=some (r,h2.new e cs)):=by
     intro A hA e;obtain⟨v,e1,rfl⟩:=rj e;obtain⟨hn,⟨q1,q2⟩|⟨e',cs,q1,q2⟩⟩:=hA _ _ _ e1
     .exact⟨hn,.inl ⟨q1,λh2 S=>by rw[q2 h2 S];rfl⟩⟩
     .exact⟨hn,.inr ⟨e',cs,q1,λh2 S=>by rw[q2 h2 S];rfl⟩⟩
    have cap:∀A:Act,(∀a n k,E.ev (.tmp d)=some (.slice a n k)->k≠0->Kb A)->Kb (yM true E c A):=λA hA=>by
     unfold yM;simp[harg];split
     .rename_i a n k hev;split
      .exact Kb.none
      .rename_i hk;exact hA a n k hev λq=>by rw[q] at hk;cases hk
     .exact Kb.none
    split at hx
    .rename_i n cs hl;refine gen _ (cap _ λa m k hev hk=>?_) hx;show Kb (rK P true E c n cs);unfold rK;rw[harg];split
     .rename_i t t' s u e1 e2;cases e2;rw[hev];split
      .rename_i q1 q2 q3;cases q1
       repeat' (first|exact Kb.none|exact Kb.apd hk|split)
      .exact Kb.none
     .exact Kb.none
    .rename_i hl;refine gen _ (cap _ λa n k hev hk0=>?_) hx;unfold xH;simp only[hop,hcal];split
     .rename_i b vs hb2 hvs;cases hb2;have hv0:∃rest,vs=Value.slice a n k::rest:=by
       rw[harg] at hvs;unfold Env.LX at hvs
       grind
      obtain⟨rest,rfl⟩:=hv0;show Kb (rI P true _ _ _);unfold rI;split<;>first|exact Kb.none|contradiction|(injections;subst_vars;repeat' (first|exact Kb.none|exact Kb.rds λ_=>Kb.apd hk0|exact Kb.apd hk0|split))
     .exact Kb.none
   .cases hcap
 .grind
 .cases hx
theorem QF {k t cs}(a2:k<h.next)(a3:h.get k=none)(hn:h.get h.next=none):Sm h (h.aX k h.next t cs):=by
 have q:∀j,j≠k->Nat.beq j k=false:=λj e=>by
  grind [absurd,Nat.eq_of_beq_eq_true]
 refine⟨rfl,?_,λb hb=>?_⟩
 .simp[ai.aX,q h.next (by omega),hn]
 .have hbk:b≠k:=λe=>hb (e▸a3);simp[ai.aX,q b hbk]
def Km (A:Act):Prop:=∀h x h',A.exec h=some (x,h')->h'.gH=h.gH
theorem Km.pure {A}(hA:Pa A):Km A:=λh x h' e=>by rw[(hA h x h' e).1]
theorem agS {s sz e n new r}(hx:app true s sz e n new h=some (r,h')):h'.gH=h.gH:=by
 unfold app at hx;split at hx
 .cases hx
 unfold oK at hx
 repeat' (first|(cases hx;done)|(cases hx;rfl)|split at hx|simp only at hx)
theorem Km.xS {s sz e n new}{k:Sl->ξ}:Km (.ask Sl (app true s sz e n new) λr=>.val (k r)):=λh x h' he=>by
 grind [Act.exec,agS]
theorem Km.ask {α m k}(hm:∀h x h',m h=some (x,h')->h'=h)(hk:∀x,Km (k x)):Km (.ask α m k):=λh x h' he=>by
 simp[Act.exec] at he;split at he
 .rename_i y h1 hm1;rw[hm _ _ _ hm1] at he;exact hk _ _ _ _ he
 .cases he
theorem Iq {nm}(hc:cls P ops o=.add){r}(hx:act P C nm ops E L o h=some (r,h')):h'.gH=h.gH:=by
 unfold act at hx;split at hx
 .have gen:∀A:Act,Km A->nH (A.exec h)=some (r,h')->h'.gH=h.gH:=by
   intro A hA e;obtain⟨v,e1,rfl⟩:=rj e;exact hA _ _ _ e1
  unfold ex at hx;cases hop:o.op<;>simp only[hop] at hx<;>try (unfold cls at hc;simp only[hop] at hc;contradiction)
  case call c=>
   have hcal:c.callee=.builtin .append:=by
    unfold cls at hc;simp[hop] at hc
    grind
   have hlx:Au ops o=false:=by
    grind [cls,Ge]
   simp[hlx,Bool.not_false] at hx;split at hx
   .split at hx
    .refine gen _ ?_ (Ai hx);unfold rK
     repeat' (first|exact Km.xS|exact Km.pure Pa.none|split)
    .refine gen _ ?_ (Ai hx);unfold xH;simp only[hop,hcal];split
     .rename_i b vs hb _;cases hb;unfold rI;split
      .contradiction
      .contradiction
      .contradiction
      .contradiction
      .contradiction
      .have hrd:∀(s:Sl) (z:Nat) h x h',BW s z h=some (x,h')->h'=h:=by
        grind [BW]
       repeat' (first|exact Km.ask (hrd _ _) λ_=>Km.xS|exact Km.pure Pa.none|split)
      .repeat' (first|exact Km.xS|exact Km.pure Pa.none|split)
      .contradiction
      .contradiction
      .exact Km.pure Pa.none
     .exact Km.pure Pa.none
   grind [isBuiltin]
  all_goals
   grind [cls,vr,qO,pU,tA]
 .cases hx;rfl
 .cases hx
theorem VA (h:zh ops o=true):cls P ops o=.eff:=by
 unfold zh at h;unfold cls;split at h
 .rename_i hop;simp[hop]
 .rename_i c hop;simp[hop];rw[ajr] at h;rcases h with h|h
  .grind [isBuiltin,absurd]
  .have hc:c.callee=.builtin .append:=by
    grind [Au]
   simp[hc,h];rfl
 .cases h
theorem aei (h:xd o=true):cls P ops o=.eff:=by
 grind [xd,cls]
theorem Si {nm}(hs:xd o=true){r}(hx:act P C nm ops E L o h=some (r,h')):(h'=h/\want ops E o≠some true/\∀h2,act P C nm ops E L o h2=some (r,h2)) \/
  (want ops E o=some true/\∃a vs c g base e,A3 E o=some a/\h.get a.block=some (.cells c g base e)/\h'=h.qf a.block (aU c a.off vs) g base e /\
   ∀h2:ai,h2.get a.block=some (.cells c g base e)->act P C nm ops E L o h2=some (r,h2.qf a.block (aU c a.off vs) g base e)):=by
 unfold act at hx⊢;split at hx
 .rename_i hw;refine .inr ⟨hw,?_⟩;unfold xd at hs;split at hs
  .rename_i t x y hop;unfold ex at hx⊢;simp only[hop] at hx⊢;have gen:∀A:Act,A=xH P (some nm) E o->nH (A.exec h)=some (r,h')->∃a vs c g base e,A3 E o=some a/\h.get a.block=some (.cells c g base e)/\h'=h.qf a.block (aU c a.off vs) g base e /\
     ∀h2:ai,h2.get a.block=some (.cells c g base e)->nH (A.exec h2)=some (r,h2.qf a.block (aU c a.off vs) g base e):=by
    intro A hA e;unfold xH at hA;simp[hop] at hA;split at hA
    .rename_i v u n hv hu hn;unfold zg at hA;split at hA
     .rename_i a;split at hA
      .subst hA;simp only[Act.exec] at e⊢;unfold bh at e;generalize hg:h.get a.block=og at e;cases og with
       |none=>simp[nH] at e
       |some au=>
        cases au with
        |cells c g base el=>
         simp only at e;by_cases hc:g≠0/\a.off+u.cells.toList.length<=c.length/\u.cells.toList.all eS=true
         .rw[By hc] at e;simp[nH,adA,air] at e;obtain⟨e1,e2⟩:=e;refine⟨a,u.cells.toList,c,g,base,el,by simp[A3,hop,hv],hg,e2.symm,λh2 e3=>?_⟩;unfold bh;rw[e3];simp only;rw[By hc,<-e1];rfl
         .rw[AT hc] at e;simp[nH] at e
        |_=>simp[nH] at e
      .subst hA;simp[Act.exec,nH] at e
     .subst hA;simp[Act.exec,nH] at e
    .subst hA;simp[Act.exec,nH] at e
   exact gen _ rfl hx
  .cases hs
 .grind
 .cases hx
theorem Sj (h:∀t∈lM ops o,E t=E' t):A3 E o=A3 E' o:=by
 have h:=Cc h;unfold A3;cases hop:o.op<;>simp only[hop,Op.operands] at h⊢;rw[h _ (by simp)]
theorem Gj {ks}(hE:∀t∈lM ops o,E t=E' t):xO E o h ks↔xO E' o h ks:=by
 unfold xO;rw[Sj hE]
theorem Aj {nm}(hc:cls P ops o=.mka){r}(hx:act P C nm ops E L o h=some (r,h')):(h'=h/\∀h2,act P C nm ops E L o h2=some (r,h2)) \/
  ∃kt,h.fresh nm/\h'=h.wo nm kt/\∀h2:ai,h2.fresh nm->act P C nm ops E L o h2=some (r,h2.wo nm kt):=by
 unfold act at hx⊢;split at hx
 .refine .inr ?_;unfold ex at hx⊢;cases hop:o.op<;>simp only[hop] at hx⊢<;>try (unfold cls at hc;simp only[hop] at hc;contradiction)
  case makeMap t x=>
   have gen:∀A:Act,(∀h x h',A.exec h=some (x,h')->∃kt,h.fresh nm/\h'=h.wo nm kt/\∀h2:ai,h2.fresh nm->A.exec h2=some (x,h2.wo nm kt))->nH (A.exec h)=some (r,h') ->
     ∃kt,h.fresh nm/\h'=h.wo nm kt/\∀h2:ai,h2.fresh nm->nH (A.exec h2)=some (r,h2.wo nm kt):=by
    intro A hA e;obtain⟨v,e1,rfl⟩:=rj e;obtain⟨kt,a,c,d⟩:=hA _ _ _ e1;exact⟨kt,a,c,λh2 a=>by rw[d h2 a];rfl⟩
   have one:∀(ty:κ) h x h',(Act.ask Nat (rG nm ty) λm=>.val (.map (some m))).exec h=some (x,h')->∃kt,h.fresh nm/\h'=h.wo nm kt/\∀h2:ai,h2.fresh nm->(Act.ask Nat (rG nm ty) λm=>.val (.map (some m))).exec h2=some (x,h2.wo nm kt):=by
    intro ty h x h' e;simp only[Act.exec,rG,ai.fresh,Option.isNone_iff_eq_none] at e⊢
    grind
   refine gen _ ?_ hx;unfold xH;simp only[hop]
   repeat' (first|exact one _|(intro h x h' e;simp[Act.exec] at e;done)|split)
  all_goals
   unfold cls at hc;simp[hop] at hc
   grind [vr,qO,pU,tA]
 .grind
 .cases hx
theorem aej {nm mo}(HM:∀f vs ca,mo f=true->C.st f vs=some ca->B4 ca.m)(hc:Bb mo o=true){k kt}(h1:h.fresh k){r}
  (hx:act P C nm ops E L o (h.wo k kt)=some (r,h')):∃h3,act P C nm ops E L o h=some (r,h3)/\h3.fresh k/\h'=h3.wo k kt:=by
 unfold act at hx⊢;split at hx
 .unfold Bb at hc;split at hc
  .rename_i c hop;split at hc
   .rename_i f hf;have hb:isBuiltin c=false:=(by unfold isBuiltin;rw[hf]);have hd:rJ C c=none:=(by unfold rJ;rw[hf]);unfold ex at hx⊢;simp[hop,hb,hd] at hx⊢;cases hev:E.LX c.args.toList with
    |none=>
     grind [callee]
    |some vs=>
     have:callee E c=some (f,vs):=(by unfold callee;rw[hf,hev];simp[Env.ev]);simp[this] at hx⊢;split at hx
     .rename_i ca hca;split at hx
      .rename_i x h4 hm;cases hx;obtain⟨h3,q1,q2,q3⟩:=(HM f vs ca hc hca).1 h k kt x h' h1 hm
       grind
      .cases hx
     .cases hx
   .cases hc
  .cases hc
 .grind
 .cases hx
theorem VB {nm mo}(HM:∀f vs ca,mo f=true->C.st f vs=some ca->B4 ca.m)(hc:Bb mo o=true){r}
  (hx:act P C nm ops E L o h=some (r,h')):h'.gH=h.gH:=by
 unfold act at hx;split at hx
 .unfold Bb at hc;split at hc
  .rename_i c hop;split at hc
   .rename_i f hf;have hb:isBuiltin c=false:=(by unfold isBuiltin;rw[hf]);have hd:rJ C c=none:=(by unfold rJ;rw[hf]);unfold ex at hx;simp[hop,hb,hd] at hx;cases hev:E.LX c.args.toList with
    |none=>
     grind [callee]
    |some vs=>
     have:callee E c=some (f,vs):=(by unfold callee;rw[hf,hev];simp[Env.ev]);simp[this] at hx;split at hx
     .rename_i ca hca;split at hx
      .rename_i x h4 hm;cases hx;exact (HM f vs ca hc hca).2 h x _ hm
      .cases hx
     .cases hx
   .cases hc
  .cases hc
 .cases hx;rfl
 .cases hx
def Ir {α}(k:Nat)(m:M α):Prop:=∀(h:ai) t cs (x:α) (h2:ai),h.used k=false->k<h.next->h.get k=none->m (h.aX k h.next t cs)=some (x,h2) ->
 ∃h3,m h=some (x,h3)/\h3.used k=false/\k<h3.next/\h3.get k=none/\h2=h3.aX k h3.next t cs
theorem Sk {α k}{m:M α}{h x h1}(hx:rH k m h=some (x,h1)):m h=some (x,h1)/\BP k m h x h1:=by
 unfold rH at hx;split at hx
 .split at hx
  .grind
  .cases hx
 .cases hx
theorem aaa {α k}{m:M α}{h x h1}(hm:m h=some (x,h1))(hb:BP k m h x h1):rH k m h=some (x,h1):=by
 unfold rH;rw[hm];simp;split
 .rfl
 grind
theorem Sn {α} k (m:M α):Ir k (rH k m):=λh t cs x h2 h1 h3 h4 hx=>by
 obtain⟨hm,hb⟩:=Sk hx;obtain⟨h5,q1,q2,q3,q4,q5⟩:=hb h t cs h1 h3 h4 rfl;refine⟨h5,aaa q1 ?_,q2,q3,q4,q5⟩;intro h0 t' cs' _ _ _ e;rw[e] at h1;simp[ai.aX,ahX] at h1
theorem agT {nm f}(hc:xf o=some f){k}(HB:∀vs ca,C.st f vs=some ca->Ir k ca.m){t cs}(h1:h.used k=false)(h2:k<h.next)(h3:h.get k=none){r}
  (hx:act P C nm ops E L o (h.aX k h.next t cs)=some (r,h')):∃h3,act P C nm ops E L o h=some (r,h3)/\h3.used k=false/\k<h3.next/\h3.get k=none/\h'=h3.aX k h3.next t cs:=by
 unfold act at hx⊢;split at hx
 .unfold xf at hc;split at hc
  .rename_i c hop;split at hc
   .rename_i g hf;cases hc;have hb:isBuiltin c=false:=(by unfold isBuiltin;rw[hf]);have hd:rJ C c=none:=(by unfold rJ;rw[hf]);unfold ex at hx⊢;simp[hop,hb,hd] at hx⊢;cases hev:E.LX c.args.toList with
    |none=>
     grind [callee]
    |some vs=>
     have:callee E c=some (f,vs):=(by unfold callee;rw[hf,hev];simp[Env.ev]);simp[this] at hx⊢;split at hx
     .rename_i ca hca;split at hx
      .rename_i x h4 hm;cases hx;obtain⟨h5,q1,q2,q3,q4,q5⟩:=HB vs ca hca h t cs x h' h1 h2 h3 hm
       grind
      .cases hx
     .cases hx
   .cases hc
  .cases hc
 .grind
 .cases hx
theorem VC {p f}(h:xf p=some f):xd p=false:=by
 grind [xf,xd]
theorem It {h:ai}{k k' nx}(hk:k≠k'){kt t cs}:(h.wo k kt).aX k' nx t cs=(h.aX k' nx t cs).wo k kt:=by
 unfold ai.aX ai.wo ai.mE
 grind
theorem OQ {h:ai}{k k' t cs}(hf:h.fresh k)(hk:k≠k'):(h.aX k' h.next t cs).fresh k:=by
 have:Nat.beq k k'=false:=by grind [Nat.eq_of_beq_eq_true]
 obtain⟨a,b,c,d⟩:=hf;exact⟨by simp[ai.aX,this,a],b,c,by simp[ai.aX,this,d]⟩
theorem HD {h:ai}{k k' t cs}(hf:(h.aX k' h.next t cs).fresh k)(hk:k≠k'):h.fresh k:=by
 have:Nat.beq k k'=false:=by grind [Nat.eq_of_beq_eq_true]
 obtain⟨a,b,c,d⟩:=hf;exact⟨by simpa[ai.aX,this] using a,b,c,by simpa[ai.aX,this] using d⟩
end Classes
section Swap
variable {C:sT}{W:Wr}{nb:Nat}{ops:Array Oper}{Af:Nat->θ}{Ck:Nat->List θ}{Kk:Nat->η}
theorem xj {l i}:IV l i=true↔i∈l:=by
 grind [IV,List.any_eq_true,Nat.eq_of_beq_eq_true,Nat.beq_refl]
theorem jV {E:Env}{L:jl}{d r t}(h:d≠some t):E.res d r t=E t/\L.res d r t=L t:=by
 cases d with
 |none=>cases r<;>exact⟨rfl,rfl⟩
 |some i=>
  have:Nat.beq t i=false:=by
   cases hb:Nat.beq t i
   .rfl
   simp_all
  cases r<;>simp[Env.res,jl.res,Env.put,Env.set,Env.del,jl.put,jl.del,this]
theorem MN {E:Env}{L:jl}{d e r u}(h:∀i,d=some i->e≠some i) :
  (E.res d r).res e u=(E.res e u).res d r/\(L.res d r).res e u=(L.res e u).res d r:=by
 constructor<;>funext t
 .by_cases hd:d=some t
  .have he:=h t hd;rw[(jV (L:=L) he).1];subst hd;cases r<;>simp[Env.res,Env.put,Env.set,Env.del]
  .rw[(jV (L:=L) hd).1];by_cases he:e=some t
   .subst he;cases u<;>simp[Env.res,Env.put,Env.set,Env.del]
   .rw[(jV (L:=L) he).1,(jV (L:=L) hd).1,(jV (L:=L) he).1]
 .by_cases hd:d=some t
  .have he:=h t hd;rw[(jV (E:=E) he).2];subst hd;cases r<;>simp[jl.res,jl.put,jl.del]
  .rw[(jV (E:=E) hd).2];by_cases he:e=some t
   .subst he;cases u<;>simp[jl.res,jl.put,jl.del]
   .rw[(jV (E:=E) he).2,(jV (E:=E) hd).2,(jV (E:=E) he).2]
theorem So {h:ai}{k1 k2}(hk:k1≠k2){t1 t2 c1 c2} :
  (h.aX k1 h.next t1 c1).aX k2 h.next t2 c2=(h.aX k2 h.next t2 c2).aX k1 h.next t1 c1:=by
 have hb:∀j,Nat.beq j k1=true->Nat.beq j k2=false:=λj e=>by
  grind [absurd,Nat.eq_of_beq_eq_true]
 unfold ai.aX;simp[ai.mk.injEq,nL,aim,and_true];refine⟨?_,?_,?_⟩<;>funext j
 .cases e1:Nat.beq j k1
  .rfl
  .simp[hb j e1]
 .cases e1:Nat.beq j (k1+1)
  .simp
  .have:Nat.beq j (k2+1)=false:=by
    cases e2:Nat.beq j (k2+1)
    .rfl
    .have h1:=IS e1;have h2:=IS e2;omega
   simp[this]
 .cases e1:Nat.beq j k1
  .rfl
  .simp[hb j e1]
theorem VD {h:ai}{k}(hk:k≠h.next){t1 t2 c1 c2}:(h.aX k h.next t1 c1).new t2 c2=(h.new t2 c2).aX k (h.new t2 c2).next t1 c1:=by
 have hb:∀j a b,a≠b->Nat.beq j a=true->Nat.beq j b=false:=λj a b hab e=>by
  grind [absurd,Nat.eq_of_beq_eq_true]
 unfold ai.new ai.aX;simp[ai.mk.injEq,nL,aim,and_true]
 grind
theorem core {mo}(HM:∀f vs ca,mo f=true->C.st f vs=some ca->B4 ca.m){i j o p ck}(HB:ck=true->D8 (cls P ops o)=true->∀f,xf p=some f->∀vs ca,C.st f vs=some ca->Ir (nb+i) ca.m){E L h h1 h2 r u}(hij:i≠j)
  (hsw:(match cls P ops o,cls P ops p with
   |.sil,_|_,.sil | .ro,.ro | .ro,.alloc | .ro,.add | .alloc,.alloc=>true
   |.ro,.mro | .mro,.ro | .mro,.mro | .mro,.alloc | .mro,.add | .alloc,.mro | .add,.mro=>true
   |.ro,.eff=>ck&&zh ops p
   |.alloc,.eff=>ck&&(xd p||(xf p).isSome)
   |.ro,.mka | .mka,.ro | .mka,.alloc | .alloc,.mka | .mro,.mka=>true
   |.mka,.eff | .mro,.eff=>Bb mo p
   |.add,.alloc=>B8 ops o
   |_,_=>false)=true)(hkk:ck=true->D8 (cls P ops o)=true->nb+i∈Kk j)(si:want ops E o=some true->xO E o h (Kk i))(sj:want ops E p=some true->xO E p h1 (Kk j))(hck:ck=true->Af i∈Ck j)(hrd:want ops E o=some true->nO E o=Af i)
  (hi:act P C (nb+i) ops E L o h=some (r,h1))(ci:zh ops o=true->sameAt h h1 (Ck i)=true)
  (hj:act P C (nb+j) ops E L p h1=some (u,h2))(cj:zh ops p=true->sameAt h1 h2 (Ck j)=true) :
  ∃h3,act P C (nb+j) ops E L p h=some (u,h3)/\act P C (nb+i) ops E L o h3=some (r,h2) /\
   (zh ops p=true->sameAt h h3 (Ck j)=true)/\(zh ops o=true->sameAt h3 h2 (Ck i)=true) /\
   (want ops E p=some true->xO E p h (Kk j))/\(want ops E o=some true->xO E o h3 (Kk i)):=by
 have noSt:∀{q:Oper} {hh:ai} {ks:η},cls P ops q≠.eff->want ops E q=some true->xO E q hh ks:=λhq _ hs=>absurd (aei hs) hq;have first:h1=h->cls P ops o≠.eff->(∀h2,act P C (nb+i) ops E L o h2=some (r,h2))->∃h3,act P C (nb+j) ops E L p h=some (u,h3)/\act P C (nb+i) ops E L o h3=some (r,h2) /\
   (zh ops p=true->sameAt h h3 (Ck j)=true)/\(zh ops o=true->sameAt h3 h2 (Ck i)=true) /\
   (want ops E p=some true->xO E p h (Kk j))/\(want ops E o=some true->xO E o h3 (Kk i)):=by
  grind [sameAt_refl]
 have second:h2=h1->cls P ops p≠.eff->act P C (nb+j) ops E L p h=some (u,h)->∃h3,act P C (nb+j) ops E L p h=some (u,h3)/\act P C (nb+i) ops E L o h3=some (r,h2) /\
   (zh ops p=true->sameAt h h3 (Ck j)=true)/\(zh ops o=true->sameAt h3 h2 (Ck i)=true) /\
   (want ops E p=some true->xO E p h (Kk j))/\(want ops E o=some true->xO E o h3 (Kk i)):=by
  grind [sameAt_refl]
 have noCk:∀{q:Oper},cls P ops q≠.eff->∀{X:Prop},zh ops q=true->X:=λhq X hc=>absurd (VA hc) hq;cases ho:cls P ops o
 case sil=>grind [xR]
 case add=>
  cases hp:cls P ops p<;>rw[ho,hp] at hsw
  case sil=>grind [xR]
  case mro=>grind [Ce,Iq,ME.of]
  case alloc=>
   rcases pV hp hj with⟨e1,e3⟩|⟨t,cs,a1,a2,a3,rfl,a4⟩
   .grind
   rcases Z9 hsw ho hi with⟨rfl,q⟩|⟨hn,⟨rfl,q⟩|⟨e,ds,rfl,q⟩⟩
   .grind
   .exact⟨_,hj,q _ (QF a2 a3 hn),noCk (by rw[hp];simp),noCk (by rw[ho];simp),noSt (by rw[hp];simp),noSt (by rw[ho];simp)⟩
   .have hne:Nat.beq (nb+j) h.next=false:=by
     cases e2:Nat.beq (nb+j) h.next
     .rfl
     .simp[ai.new,ai.aX,e2] at a1
    have hnx:nb+j≠h.next:=λe3=>by grind [Nat.beq_refl]
    have b1:h.used (nb+j)=false:=(by simpa[ai.new,ai.aX,hne] using a1);have b2:nb+j<h.next:=by have:nb+j<h.next+1:=a2;omega
    have b3:h.get (nb+j)=none:=(by simpa[ai.new,ai.aX,hne] using a3);refine⟨_,a4 h b1 b2 b3,?_,noCk (by rw[hp];simp),noCk (by rw[ho];simp),noSt (by rw[hp];simp),noSt (by rw[ho];simp)⟩
    grind [QF,VD]
  all_goals cases hsw
 case mro=>
  obtain⟨rfl,e2⟩:=Ce ho hi;cases hp:cls P ops p<;>rw[ho,hp] at hsw
  case sil=>grind [xR]
  case ro=>obtain⟨rfl,_⟩:=Jd hp hj;grind
  case mro=>obtain⟨rfl,_⟩:=Ce hp hj;grind
  case alloc=>
   rcases pV hp hj with⟨e1,e3⟩|⟨t,cs,a1,a2,a3,rfl,a4⟩
   .grind
   .exact⟨_,hj,e2 _ (ME.of rfl),noCk (by rw[hp];simp),noCk (by rw[ho];simp),noSt (by rw[hp];simp),noSt (by rw[ho];simp)⟩
  case add=>exact⟨_,hj,e2 _ (ME.of (Iq hp hj)),noCk (by rw[hp];simp),noCk (by rw[ho];simp),noSt (by rw[hp];simp),noSt (by rw[ho];simp)⟩
  case eff=>exact⟨_,hj,e2 _ (ME.of (VB HM hsw hj)),cj,noCk (by rw[ho];simp),sj,noSt (by rw[ho];simp)⟩
  case mka=>
   rcases Aj hp hj with⟨e1,e3⟩|⟨kt,a1,rfl,a4⟩
   .grind
   .refine⟨_,hj,e2 _ λm x hm=>?_,noCk (by rw[hp];simp),noCk (by rw[ho];simp),noSt (by rw[hp];simp),noSt (by rw[ho];simp)⟩;have hn:Nat.beq m (nb+j)=false:=by
     cases q:Nat.beq m (nb+j)
     .rfl
     .rw[IS q,a1.2.2.1] at hm;cases hm
    simp[ai.wo,ai.mE,hn,hm]
  all_goals cases hsw
 case eff=>
  cases hp:cls P ops p<;>rw[ho,hp] at hsw
  case sil=>grind [xR]
  all_goals cases hsw
 case ro=>
  obtain⟨rfl,e2⟩:=Jd ho hi;rcases e2 with e2|⟨hw,b,hb,hn,e2⟩
  .grind
  .cases hp:cls P ops p
   case sil=>grind [xR]
   case ro=>obtain⟨rfl,_⟩:=Jd hp hj;grind
   case mro=>obtain⟨rfl,_⟩:=Ce hp hj;grind
   case alloc=>
    rcases pV hp hj with⟨e1,e3⟩|⟨t,cs,a1,a2,a3,rfl,a4⟩
    .grind
    .refine⟨_,hj,e2 _ (gb.of ?_),noCk (by rw[hp];simp),noCk (by rw[ho];simp),noSt (by rw[hp];simp),noSt (by rw[ho];simp)⟩;have:Nat.beq b.block (nb+j)=false:=by
      grind [Nat.eq_of_beq_eq_true,absurd]
     simp[ai.aX,this]
   case add=>exact⟨_,hj,e2 _ (gb.of (Z8 hp hj _ hn)),noCk (by rw[hp];simp),noCk (by rw[ho];simp),noSt (by rw[hp];simp),noSt (by rw[ho];simp)⟩
   case mka=>
    rcases Aj hp hj with⟨e1,e3⟩|⟨kt,a1,rfl,a4⟩
    .grind
    .exact⟨_,hj,e2 _ (gb.of rfl),noCk (by rw[hp];simp),noCk (by rw[ho];simp),noSt (by rw[hp];simp),noSt (by rw[ho];simp)⟩
   case eff=>
    rw[ho,hp] at hsw;simp at hsw;have hm:=hck hsw.1;rw[<-hrd hw,hb] at hm;exact⟨_,hj,e2 _ (tx (cj hsw.2) hm),cj,noCk (by rw[ho];simp),sj,noSt (by rw[ho];simp)⟩
 case mka=>
  cases hp:cls P ops p<;>rw[ho,hp] at hsw
  case sil=>grind [xR]
  case ro=>
   obtain⟨rfl,e2⟩:=Jd hp hj;rcases Aj ho hi with⟨e1,e3⟩|⟨kt,a1,rfl,a4⟩
   .grind
   rcases e2 with e2|⟨hw,b,hb,hn,e2⟩
   .grind
   .exact second rfl (by rw[hp];simp) (e2 _ (gb.of rfl))
  case eff=>
   rcases Aj ho hi with⟨e1,e3⟩|⟨kt,a1,rfl,a4⟩
   .grind
   obtain⟨h3,q1,q2,rfl⟩:=aej HM hsw a1 hj;refine⟨h3,q1,a4 h3 q2,λhcp=>?_,noCk (by rw[ho];simp),λ_ hs=>?_,noSt (by rw[ho];simp)⟩
   .have hsm:=cj hcp;refine vq λx hx b hb=>?_;subst hb;exact (tx hsm hx).cast rfl rfl
   grind [Bb,xd]
  case alloc=>
   rcases Aj ho hi with⟨e1,e3⟩|⟨kt,a1,rfl,a4⟩
   .grind
   rcases pV hp hj with⟨e1,e3⟩|⟨t,cs,b1,b2,b3,rfl,b4⟩
   .grind
   have hne:Nat.beq (nb+j) (nb+i)=false:=by
    grind [Nat.eq_of_beq_eq_true]
   have hne':Nat.beq (nb+i) (nb+j)=false:=by
    grind [Nat.eq_of_beq_eq_true]
   have c1:h.used (nb+j)=false:=by simpa[ai.wo,hne] using b1
   refine⟨_,b4 h c1 b2 b3,?_,noCk (by rw[hp];simp),noCk (by rw[ho];simp),noSt (by rw[hp];simp),noSt (by rw[ho];simp)⟩;rw[a4 _ (OQ a1 (by omega)),It (by omega)];rfl
  all_goals cases hsw
 case alloc=>
  cases hp:cls P ops p
  case sil=>grind [xR]
  case mka=>
   rcases pV ho hi with⟨e1,e3⟩|⟨t,cs,b1,b2,b3,rfl,b4⟩
   .exact first e1 (by rw[ho];simp) e3
   rcases Aj hp hj with⟨e1,e3⟩|⟨kt,a1,rfl,a4⟩
   .exact second e1 (by rw[hp];simp) (e3 _)
   have hne:Nat.beq (nb+j) (nb+i)=false:=by
    grind [Nat.eq_of_beq_eq_true]
   have hne':Nat.beq (nb+i) (nb+j)=false:=by
    grind [Nat.eq_of_beq_eq_true]
   refine⟨_,a4 h (HD a1 (by omega)),?_,noCk (by rw[hp];simp),noCk (by rw[ho];simp),noSt (by rw[hp];simp),noSt (by rw[ho];simp)⟩;rw[b4 (h.wo (nb+j) kt) (by simp[ai.wo,hne',b1]) b2 b3,It (by omega)];rfl
  case mro=>
   obtain⟨e1,e2⟩:=Ce hp hj;rcases pV ho hi with⟨rfl,_⟩|⟨t,cs,a1,a2,a3,rfl,a4⟩
   .grind
   .exact second e1 (by rw[hp];simp) (e2 _ (ME.of rfl))
  case alloc=>
   rcases pV ho hi with⟨e1,e2⟩|⟨t,cs,a1,a2,a3,rfl,a4⟩
   .exact first e1 (by rw[ho];simp) e2
   rcases pV hp hj with⟨e1,e2⟩|⟨t',cs',b1,b2,b3,rfl,b4⟩
   .exact second e1 (by rw[hp];simp) (e2 _)
   have hne:Nat.beq (nb+j) (nb+i)=false:=by
    grind [Nat.eq_of_beq_eq_true]
   have hne':Nat.beq (nb+i) (nb+j)=false:=by
    grind [Nat.eq_of_beq_eq_true]
   simp[ai.aX,hne,aii,nL] at b1 b2 b3;refine⟨_,b4 h b1 b2 b3,?_,noCk (by rw[hp];simp),noCk (by rw[ho];simp),noSt (by rw[hp];simp),noSt (by rw[ho];simp)⟩;have:=a4 (h.aX (nb+j) h.next t' cs') (by simp[ai.aX,hne',a1]) a2 (by simp[ai.aX,hne',a3])
   rw[this]
   congr 2
   exact (So (by omega)).symm
  case eff=>
   rw[ho,hp] at hsw;simp only[ach] at hsw;obtain⟨hc1,hst⟩:=hsw;rcases pV ho hi with⟨e1,e2⟩|⟨t,cs,a1,a2,a3,rfl,a4⟩
   .grind
   have hk:=hkk hc1 (by rw[ho];rfl);cases hsc:xf p with
   |some f=>
    obtain⟨h3,q1,q2,q3,q4,rfl⟩:=agT hsc (HB hc1 (by rw[ho];rfl) f hsc) a1 a2 a3 hj;refine⟨h3,q1,a4 h3 q2 q3 q4,λhcp=>?_,noCk (by rw[ho];simp),λ_ hs=>?_,noSt (by rw[ho];simp)⟩
    .have hsm:=cj hcp;refine vq λx hx b hb=>?_;subst hb;have h5:=tx hsm hx;cases q5:Nat.beq b.block (nb+i)
     .exact h5.cast (by simp[ai.aX,q5]) (by simp[ai.aX,q5])
     .refine gb.of ?_
      grind [Nat.eq_of_beq_eq_true]
    grind [VC]
   |none=>
   rw[hsc] at hst;simp at hst;rcases Si hst hj with⟨e1,e2,e3⟩|⟨hw,a,vs,c,g,base,e,b1,b2,rfl,b4⟩
   .grind [sameAt_refl,absurd]
   .have hne:Kk j≠[]:=List.ne_nil_of_mem hk;obtain⟨a',c1,c2⟩:=sj hw hst hne;rw[b1] at c1;cases c1;have c2':=c2;unfold ZO at c2;rw[b2] at c2;have c3:=List.all_eq_true.1 c2 _ hk;simp at c3;obtain⟨d1,d2⟩:=c3;have hga:(h.aX (nb+i) h.next t cs).get a.block=h.get a.block:=by simp[ai.aX,d1]
    have b2':h.get a.block=some (.cells c g base e):=(by rw[<-hga];exact b2);have hka:Nat.beq (nb+i) a.block=false:=by
     grind [Nat.eq_of_beq_eq_true,Nat.beq_refl]
    have hkg:Nat.beq (nb+i+1) g=false:=by
     grind [Nat.eq_of_beq_eq_true,Nat.beq_refl]
    have hnone:(h.qf a.block (aU c a.off vs) g base e).get (nb+i)=none:=(by simp[ai.qf,hka,a3]);have hcomm:(h.qf a.block (aU c a.off vs) g base e).aX (nb+i) h.next t cs=(h.aX (nb+i) h.next t cs).qf a.block (aU c a.off vs) g base e:=by
     unfold ai.aX ai.qf;simp only[ai.mk.injEq,aim,and_true];funext q;cases q1:Nat.beq q (nb+i)
     .cases q2:Nat.beq q a.block<;>simp[q1]
     grind [Nat.eq_of_beq_eq_true]
    refine⟨_,b4 h b2',?_,λhcp=>?_,noCk (by rw[ho];simp),λ_ _ _=>⟨a,b1,?_⟩,noSt (by rw[ho];simp)⟩
    .have:=a4 (h.qf a.block (aU c a.off vs) g base e) a1 a2 hnone;rw[this]
     congr 2
    .have hsm:=cj hcp;refine vq λx hx b hb=>?_;subst hb;have h5:=tx hsm hx;cases q1:Nat.beq b.block (nb+i)
     .exact h5.cast (by simp[ai.aX,q1]) (by simp[ai.qf,ai.aX,q1])
     .refine gb.of ?_
      grind [Nat.eq_of_beq_eq_true]
    grind [ZO]
  all_goals
   grind
theorem aab {mo}(HM:∀f vs ca,mo f=true->C.st f vs=some ca->B4 ca.m){i j o p ck}(HB:ck=true->D8 (cls P ops o)=true->∀f,xf p=some f->∀vs ca,C.st f vs=some ca->Ir (nb+i) ca.m){s s1 s2}(ho:ops[i]?=some o)(hp:ops[j]?=some p)(hij:i≠j)(hsw:Qq P mo ops o p ck=true)(hck:ck=true->Af i∈Ck j)(hkk:ck=true->D8 (cls P ops o)=true->nb+i∈Kk j)
  (h1:Step P C W nb ops Af Ck Kk i s s1)(h2:Step P C W nb ops Af Ck Kk j s1 s2):∃s1',Step P C W nb ops Af Ck Kk j s s1'/\Step P C W nb ops Af Ck Kk i s1' s2:=by
 obtain⟨E,L,h⟩:=s;obtain⟨E1,L1,h1'⟩:=s1;obtain⟨E2,L2,h2'⟩:=s2;obtain⟨o',r,ho',hWi,hri,hai,e1,e2,hci,hsi⟩:=h1;obtain⟨p',u,hp',hWj,hrj,haj,e3,e4,hcj,hsj⟩:=h2;rw[ho] at ho';cases ho';rw[hp] at hp';cases hp';simp only at *
 subst e1;subst e2;subst e3;subst e4;unfold Qq at hsw;rw[ach] at hsw;obtain⟨hap,hsw⟩:=hsw;unfold apart at hap;simp at hap;obtain⟨⟨q1,q2⟩,q3⟩:=hap;have d1:∀t∈lM ops p,o.dst≠some t:=by
  grind [Bool.not_eq_true',xj]
 have d2:∀t∈lM ops o,p.dst≠some t:=by
  grind [Bool.not_eq_true',xj]
 have d3:∀t,o.dst=some t->p.dst≠some t:=by
  intro t e1 e2
  simp_all
 have cE:∀t∈lM ops p,E.res o.dst r t=E t:=λt ht=>(jV (L:=L) (d1 t ht)).1;have cL:∀t∈lM ops p,L.res o.dst r t=L t:=λt ht=>(jV (E:=E) (d1 t ht)).2;have cE':∀t∈lM ops o,E.res p.dst u t=E t:=λt ht=>(jV (L:=L) (d2 t ht)).1;have cL':∀t∈lM ops o,L.res p.dst u t=L t:=λt ht=>(jV (E:=E) (d2 t ht)).2;rw[Ip cE cL] at haj;obtain⟨h3,g1,g2,g3,g4,g5,g6⟩:=core HM HB hij hsw hkk hsi (λhw=>(Gj cE).1 (hsj (by rw[vJ cE];exact hw))) hck hri hai hci haj hcj;refine⟨(E.res p.dst u,L.res p.dst u,h3),⟨p,u,hp,hWj,?_,g1,rfl,rfl,g3,g5⟩,⟨o,r,ho,hWi,?_,?_,?_,?_,g4,λhw=>(Gj cE').2 (g6 (by rw[<-vJ cE'];exact hw))⟩⟩
 .intro hw;rw[<-Cd cE];exact hrj (by rw[vJ cE];exact hw)
 .intro hw;rw[Cd cE'];exact hri (by rw[<-vJ cE'];exact hw)
 .simp;rw[Ip cE' cL'];exact g2
 .exact (MN (L:=L) d3).1
 .exact (MN (E:=E) d3).2
end Swap
theorem Eg e:xg e=Region.binds .any e:=by
 unfold xg Region.binds;split<;>simp_all
theorem MP {x}:∀{l a},x∈Vb l a->x∈l\/x∈a
 |[],a,h=>.inr h
 |y::l,a,h=>by
  rw[Vb] at h;rcases MP h with h|h
  .grind
  grind
theorem Gl {ops:Array Oper}{σ}(hn:σ.Nodup)(hr:∀i o e,ops[i]?=some o->e∈o.after.toList->xg e=true->LU σ e.on i) :
  ∀(rest:List Oper) acc ,(∀n o,rest[n]?=some o->ops[acc.length+n]?=some o)->(∀j i,i∈acc.getD j []->LU σ i j) ->
   ∀j i,i∈(rest.foldl (λacc o=>acc++[Vb ((o.after.toList.filter xg).flatMap λe=>e.on::acc.getD e.on []) []]) acc).getD j []->LU σ i j
 |[],acc,_,ha,j,i,hi=>ha j i hi
 |o::rest,acc,hs,ha,j,i,hi=>by
  refine Gl hn hr rest _ ?_ ?_ j i hi
  .intro n o' ho';have:=hs (n+1) o' (by simpa using ho')
   grind
  .intro j i hi;have ho:=hs 0 o rfl;simp at ho;rcases Nat.lt_trichotomy j acc.length with hj|hj|hj
   .grind
   .subst hj;simp at hi;have hi:=(MP hi).resolve_right (by simp);simp only[List.mem_flatMap,ajU] at hi;obtain⟨e,⟨he,hb⟩,hi⟩:=hi;have h1:=hr _ o e ho he hb;rcases List.mem_cons.1 hi with rfl|hi
    .exact h1
    .exact Io hn (ha e.on i (by grind)) h1
   grind
theorem Gm {mo ops pr}:∀{l},Fk P mo ops pr l=true->∀i j,LU (l.map (·.1)) i j ->
  ∃cj,(j,cj)∈l/\(i∈pr.getD j []\/∃o p,ops[i]?=some o/\ops[j]?=some p/\Qq P mo ops o p (IV cj i)=true)
 |[],_,_,_,hb=>by cases hb
 |(a,c)::l,hp,i,j,hb=>by
  unfold Fk at hp;rw[ach] at hp;obtain⟨h1,h2⟩:=hp;cases hb with
  |cons _ hb=>
   obtain⟨cj,h3,h4⟩:=Gm h2 i j hb
   grind
  |cons_cons _ hb=>
   have:j∈l.map (·.1):=hb.subset (by simp)
   obtain⟨⟨j',cj⟩,hm,e⟩:=List.mem_map.1 this;simp at e;grind [xj]
theorem OR {R C W nb ops l E}{K:Env->M R}{h r}(HM:∀f vs ca,C.mo f=true->C.st f vs=some ca->B4 ca.m)
  (HB:∀(j:Nat) cs (i:Nat) o p f,(j,cs)∈l->i∈cs->ops[i]?=some o->D8 (cls P ops o)=true->ops[j]?=some p->xf p=some f->∀vs ca,C.st f vs=some ca->Ir (nb+i) ca.m)(hok:Om P C.mo ops l=true) t
  (hx:ki P C W (some nb) ops l E jl.emp (λ_=>none) K h=some r) :
  ki P C W (some nb) ops ((Region.schedule (P.follows .mixedOrders) ops t).map λi=>(i,[])) E jl.emp (λ_=>none) K h=some r:=by
 unfold Om at hok;simp only[ach] at hok;obtain⟨⟨⟨hmx,hpm⟩,hed⟩,hpr⟩:=hok;rw[Region.schedule,hmx,Bool.true_or,By rfl];have hpm:=List.isPerm_iff.1 hpm;have hlt:∀i o e,ops[i]?=some o->e∈o.after.toList->Region.binds .any e=true->e.on<i:=by
  intro i o e ho he hb;rw[ah5] at hed;have h1:=hed (o,i) (by
   grind)
  simp only[ah5] at h1;have h2:=h1 e he;rw[Eg,hb] at h2
  simp_all
 obtain⟨s1,s2,s3⟩:=Gb hlt t;generalize Region.linearise .any ops t=σ at s1 s2 s3;have hnd:(l.map (·.1)).Nodup:=(hpm.nodup_iff).2 aho
 obtain⟨Af,Ck,Kk,E',L',h',hrun,hK,hks⟩:=Gf l E jl.emp (λ_=>none) h hnd hx;have hp:=Gl s1 (λi o e a b c=>s3 i o e a b (by grind [Eg])) ops.toList [] (by simp) (by simp);have hany:=CP.any σ (l.map (·.1)) (hpm.trans s2.symm) (λi j hij hji s s1' s2' q1 q2=>by
  obtain⟨cj,hm,hc⟩:=Gm hpr i j hij;rcases hc with hc|⟨o,p,ho,hp',hsw⟩
  .exact absurd hji λhji=>Dd s1 (hp j i hc) hji
  .refine aab HM (λhck hal f hf=>HB j cj i o p f hm (xj.1 hck) ho hal hp' hf) ho hp' ?_ hsw ?_ ?_ q1 q2
   .rintro rfl;exact Dd hnd hij hij
   .grind [xj]
   .intro hck hal;have hmem:=xj.1 hck;rw[(hks j cj hm i hmem).2.2];unfold Ez
    grind) hrun
 exact Gg σ _ (E,jl.emp,h) (E',L',h') hany hK
end Go.Ago
