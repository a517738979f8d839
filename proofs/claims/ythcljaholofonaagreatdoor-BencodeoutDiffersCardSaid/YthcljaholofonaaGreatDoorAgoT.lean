
import Derived.Test.YthcljaholofonaaGreatDoorAgoF
set_option linter.all false
namespace Go.Ago
open Go
variable {P:Program}{h h' h1:aj}
section Trace
variable {S:Type}
inductive F6 (Step:Nat->S->S->Prop):η->S->S->Prop where
 |nil (s:S):F6 Step [] s s
 |cons {i:Nat} {l:η} {s s1 s2:S}:Step i s s1->F6 Step l s1 s2->F6 Step (i::l) s s2
theorem F6.mono {St St':Nat->S->S->Prop}:∀{l} {s f},(∀i∈l,∀s s',St i s s'->St' i s s')->F6 St l s f->F6 St' l s f
 |[],_,_,_,.nil _=>.nil _
 |_::_,_,_,hc,.cons h1 h2=>.cons (hc _ (OF ..) _ _ h1) (F6.mono (λi hi=>hc i (IN _ hi)) h2)
abbrev G6 (l:η)(i j:Nat):Prop:=[i,j].Sublist l
theorem F6.front {Step:Nat->S->S->Prop}{x}:∀t1 {t2} {s f},(∀y∈t1,∀s s1 s2,Step y s s1->Step x s1 s2->∃s1',Step x s s1'/\Step y s1' s2) ->
  F6 Step (t1++x::t2) s f->F6 Step (x::(t1++t2)) s f
 |[],t2,s,f,_,hr=>hr
 |y::t1,t2,s,f,hc,hr=>by
  cases hr with
  |cons h1 h2=>
   have ih:=F6.front t1 (λz hz=>hc z (IN _ hz)) h2;cases ih with
   |cons h3 h4=>
    obtain⟨s1',q1,q2⟩:=hc y (OF ..) _ _ _ h1 h3;exact .cons q1 (.cons q2 h4)
theorem F6.any {Step:Nat->S->S->Prop}:∀σ τ {s f},τ.Perm σ ->
  (∀i j,G6 τ i j->G6 σ j i->∀s s1 s2,Step i s s1->Step j s1 s2->∃s1',Step j s s1'/\Step i s1' s2)->F6 Step τ s f->F6 Step σ s f
 |[],τ,s,f,hp,_,hr=>by
  simp_all
 |x::σ,τ,s,f,hp,hc,hr=>by
  have hx:x∈τ:=hp.symm.subset (OF ..);obtain⟨t1,t2,rfl⟩:=List.append_of_mem hx;have hp':(t1++t2).Perm σ:=by
   have h1:(x::(t1++t2)).Perm (x::σ):=(List.perm_middle.symm).trans hp;exact h1.cons_inv
  have hf:=F6.front t1 (λy hy=>?_) hr
  .cases hf with
   |cons h1 h2=>
    refine .cons h1 (F6.any σ (t1++t2) hp' (λi j hij hji=>hc i j ?_ ?_) h2)
    .grind
    grind
  grind
end Trace
theorem lW:∀{l} {i j},l.Nodup->G6 l i j->G6 l j i->False
 |[],_,_,_,h,_=>by cases h
 |x::l,i,j,hn,h1,h2=>by
  obtain⟨hx,hn⟩:=List.nodup_cons.1 hn;cases h1 with
  |cons _ h1=>
   cases h2 with
   |cons _ h2=>exact lW hn h1 h2
   |cons_cons _ h2=>grind
  |cons_cons _ h1=>
   grind
theorem My:∀{l} {i j k},l.Nodup->G6 l i j->G6 l j k->G6 l i k
 |[],_,_,_,_,h,_=>by cases h
 |x::l,i,j,k,hn,h1,h2=>by
  obtain⟨hx,hn⟩:=List.nodup_cons.1 hn;cases h1 with
  |cons _ h1=>
   cases h2 with
   |cons _ h2=>exact .cons _ (My hn h1 h2)
   |cons_cons _ h2=>grind
  |cons_cons _ h1=>
   grind
theorem RE:∀{l1 l2:η},l1.Nodup->(∀i∈l1,i∈l2)->l1.length<=l2.length
 |[],_,_,_=>aea _
 |x::l,l2,hn,hs=>by
  obtain⟨hx,hn⟩:=List.nodup_cons.1 hn;have h1:=RE hn λi hi=>(List.mem_erase_of_ne (λe=>hx (by subst e;exact hi))).2 (hs i (IN _ hi))
  grind
section Orders
variable {ops:Array Oper}
theorem Um (hlt:∀i o e,ops[i]?=some o->e∈o.after.toList->Region.binds .any e=true->e.on<i) :
  ∀fuel t listed acc ,fuel+acc.length=ops.size->listed.size=ops.size->acc.Nodup ->
   (∀i,i<ops.size->(listed.getD i true=true↔i∈acc))->(∀i∈acc,i<ops.size) ->
   (∀i o e,ops[i]?=some o->i∈acc->e∈o.after.toList->Region.binds .any e=true->G6 acc.reverse e.on i) ->
   ∃l,Region.linearise.go .any ops fuel t listed acc=l/\l.length=ops.size/\l.Nodup/\(∀i∈l,i<ops.size) /\
    (∀i o e,ops[i]?=some o->i∈l->e∈o.after.toList->Region.binds .any e=true->G6 l e.on i)
 |0,t,listed,acc,hl,hs,hn,hm,hb,hr=>⟨acc.reverse,rfl,by simp;omega,by grind,by simpa using hb,λi o e h1 h2 h3 h4=>hr i o e h1 (by simpa using h2) h3 h4⟩
 |fuel+1,t,listed,acc,hl,hs,hn,hm,hb,hr=>by
  unfold Region.linearise.go;generalize hrs:((List.range ops.size).filter λi=>!listed.getD i true&&((ops[i]?).map (·.after.all λe=>!Region.binds .any e||listed.getD e.on false)).getD false)=rs
  have hmem:∀i,i∈rs↔i<ops.size/\i∉acc/\∃o,ops[i]?=some o/\∀e∈o.after.toList,Region.binds .any e=true->e.on∈acc:=by
   intro i;subst hrs;rw[aq4,List.mem_range];refine and_congr_right λhi=>?_;have ho:ops[i]?=some ops[i]:=by simp[hi]
   rw[ho];have h1:(!listed.getD i true)=true↔i∉acc:=by
    grind
   rw[ac5,h1];refine and_congr_right λ_=>?_;simp only[apm,Option.getD_some,adW,exists_eq_left',Array.all_eq_true',apl,apy,Array.mem_toList_iff]
   grind
  have hne:rs≠[]:=by
   have hex:∃i,i<ops.size/\i∉acc:=by
    by_cases hc:∃i,i<ops.size/\i∉acc
    .exact hc
    .exfalso;have:=RE anX λi hi=>by
      by_cases hia:i∈acc
      .exact hia
      .exact absurd ⟨i,List.mem_range.1 hi,hia⟩ hc
     simp at this;omega
   obtain⟨i,hi⟩:=hex;have hmin:∀n i,i<=n->i<ops.size/\i∉acc->∃k,k<ops.size/\k∉acc/\∀m,m<k->m∈acc:=by
    intro n
    induction n with
    |zero=>
     grind
    |succ n ih=>
     intro i h0 hi;by_cases hc:∃m,m<=n/\m<i/\m∉acc
     .obtain⟨m,h1,h2,h3⟩:=hc;exact ih m h1 ⟨by omega,h3⟩
     grind
   obtain⟨k,h1,h2,h3⟩:=hmin i i (acX _) hi;have:k∈rs:=(hmem k).2 ⟨h1,h2,ops[k],by simp[h1],λe he hbd=>h3 _ (hlt k _ e (by simp[h1]) he hbd)⟩
   grind
  have hlen:0<rs.length:=List.length_pos_iff.2 hne;have hget:rs[t%rs.length]?=some (rs[t%rs.length]'(ari _ hlen)):=adg _;simp only[hget];have hi:=(hmem _).1 (aoy (ari t hlen));generalize rs[t%rs.length]'(ari _ hlen)=i at hi;obtain⟨h1,h2,o,ho,h3⟩:=hi;refine Um hlt fuel _ _ (i::acc) (by simp;omega) (by simp[hs]) (List.nodup_cons.2 ⟨h2,hn⟩) (λj hj=>?_) (λj hj=>?_) (λj o' e hj hjm he hbd=>?_)
  .by_cases hij:i=j
   .subst hij;simp[anO,apL,hs,hj]
   .rw[apt];have:(listed.setIfInBounds i true).getD j true=listed.getD j true:=by
     simp[anO,apL,hij]
    grind
  .grind
  .rw[List.reverse_cons]
   grind
theorem JR (hlt:∀i o e,ops[i]?=some o->e∈o.after.toList->Region.binds .any e=true->e.on<i) t :
  (Region.linearise .any ops t).Nodup/\(Region.linearise .any ops t).Perm (List.range ops.size) /\
   (∀i o e,ops[i]?=some o->e∈o.after.toList->Region.binds .any e=true->G6 (Region.linearise .any ops t) e.on i):=by
 obtain⟨l,e,hl,hn,hb,hr⟩:=Um hlt ops.size t (Array.replicate ops.size false) [] (by simp) (by simp) aoO
  (λi hi=>by simp_all) (by simp) (by simp)
 rw[Region.linearise];have hp:l.Perm (List.range ops.size):=(aqM hn anX).2 λi=>⟨λhi=>List.mem_range.2 (hb i hi),λhi=>by
  by_cases hc:i∈l
  .exact hc
  .have:=RE (List.nodup_cons.2 ⟨hc,hn⟩) (l2:=List.range ops.size) λj hj=>by
    grind
   simp at this;omega⟩
 grind
end Orders
inductive Res where
 |val (v:ξ)
 |lit (x:Nat×δ)
def Env.res (E:Env)(d:μ):Res->Env
 |.val v=>E.put d v
 |.lit _=>E.del d
def gD.res (L:gD)(d:μ):Res->gD
 |.val _=>L.del d
 |.lit x=>L.put d x
def nQ (m:Option (ξ×aj)):Option (Res×aj):=match m with
 |some (v,h)=>some (.val v,h)
 |none=>none
def ex (P:Program)(C:EW)(nm:Nat)(ops:Array Oper)(E:Env)(L:gD)(o:Oper):M Res:=λh=>
 match o.op with
 |.pick c a b=>(match E.ev c with
  |some (.bool true)=>(match E.ev a with|some v=>some (.val v,h)|none=>none)
  |some (.bool false)=>(match E.ev b with|some v=>some (.val v,h)|none=>none)
  |_=>none)
 |.call c=>(match isBuiltin c with
  |true=>(match yh L c with
   |some (n,cs)=>nQ ((B8 (FY ops o) E c (ug P (!Ec ops o) E c n cs)).exec h)
   |none=>(match Ec ops o with
    |true=>none
    |false=>nQ ((B8 (FY ops o) E c (Ap P (some nm) E o)).exec h)))
  |false=>(match wW C c with
   |some t=>(match xu E t c with
    |some (x,vs)=>(match C.dy t x vs with
     |some ca=>(match ca.m h with|some (x,h')=>some (.val (ca.pk x),h')|none=>none)
     |none=>none)
    |none=>none)
   |none=>(match callee E c with
    |some (f,vs)=>(match C.st f vs with
     |some ca=>(match ca.m h with|some (x,h')=>some (.val (ca.pk x),h')|none=>none)
     |none=>none)
    |none=>none)))
 |.buildSlice _ _ _=>(match BV P ops E o with
  |some x=>some (.lit x,h)
  |none=>nQ ((Ap P (some nm) E o).exec h))
 |_=>nQ ((Ap P (some nm) E o).exec h)
def want (ops:Array Oper)(E:Env)(o:Oper):Option Bool:=
 match o.guard with
 |none=>some true
 |some (j,w)=>(match (ops[j]?).bind (·.dst) with
  |some t=>(match E t with
   |some (.bool b)=>some (b==w)
   |some (.tuple _)=>some false
   |_=>none)
  |none=>none)
def act (P:Program)(C:EW)(nm:Nat)(ops:Array Oper)(E:Env)(L:gD)(o:Oper):M Res:=λh=>
 match want ops E o with
 |some true=>ex P C nm ops E L o h
 |some false=>some (.val undef,h)
 |none=>none
abbrev St:=Env×gD×aj
def Cb (E:Env)(o:Oper):θ:=
 match o.op with
 |.store _ x _=>(match E.ev x with|some (.pointer p)=>p|_=>none)
 |_=>none
def AZ (E:Env)(o:Oper)(h:aj)(ks:η):Prop:=B9 o=true->ks≠[]->∃a,Cb E o=some a/\okK h a ks=true
def Step (P:Program)(C:EW)(W:Wr)(nb:Nat)(ops:Array Oper)(Af:Nat->θ)(Ck:Nat->List θ)(Kk:Nat->η)(i:Nat)(s s':St):Prop:=
 ∃o r,ops[i]?=some o/\H3 W o.dst=true/\(want ops s.1 o=some true->oH s.1 o=Af i)/\act P C (nb+i) ops s.1 s.2.1 o s.2.2=some (r,s'.2.2) /\
  s'.1=s.1.res o.dst r/\s'.2.1=s.2.1.res o.dst r/\(CN ops o=true->sameAt s.2.2 s'.2.2 (Ck i)=true)/\(want ops s.1 o=some true->AZ s.1 o s.2.2 (Kk i))
theorem iD.of {h h'}{b}(e:h'.get b.block=h.get b.block):iD h h' b:=by
 unfold iD
 grind
theorem iD.cast {h h' g g'}{b}(hs:iD h h' b)(e:g.get b.block=h.get b.block)(e':g'.get b.block=h'.get b.block):iD g g' b:=by
 grind [iD]
theorem sameAt_refl h:∀l,sameAt h h l=true
 |[]=>rfl
 |none::r=>sameAt_refl h r
 |some b::r=>by
  unfold sameAt;split
  .exact sameAt_refl h r
  .rename_i q _;exact absurd (iD.of rfl) q
theorem yp {h h'}:∀{l} {a},sameAt h h' l=true->some a∈l->iD h h' a
 |[],_,_,hm=>by cases hm
 |none::r,a,hs,hm=>by
  rcases List.mem_cons.1 hm with q|q
  .cases q
  .exact yp (l:=r) hs q
 |some b::r,a,hs,hm=>by
  unfold sameAt at hs;split at hs
  .rename_i q _;rcases List.mem_cons.1 hm with e|e
   .cases e;exact q
   .exact yp hs e
  .cases hs
theorem uk {E:Env}{t}{v}(h:E t=some v):E.set t v=E:=by
 funext j;unfold Env.set
 grind [Nat.eq_of_beq_eq_true]
theorem A0 {E:Env}{c}{b}(h:E.ev c=some (.bool b)):E.wG c b=E:=by
 unfold Env.wG;split
 .exact uk h
 .rfl
theorem JS {R}{r:R×aj}{K}:∀{A:Act} {h},A.run K h=some r↔∃v h',A.exec h=some (v,h')/\K v h'=some r
 |.val v,h=>by
  simp[Act.run,Act.exec,adW,aqf]
  grind
 |.none,h=>by simp[Act.run,Act.exec,AS]
 |.ask α m k,h=>by
  simp[Act.run,Act.exec,sh];cases hm:m h with
  |none=>simp
  |some x=>exact JS
theorem PT {α}{as}{m:M α}{h}{x}(hx:sM as m h=some x):m h=some x/\sameAt h x.2 as=true:=by
 grind [sM]
theorem JT {α}{as}{m:M α}{h}{x}(hx:wrapM as m h=some x):m h=some x/\sameAt h x.2 as=true:=by
 unfold wrapM at hx;split at hx
 .exact⟨hx,rfl⟩
 .exact PT hx
theorem RF {as}{A}{h}{x}(hx:(vy as A).exec h=some x) :
  A.exec h=some x/\(∀α m (v:α->ξ),A=.ask α m (λy=>.val (v y))->sameAt h x.2 as=true):=by
 unfold vy at hx;split at hx
 .split at hx
  .exact⟨hx,λ_ _ _ _=>rfl⟩
  .simp only[Act.exec] at hx⊢;split at hx
   .rename_i m k _ _ _ y h2 hc;obtain⟨h1,h2⟩:=PT hc;rw[h1];refine⟨hx,λα' m' v e=>?_⟩;cases e;cases hx;exact h2
   .cases hx
 grind
theorem E9 {b}(h:EY b=.sil):False:=by cases b<;>cases h
theorem xY {b}(h:EY b=.ro):False:=by cases b<;>cases h
theorem tD {b}(h:EY b=.mro):False:=by cases b<;>cases h
theorem rT {b}(h:EY b=.alloc):False:=by cases b<;>cases h
theorem vG {b}(h:EY b=.mka):False:=by cases b<;>cases h
theorem JU {b}(h:EY b=.add):b=false:=by cases b<;>first|rfl|cases h
theorem G7 {h}{b}{E}{c}{A}{r}(e:nQ ((B8 b E c A).exec h)=some r):B8 b E c A=A:=by
 cases q:(B8 b E c A).exec h with
 |none=>rw[q] at e;cases e
 |some v=>exact GU q
theorem PU {E}{c}{n}{cs} b:(∃α m,∃v:α->ξ,ug P b E c n cs=.ask α m (λy=>.val (v y)))\/ug P b E c n cs=.none:=by
 unfold ug
 repeat' (first|exact .inr rfl|exact .inl ⟨_,_,_,rfl⟩|split)
theorem Mz {R}{C}{W}{nm}{cks}{ks}{ops}{E}{L}{o}{K:Env->gD->M R}{h}{q}
  (hx:Aq P C W (some nm) cks ks ops E L o K h=some q):H3 W o.dst=true/\∃r h',ex P C nm ops E L o h=some (r,h') /\
   (CN ops o=true->sameAt h h' cks=true)/\AZ E o h ks/\K (E.res o.dst r) (L.res o.dst r) h'=some q:=by
 have gen:∀A:Act,(vy cks A).run (λv=>K (E.put o.dst v) (L.del o.dst)) h=some q->∃r h',nQ (A.exec h)=some (r,h') /\
   ((∃α m,∃v:α->ξ,A=.ask α m (λy=>.val (v y)))->sameAt h h' cks=true)/\K (E.res o.dst r) (L.res o.dst r) h'=some q:=by
  intro A hA;obtain⟨v,h',h1,h2⟩:=JS.1 hA;obtain⟨h3,h4⟩:=RF h1;exact⟨.val v,h',by rw[h3];rfl,λ⟨α,m,v,e⟩=>h4 α m v e,h2⟩
 generalize hm:Aq P C W (some nm) cks ks ops E L o K=m at hx;unfold Aq at hm;cases hW:H3 W o.dst
 .rw[hW] at hm;subst hm;simp[AS] at hx
 rw[hW] at hm;refine⟨rfl,?_⟩;have noSt:B9 o=false->AZ E o h ks:=λhs e=>by rw[hs] at e;cases e
 unfold ex CN;cases hop:o.op<;>simp only[hop] at hm⊢
 case pick c a b=>
  split at hm
  .rename_i t ht;cases t
   .simp[zP,aht,anw,A0 ht] at hm;split at hm
    .rename_i v hv;subst hm;exact⟨.val v,h,by simp[ht,hv],by simp,noSt (by simp[B9,hop]),hx⟩
    .subst hm;simp[AS] at hx
   .simp[zP,apI,A0 ht] at hm;split at hm
    .rename_i v hv;subst hm;exact⟨.val v,h,by simp[ht,hv],by simp,noSt (by simp[B9,hop]),hx⟩
    .subst hm;simp[AS] at hx
  .subst hm;simp[AS] at hx
 case call c=>
  cases hb:isBuiltin c<;>simp only[hb] at hm⊢
  .split at hm
   .rename_i t hds;split at hm
    .rename_i xv vs hcl;split at hm
     .rename_i ca hca;subst hm;simp[sh] at hx;split at hx
      .rename_i x h' hm;obtain⟨h3,h4⟩:=JT hm;exact⟨.val (ca.pk x),h',by simp[hds,hcl,hca,h3],λ_=>h4,noSt (by simp[B9,hop]),hx⟩
      .cases hx
     .subst hm;simp[AS] at hx
    .subst hm;simp[AS] at hx
   .rename_i hds;split at hm
    .rename_i f vs hcl;split at hm
     .rename_i ca hca;subst hm;simp[sh] at hx;split at hx
      .rename_i x h' hm;obtain⟨h3,h4⟩:=JT hm;exact⟨.val (ca.pk x),h',by simp[hds,hcl,hca,h3],λ_=>h4,noSt (by simp[B9,hop]),hx⟩
      .cases hx
     .subst hm;simp[AS] at hx
    .subst hm;simp[AS] at hx
  .split at hm
   .rename_i n cs hl;subst hm;rw[Rp] at hx;obtain⟨r,h',h1,h2,h3⟩:=gen _ hx;refine⟨r,h',by simpa[hl] using h1,λ_=>h2 ?_,noSt (by simp[B9,hop]),h3⟩;rcases PU (P:=P) (E:=E) (c:=c) (n:=n) (cs:=cs) ((some nm).isSome&&!Ec ops o) with h4|h4
    .rw[G7 h1];exact h4
    .rw[G7 h1,h4] at h1;simp[Act.exec,nQ] at h1
   .rename_i hl;cases hlx:Ec ops o<;>rw[hlx] at hm
    .subst hm
     grind [B9]
    .subst hm;simp[AS] at hx
 case buildSlice t l ps=>
  split at hm
  .rename_i x hl;subst hm;exact⟨.lit x,h,by simp[hl],by simp,noSt (by simp[B9,hop]),hx⟩
  .rename_i hl;subst hm
   grind [B9]
 case store t x y=>
  have fin:(vy cks (Ap P (some nm) E o)).run (λv=>K (E.put o.dst v) (L.del o.dst)) h=some q->AZ E o h ks->∃r h',nQ ((Ap P (some nm) E o).exec h)=some (r,h') /\
    (True->sameAt h h' cks=true)/\AZ E o h ks/\K (E.res o.dst r) (L.res o.dst r) h'=some q:=by
   intro hx hs;obtain⟨r,h',h1,h2,h3⟩:=gen _ hx;refine⟨r,h',h1,λ_=>h2 ?_,hs,h3⟩;unfold Ap at h1⊢;simp[hop] at h1⊢;split at h1
   .unfold CM at h1⊢;split at h1
    .simp at h1;split at h1
     .grind
     .simp[Act.exec,nQ] at h1
    .simp[Act.exec,nQ] at h1
   .simp[Act.exec,nQ] at h1
  split at hm
  .subst hm;obtain⟨r,h',h1,h2,h3,h4⟩:=fin hx (λ_ e=>absurd rfl e)
   grind
  .split at hm
   .rename_i a ha;subst hm;have hok:AZ E o h ks:=by
     intro _ _;refine⟨a,by simp[Cb,hop,ha],?_⟩;cases hA:vy cks (Ap P (some nm) E o) with
     |val v=>
      exfalso;have h1:∀v,Ap P (some nm) E o≠.val v:=by
       intro v e;unfold Ap at e;simp[hop] at e
       grind [CM]
      cases hB:Ap P (some nm) E o with
      |val v'=>exact h1 v' hB
      |none=>grind [vy]
      |ask α m k=>grind [vy]
     |none=>rw[hA] at hx;simp[Pb,Act.run,AS] at hx
     |ask α m k=>
      rw[hA] at hx;simp[Pb,Act.run,sh] at hx
      grind [Mx]
    obtain⟨r,h',h1,h2,h3,h4⟩:=fin (JQ hx) hok
    grind
   .subst hm;simp[AS] at hx
 all_goals
  subst hm;obtain⟨r,h',h1,_,h3⟩:=gen _ hx;exact⟨r,h',h1,by simp,noSt (by simp[B9,hop]),h3⟩
theorem G8 {R}{C}{W}{nm}{ops}{E}{L}{o}{K:Env->gD->M R}{h h'}{r}{q}
  (hW:H3 W o.dst=true) (he:ex P C nm ops E L o h=some (r,h')) (hx:K (E.res o.dst r) (L.res o.dst r) h'=some q) :
  Aq P C W (some nm) [] [] ops E L o K h=some q:=by
 have gen:∀A:Act,nQ (A.exec h)=some (r,h')->(vy [] A).run (λv=>K (E.put o.dst v) (L.del o.dst)) h=some q:=by
  intro A hA;have:vy [] A=A:=by cases A<;>rfl
  rw[this];unfold nQ at hA;split at hA
  .rename_i v h2 hv;cases hA;exact JS.2 ⟨v,_,hv,hx⟩
  .cases hA
 unfold Aq;rw[hW];unfold ex at he;cases hop:o.op<;>simp only[hop] at he⊢
 case pick c a b=>
  split at he
  .rename_i ht;simp[ht,zP,apI,A0 ht];split at he
   .rename_i v hv;cases he;simp[hv];exact hx
   .cases he
  .rename_i ht;simp[ht,zP,aht,anw,A0 ht];split at he
   .rename_i v hv;cases he;simp[hv];exact hx
   .cases he
  .cases he
 case call c=>
  cases hb:isBuiltin c<;>simp only[hb] at he⊢
  .split at he
   .rename_i t hds;simp[hds];split at he
    .rename_i xv vs hcl;simp[hcl];split at he
     .rename_i ca hca;split at he
      .rename_i x h2 hm;cases he;simp[hca,sh,wrapM,hm];exact hx
      .cases he
     .cases he
    .cases he
   .rename_i hds;simp[hds];split at he
    .rename_i f vs hcl;simp[hcl];split at he
     .rename_i ca hca;split at he
      .rename_i x h2 hm;cases he;simp[hca,sh,wrapM,hm];exact hx
      .cases he
     .cases he
    .cases he
  .split at he
   .rename_i n cs hl;simp only[hl,Rp];exact gen _ he
   .rename_i hl;cases hlx:Ec ops o<;>simp only[hlx] at he⊢
    .simp[hl];exact gen _ he
    .cases he
 case buildSlice t l ps=>
  split at he
  .rename_i x hl;cases he;simp[hl];exact hx
  simp_all
 all_goals exact gen _ he
section Traces
variable {R:Type}{C:EW}{W:Wr}{nb:Nat}{ops:Array Oper}{K:Env->M R}{q:R×aj}
theorem Step.congr {Af Af'}{Ck Ck'}{Kk Kk'}{i}{s s'}(h1:Af i=Af' i)(h2:Ck i=Ck' i)(h3:Kk i=Kk' i)
  (hs:Step P C W nb ops Af Ck Kk i s s'):Step P C W nb ops Af' Ck' Kk' i s s':=by
 obtain⟨o,r,a,b,c,d,e,f,g,k⟩:=hs;exact⟨o,r,a,b,λw=>h1▸c w,d,e,f,λw=>h2▸g w,λw=>h3▸k w⟩
theorem Fa:∀l E L A h ,(l.map (·.1)).Nodup->kH P C W (some nb) ops l E L A K h=some q ->
  ∃(Af:Nat->θ) (Ck:Nat->List θ) (Kk:Nat->η) (E':Env) (L':gD) (h':aj),F6 (Step P C W nb ops Af Ck Kk) (l.map (·.1)) (E,L,h) (E',L',h')/\K E' h'=some q /\
   ∀j cs,(j,cs)∈l->∀k∈cs,(G6 (l.map (·.1)) k j->Af k∈Ck j)/\(k∉l.map (·.1)->A k∈Ck j)/\Kk j=It P ops (some nb) cs
 |[],E,L,A,h,_,hx=>⟨λ_=>none,λ_=>[],λ_=>[],E,L,h,.nil _,hx,by simp⟩
 |(i,c0)::rest,E,L,A,h,hn,hx=>by
  rw[adZ,apZ] at hn;obtain⟨hni,hn⟩:=hn;generalize hm:kH P C W (some nb) ops ((i,c0)::rest) E L A K=m at hx;unfold kH at hm;have fin:∀(o:Oper) (r:Res) (A':an0) (h2:aj),ops[i]?=some o->H3 W o.dst=true->(∀k,k≠i->A' k=A k)->(want ops E o=some true->oH E o=A' i) ->
    act P C (nb+i) ops E L o h=some (r,h2)->(CN ops o=true->sameAt h h2 (c0.map A)=true)->(want ops E o=some true->AZ E o h (It P ops (some nb) c0))->kH P C W (some nb) ops rest (E.res o.dst r) (L.res o.dst r) A' K h2=some q ->
    ∃(Af:Nat->θ) (Ck:Nat->List θ) (Kk:Nat->η) (E':Env) (L':gD) (h':aj),F6 (Step P C W nb ops Af Ck Kk) (i::rest.map (·.1)) (E,L,h) (E',L',h')/\K E' h'=some q /\
     ∀j cs,(j,cs)∈(i,c0)::rest->∀k∈cs,(G6 (i::rest.map (·.1)) k j->Af k∈Ck j)/\(k∉i::rest.map (·.1)->A k∈Ck j)/\Kk j=It P ops (some nb) cs:=by
   intro o r A' h2 ho hW hA hrd hact hck hst hx2;obtain⟨Af,Ck,Kk,E',L',h',hrun,hK,hks⟩:=Fa rest _ _ _ _ hn hx2;refine⟨λk=>if k=i then A' i else Af k,λk=>if k=i then c0.map A else Ck k,λk=>if k=i then It P ops (some nb) c0 else Kk k,E',L',h',.cons ⟨o,r,ho,hW,?_,hact,rfl,rfl,?_,?_⟩ (F6.mono (λk hk s s' hs=>hs.congr ?_ ?_ ?_) hrun),hK,?_⟩
   .simpa using hrd
   .simpa using hck
   .simpa using hst
   rotate_left
   .rw[AT];rintro rfl;exact hni hk
   .rw[AT];rintro rfl;exact hni hk
   .rw[AT];rintro rfl;exact hni hk
   .intro j cs hj k hk;rcases List.mem_cons.1 hj with e|hj
    .grind
    .have hjm:j∈rest.map (·.1):=List.mem_map.2 ⟨(j,cs),hj,rfl⟩
     have hji:j≠i:=(by rintro rfl;exact hni hjm);obtain⟨h1,h2,h2b⟩:=hks j cs hj k hk;simp only[AT hji];refine⟨λhb=>?_,λhb=>?_,h2b⟩
     .cases hb with
      |cons _ hb=>
       grind
      |cons_cons _ hb=>grind
     grind
  split at hm
  .subst hm;simp[AS] at hx
  .rename_i o ho;have run:want ops E o=some true->Aq P C W (some (nb+i)) (c0.map A) (It P ops (some nb) c0) ops E L o (λE' L'=>kH P C W (some nb) ops rest E' L' (λj=>cond (Nat.beq j i) (oH E o) (A j)) K) h=some q ->
     ∃(Af:Nat->θ) (Ck:Nat->List θ) (Kk:Nat->η) (E':Env) (L':gD) (h':aj),F6 (Step P C W nb ops Af Ck Kk) (i::rest.map (·.1)) (E,L,h) (E',L',h')/\K E' h'=some q /\
      ∀j cs,(j,cs)∈(i,c0)::rest->∀k∈cs,(G6 (i::rest.map (·.1)) k j->Af k∈Ck j)/\(k∉i::rest.map (·.1)->A k∈Ck j)/\Kk j=It P ops (some nb) cs:=by
    intro hw hx;obtain⟨hW,r,h2,he,hck,hst,hk⟩:=Mz hx;refine fin o r _ h2 ho hW ?_ ?_ (by simp[act,hw];exact he) hck (λ_=>hst) hk
    .grind [absurd,Nat.eq_of_beq_eq_true]
    .intro _;simp
   have skip:want ops E o=some false->(match H3 W o.dst with|true=>kH P C W (some nb) ops rest (E.put o.dst undef) (L.del o.dst) A K|false=>AS) h=some q ->
     ∃(Af:Nat->θ) (Ck:Nat->List θ) (Kk:Nat->η) (E':Env) (L':gD) (h':aj),F6 (Step P C W nb ops Af Ck Kk) (i::rest.map (·.1)) (E,L,h) (E',L',h')/\K E' h'=some q /\
      ∀j cs,(j,cs)∈(i,c0)::rest->∀k∈cs,(G6 (i::rest.map (·.1)) k j->Af k∈Ck j)/\(k∉i::rest.map (·.1)->A k∈Ck j)/\Kk j=It P ops (some nb) cs:=by
    intro hw hx;cases hW:H3 W o.dst<;>rw[hW] at hx
    .simp[AS] at hx
    .exact fin o (.val undef) A h ho hW (λ_ _=>rfl) (by rw[hw];simp) (by simp[act,hw]) (λ_=>sameAt_refl _ _) (λhw2=>by rw[hw] at hw2;cases hw2) hx
   split at hm
   .rename_i hg;subst hm;exact run (by simp[want,hg]) hx
   .rename_i j w hg;split at hm
    .rename_i t ht;split at hm
     .rename_i b hb;have hwant:want ops E o=some (b==w):=(by simp[want,hg,ht,hb]);cases w<;>cases b<;>simp only[zP,aht,anw,apI,uk hb] at hm<;>subst hm
      .exact run hwant hx
      .exact skip hwant hx
      .exact skip hwant hx
      .exact run hwant hx
     .rename_i vs hb;subst hm;exact skip (by simp[want,hg,ht,hb]) hx
     .subst hm;simp[AS] at hx
    .subst hm;simp[AS] at hx
theorem A1 {Af}{Ck}{Kk}:∀l A s f ,F6 (Step P C W nb ops Af Ck Kk) l s f->K f.1 f.2.2=some q ->
  kH P C W (some nb) ops (l.map λi=>(i,[])) s.1 s.2.1 A K s.2.2=some q
 |[],A,s,f,hr,hK=>by cases hr;exact hK
 |i::l,A,(E,L,h),f,.cons (s1:=(E1,L1,h1)) ⟨o,r,ho,hW,_,hact,e1,e2,_⟩ hr,hK=>by
  simp at e1 e2 hact;subst e1;subst e2;have ih:=λA=>A1 l A _ _ hr hK;simp at ih⊢;unfold kH;simp only[ho];unfold act at hact;unfold want at hact;cases hg:o.guard with
  |none=>
   simp[hg] at hact;exact G8 hW hact (ih _)
  |some jw=>
   obtain⟨j,w⟩:=jw;simp only[hg] at hact⊢;cases ht:(ops[j]?).bind (·.dst) with
   |none=>simp[ht] at hact
   |some t=>
    simp only[ht] at hact⊢;split at hact
    .rename_i hwt;split at hwt
     .rename_i b hb;simp only[hb];cases w<;>cases b<;>simp at hwt
      .simp only[zP,aht,anw,uk hb];exact G8 hW hact (ih _)
      .simp only[zP,apI,uk hb];exact G8 hW hact (ih _)
     .simp at hwt
     .cases hwt
    .rename_i hwt;cases hact;split at hwt
     .rename_i b hb;simp only[hb];cases w<;>cases b<;>simp at hwt
      .simp[zP,apI,uk hb,hW];exact ih _
      .simp[zP,aht,anw,uk hb,hW];exact ih _
     .rename_i vs hb;simp[hb,hW];exact ih _
     .cases hwt
    .cases hact
end Traces
section Congr
variable {E E':Env}{L L':gD}{ops:Array Oper}{o:Oper}{C:EW}
theorem xZ:∀{xs},(∀x∈xs,E.ev x=E'.ev x)->E.Ri xs=E'.Ri xs
 |[],_=>rfl
 |x::xs,h=>by
  simp[Env.Ri];rw[h x (OF ..),xZ λy hy=>h y (IN _ hy)]
theorem zr:∀{xs},(∀x∈xs.map (·.2),E.ev x=E'.ev x)->partsOf E xs=partsOf E' xs
 |[],_=>rfl
 |(i,x)::xs,h=>by
  simp[partsOf];rw[h x (by simp),zr λy hy=>h y (by grind)]
theorem A3 {x}(h:∀y,x=some y->E.ev y=E'.ev y):Ir E x=Ir E' x:=by
 cases x with
 |none=>rfl
 |some y=>simp[Ir];rw[h y rfl]
theorem VY {nm}(h:∀x∈o.op.operands,E.ev x=E'.ev x):Ap P nm E o=Ap P nm E' o:=by
 unfold Ap;cases hop:o.op<;>simp only[hop] at h⊢
 case build t ps=>grind [zr,Op.operands]
 case buildSlice t l ps=>grind [zr,Op.operands]
 case makeFunc f a b=>
  rw[xZ λx hx=>h x (by grind [Op.operands]),
   xZ λx hx=>h x (by grind [Op.operands])]
 case makeMap t r=>grind [A3,Op.operands]
 case call c=>
  rw[xZ λx hx=>h x (by grind [Op.operands,Call.operands])]
 case slice t x lo hi mx=>
  rw[h x (by simp[Op.operands]),A3 λy hy=>h y (by simp[Op.operands,hy]),
   A3 λy hy=>h y (by simp[Op.operands,hy]),A3 λy hy=>h y (by simp[Op.operands,hy])]
 all_goals simp[Op.operands] at h
 all_goals simp only[h]
theorem EH {x}{t:Nat}(hx:x∈o.op.operands)(e:x=.tmp t):t∈fT ops o:=by
 refine aeo _ (List.mem_filterMap.2 ⟨x,Array.mem_toList_iff.2 hx,?_⟩);subst e;rfl
theorem F7 (h:∀t∈fT ops o,E t=E' t):∀x∈o.op.operands,E.ev x=E'.ev x:=by
 intro x hx;cases x<;>simp[Env.ev];exact h _ (EH hx rfl)
theorem pF (h:∀t∈fT ops o,E t=E' t):want ops E o=want ops E' o:=by
 grind [want,fT,List.mem_append_right]
theorem xz (h:∀t∈fT ops o,E t=E' t):oH E o=oH E' o:=by
 have h:=F7 h;unfold oH;cases hop:o.op<;>simp only[hop,Op.operands] at h⊢
 all_goals grind
theorem VZ {c}(hop:o.op=.call c)(h:∀t∈fT ops o,L t=L' t):yh L c=yh L' c:=by
 unfold yh;split
 .rename_i x t hc ha;refine h t (EH ?_ rfl);rw[hop];simp[Op.operands,Call.operands,aqT];exact .inr (Array.mem_toList_iff.1 (by rw[ha];simp))
 .rfl
theorem D1 {nm}(h:∀t∈fT ops o,E t=E' t)(hL:∀t∈fT ops o,L t=L' t):act P C nm ops E L o=act P C nm ops E' L' o:=by
 funext hp;unfold act;rw[pF h];have he:ex P C nm ops E L o hp=ex P C nm ops E' L' o hp:=by
  have ha:=VY (P:=P) (nm:=some nm) (F7 h);have hv:=F7 h;unfold ex;cases hop:o.op<;>simp only
  case pick c a b=>
   grind [Op.operands]
  case call c=>
   rw[ha,VZ hop hL];rw[hop] at hv;have hcw:∀A,B8 (FY ops o) E c A=B8 (FY ops o) E' c A:=λA=>by
    unfold B8;cases hca:c.args.toList with
    |nil=>rfl
    |cons s ss=>simp[hv s (by simp[Op.operands,Call.operands,aqT];exact .inr (Array.mem_toList_iff.1 (by rw[hca];simp)))]
   simp[hcw];have h1:callee E c=callee E' c:=by
    unfold callee;rw[xZ λx hx=>hv x (by grind [Op.operands,Call.operands])]
    grind [Op.operands,Call.operands]
   have h3:∀t,wW C c=some t->xu E t c=xu E' t c:=by
    intro t ht;unfold xu;rw[xZ λx hx=>hv x (by grind [Op.operands,Call.operands])];have hcal:c.callee=.value (.tmp t):=by
     grind [wW]
    have:E t=E' t:=hv (.tmp t) (by simp[Op.operands,Call.operands,hcal]);rw[this]
   have h4:(match wW C c with
     |some t=>(match xu E t c with
      |some (x,vs)=>(match C.dy t x vs with
       |some ca=>(match ca.m hp with|some (x,h')=>some (Res.val (ca.pk x),h')|none=>none)
       |none=>none)
      |none=>none)
     |none=>(match callee E c with
      |some (f,vs)=>(match C.st f vs with
       |some ca=>(match ca.m hp with|some (x,h')=>some (.val (ca.pk x),h')|none=>none)
       |none=>none)
      |none=>none))=(match wW C c with
     |some t=>(match xu E' t c with
      |some (x,vs)=>(match C.dy t x vs with
       |some ca=>(match ca.m hp with|some (x,h')=>some (Res.val (ca.pk x),h')|none=>none)
       |none=>none)
      |none=>none)
     |none=>(match callee E' c with
      |some (f,vs)=>(match C.st f vs with
       |some ca=>(match ca.m hp with|some (x,h')=>some (.val (ca.pk x),h')|none=>none)
       |none=>none)
      |none=>none)):=by
    grind
   have h2:∀b n cs,ug P b E c n cs=ug P b E' c n cs:=by
    intro b n cs;unfold ug;split
    .rename_i t t' s u e1 e2;rw[hv s (by simp[Op.operands,Call.operands,aqT];exact .inr (Array.mem_toList_iff.1 (by rw[e2];simp)))]
    .rfl
   simp[h4,h2]
  case buildSlice t l ps=>
   rw[ha];have:BV P ops E o=BV P ops E' o:=by
    unfold BV;rw[hop] at hv⊢;have hp:=zr (xs:=ps.toList) λx hx=>hv x (by simpa[Op.operands] using hx)
    grind
   rw[this]
  all_goals rw[ha]
 rw[he]
end Congr
section Classes
variable {E E':Env}{L L':gD}{ops:Array Oper}{o:Oper}{C:EW}
def Pm {α}(m:M α):Prop:=∀h x h',m h=some (x,h')->h'=h/\∀h2,m h2=some (x,h2)
def Pa (A:Act):Prop:=∀h x h',A.exec h=some (x,h')->h'=h/\∀h2,A.exec h2=some (x,h2)
theorem iD.none {h h'}{b}(hs:iD h h' b)(hn:h.get b.block≠Option.none):(∃c g base e c',h.get b.block=some (.cells c g base e)/\h'.get b.block=some (.cells c' g base e)/\c'.length=c.length/\c'.drop b.off=c.drop b.off)\/h'.get b.block=h.get b.block:=by
 grind [iD]
theorem iD.cell {h h'}{a b}(hs:iD h h' b)(hb:a.block=b.block)(ho:b.off<=a.off):h'.cell a=h.cell a:=by
 unfold aj.cell;rw[hb];cases hq:h.get b.block with
 |none=>
  grind [iD]
 |some o=>
  rcases hs.none (by rw[hq];simp) with⟨c,g,base,e,c',h1,h2,h3,h4⟩|h1
  .rw[h2];rw[hq] at h1;cases h1;simp;have:∀l:δ,l[a.off]?=(l.drop b.off)[a.off-b.off]?:=λl=>by
    grind
   rw[this c',this c,h4]
  .rw[h1,hq]
theorem iD.cells {h h'}{b}(hs:iD h h' b){n}:aX h' (some b) n=aX h (some b) n:=by
 grind [aX,iD]
theorem iD.elem {h h'}{b}(hs:iD h h' b){s}(ha:s.a=some b){e}:mM h' s e=mM h s e:=by
 unfold mM;rw[ha]
 grind [iD]
def Rm (a:θ){α}(m:M α):Prop:=∀h x h',m h=some (x,h')->h'=h /\
 ((∀h2,m h2=some (x,h2))\/∃b,a=some b/\h.get b.block≠none/\∀h2,iD h h2 b->m h2=some (x,h2))
def Ra (a:θ)(A:Act):Prop:=∀h x h',A.exec h=some (x,h')->h'=h /\
 ((∀h2,A.exec h2=some (x,h2))\/∃b,a=some b/\h.get b.block≠none/\∀h2,iD h h2 b->A.exec h2=some (x,h2))
theorem Pa.val {v}:Pa (.val v):=λh x h' e=>by cases e;exact⟨rfl,λ_=>rfl⟩
theorem Pa.none:Pa .none:=λh x h' e=>by cases e
theorem Pa.ask {α}{m}{k}(hm:Pm m)(hk:∀x,Pa (k x)):Pa (.ask α m k):=λh x h' e=>by
 simp[Act.exec] at e;split at e
 .rename_i y h1 he;obtain⟨rfl,h2⟩:=hm _ _ _ he;obtain⟨rfl,h3⟩:=hk _ _ _ _ e;exact⟨rfl,λh2'=>by simp[Act.exec,h2 h2'];exact h3 h2'⟩
 .cases e
theorem Ra.of {a}{A}(h:Pa A):Ra a A:=λh0 x h' e=>⟨(h _ _ _ e).1,.inl (h _ _ _ e).2⟩
theorem Ra.ask {a}{α}{m}{k}(hm:Rm a m)(hk:∀x,Ra a (k x)):Ra a (.ask α m k):=λh x h' e=>by
 simp[Act.exec] at e;split at e
 .rename_i y h1 he;obtain⟨rfl,h2⟩:=hm _ _ _ he;obtain⟨rfl,h3⟩:=hk _ _ _ _ e
  grind [Act.exec]
 .cases e
theorem Pm.qT b:Pm (qT b):=λh x h' e=>by
 cases b<;>simp only[Ago.qT] at e
 .cases e
 .cases e;exact⟨rfl,λ_=>rfl⟩
theorem Pm.nn p:Pm (nn p):=λh x h' e=>by
 cases p<;>simp only[Ago.nn] at e
 .cases e
 .cases e;exact⟨rfl,λ_=>rfl⟩
theorem Pm.eqP a b:Pm (eqP a b):=λh x h' e=>by
 obtain⟨rfl,rfl,x,y,rfl,rfl,he⟩:=Pq e;exact⟨rfl,λh2=>by unfold Ago.eqP;simp[he]⟩
theorem Pm.H2 p n:Pm (H2 p n):=λh x h' e=>by
 unfold Ago.H2 at e⊢
 grind
theorem Pm.nnF x:Pm (nnF x):=λh y h' e=>by
 unfold Ago.nnF at e;split at e
 .cases e;exact⟨rfl,λ_=>rfl⟩
 .cases e
theorem Pm.nN v:Pm (nN v):=λh x h' e=>by
 unfold Ago.nN at e;split at e
 .cases e;exact⟨rfl,λ_=>rfl⟩
 .cases e;exact⟨rfl,λ_=>rfl⟩
 .cases e
theorem Pm.mG x y:Pm (mG x y):=λh z h' e=>by
 unfold Ago.mG at e⊢;grind
theorem Pm.qc s i:Pm (qc s i):=λh z h' e=>by
 unfold Ago.qc at e⊢;split at e
 .grind
 .cases e
theorem Pm.Nd l n cs i:Pm (Nd l n cs i):=λh z h' e=>by
 unfold Ago.Nd at e⊢;split at e
 .split at e
  .split at e
   .grind
   .cases e
  .cases e
 .cases e
theorem Pm.ni s i z:Pm (ni s i z):=λh x h' e=>by
 unfold Ago.ni at e⊢;split at e
 .grind
 .cases e
theorem Pm.jG s l u:Pm (jG s l u):=λh z h' e=>by
 unfold Ago.jG at e⊢;grind
theorem Pm.qG a n l u z:Pm (qG a n l u z):=λh x h' e=>by
 unfold Ago.qG at e⊢;grind
theorem Pm.LJ o:Pm (LJ o):=λh z h' e=>by
 unfold Ago.LJ at e⊢;split at e
 .grind
 .cases e
theorem RG op a b:Pa (O7 op a b):=by
 unfold O7
 grind [Pa.val,Pa.none,Pa.ask,Pm.LJ,anU,anV,O6,anW]
theorem RH op k a k' b:Pa (O1 op k a k' b):=by
 unfold O1
 grind [Pa.val,Pa.none,Pa.ask,Pm.qT]
theorem RI op a b:Pa (O4 op a b):=by
 unfold O4
 grind [Pa.val,Pa.none,Pa.ask,Pm.mG]
theorem JW op b:Pa (BU op b):=by
 unfold BU;split<;>first|exact Pa.val|exact Pa.none
theorem V0 op t x y:Pa (Za P op t x y):=by
 unfold Za;split
 .unfold Je
  grind [Pa.val,Pa.none,Pa.ask,Pm.nN]
 .unfold Y9
  grind [RH,RI,RG,Pa.val,Pa.none,JW]
theorem ZB op x:Pa (aun op x):=by
 unfold aun
 repeat' (first|exact Pa.val|exact Pa.none|split)
theorem RJ {v}{k}(h:∀a,Pa (k a)):Pa (CM v k):=by
 unfold CM;split
 .exact h _
 .exact Pa.none
theorem Rm.dz l a b (hb:a.block=b.block)(ho:b.off<=a.off):Rm (some b) (dz l a):=λh x h' e=>by
 unfold Ago.dz at e⊢;split at e
 .rename_i v hv;split at e
  .rename_i y hy;cases e;refine⟨rfl,.inr ⟨b,rfl,?_,λh2 e2=>?_⟩⟩
   .grind [aj.cell]
   rw[<-iD.cell e2 hb ho] at hv;rw[hv];simp[hy]
  .cases e
 .cases e
theorem Rm.cF ls a:Rm (some a) (cF ls a):=λh x h' e=>by
 unfold Ago.cF at e⊢;split at e
 .rename_i vs hv;split at e
  .rename_i y hy;cases e;refine⟨rfl,.inr ⟨a,rfl,?_,λh2 e2=>?_⟩⟩
   .grind [aX]
   rw[<-iD.cells e2] at hv;rw[hv];simp[hy]
  .cases e
 .cases e
theorem PW a:∀ls i acc ,Ra (some a) (FV a ls i acc)
 |[],i,acc=>Ra.of Pa.val
 |l::ls,i,acc=>Ra.ask (Rm.dz l _ a rfl (aqU _ _)) λx=>PW a ls _ _
theorem ai7 t a:Ra (some a) (O0 P t a):=by
 unfold O0
 repeat' (first|exact Ra.of Pa.none|exact PW _ _ _ _|exact Ra.ask (Rm.dz _ _ _ rfl (acX _)) λ_=>Ra.of Pa.val|exact Ra.ask (Rm.cF _ _) λ_=>Ra.of Pa.val|split)
theorem Rm.jH s lo hi e z:Rm s.a (jH s lo hi e z):=λh x h' he=>by
 unfold Ago.jH at he⊢;split at he
 .rename_i hc;cases he;refine⟨rfl,?_⟩;obtain⟨h1,h2,h3,h4⟩:=hc;unfold mM at h4;split at h4
  .grind [mM]
  .rename_i a ha;refine .inr ⟨a,ha,?_,λh2' e2=>?_⟩
   .grind
   .have h6:=e2.elem ha (e:=e)
    grind [mM]
 .cases he
theorem Rm.strOf s:Rm s.a (strOf s):=λh x h' he=>by
 unfold Ago.strOf at he⊢;split at he
 .rename_i cs hc;split at he
  .rename_i l hl;cases he;refine⟨rfl,?_⟩;unfold aX at hc;split at hc
   .grind [aX]
   .rename_i a ha;refine .inr ⟨a,ha,?_,λh2 e2=>?_⟩
    .grind
    .have:aX h2 s.a s.len=some cs:=(by rw[ha,iD.cells e2];exact hc);simp[this,hl]
  .cases he
 .cases he
theorem Un {nm}(hc:cls P ops o=.sil)(hn:∀t l ps,o.op≠.buildSlice t l ps):Pa (Ap P nm E o):=by
 unfold cls at hc;unfold Ap;cases hop:o.op<;>simp only[hop] at hc hn⊢<;>try (first|cases hc|done)
 case binOp=>repeat' (first|exact V0 _ _ _ _|exact Pa.none|exact Pa.ask (Pm.eqP _ _) λ_=>JW _ _|split)
 case unOp=>grind [ZB,Pa.none]
 case nilCheck=>grind [Pa.ask,Pm.nn,Pa.val,Pm.nnF,Pa.none]
 case fieldAddr=>repeat' (first|exact RJ λ_=>Pa.val|exact Pa.none|split)
 case indexAddr=>grind [Pa.ask,Pm.ni,Pa.val,Pm.qT,Pa.none]
 case index=>grind [Pa.ask,Pm.qc,Pa.val,Pm.Nd,Pa.none]
 case build=>
  split
  .grind [Ni,Pa.val,Pa.none]
  .exact Pa.none
 case slice t x lo hi mx=>
  split
  .unfold Jy
   grind [Pa.ask,Pm.jG,Pa.val,Pa.none,Pm.qG]
  .exact Pa.none
 case convert s d x=>
  split
  .unfold O8
   grind [Pa.val,Pa.none]
  .exact Pa.none
 case buildSlice t l ps=>grind
 case call c=>
  split
  .rename_i b vs hb _;rw[hb] at hc;unfold uf;split<;>first|exact Pa.none|(simp only at hc;cases hc;done)|(simp at hc;exact (E9 hc).elim)|skip
   all_goals grind [Pa.val,Pa.none,Pa.ask,Pm.H2]
  .exact Pa.none
 all_goals repeat' (first|exact Pa.val|exact Pa.none|split)
theorem tP {m}{r}{h'}(e:nQ m=some (r,h')):∃v,m=some (v,h')/\r=.val v:=by
 unfold nQ at e;grind
theorem D2 {b}{c}{A}{r}(e:nQ ((B8 b E c A).exec h)=some r):nQ (A.exec h)=some r:=by grind [G7]
theorem RL {nm}{d:Nat}(hd:o.dst=some d)(hu:Ro ops d=true){t}{l}{ps}(hop:o.op=.buildSlice t l ps)(hl:BV P ops E o=none) :
  (Ap P (some nm) E o).exec h=none:=by
 unfold BV at hl;unfold Ap;simp[hop,hd,hu] at hl⊢;split at hl
 .split at hl
  .cases hl
  .rename_i hc;unfold FX at hc;unfold wF;split at hc
   .grind [Act.exec,gG]
   .rfl
 .rfl
theorem A4 {nm}(hc:cls P ops o=.sil){r}(hx:act P C nm ops E L o h=some (r,h')):h'=h/\∀h2,act P C nm ops E L o h2=some (r,h2):=by
 unfold act at hx⊢;split at hx
 .have gen:∀A:Act,Pa A->nQ (A.exec h)=some (r,h')->h'=h/\∀h2,nQ (A.exec h2)=some (r,h2):=by
   intro A hA e;obtain⟨v,e1,rfl⟩:=tP e;obtain⟨e2,e3⟩:=hA _ _ _ e1;exact⟨e2,λh2=>by rw[e3 h2];rfl⟩
  unfold ex at hx⊢;cases hop:o.op<;>simp only[hop] at hx⊢
  case pick c a b=>
   grind
  case call c=>
   have hl:yh L c=none:=by
    grind [yh,cls,E9]
   have hcp:FY ops o=false:=by
    unfold cls at hc;unfold FY;simp only[hop] at hc⊢
    grind [E9]
   split at hx
   .grind [Ec,B8,Un]
   .rename_i hb;unfold isBuiltin at hb;unfold cls at hc;simp[hop] at hc
    grind
  case buildSlice t l ps=>
   unfold cls at hc;simp[hop] at hc;split at hc
   .rename_i d hd;split at hc
    .rename_i hu;split at hx
     .grind
     .rename_i hl;rw[RL hd hu hop hl] at hx;cases hx
    .cases hc
   .cases hc
  all_goals exact gen _ (Un hc (by simp[hop])) hx
 .grind
 .cases hx
def rdL:ξ->θ
 |.pointer p=>p
 |_=>none
def an4:ξ->θ
 |.slice a _ _=>a
 |_=>none
theorem NA {nm}(hc:cls P ops o=.ro){r}(hx:act P C nm ops E L o h=some (r,h')):h'=h /\
  ((∀h2,act P C nm ops E L o h2=some (r,h2))\/(want ops E o=some true/\∃b,oH E o=some b/\h.get b.block≠none/\∀h2,iD h h2 b->act P C nm ops E L o h2=some (r,h2))):=by
 unfold act at hx⊢;split at hx
 .rename_i hw;simp only[hw,aoL];have gen:∀A:Act,Ra (oH E o) A->nQ (A.exec h)=some (r,h')->h'=h/\((∀h2,nQ (A.exec h2)=some (r,h2)) \/
    ∃b,oH E o=some b/\h.get b.block≠none/\∀h2,iD h h2 b->nQ (A.exec h2)=some (r,h2)):=by
   intro A hA e;obtain⟨v,e1,rfl⟩:=tP e;obtain⟨e2,e3⟩:=hA _ _ _ e1;refine⟨e2,?_⟩;rcases e3 with e3|⟨b,h1,h2,e3⟩
   .exact .inl λh2=>by rw[e3 h2];rfl
   .exact .inr ⟨b,h1,h2,λh2 q=>by rw[e3 h2 q];rfl⟩
  unfold ex at hx⊢;cases hop:o.op<;>simp only[hop] at hx⊢<;>try (unfold cls at hc;simp only[hop] at hc;contradiction)
  case load t x=>
   refine gen _ ?_ hx;unfold Ap;simp[hop];cases hv:E.ev x with
   |none=>exact Ra.of Pa.none
   |some v=>
    have hr:oH E o=rdL v:=(by simp[oH,hop,hv];cases v<;>rfl);rw[hr];cases v<;>simp only[CM]<;>try exact Ra.of Pa.none
    rename_i p;cases p
    .exact Ra.of Pa.none
    .exact ai7 _ _
  case slice t x lo hi mx=>
   refine gen _ ?_ hx;unfold Ap;unfold cls at hc;simp[hop] at hc⊢;cases hv:E.ev x with
   |none=>exact Ra.of Pa.none
   |some v=>
    have hr:oH E o=an4 v:=(by simp[oH,hop,hv];cases v<;>rfl);rw[hr];split
    .rename_i v l u m he _ _ _;cases he;unfold Jy;split
     .grind
     .repeat' (first|exact Ra.ask (Rm.jH ⟨_,_,_⟩ _ _ _ _) λ_=>Ra.of Pa.val|exact Ra.of Pa.none|split)
     .grind
     .exact Ra.of Pa.none
    .exact Ra.of Pa.none
  case convert s d x=>
   refine gen _ ?_ hx;unfold Ap;unfold cls at hc;simp[hop] at hc⊢;cases hv:E.ev x with
   |none=>exact Ra.of Pa.none
   |some v=>
    have hr:oH E o=an4 v:=(by simp[oH,hop,hv];cases v<;>rfl);rw[hr];simp;unfold O8;split
    .grind
    .grind
    .exact Ra.of Pa.val
    .exact Ra.of Pa.val
    .grind
    .repeat' (first|exact Ra.ask (Rm.strOf ⟨_,_,_⟩) λ_=>Ra.of Pa.val|exact Ra.of Pa.none|split)
    .exact Ra.of Pa.none
  case buildSlice t l ps=>
   unfold cls at hc;simp[hop] at hc
   grind
  case call c=>
   unfold cls at hc;simp[hop] at hc
   grind [xY,tD,rT,vG]
 .grind
 .cases hx
def Na (nm:Nat)(A:Act):Prop:=∀h x h',A.exec h=some (x,h')->∃t cs,h.used nm=false/\nm<h.next/\h.get nm=none/\h'=h.cQ nm h.next t cs /\
 ∀h2:aj,h2.used nm=false->nm<h2.next->h2.get nm=none->A.exec h2=some (x,h2.cQ nm h2.next t cs)
theorem Na.none {nm}:Na nm .none:=λh x h' e=>by cases e
theorem Na.new {nm}{t}{cs}{k:Nat->ξ}:Na nm (.ask Nat (gG (some nm) t cs) λb=>.val (k b)):=λh x h' e=>by
 simp only[Act.exec,gG] at e⊢;by_cases hs:cs.all fv=true
 .simp only[hs,apI] at e⊢;split at e
  .rename_i y h1 he;split at he
   .rename_i hk;cases he;cases e;refine⟨t,cs,hk.1,hk.2.1,Option.isNone_iff_eq_none.1 hk.2.2,rfl,λh2 a b c=>?_⟩;simp[a,b,c]
   .cases he
  .cases e
 .simp[hs] at e
theorem Na.xm {nm}{t}{z}{l c}{k:Sl->ξ}:Na nm (.ask Sl (xm (some nm) t z l c) λr=>.val (k r)):=λh x h' e=>by
 simp only[Act.exec,Ago.xm] at e⊢;by_cases hb:0<=l/\l<=c/\c<=bJ
 .simp only[hb,and_self,apI] at e⊢;split at e
  .rename_i y h1 he;split at he
   .rename_i b h2 hnb;cases he;cases e;have e0:(Act.ask Nat (gG (some nm) t (List.replicate c.toNat z).flatten) λb=>.val (.int .i64 b)).exec h=some (.int .i64 b,h'):=(by simp[Act.exec,hnb]);obtain⟨t',cs',a1,a2,a3,a4,a5⟩:=(Na.new) h _ _ e0;refine⟨t',cs',a1,a2,a3,a4,λh2 b1 b2 b3=>?_⟩;have:=a5 h2 b1 b2 b3;simp[Act.exec] at this
    grind
   .cases he
  .cases e
 .simp[hb] at e
def ME (h h2:aj):Prop:=∀m x,h.kX m=some x->h2.kX m=some x
theorem ME.of {h h2}(e:h2.kX=h.kX):ME h h2:=λm x q=>by rw[e];exact q
def Mm (A:Act):Prop:=∀h x h',A.exec h=some (x,h')->h'=h/\∀h2:aj,ME h h2->A.exec h2=some (x,h2)
theorem Mm.of {A}(hA:Pa A):Mm A:=λh x h' e=>⟨(hA h x h' e).1,λh2 _=>(hA h x h' e).2 h2⟩
theorem Mm.get {kt}{T}{z}{m}{k}{g:Bool×T.den->ξ}:Mm (.ask (Bool×T.den) (CJ kt T z m k) λr=>.val (g r)):=λh x h' e=>by
 simp[Act.exec] at e⊢;split at e
 .rename_i y h1 he;cases e;have key:h'=h/\∀h2:aj,ME h h2->CJ kt T z m k h2=some (y,h2):=by
   unfold CJ at he⊢;split at he
   .grind
   .split at he
    .split at he
     .split at he
      .cases he;refine⟨rfl,λh2 e2=>?_⟩;unfold ME at e2;grind [aj.FU]
      .cases he
     .cases he;refine⟨rfl,λh2 e2=>?_⟩;unfold ME at e2;grind [aj.FU]
    .cases he
  grind
 .cases e
theorem Mm.len {m}{g:Nat->ξ}:Mm (.ask Nat (OY m) λr=>.val (g r)):=λh x h' e=>by
 simp[Act.exec] at e⊢;split at e
 .rename_i y h1 he;cases e;have key:h'=h/\∀h2:aj,ME h h2->OY m h2=some (y,h2):=by
   unfold OY at he⊢;unfold ME
   grind
  grind
 .cases e
theorem F8 {nm}(hc:cls P ops o=.mro){r}(hx:act P C nm ops E L o h=some (r,h')):h'=h/\∀h2:aj,ME h h2->act P C nm ops E L o h2=some (r,h2):=by
 unfold act at hx⊢;split at hx
 .have gen:∀A:Act,Mm A->nQ (A.exec h)=some (r,h')->h'=h/\∀h2:aj,ME h h2->nQ (A.exec h2)=some (r,h2):=by
   intro A hA e;obtain⟨v,e1,rfl⟩:=tP e;obtain⟨e2,e3⟩:=hA _ _ _ e1;exact⟨e2,λh2 q=>by rw[e3 h2 q];rfl⟩
  unfold ex at hx⊢;cases hop:o.op<;>simp only[hop] at hx⊢<;>try (unfold cls at hc;simp only[hop] at hc;contradiction)
  case lookup t x i ok=>
   refine gen _ ?_ hx;unfold Ap;simp[hop]
   repeat' (first|exact Mm.of Pa.none|exact Mm.get|split)
  case buildSlice t l ps=>
   unfold cls at hc
   grind
  case call c=>
   have hcal:c.callee=.builtin .len:=by
    unfold cls at hc;simp[hop] at hc
    grind [tD]
   have hb:isBuiltin c=true:=by grind [isBuiltin]
   have hl:yh L c=none:=by unfold yh;rw[hcal]
   have hlx:Ec ops o=false:=by grind
   have hcp:FY ops o=false:=by grind [FY]
   simp[hb,hl,hlx,hcp,B8] at hx⊢;refine gen _ ?_ hx;have hty:∃t r k e,c.argTypes.toList=t::r/\P.underlying t=some (.map k e):=by
    grind [cls]
   obtain⟨t,tr,k,e,ht,hu⟩:=hty;unfold Ap;simp only[hop,hcal,ht];split
   .rename_i b vs hb2 _;cases hb2;unfold uf;split<;>first|exact Mm.of Pa.none|(simp_all;done)|skip
    all_goals repeat' (first|exact Mm.of Pa.none|exact Mm.of Pa.val|exact Mm.len|split)
   .exact Mm.of Pa.none
  all_goals
   grind [cls,xY,tD,rT,vG]
 .grind
 .cases hx
theorem rU {nm}(hc:cls P ops o=.alloc){r}(hx:act P C nm ops E L o h=some (r,h')):(h'=h/\∀h2,act P C nm ops E L o h2=some (r,h2)) \/
  ∃t cs,h.used nm=false/\nm<h.next/\h.get nm=none/\h'=h.cQ nm h.next t cs /\
   ∀h2:aj,h2.used nm=false->nm<h2.next->h2.get nm=none->act P C nm ops E L o h2=some (r,h2.cQ nm h2.next t cs):=by
 unfold act at hx⊢;split at hx
 .refine .inr ?_;have gen:∀A:Act,Na nm A->nQ (A.exec h)=some (r,h')->∃t cs,h.used nm=false/\nm<h.next/\h.get nm=none/\h'=h.cQ nm h.next t cs /\
    ∀h2:aj,h2.used nm=false->nm<h2.next->h2.get nm=none->nQ (A.exec h2)=some (r,h2.cQ nm h2.next t cs):=by
   intro A hA e;obtain⟨v,e1,rfl⟩:=tP e;obtain⟨t,cs,a,b,c,d,e2⟩:=hA _ _ _ e1;exact⟨t,cs,a,b,c,d,λh2 a b c=>by rw[e2 h2 a b c];rfl⟩
  unfold ex at hx⊢;cases hop:o.op<;>simp only[hop] at hx⊢<;>try (unfold cls at hc;simp only[hop] at hc;contradiction)
  case alloc t=>
   refine gen _ ?_ hx;unfold Ap;simp[hop];split
   .exact Na.new
   .exact Na.none
  case box t x=>
   refine gen _ ?_ hx;unfold Ap;simp[hop];split
   .exact Na.new
   .exact Na.none
  case makeSlice t l c=>
   refine gen _ ?_ hx;unfold Ap;simp[hop]
   repeat' (first|exact Na.none|exact Na.xm|split)
  case buildSlice t l ps=>
   have hl:BV P ops E o=none:=by
    unfold cls at hc;unfold BV;simp[hop] at hc⊢
    grind
   simp only[hl] at hx⊢;refine gen _ ?_ hx;unfold Ap;simp[hop];split
   .unfold wF
    repeat' (first|exact Na.none|exact Na.new|split)
   .exact Na.none
  case call c=>
   unfold cls at hc;simp[hop] at hc
   repeat' (first|(cases hc;done)|(exact (xY hc).elim)|(exact (tD hc).elim)|(exact (rT hc).elim)|(exact (vG hc).elim)|split at hc)
  all_goals
   unfold cls at hc;simp[hop] at hc
   grind
 .grind
 .cases hx
def Ka (A:Act):Prop:=∀h x h',A.exec h=some (x,h')->∀b,h.get b≠none->h'.get b=h.get b
theorem Ka.pure {A}(hA:Pa A):Ka A:=λh x h' e b _=>by rw[(hA h x h' e).1]
theorem V1 {s}{sz}{e}{n}{new}{r}(hx:app true s sz e n new h=some (r,h')):∀b,h.get b≠none->h'.get b=h.get b:=by
 intro b hb;unfold app at hx;split at hx
 .cases hx
 rename_i hn;have hnx:h.get h.next=none:=by simpa using hn
 have hne:Nat.beq b h.next=false:=by
  grind [Nat.eq_of_beq_eq_true,absurd]
 have new:∀e cs,(h.new e cs).get b=h.get b:=λe cs=>by simp[aj.new,aj.cQ,hne]
 grind [zO,ET]
theorem Ka.A5 {s}{sz}{e}{n}{new}{k:Sl->ξ}:Ka (.ask Sl (app true s sz e n new) λr=>.val (k r)):=λh x h' he=>by
 grind [Act.exec,V1]
theorem Ka.ask {α}{m}{k}(hm:∀h x h',m h=some (x,h')->h'=h)(hk:∀x,Ka (k x)):Ka (.ask α m k):=λh x h' he=>by
 simp[Act.exec] at he;split at he
 .rename_i y h1 hm1;rw[hm _ _ _ hm1] at he;exact hk _ _ _ _ he
 .cases he
theorem aep {nm}(hc:cls P ops o=.add){r}(hx:act P C nm ops E L o h=some (r,h')):∀b,h.get b≠none->h'.get b=h.get b:=by
 unfold act at hx;split at hx
 .have gen:∀A:Act,Ka A->nQ (A.exec h)=some (r,h')->∀b,h.get b≠none->h'.get b=h.get b:=by
   intro A hA e;obtain⟨v,e1,rfl⟩:=tP e;exact hA _ _ _ e1
  unfold ex at hx;cases hop:o.op<;>simp only[hop] at hx<;>try (unfold cls at hc;simp only[hop] at hc;contradiction)
  case call c=>
   have hcal:c.callee=.builtin .append:=by
    unfold cls at hc;simp[hop] at hc
    grind
   have hlx:Ec ops o=false:=by
    grind [cls,JU]
   simp[hlx,Bool.not_false] at hx;split at hx
   .split at hx
    .refine gen _ ?_ (D2 hx);unfold ug
     repeat' (first|exact Ka.A5|exact Ka.pure Pa.none|split)
    .refine gen _ ?_ (D2 hx);unfold Ap;simp only[hop,hcal];split
     .rename_i b vs hb _;cases hb;unfold uf;split
      .contradiction
      .contradiction
      .contradiction
      .contradiction
      .contradiction
      .have hrd:∀(s:Sl) (z:Nat) h x h',EU s z h=some (x,h')->h'=h:=by
        grind [EU]
       repeat' (first|exact Ka.ask (hrd _ _) λ_=>Ka.A5|exact Ka.pure Pa.none|split)
      .repeat' (first|exact Ka.A5|exact Ka.pure Pa.none|split)
      .contradiction
      .contradiction
      .exact Ka.pure Pa.none
     .exact Ka.pure Pa.none
   grind [isBuiltin]
  all_goals
   grind [cls,xY,tD,rT,vG]
 .grind
 .cases hx
def Sm (h h2:aj):Prop:=h2.next=h.next/\h2.get h2.next=none/\∀b,h.get b≠none->h2.get b=h.get b
def Kb (A:Act):Prop:=∀h x h',A.exec h=some (x,h')->h.get h.next=none/\((h'=h/\∀h2,Sm h h2->A.exec h2=some (x,h2))\/∃e cs,h'=h.new e cs/\∀h2,Sm h h2->A.exec h2=some (x,h2.new e cs))
theorem Kb.none:Kb .none:=λh x h' e=>by cases e
theorem CR {h2}(S:Sm h h2){a}{n}{l}(e:aX h a n=some l):aX h2 a n=some l:=by
 unfold aX at *
 cases a with
 |none=>exact e
 |some a=>
  simp at e⊢;rw[S.2.2 a.block (λq=>by rw[q] at e;cases e)];exact e
theorem ai8 {s}{sz}{e}{n}{new}(hc:s.cap≠0){r}{h1}(he:app true s sz e n new h=some (r,h1)) :
  h.get h.next=none/\((h1=h/\∀h2,Sm h h2->app true s sz e n new h2=some (r,h2))\/∃e' cs,h1=h.new e' cs/\∀h2,Sm h h2->app true s sz e n new h2=some (r,h2.new e' cs)):=by
 have hn:h.get h.next=none:=by
  unfold app at he;split at he
  .cases he
  simp_all
 refine⟨hn,?_⟩;unfold app zO at he⊢;rw[hn] at he;have g2:∀{h2:aj},Sm h h2->(true&&(h2.get h2.next).isSome)=false:=λS=>by rw[S.2.1];rfl
 simp only[Option.isSome_none,Bool.and_false] at he;by_cases h0:n=0
 .rw[By h0] at he;refine .inl ?_
  grind
 .rw[AT h0] at he;split at he
  .cases he
  rename_i q;refine .inr ?_;cases ha:s.a with
  |none=>grind
  |some a=>
   rw[ha] at he;simp only at he;split at he
   .rename_i qC c g base e' h1' h2';split at he
    .grind
    .rename_i q2;cases he;refine⟨e,qC++new,rfl,λh2 S=>?_⟩;have c2:=CR S h1';have b2:=S.2.2 a.block (by rw[h2'];simp);simp only[g2 S];rw[AT h0,AT q];simp only[c2,b2,h2'];rw[AT q2,By hc,S.1]
   .cases he
theorem Kb.apd {s}{sz}{e}{n}{new}{k:Sl->ξ}(hc:s.cap≠0):Kb (.ask Sl (app true s sz e n new) λr=>.val (k r)):=λh x h' hx=>by
 simp[Act.exec] at hx⊢
 grind [ai8]
theorem Kb.rds {s}{sz}{k}(hk:∀l,Kb (k l)):Kb (.ask δ (EU s sz) k):=λh x h' hx=>by
 simp[Act.exec] at hx⊢;split at hx
 .rename_i y h1 he;unfold Go.Ago.EU at he;split at he
  .cases he;obtain⟨hn,⟨q1,q2⟩|⟨e',cs',q1,q2⟩⟩:=hk _ _ _ _ hx
   .grind [Go.Ago.EU,CR]
   grind [Go.Ago.EU,CR]
  split at he
  .rename_i cs hcs;cases he;obtain⟨hn,⟨q1,q2⟩|⟨e',cs',q1,q2⟩⟩:=hk _ _ _ _ hx
   .grind [Go.Ago.EU,CR]
   grind [Go.Ago.EU,CR]
  .cases he
 .cases hx
theorem aeq {nm}(hcap:FY ops o=true)(hca:cls P ops o=.add){r}(hx:act P C nm ops E L o h=some (r,h')):(h'=h/\∀h2,act P C nm ops E L o h2=some (r,h2)) \/
  (h.get h.next=none/\((h'=h/\∀h2,Sm h h2->act P C nm ops E L o h2=some (r,h2))\/∃e cs,h'=h.new e cs/\∀h2,Sm h h2->act P C nm ops E L o h2=some (r,h2.new e cs))):=by
 unfold act at hx⊢;split at hx
 .refine .inr ?_;unfold ex at hx⊢;rw[hcap] at hx⊢;unfold FY at hcap;cases hop:o.op<;>simp only[hop] at hx hcap⊢<;>try (cases hcap;done)
  case call c=>
   split at hcap
   .rename_i d ds hcal harg;have hb:isBuiltin c=true:=(by grind [isBuiltin]);have hlx:Ec ops o=false:=by
     cases q:Ec ops o with
     |false=>rfl
     |true=>unfold cls at hca;simp[hop,hcal,q] at hca;cases hca
    simp only[hb,hlx] at hx⊢;have gen:∀A:Act,Kb A->nQ (A.exec h)=some (r,h')->h.get h.next=none/\((h'=h/\∀h2,Sm h h2->nQ (A.exec h2)=some (r,h2))\/∃e cs,h'=h.new e cs/\∀h2,Sm h h2->nQ (A.exec h2)=some (r,h2.new e cs)):=by
     intro A hA e;obtain⟨v,e1,rfl⟩:=tP e;obtain⟨hn,⟨q1,q2⟩|⟨e',cs,q1,q2⟩⟩:=hA _ _ _ e1
     .exact⟨hn,.inl ⟨q1,λh2 S=>by rw[q2 h2 S];rfl⟩⟩
     .exact⟨hn,.inr ⟨e',cs,q1,λh2 S=>by rw[q2 h2 S];rfl⟩⟩
    have cap:∀A:Act,(∀a n k,E.ev (.tmp d)=some (.slice a n k)->k≠0->Kb A)->Kb (B8 true E c A):=λA hA=>by
     unfold B8;simp[harg];split
     .rename_i a n k hev;split
      .exact Kb.none
      .rename_i hk;exact hA a n k hev λq=>by rw[q] at hk;cases hk
     .exact Kb.none
    split at hx
    .rename_i n cs hl;refine gen _ (cap _ λa m k hev hk=>?_) hx;show Kb (ug P true E c n cs);unfold ug;rw[harg];split
     .rename_i t t' s u e1 e2;cases e2;rw[hev];split
      .rename_i q1 q2 q3;cases q1
       repeat' (first|exact Kb.none|exact Kb.apd hk|split)
      .exact Kb.none
     .exact Kb.none
    .rename_i hl;refine gen _ (cap _ λa n k hev hk0=>?_) hx;unfold Ap;simp only[hop,hcal];split
     .rename_i b vs hb2 hvs;cases hb2;have hv0:∃rest,vs=Value.slice a n k::rest:=by
       rw[harg] at hvs;unfold Env.Ri at hvs
       grind
      obtain⟨rest,rfl⟩:=hv0;show Kb (uf P true _ _ _);unfold uf;split<;>first|exact Kb.none|contradiction|(injections;subst_vars;repeat' (first|exact Kb.none|exact Kb.rds λ_=>Kb.apd hk0|exact Kb.apd hk0|split))
     .exact Kb.none
   .cases hcap
 .grind
 .cases hx
theorem Uo {k}{t}{cs}(a2:k<h.next)(a3:h.get k=none)(hn:h.get h.next=none):Sm h (h.cQ k h.next t cs):=by
 have q:∀j,j≠k->Nat.beq j k=false:=λj e=>by
  grind [absurd,Nat.eq_of_beq_eq_true]
 refine⟨rfl,?_,λb hb=>?_⟩
 .simp[aj.cQ,q h.next (by omega),hn]
 .have hbk:b≠k:=λe=>hb (e▸a3);simp[aj.cQ,q b hbk]
def Km (A:Act):Prop:=∀h x h',A.exec h=some (x,h')->h'.kX=h.kX
theorem Km.pure {A}(hA:Pa A):Km A:=λh x h' e=>by rw[(hA h x h' e).1]
theorem an5 {s}{sz}{e}{n}{new}{r}(hx:app true s sz e n new h=some (r,h')):h'.kX=h.kX:=by
 unfold app at hx;split at hx
 .cases hx
 unfold zO at hx
 repeat' (first|(cases hx;done)|(cases hx;rfl)|split at hx|simp only at hx)
theorem Km.A5 {s}{sz}{e}{n}{new}{k:Sl->ξ}:Km (.ask Sl (app true s sz e n new) λr=>.val (k r)):=λh x h' he=>by
 grind [Act.exec,an5]
theorem Km.ask {α}{m}{k}(hm:∀h x h',m h=some (x,h')->h'=h)(hk:∀x,Km (k x)):Km (.ask α m k):=λh x h' he=>by
 simp[Act.exec] at he;split at he
 .rename_i y h1 hm1;rw[hm _ _ _ hm1] at he;exact hk _ _ _ _ he
 .cases he
theorem MA {nm}(hc:cls P ops o=.add){r}(hx:act P C nm ops E L o h=some (r,h')):h'.kX=h.kX:=by
 unfold act at hx;split at hx
 .have gen:∀A:Act,Km A->nQ (A.exec h)=some (r,h')->h'.kX=h.kX:=by
   intro A hA e;obtain⟨v,e1,rfl⟩:=tP e;exact hA _ _ _ e1
  unfold ex at hx;cases hop:o.op<;>simp only[hop] at hx<;>try (unfold cls at hc;simp only[hop] at hc;contradiction)
  case call c=>
   have hcal:c.callee=.builtin .append:=by
    unfold cls at hc;simp[hop] at hc
    grind
   have hlx:Ec ops o=false:=by
    grind [cls,JU]
   simp[hlx,Bool.not_false] at hx;split at hx
   .split at hx
    .refine gen _ ?_ (D2 hx);unfold ug
     repeat' (first|exact Km.A5|exact Km.pure Pa.none|split)
    .refine gen _ ?_ (D2 hx);unfold Ap;simp only[hop,hcal];split
     .rename_i b vs hb _;cases hb;unfold uf;split
      .contradiction
      .contradiction
      .contradiction
      .contradiction
      .contradiction
      .have hrd:∀(s:Sl) (z:Nat) h x h',EU s z h=some (x,h')->h'=h:=by
        grind [EU]
       repeat' (first|exact Km.ask (hrd _ _) λ_=>Km.A5|exact Km.pure Pa.none|split)
      .repeat' (first|exact Km.A5|exact Km.pure Pa.none|split)
      .contradiction
      .contradiction
      .exact Km.pure Pa.none
     .exact Km.pure Pa.none
   grind [isBuiltin]
  all_goals
   grind [cls,xY,tD,rT,vG]
 .cases hx;rfl
 .cases hx
theorem ZC (h:CN ops o=true):cls P ops o=.eff:=by
 unfold CN at h;unfold cls;split at h
 .rename_i hop;simp[hop]
 .rename_i c hop;simp[hop];rw[apl] at h;rcases h with h|h
  .grind [isBuiltin,absurd]
  .have hc:c.callee=.builtin .append:=by
    grind [Ec]
   simp[hc,h];rfl
 .cases h
theorem aja (h:B9 o=true):cls P ops o=.eff:=by
 grind [B9,cls]
theorem V2 {nm}(hs:B9 o=true){r}(hx:act P C nm ops E L o h=some (r,h')):(h'=h/\want ops E o≠some true/\∀h2,act P C nm ops E L o h2=some (r,h2)) \/
  (want ops E o=some true/\∃a vs c g base e,Cb E o=some a/\h.get a.block=some (.cells c g base e)/\h'=h.wE a.block (aR c a.off vs) g base e /\
   ∀h2:aj,h2.get a.block=some (.cells c g base e)->act P C nm ops E L o h2=some (r,h2.wE a.block (aR c a.off vs) g base e)):=by
 unfold act at hx⊢;split at hx
 .rename_i hw;refine .inr ⟨hw,?_⟩;unfold B9 at hs;split at hs
  .rename_i t x y hop;unfold ex at hx⊢;simp only[hop] at hx⊢;have gen:∀A:Act,A=Ap P (some nm) E o->nQ (A.exec h)=some (r,h')->∃a vs c g base e,Cb E o=some a/\h.get a.block=some (.cells c g base e)/\h'=h.wE a.block (aR c a.off vs) g base e /\
     ∀h2:aj,h2.get a.block=some (.cells c g base e)->nQ (A.exec h2)=some (r,h2.wE a.block (aR c a.off vs) g base e):=by
    intro A hA e;unfold Ap at hA;simp[hop] at hA;split at hA
    .rename_i v u n hv hu hn;unfold CM at hA;split at hA
     .rename_i a;split at hA
      .subst hA;simp only[Act.exec] at e⊢;unfold sL at e;generalize hg:h.get a.block=og at e;cases og with
       |none=>simp[nQ] at e
       |some au=>
        cases au with
        |cells c g base el=>
         simp only at e;by_cases hc:g≠0/\a.off+u.cells.toList.length<=c.length/\u.cells.toList.all fv=true
         .rw[By hc] at e;simp[nQ,adW,aqf] at e;obtain⟨e1,e2⟩:=e;refine⟨a,u.cells.toList,c,g,base,el,by simp[Cb,hop,hv],hg,e2.symm,λh2 e3=>?_⟩;unfold sL;rw[e3];simp only;rw[By hc,<-e1];rfl
         .rw[AT hc] at e;simp[nQ] at e
        |_=>simp[nQ] at e
      .subst hA;simp[Act.exec,nQ] at e
     .subst hA;simp[Act.exec,nQ] at e
    .subst hA;simp[Act.exec,nQ] at e
   exact gen _ rfl hx
  .cases hs
 .grind
 .cases hx
theorem V3 (h:∀t∈fT ops o,E t=E' t):Cb E o=Cb E' o:=by
 have h:=F7 h;unfold Cb;cases hop:o.op<;>simp only[hop,Op.operands] at h⊢;rw[h _ (by simp)]
theorem A6 {ks}(hE:∀t∈fT ops o,E t=E' t):AZ E o h ks↔AZ E' o h ks:=by
 unfold AZ;rw[V3 hE]
theorem D3 {nm}(hc:cls P ops o=.mka){r}(hx:act P C nm ops E L o h=some (r,h')):(h'=h/\∀h2,act P C nm ops E L o h2=some (r,h2)) \/
  ∃kt,h.fresh nm/\h'=h.CI nm kt/\∀h2:aj,h2.fresh nm->act P C nm ops E L o h2=some (r,h2.CI nm kt):=by
 unfold act at hx⊢;split at hx
 .refine .inr ?_;unfold ex at hx⊢;cases hop:o.op<;>simp only[hop] at hx⊢<;>try (unfold cls at hc;simp only[hop] at hc;contradiction)
  case makeMap t x=>
   have gen:∀A:Act,(∀h x h',A.exec h=some (x,h')->∃kt,h.fresh nm/\h'=h.CI nm kt/\∀h2:aj,h2.fresh nm->A.exec h2=some (x,h2.CI nm kt))->nQ (A.exec h)=some (r,h') ->
     ∃kt,h.fresh nm/\h'=h.CI nm kt/\∀h2:aj,h2.fresh nm->nQ (A.exec h2)=some (r,h2.CI nm kt):=by
    intro A hA e;obtain⟨v,e1,rfl⟩:=tP e;obtain⟨kt,a,c,d⟩:=hA _ _ _ e1;exact⟨kt,a,c,λh2 a=>by rw[d h2 a];rfl⟩
   have one:∀(ty:κ) h x h',(Act.ask Nat (ue nm ty) λm=>.val (.map (some m))).exec h=some (x,h')->∃kt,h.fresh nm/\h'=h.CI nm kt/\∀h2:aj,h2.fresh nm->(Act.ask Nat (ue nm ty) λm=>.val (.map (some m))).exec h2=some (x,h2.CI nm kt):=by
    intro ty h x h' e;simp only[Act.exec,ue,aj.fresh,Option.isNone_iff_eq_none] at e⊢
    grind
   refine gen _ ?_ hx;unfold Ap;simp only[hop]
   repeat' (first|exact one _|(intro h x h' e;simp[Act.exec] at e;done)|split)
  all_goals
   unfold cls at hc;simp[hop] at hc
   grind [xY,tD,rT,vG]
 .grind
 .cases hx
theorem ajb {nm}{mo}(HM:∀f vs ca,mo f=true->C.st f vs=some ca->GO ca.m)(hc:EZ mo o=true){k}{kt}(h1:h.fresh k){r}
  (hx:act P C nm ops E L o (h.CI k kt)=some (r,h')):∃h3,act P C nm ops E L o h=some (r,h3)/\h3.fresh k/\h'=h3.CI k kt:=by
 unfold act at hx⊢;split at hx
 .unfold EZ at hc;split at hc
  .rename_i c hop;split at hc
   .rename_i f hf;have hb:isBuiltin c=false:=(by unfold isBuiltin;rw[hf]);have hd:wW C c=none:=(by unfold wW;rw[hf]);unfold ex at hx⊢;simp[hop,hb,hd] at hx⊢;cases hev:E.Ri c.args.toList with
    |none=>
     grind [callee]
    |some vs=>
     have:callee E c=some (f,vs):=(by unfold callee;rw[hf,hev];simp[Env.ev]);simp[this] at hx⊢;split at hx
     .rename_i ca hca;split at hx
      .rename_i x h4 hm;cases hx;obtain⟨h3,q1,q2,q3⟩:=(HM f vs ca hc hca).1 h k kt x h' h1 hm
       grind
      .cases hx
     .cases hx
   .cases hc
  .cases hc
 .grind
 .cases hx
theorem ZD {nm}{mo}(HM:∀f vs ca,mo f=true->C.st f vs=some ca->GO ca.m)(hc:EZ mo o=true){r}
  (hx:act P C nm ops E L o h=some (r,h')):h'.kX=h.kX:=by
 unfold act at hx;split at hx
 .unfold EZ at hc;split at hc
  .rename_i c hop;split at hc
   .rename_i f hf;have hb:isBuiltin c=false:=(by unfold isBuiltin;rw[hf]);have hd:wW C c=none:=(by unfold wW;rw[hf]);unfold ex at hx;simp[hop,hb,hd] at hx;cases hev:E.Ri c.args.toList with
    |none=>
     grind [callee]
    |some vs=>
     have:callee E c=some (f,vs):=(by unfold callee;rw[hf,hev];simp[Env.ev]);simp[this] at hx;split at hx
     .rename_i ca hca;split at hx
      .rename_i x h4 hm;cases hx;exact (HM f vs ca hc hca).2 h x _ hm
      .cases hx
     .cases hx
   .cases hc
  .cases hc
 .cases hx;rfl
 .cases hx
theorem MC {h:aj}{k k' nx}(hk:k≠k'){kt t}{cs}:(h.CI k kt).cQ k' nx t cs=(h.cQ k' nx t cs).CI k kt:=by
 unfold aj.cQ aj.CI aj.qH
 grind
theorem RN {h:aj}{k k'}{t}{cs}(hf:h.fresh k)(hk:k≠k'):(h.cQ k' h.next t cs).fresh k:=by
 have:Nat.beq k k'=false:=by grind [Nat.eq_of_beq_eq_true]
 obtain⟨a,b,c,d⟩:=hf;exact⟨by simp[aj.cQ,this,a],b,c,by simp[aj.cQ,this,d]⟩
theorem LU {h:aj}{k k'}{t}{cs}(hf:(h.cQ k' h.next t cs).fresh k)(hk:k≠k'):h.fresh k:=by
 have:Nat.beq k k'=false:=by grind [Nat.eq_of_beq_eq_true]
 obtain⟨a,b,c,d⟩:=hf;exact⟨by simpa[aj.cQ,this] using a,b,c,by simpa[aj.cQ,this] using d⟩
end Classes
section Swap
variable {C:EW}{W:Wr}{nb:Nat}{ops:Array Oper}{Af:Nat->θ}{Ck:Nat->List θ}{Kk:Nat->η}
theorem um {l}{i}:EX l i=true↔i∈l:=by
 grind [EX,List.any_eq_true,Nat.eq_of_beq_eq_true,Nat.beq_refl]
theorem kq {E:Env}{L:gD}{d}{r}{t}(h:d≠some t):E.res d r t=E t/\L.res d r t=L t:=by
 cases d with
 |none=>cases r<;>exact⟨rfl,rfl⟩
 |some i=>
  have:Nat.beq t i=false:=by
   cases hb:Nat.beq t i
   .rfl
   simp_all
  cases r<;>simp[Env.res,gD.res,Env.put,Env.set,Env.del,gD.put,gD.del,this]
theorem PX {E:Env}{L:gD}{d e}{r u}(h:∀i,d=some i->e≠some i) :
  (E.res d r).res e u=(E.res e u).res d r/\(L.res d r).res e u=(L.res e u).res d r:=by
 constructor<;>funext t
 .by_cases hd:d=some t
  .have he:=h t hd;rw[(kq (L:=L) he).1];subst hd;cases r<;>simp[Env.res,Env.put,Env.set,Env.del]
  .rw[(kq (L:=L) hd).1];by_cases he:e=some t
   .subst he;cases u<;>simp[Env.res,Env.put,Env.set,Env.del]
   .rw[(kq (L:=L) he).1,(kq (L:=L) hd).1,(kq (L:=L) he).1]
 .by_cases hd:d=some t
  .have he:=h t hd;rw[(kq (E:=E) he).2];subst hd;cases r<;>simp[gD.res,gD.put,gD.del]
  .rw[(kq (E:=E) hd).2];by_cases he:e=some t
   .subst he;cases u<;>simp[gD.res,gD.put,gD.del]
   .rw[(kq (E:=E) he).2,(kq (E:=E) hd).2,(kq (E:=E) he).2]
theorem V4 {h:aj}{k1 k2}(hk:k1≠k2){t1 t2}{c1 c2} :
  (h.cQ k1 h.next t1 c1).cQ k2 h.next t2 c2=(h.cQ k2 h.next t2 c2).cQ k1 h.next t1 c1:=by
 have hb:∀j,Nat.beq j k1=true->Nat.beq j k2=false:=λj e=>by
  grind [absurd,Nat.eq_of_beq_eq_true]
 unfold aj.cQ;simp[aj.mk.injEq,ET,aoL,and_true];refine⟨?_,?_,?_⟩<;>funext j
 .cases e1:Nat.beq j k1
  .rfl
  .simp[hb j e1]
 .cases e1:Nat.beq j (k1+1)
  .simp
  .have:Nat.beq j (k2+1)=false:=by
    cases e2:Nat.beq j (k2+1)
    .rfl
    .have h1:=abi e1;have h2:=abi e2;omega
   simp[this]
 .cases e1:Nat.beq j k1
  .rfl
  .simp[hb j e1]
theorem ZE {h:aj}{k}(hk:k≠h.next){t1 t2}{c1 c2}:(h.cQ k h.next t1 c1).new t2 c2=(h.new t2 c2).cQ k (h.new t2 c2).next t1 c1:=by
 have hb:∀j a b,a≠b->Nat.beq j a=true->Nat.beq j b=false:=λj a b hab e=>by
  grind [absurd,Nat.eq_of_beq_eq_true]
 unfold aj.new aj.cQ;simp[aj.mk.injEq,ET,aoL,and_true]
 grind
theorem core {mo}(HM:∀f vs ca,mo f=true->C.st f vs=some ca->GO ca.m){i j}{o p}{ck}{E}{L}{h h1 h2}{r u}(hij:i≠j)
  (hsw:(match cls P ops o,cls P ops p with
   |.sil,_|_,.sil | .ro,.ro | .ro,.alloc | .ro,.add | .alloc,.alloc=>true
   |.ro,.mro | .mro,.ro | .mro,.mro | .mro,.alloc | .mro,.add | .alloc,.mro | .add,.mro=>true
   |.ro,.eff=>ck&&CN ops p
    |.alloc,.eff=>ck&&B9 p
   |.ro,.mka | .mka,.ro | .mka,.alloc | .alloc,.mka | .mro,.mka=>true
   |.mka,.eff | .mro,.eff=>EZ mo p
   |.add,.alloc=>FY ops o
   |_,_=>false)=true) (hkk:ck=true->Zd (cls P ops o)=true->nb+i∈Kk j) (si:want ops E o=some true->AZ E o h (Kk i)) (sj:want ops E p=some true->AZ E p h1 (Kk j)) (hck:ck=true->Af i∈Ck j) (hrd:want ops E o=some true->oH E o=Af i)
  (hi:act P C (nb+i) ops E L o h=some (r,h1)) (ci:CN ops o=true->sameAt h h1 (Ck i)=true)
  (hj:act P C (nb+j) ops E L p h1=some (u,h2)) (cj:CN ops p=true->sameAt h1 h2 (Ck j)=true) :
  ∃h3,act P C (nb+j) ops E L p h=some (u,h3)/\act P C (nb+i) ops E L o h3=some (r,h2) /\
   (CN ops p=true->sameAt h h3 (Ck j)=true)/\(CN ops o=true->sameAt h3 h2 (Ck i)=true) /\
   (want ops E p=some true->AZ E p h (Kk j))/\(want ops E o=some true->AZ E o h3 (Kk i)):=by
 have noSt:∀{q:Oper} {hh:aj} {ks:η},cls P ops q≠.eff->want ops E q=some true->AZ E q hh ks:=λhq _ hs=>absurd (aja hs) hq;have first:h1=h->cls P ops o≠.eff->(∀h2,act P C (nb+i) ops E L o h2=some (r,h2))->∃h3,act P C (nb+j) ops E L p h=some (u,h3)/\act P C (nb+i) ops E L o h3=some (r,h2) /\
   (CN ops p=true->sameAt h h3 (Ck j)=true)/\(CN ops o=true->sameAt h3 h2 (Ck i)=true) /\
   (want ops E p=some true->AZ E p h (Kk j))/\(want ops E o=some true->AZ E o h3 (Kk i)):=by
  grind [sameAt_refl]
 have second:h2=h1->cls P ops p≠.eff->act P C (nb+j) ops E L p h=some (u,h)->∃h3,act P C (nb+j) ops E L p h=some (u,h3)/\act P C (nb+i) ops E L o h3=some (r,h2) /\
   (CN ops p=true->sameAt h h3 (Ck j)=true)/\(CN ops o=true->sameAt h3 h2 (Ck i)=true) /\
   (want ops E p=some true->AZ E p h (Kk j))/\(want ops E o=some true->AZ E o h3 (Kk i)):=by
  grind [sameAt_refl]
 have noCk:∀{q:Oper},cls P ops q≠.eff->∀{X:Prop},CN ops q=true->X:=λhq X hc=>absurd (ZC hc) hq;cases ho:cls P ops o
 case sil=>grind [A4]
 case add=>
  cases hp:cls P ops p<;>rw[ho,hp] at hsw
  case sil=>grind [A4]
  case mro=>grind [F8,MA,ME.of]
  case alloc=>
   rcases rU hp hj with⟨e1,e3⟩|⟨t,cs,a1,a2,a3,rfl,a4⟩
   .grind
   rcases aeq hsw ho hi with⟨rfl,q⟩|⟨hn,⟨rfl,q⟩|⟨e,ds,rfl,q⟩⟩
   .grind
   .exact⟨_,hj,q _ (Uo a2 a3 hn),noCk (by rw[hp];simp),noCk (by rw[ho];simp),noSt (by rw[hp];simp),noSt (by rw[ho];simp)⟩
   .have hne:Nat.beq (nb+j) h.next=false:=by
     cases e2:Nat.beq (nb+j) h.next
     .rfl
     .simp[aj.new,aj.cQ,e2] at a1
    have hnx:nb+j≠h.next:=λe3=>by grind [Nat.beq_refl]
    have b1:h.used (nb+j)=false:=(by simpa[aj.new,aj.cQ,hne] using a1);have b2:nb+j<h.next:=by have:nb+j<h.next+1:=a2;omega
    have b3:h.get (nb+j)=none:=(by simpa[aj.new,aj.cQ,hne] using a3);refine⟨_,a4 h b1 b2 b3,?_,noCk (by rw[hp];simp),noCk (by rw[ho];simp),noSt (by rw[hp];simp),noSt (by rw[ho];simp)⟩
    grind [Uo,ZE]
  all_goals cases hsw
 case mro=>
  obtain⟨rfl,e2⟩:=F8 ho hi;cases hp:cls P ops p<;>rw[ho,hp] at hsw
  case sil=>grind [A4]
  case ro=>obtain⟨rfl,_⟩:=NA hp hj;grind
  case mro=>obtain⟨rfl,_⟩:=F8 hp hj;grind
  case alloc=>
   rcases rU hp hj with⟨e1,e3⟩|⟨t,cs,a1,a2,a3,rfl,a4⟩
   .grind
   .exact⟨_,hj,e2 _ (ME.of rfl),noCk (by rw[hp];simp),noCk (by rw[ho];simp),noSt (by rw[hp];simp),noSt (by rw[ho];simp)⟩
  case add=>exact⟨_,hj,e2 _ (ME.of (MA hp hj)),noCk (by rw[hp];simp),noCk (by rw[ho];simp),noSt (by rw[hp];simp),noSt (by rw[ho];simp)⟩
  case eff=>exact⟨_,hj,e2 _ (ME.of (ZD HM hsw hj)),cj,noCk (by rw[ho];simp),sj,noSt (by rw[ho];simp)⟩
  case mka=>
   rcases D3 hp hj with⟨e1,e3⟩|⟨kt,a1,rfl,a4⟩
   .grind
   .refine⟨_,hj,e2 _ λm x hm=>?_,noCk (by rw[hp];simp),noCk (by rw[ho];simp),noSt (by rw[hp];simp),noSt (by rw[ho];simp)⟩;have hn:Nat.beq m (nb+j)=false:=by
     cases q:Nat.beq m (nb+j)
     .rfl
     .rw[abi q,a1.2.2.1] at hm;cases hm
    simp[aj.CI,aj.qH,hn,hm]
  all_goals cases hsw
 case eff=>
  cases hp:cls P ops p<;>rw[ho,hp] at hsw
  case sil=>grind [A4]
  all_goals cases hsw
 case ro=>
  obtain⟨rfl,e2⟩:=NA ho hi;rcases e2 with e2|⟨hw,b,hb,hn,e2⟩
  .grind
  .cases hp:cls P ops p
   case sil=>grind [A4]
   case ro=>obtain⟨rfl,_⟩:=NA hp hj;grind
   case mro=>obtain⟨rfl,_⟩:=F8 hp hj;grind
   case alloc=>
    rcases rU hp hj with⟨e1,e3⟩|⟨t,cs,a1,a2,a3,rfl,a4⟩
    .grind
    .refine⟨_,hj,e2 _ (iD.of ?_),noCk (by rw[hp];simp),noCk (by rw[ho];simp),noSt (by rw[hp];simp),noSt (by rw[ho];simp)⟩;have:Nat.beq b.block (nb+j)=false:=by
      grind [Nat.eq_of_beq_eq_true,absurd]
     simp[aj.cQ,this]
   case add=>exact⟨_,hj,e2 _ (iD.of (aep hp hj _ hn)),noCk (by rw[hp];simp),noCk (by rw[ho];simp),noSt (by rw[hp];simp),noSt (by rw[ho];simp)⟩
   case mka=>
    rcases D3 hp hj with⟨e1,e3⟩|⟨kt,a1,rfl,a4⟩
    .grind
    .exact⟨_,hj,e2 _ (iD.of rfl),noCk (by rw[hp];simp),noCk (by rw[ho];simp),noSt (by rw[hp];simp),noSt (by rw[ho];simp)⟩
   case eff=>
    rw[ho,hp] at hsw;simp at hsw;have hm:=hck hsw.1;rw[<-hrd hw,hb] at hm;exact⟨_,hj,e2 _ (yp (cj hsw.2) hm),cj,noCk (by rw[ho];simp),sj,noSt (by rw[ho];simp)⟩
 case mka=>
  cases hp:cls P ops p<;>rw[ho,hp] at hsw
  case sil=>grind [A4]
  case ro=>
   obtain⟨rfl,e2⟩:=NA hp hj;rcases D3 ho hi with⟨e1,e3⟩|⟨kt,a1,rfl,a4⟩
   .grind
   rcases e2 with e2|⟨hw,b,hb,hn,e2⟩
   .grind
   .exact second rfl (by rw[hp];simp) (e2 _ (iD.of rfl))
  case eff=>
   rcases D3 ho hi with⟨e1,e3⟩|⟨kt,a1,rfl,a4⟩
   .grind
   obtain⟨h3,q1,q2,rfl⟩:=ajb HM hsw a1 hj;refine⟨h3,q1,a4 h3 q2,λhcp=>?_,noCk (by rw[ho];simp),λ_ hs=>?_,noSt (by rw[ho];simp)⟩
   .have hsm:=cj hcp;refine DY λx hx b hb=>?_;subst hb;exact (yp hsm hx).cast rfl rfl
   grind [EZ,B9]
  case alloc=>
   rcases D3 ho hi with⟨e1,e3⟩|⟨kt,a1,rfl,a4⟩
   .grind
   rcases rU hp hj with⟨e1,e3⟩|⟨t,cs,b1,b2,b3,rfl,b4⟩
   .grind
   have hne:Nat.beq (nb+j) (nb+i)=false:=by
    grind [Nat.eq_of_beq_eq_true]
   have hne':Nat.beq (nb+i) (nb+j)=false:=by
    grind [Nat.eq_of_beq_eq_true]
   have c1:h.used (nb+j)=false:=by simpa[aj.CI,hne] using b1
   refine⟨_,b4 h c1 b2 b3,?_,noCk (by rw[hp];simp),noCk (by rw[ho];simp),noSt (by rw[hp];simp),noSt (by rw[ho];simp)⟩;rw[a4 _ (RN a1 (by omega)),MC (by omega)];rfl
  all_goals cases hsw
 case alloc=>
  cases hp:cls P ops p
  case sil=>grind [A4]
  case mka=>
   rcases rU ho hi with⟨e1,e3⟩|⟨t,cs,b1,b2,b3,rfl,b4⟩
   .exact first e1 (by rw[ho];simp) e3
   rcases D3 hp hj with⟨e1,e3⟩|⟨kt,a1,rfl,a4⟩
   .exact second e1 (by rw[hp];simp) (e3 _)
   have hne:Nat.beq (nb+j) (nb+i)=false:=by
    grind [Nat.eq_of_beq_eq_true]
   have hne':Nat.beq (nb+i) (nb+j)=false:=by
    grind [Nat.eq_of_beq_eq_true]
   refine⟨_,a4 h (LU a1 (by omega)),?_,noCk (by rw[hp];simp),noCk (by rw[ho];simp),noSt (by rw[hp];simp),noSt (by rw[ho];simp)⟩;rw[b4 (h.CI (nb+j) kt) (by simp[aj.CI,hne',b1]) b2 b3,MC (by omega)];rfl
  case mro=>
   obtain⟨e1,e2⟩:=F8 hp hj;rcases rU ho hi with⟨rfl,_⟩|⟨t,cs,a1,a2,a3,rfl,a4⟩
   .grind
   .exact second e1 (by rw[hp];simp) (e2 _ (ME.of rfl))
  case alloc=>
   rcases rU ho hi with⟨e1,e2⟩|⟨t,cs,a1,a2,a3,rfl,a4⟩
   .exact first e1 (by rw[ho];simp) e2
   rcases rU hp hj with⟨e1,e2⟩|⟨t',cs',b1,b2,b3,rfl,b4⟩
   .exact second e1 (by rw[hp];simp) (e2 _)
   have hne:Nat.beq (nb+j) (nb+i)=false:=by
    grind [Nat.eq_of_beq_eq_true]
   have hne':Nat.beq (nb+i) (nb+j)=false:=by
    grind [Nat.eq_of_beq_eq_true]
   simp[aj.cQ,hne,ap4,ET] at b1 b2 b3;refine⟨_,b4 h b1 b2 b3,?_,noCk (by rw[hp];simp),noCk (by rw[ho];simp),noSt (by rw[hp];simp),noSt (by rw[ho];simp)⟩;have:=a4 (h.cQ (nb+j) h.next t' cs') (by simp[aj.cQ,hne',a1]) a2 (by simp[aj.cQ,hne',a3])
   rw[this]
   congr 2
   exact (V4 (by omega)).symm
  case eff=>
   rw[ho,hp] at hsw;simp only[ac5] at hsw;obtain⟨hc1,hst⟩:=hsw;rcases rU ho hi with⟨e1,e2⟩|⟨t,cs,a1,a2,a3,rfl,a4⟩
   .grind
   have hk:=hkk hc1 (by rw[ho];rfl);rcases V2 hst hj with⟨e1,e2,e3⟩|⟨hw,a,vs,c,g,base,e,b1,b2,rfl,b4⟩
   .grind [sameAt_refl,absurd]
   .have hne:Kk j≠[]:=List.ne_nil_of_mem hk;obtain⟨a',c1,c2⟩:=sj hw hst hne;rw[b1] at c1;cases c1;have c2':=c2;unfold okK at c2;rw[b2] at c2;have c3:=List.all_eq_true.1 c2 _ hk;simp at c3;obtain⟨d1,d2⟩:=c3;have hga:(h.cQ (nb+i) h.next t cs).get a.block=h.get a.block:=by simp[aj.cQ,d1]
    have b2':h.get a.block=some (.cells c g base e):=(by rw[<-hga];exact b2);have hka:Nat.beq (nb+i) a.block=false:=by
     grind [Nat.eq_of_beq_eq_true,Nat.beq_refl]
    have hkg:Nat.beq (nb+i+1) g=false:=by
     grind [Nat.eq_of_beq_eq_true,Nat.beq_refl]
    have hnone:(h.wE a.block (aR c a.off vs) g base e).get (nb+i)=none:=(by simp[aj.wE,hka,a3]);have hcomm:(h.wE a.block (aR c a.off vs) g base e).cQ (nb+i) h.next t cs=(h.cQ (nb+i) h.next t cs).wE a.block (aR c a.off vs) g base e:=by
     unfold aj.cQ aj.wE;simp only[aj.mk.injEq,aoL,and_true];funext q;cases q1:Nat.beq q (nb+i)
     .cases q2:Nat.beq q a.block<;>simp[q1]
     grind [Nat.eq_of_beq_eq_true]
    refine⟨_,b4 h b2',?_,λhcp=>?_,noCk (by rw[ho];simp),λ_ _ _=>⟨a,b1,?_⟩,noSt (by rw[ho];simp)⟩
    .have:=a4 (h.wE a.block (aR c a.off vs) g base e) a1 a2 hnone;rw[this]
     congr 2
    .have hsm:=cj hcp;refine DY λx hx b hb=>?_;subst hb;have h5:=yp hsm hx;cases q1:Nat.beq b.block (nb+i)
     .exact h5.cast (by simp[aj.cQ,q1]) (by simp[aj.wE,aj.cQ,q1])
     .refine iD.of ?_
      grind [Nat.eq_of_beq_eq_true]
    grind [okK]
  all_goals
   grind
theorem aer {mo}(HM:∀f vs ca,mo f=true->C.st f vs=some ca->GO ca.m){i j}{o p}{ck}{s s1 s2}(ho:ops[i]?=some o)(hp:ops[j]?=some p)(hij:i≠j)(hsw:Pc P mo ops o p ck=true)(hck:ck=true->Af i∈Ck j)(hkk:ck=true->Zd (cls P ops o)=true->nb+i∈Kk j)
  (h1:Step P C W nb ops Af Ck Kk i s s1) (h2:Step P C W nb ops Af Ck Kk j s1 s2):∃s1',Step P C W nb ops Af Ck Kk j s s1'/\Step P C W nb ops Af Ck Kk i s1' s2:=by
 obtain⟨E,L,h⟩:=s;obtain⟨E1,L1,h1'⟩:=s1;obtain⟨E2,L2,h2'⟩:=s2;obtain⟨o',r,ho',hWi,hri,hai,e1,e2,hci,hsi⟩:=h1;obtain⟨p',u,hp',hWj,hrj,haj,e3,e4,hcj,hsj⟩:=h2;rw[ho] at ho';cases ho';rw[hp] at hp';cases hp';simp only at *
 subst e1;subst e2;subst e3;subst e4;unfold Pc at hsw;rw[ac5] at hsw;obtain⟨hap,hsw⟩:=hsw;unfold apart at hap;simp at hap;obtain⟨⟨q1,q2⟩,q3⟩:=hap;have d1:∀t∈fT ops p,o.dst≠some t:=by
  grind [Bool.not_eq_true',um]
 have d2:∀t∈fT ops o,p.dst≠some t:=by
  grind [Bool.not_eq_true',um]
 have d3:∀t,o.dst=some t->p.dst≠some t:=by
  intro t e1 e2
  simp_all
 have cE:∀t∈fT ops p,E.res o.dst r t=E t:=λt ht=>(kq (L:=L) (d1 t ht)).1;have cL:∀t∈fT ops p,L.res o.dst r t=L t:=λt ht=>(kq (E:=E) (d1 t ht)).2;have cE':∀t∈fT ops o,E.res p.dst u t=E t:=λt ht=>(kq (L:=L) (d2 t ht)).1;have cL':∀t∈fT ops o,L.res p.dst u t=L t:=λt ht=>(kq (E:=E) (d2 t ht)).2;rw[D1 cE cL] at haj;obtain⟨h3,g1,g2,g3,g4,g5,g6⟩:=core HM hij hsw hkk hsi (λhw=>(A6 cE).1 (hsj (by rw[pF cE];exact hw))) hck hri hai hci haj hcj;refine⟨(E.res p.dst u,L.res p.dst u,h3),⟨p,u,hp,hWj,?_,g1,rfl,rfl,g3,g5⟩,⟨o,r,ho,hWi,?_,?_,?_,?_,g4,λhw=>(A6 cE').2 (g6 (by rw[<-pF cE'];exact hw))⟩⟩
 .intro hw;rw[<-xz cE];exact hrj (by rw[pF cE];exact hw)
 .intro hw;rw[xz cE'];exact hri (by rw[<-pF cE'];exact hw)
 .simp;rw[D1 cE' cL'];exact g2
 .exact (PX (L:=L) d3).1
 .exact (PX (E:=E) d3).2
end Swap
theorem Ib e:Ar e=Region.binds .any e:=by
 unfold Ar Region.binds;split<;>simp_all
theorem PZ {x}:∀{l a},x∈Ze l a->x∈l\/x∈a
 |[],a,h=>.inr h
 |y::l,a,h=>by
  rw[Ze] at h;rcases PZ h with h|h
  .grind
  grind
theorem JX {ops:Array Oper}{σ}(hn:σ.Nodup)(hr:∀i o e,ops[i]?=some o->e∈o.after.toList->Ar e=true->G6 σ e.on i) :
  ∀(rest:List Oper) acc ,(∀n o,rest[n]?=some o->ops[acc.length+n]?=some o)->(∀j i,i∈acc.getD j []->G6 σ i j) ->
   ∀j i,i∈(rest.foldl (λacc o=>acc++[Ze ((o.after.toList.filter Ar).flatMap λe=>e.on::acc.getD e.on []) []]) acc).getD j []->G6 σ i j
 |[],acc,_,ha,j,i,hi=>ha j i hi
 |o::rest,acc,hs,ha,j,i,hi=>by
  refine JX hn hr rest _ ?_ ?_ j i hi
  .intro n o' ho';have:=hs (n+1) o' (by simpa using ho')
   grind
  .intro j i hi;have ho:=hs 0 o rfl;simp at ho;rcases Nat.lt_trichotomy j acc.length with hj|hj|hj
   .grind
   .subst hj;simp at hi;have hi:=(PZ hi).resolve_right (by simp);simp only[List.mem_flatMap,aq4] at hi;obtain⟨e,⟨he,hb⟩,hi⟩:=hi;have h1:=hr _ o e ho he hb;rcases List.mem_cons.1 hi with rfl|hi
    .exact h1
    .exact My hn (ha e.on i (by grind)) h1
   grind
theorem Fb {mo}{ops}{pr}{k}:∀{l},F1 P mo ops pr k l=true->∀i j,G6 (l.map (·.1)) i j->∃cj,(j,cj)∈l/\(Pe P mo ops pr i j cj=true\/j=k)
 |[],_,_,_,hb=>by cases hb
 |(a,c)::l,hp,i,j,hb=>by
  unfold F1 at hp;rw[ac5] at hp;obtain⟨h1,h2⟩:=hp;cases hb with
  |cons _ hb=>
   obtain⟨cj,h3,h4⟩:=Fb h2 i j hb
   grind
  |cons_cons _ hb=>
   have:j∈l.map (·.1):=hb.subset (by simp)
   obtain⟨⟨j',cj⟩,hm,e⟩:=List.mem_map.1 this;simp at e;grind [Nat.eq_of_beq_eq_true]
theorem G9 {mo}{ops}{pr}{i j}{cj}(h:Pe P mo ops pr i j cj=true):i∈pr.getD j []\/∃o p,ops[i]?=some o/\ops[j]?=some p/\Pc P mo ops o p (EX cj i)=true:=by
 unfold Pe at h
 grind [um]
theorem MD {mo}{ops}{pr}{k d}{bad}:∀{l} {pre},GW P mo ops pr pre l=some (k,d,bad)->Mn ops k=some d/\k∈l.map (·.1)/\∃ck,(k,ck)∈l/\∀i,i∈pre\/G6 (l.map (·.1)) i k->(k∉pre->(l.map (·.1)).Nodup->Pe P mo ops pr i k ck=true\/i∈bad)
 |[],_,h=>by cases h
 |(j,cj)::r,pre,h=>by
  unfold GW at h;have next:GW P mo ops pr (j::pre) r=some (k,d,bad)->Mn ops k=some d/\k∈((j,cj)::r).map (·.1)/\∃ck,(k,ck)∈(j,cj)::r/\∀i,i∈pre\/G6 (((j,cj)::r).map (·.1)) i k->(k∉pre->(((j,cj)::r).map (·.1)).Nodup->Pe P mo ops pr i k ck=true\/i∈bad):=λh=>by
   obtain⟨h1,h2,ck,h3,h4⟩:=MD h;refine⟨h1,IN _ h2,ck,IN _ h3,λi hi hk hn=>?_⟩;rw[adZ,apZ] at hn;have hkj:k≠j:=λe=>hn.1 (by rw[<-e];exact h2);refine h4 i ?_ (by simp[hkj,hk]) hn.2;rcases hi with hi|hi
   .exact .inl (IN _ hi)
   .cases hi with
    |cons _ hi=>exact .inr hi
    |cons_cons _ hi=>exact .inl (OF ..)
  split at h
  .rename_i d' hd;split at h
   .exact next h
   .rename_i hne;cases h;refine⟨hd,OF ..,cj,OF ..,λi hi hk hn=>?_⟩;rcases hi with hi|hi
    .cases hp:Pe P mo ops pr i k cj
     .exact .inr (List.mem_filter.2 ⟨hi,by simp[hp]⟩)
     .exact .inl rfl
    .exfalso;rw[adZ,apZ] at hn;cases hi with
     |cons _ hi=>exact hn.1 (hi.subset (by simp))
     |cons_cons _ hi=>exact hn.1 (hi.subset (by simp))
  .exact next h
theorem ZF (p:Nat->Bool):∀s:η,∃q r,s=q++r/\(∀x∈r,p x=false)/\∀x∈q,∃c,p c=true/\(x=c\/G6 q x c)
 |[]=>⟨[],[],rfl,by simp,by simp⟩
 |y::s=>by
  obtain⟨q,r,rfl,h1,h2⟩:=ZF p s;cases q with
  |nil=>
   cases hy:p y
   .exact⟨[],y::r,rfl,by simpa[hy] using h1,by simp⟩
   .exact⟨[y],r,rfl,h1,λx hx=>⟨y,hy,.inl (by simpa using hx)⟩⟩
  |cons z q=>
   refine⟨y::z::q,r,rfl,h1,λx hx=>?_⟩;rcases List.mem_cons.1 hx with rfl|hx
   .obtain⟨c,h3,h4⟩:=h2 z (OF ..);refine⟨c,h3,.inr (List.Sublist.cons_cons _ (List.singleton_sublist.2 ?_))⟩;rcases h4 with rfl|h4
    .exact OF ..
    .exact h4.subset (by simp)
   .obtain⟨c,h3,h4⟩:=h2 x hx;exact⟨c,h3,h4.imp (λx=>x) λh=>.cons _ h⟩
theorem F6.mem {S}{St:Nat->S->S->Prop}{k}:∀{l} {s f},F6 St l s f->k∈l->∃s s',St k s s'
 |_,_,_,.nil _,hk=>by cases hk
 |_,_,_,.cons h1 h2,hk=>by
  rcases List.mem_cons.1 hk with rfl|hk
  .exact⟨_,_,h1⟩
  .exact h2.mem hk
section Late
variable {C:EW}{W:Wr}{nb:Nat}{ops:Array Oper}{Af:Nat->θ}{Ck:Nat->List θ}{Kk:Nat->η}
theorem ZG {E:Env}{L:gD}{d t:Nat}(h:t≠d):E.del (some d) t=E t/\L.del (some d) t=L t:=by
 simp[Env.del,gD.del,bu,h]
theorem F6.del {k d}(hk:∀o,ops[k]?=some o->o.dst=some d){rest f}:∀q {E L h},(∀j∈q++[k],∀o,ops[j]?=some o->d∉fT ops o)->(∀j∈q,∀o,ops[j]?=some o->o.dst≠some d) ->
  F6 (Step P C W nb ops Af Ck Kk) (q++k::rest) (E,L,h) f->F6 (Step P C W nb ops Af Ck Kk) (q++k::rest) (E.del (some d),L.del (some d),h) f:=by
 have ag1:∀{o:Oper} {E:Env} {L:gD},d∉fT ops o->(∀t∈fT ops o,E t=E.del (some d) t)/\∀t∈fT ops o,L t=L.del (some d) t:=λhr=>by
  constructor<;>intro t ht
  .exact (ZG (L:=gD.emp) λe=>hr (by rw[<-e];exact ht)).1.symm
  .exact (ZG (E:=Env.emp) λe=>hr (by rw[<-e];exact ht)).2.symm
 intro q
 induction q with
 |nil=>
  intro E L h hr _ hx;cases hx with
  |cons h1 h2=>
   rename_i s1;obtain⟨o,r,ho,hW,hrd,hact,e1,e2,hck,hst⟩:=h1;obtain⟨c1,c2⟩:=ag1 (E:=E) (L:=L) (hr k (by simp) o ho);refine .cons (s1:=s1) ⟨o,r,ho,hW,?_,?_,?_,?_,hck,?_⟩ h2
   .simp only at hrd⊢;rw[<-pF c1,<-xz c1];exact hrd
   .simp only at hact⊢;rw[<-D1 c1 c2];exact hact
   .rw[e1,hk o ho];funext t;cases r<;>simp[Env.res,Env.put,Env.set,Env.del,bu]<;>grind
   .rw[e2,hk o ho];funext t;cases r<;>simp[gD.res,gD.put,gD.del,bu]<;>grind
   .simp only at hst⊢;rw[<-pF c1,<-A6 c1];exact hst
 |cons j q ih=>
  intro E L h hr hd hx;cases hx with
  |cons h1 h2=>
   rename_i s1;obtain⟨E1,L1,h1'⟩:=s1;obtain⟨o,r,ho,hW,hrd,hact,e1,e2,hck,hst⟩:=h1;obtain⟨c1,c2⟩:=ag1 (E:=E) (L:=L) (hr j (by simp) o ho);have hdo:=hd j (by simp) o ho;refine .cons (s1:=(E1.del (some d),L1.del (some d),h1')) ⟨o,r,ho,hW,?_,?_,?_,?_,hck,?_⟩ (ih (λi hi=>hr i (IN _ hi)) (λi hi=>hd i (IN _ hi)) h2)
   .simp only at hrd⊢;rw[<-pF c1,<-xz c1];exact hrd
   .simp only at hact⊢;rw[<-D1 c1 c2];exact hact
   .simp only at e1⊢;subst e1;funext t;cases hod:o.dst<;>cases r<;>simp[Env.res,Env.put,Env.set,Env.del,bu]<;>grind
   .simp only at e2⊢;subst e2;funext t;cases hod:o.dst<;>cases r<;>simp[gD.res,gD.put,gD.del,bu]<;>grind
   .simp only at hst⊢;rw[<-pF c1,<-A6 c1];exact hst
theorem RP {k d}(h:Mn ops k=some d):∃o t,ops[k]?=some o/\o.op=.alloc t/\o.guard=none/\o.dst=some d:=by
 unfold Mn at h
 grind
def Wr.but (W:Wr)(d:Nat):Wr:=(W.1,some (((match W.2 with|some l=>l|none=>List.range W.1)).filter λi=>!Nat.beq i d))
theorem aes {d:Nat}{e}(h:H3 W e=true)(hd:e≠some d):H3 (W.but d) e=true:=by
 unfold H3 Wr.but at *
 cases e with
 |none=>rfl
 |some i=>
  have:i≠d:=λx=>hd (x▸rfl);have hb:Nat.beq i d=false:=by grind [Nat.eq_of_beq_eq_true]
  simp only[ac5,List.any_eq_true,aq4] at h⊢;refine⟨h.1,i,⟨?_,by simp[hb]⟩,anD i⟩;have h2:=h.2;split at h2
  .rename_i l hl;rw[hl];obtain⟨x,q1,q2⟩:=List.any_eq_true.1 h2;rw[abi q2];exact q1
  .rename_i hl;rw[hl];exact List.mem_range.2 (by simpa[Nat.blt_eq] using h.1)
theorem Iv.but {d}{t t':ν}(h:Iv (W.but d) t t'):Iv W t t'/\t'[d]?=t[d]?:=by
 have no:∀i,(∀l,W.2=some l->l.any (Nat.beq i)=false)->W.2.isSome=true->t'[i]?=t[i]?:=λi hi hs=>h.2 _ rfl i (by
  rw[List.any_eq_false];intro x hx;obtain⟨q1,q2⟩:=List.mem_filter.1 hx;cases hw:W.2 with
  |none=>rw[hw] at hs;cases hs
  |some l=>
   rw[hw] at q1;have:=List.any_eq_false.1 (hi l hw) x q1;exact this)
 refine⟨⟨h.1,λl hl i hi=>no i (λl' hl'=>by rw[hl] at hl';cases hl';exact hi) (by rw[hl];rfl)⟩,h.2 _ rfl d ?_⟩;rw[List.any_eq_false];intro x hx;have:=(List.mem_filter.1 hx).2;cases hb:Nat.beq d x
 .simp
 .rw[abi hb] at this;simp[anD] at this
theorem ZH {R}(HT:E8 P C){F}{ι}{K:Env->M R}{r}{t0}(hlib:H5 F){Q}(hQ:∀a w,Now P F ι W t0 K r a w->Q .normal a w){k d}(hk:Mn ops k=some d){p q rest}
  (hq:∀j∈q,∀o,ops[j]?=some o->d∉fT ops o/\o.dst≠some d) (hn:(q++k::rest).Nodup) :
  ZA P C W W (some nb) ops K r t0 ι F ((p++(q++k::rest)).map λi=>(i,[])) (wpOps P ops Q (p++k::(q++rest))):=by
 obtain⟨o,t,ho,hop,hg,hd⟩:=RP hk;have hmap:∀l:η,(l.map λi=>(i,([]:η))).map (·.1)=l:=λl=>by induction l<;>simp_all
 have hend:ZA P C W W (some nb) ops K r t0 ι F ((q++k::rest).map λi=>(i,[])) (wpOps P ops Q (k::(q++rest))):=by
  intro E L A F0 ι0 h a w R0 HE HL hdf hs hfr hle hF hx;have hrk:d∉fT ops o:=by simp[fT,hop,hg,Op.operands]
  obtain⟨Af,Ck,Kk,E',L',h',hrun,hK,_⟩:=Fa _ _ _ _ _ (by rw[hmap];exact hn) hx;rw[hmap] at hrun;have hx:=A1 _ A _ _ (hrun.del (λo' ho'=>by rw[ho] at ho';cases ho';exact hd) q (λj hj o' ho'=>by
   rcases List.mem_append.1 hj with hj|hj
   .exact (hq j hj o' ho').1
   .rw[agv] at hj;subst hj;rw[ho] at ho';cases ho';exact hrk) λj hj o' ho'=>(hq j hj o' ho').2) hK
  obtain⟨z,hz⟩:∃z,zeroOf P t=some z:=by
   obtain⟨s,s',o',r',ho',_,_,hact,_⟩:=hrun.mem (k:=k) (by simp);rw[ho] at ho';cases ho';simp only[act,want,hg,ex,hop,Ap] at hact;cases hz:zeroOf P t with
   |none=>simp[hz,Act.exec,nQ] at hact
   |some z=>exact⟨z,rfl⟩
  have hwd:H3 W (some d)=true:=by
   obtain⟨s,s',o',r',ho',hW,_⟩:=hrun.mem (k:=k) (by simp);rw[ho] at ho';cases ho';rw[<-hd];exact hW
  obtain⟨hf,hz1,_⟩:=hC hz;have hsc:∀v∈z.cells.toList,fv v=true:=λv hv=>wj (List.all_eq_true.1 hf v hv);have hnone:F0 w.heap.size=none:=by
   cases hc:F0 w.heap.size with
   |none=>rfl
   |some ob=>have:=(Array.getElem?_eq_some_iff.1 (R0.qC _ ob hc)).1;omega
  have R1:Rel P (JD F0 w.heap.size (.cells z.cells t (0,0)) False) ι0 h { w with heap:=w.heap.push (.cells z.cells t (0,0)) }:=by
   refine (R0.Ub _).Uc (by simp) (λn l hl=>?_) λm r hm=>?_
   .have:=hold R0 n l hl;omega
   .obtain⟨_,es,c,q⟩:=R0.mp.loc m r hm
    grind
  have hrun:(execOp a.eval o).run P w=.ok (.value (.pointer (some ⟨w.heap.size,0,none⟩))) { w with heap:=w.heap.push (.cells z.cells t (0,0)) }:=by
   unfold execOp;simp[hop,Instr.alloc,hz1,newVar,newRow]
  have hlt:d<a.tmps.size:=by rw[hs];exact RC hwd
  simp only[wpOps,ho];rw[By (by simp[Region.wanted,hg])];refine .inl ?_;unfold Oper.wp;rw[hrun];have hF1:=LN.add (o:=.cells z.cells t (0,0)) (q:=False) hnone;have step:=DZ HT (nb:=some nb) (V:=W.but d) (t0:=(a.put (some d) (.pointer (some ⟨w.heap.size,0,none⟩))).tmps) (ι:=ι0) (F:=JD F0 w.heap.size (.cells z.cells t (0,0)) False) (K:=K) (r:=r) (Q:=Q) (m:=(k::rest).map λi=>(i,[])) (m':=rest) (λE2 L2 A2 F2 ι2 h2 a2 w2 R2 HE2 HL2 hd2 hs2 hfr2 hle2 hF2 hx2=>by
   rw[adZ] at hx2;unfold kH at hx2;simp only[ho,hg] at hx2;obtain⟨hW,r',h3,hex,_,_,hk2⟩:=Mz hx2;simp only[ex,hop,Ap,hz,Act.exec,gG] at hex;rw[By (List.all_eq_true.2 hsc)] at hex;split at hex
   rotate_left
   .cases hex
   rename_i hnew;split at hnew
   rotate_left
   .cases hnew
   rename_i hkk;obtain⟨u1,u2,u3⟩:=hkk;cases hnew;cases hex;rw[hd] at hk2;have hb2:=hF2.1 w.heap.size (.cells z.cells t (0,0)) (by simp[JD]);have hrd2:¬F2.rd w.heap.size:=λx=>by
    have:=(hF2.2.1.2 w.heap.size (.cells z.cells t (0,0)) (by simp[JD])).1 x;simp[JD] at this
   have hFn:F w.heap.size=none:=by
    cases hc:F w.heap.size with
    |none=>rfl
    |some ob=>rw[hF.1 _ _ hc] at hnone;cases hnone
   have hFr:=((hF.trans hF1).trans hF2).rem hFn;obtain⟨ι3,l1,l2,R3⟩:=R2.late hb2 hrd2 (hFr.GP hlib) u1 u2 (aZ.flat hf) hsc;obtain⟨fr1,fr2⟩:=hfr2.but;have:=AY HT hlib hQ (W:=W) (rest.map λi=>(i,[])) _ _ _ (Zk F2 w.heap.size) ι3 _ a2 w2 R3 (λj u hj=>?_) (λj n cs hj=>?_) hd2 hs2 (hfr.trans ((Iv.put hwd _).trans fr1)) (hle.trans (hle2.trans l1)) hFr hk2
   .rw[hmap] at this;exact this
   .simp[Env.res,Env.put,Env.set,bu] at hj;split at hj
    .rename_i e;subst e;cases hj;exact⟨.pointer (some ⟨w.heap.size,0,none⟩),fr2.trans (by simp[Act.put,hlt]),.ptr _ _ ⟨rfl,rfl,_,l2,rfl,rfl⟩⟩
    .obtain⟨v',q1,q2⟩:=HE2 j u hj;exact⟨v',q1,q2.mono l1⟩
   .simp[gD.res,gD.del,bu] at hj;obtain⟨_,hj⟩:=hj;obtain⟨b,cs',e,q1,⟨q2,q3⟩,q4,q5⟩:=HL2 j n cs hj;refine⟨b,cs',e,q1,⟨?_,q3⟩,q4.mono l1,q5⟩;show (if b=w.heap.size then none else F2 b)=_;rw[AT λx=>hrd2 (by rw[<-x];exact q3)];exact q2) (q.map λi=>(i,[])) (λi o' hi ho' hw=>aes hw (hq i (by rw[hmap] at hi;exact hi) o' ho').2)
  rw[hmap] at step;rw[aiJ] at hx;have e:∀{N:Go.Act->Prop},N (a.put (some d) (.pointer (some ⟨w.heap.size,0,none⟩)))->N (a.put o.dst (.pointer (some ⟨w.heap.size,0,none⟩))):=λh=>by rw[hd];exact h
  refine e (N:=λa=>wpOps P ops Q (q++rest) a _) (step _ _ _ _ _ _ _ _ R1 (λj u hj=>?_) ((HL.mono hF1 (.refl _)).del _ _) hdf (by simpa[Act.put,Wr.but] using hs) (.refl _ _) (.refl _) (.refl _) hx);simp only[Env.del,bu] at hj;split at hj
  .cases hj
  .rename_i hne;obtain⟨u',x1,x2⟩:=HE j u hj;exact⟨u',by simp[Act.put];grind,x2⟩
 have:=DZ HT (nb:=some nb) hend (p.map λi=>(i,[])) λ_ _ _ _ x=>x;rw[hmap,<-aiJ] at this;exact this
end Late
theorem RQ {l:η}{i j}(h:G6 l i j):i∈l/\j∈l:=⟨h.subset (by simp),h.subset (by simp)⟩
theorem RR {a b:η}{i j}(hi:i∈a)(hj:j∈b):G6 (a++b) i j:=(List.Sublist.append (List.singleton_sublist.2 hi) (List.singleton_sublist.2 hj):List.Sublist ([i]++[j]) _)
theorem MF {a b:η}{k i}(hn:(a++k::b).Nodup)(h:G6 (a++k::b) k i):i∈b:=by
 rcases List.mem_append.1 (RQ h).2 with hi|hi
 .exact (lW hn h (RR hi (OF ..))).elim
 .rcases List.mem_cons.1 hi with rfl|hi
  .exact (lW hn h h).elim
  .exact hi
theorem RU {a b:η}{k i}(hn:(a++k::b).Nodup)(h:G6 (a++k::b) i k):i∈a:=by
 rcases List.mem_append.1 (RQ h).1 with hi|hi
 .exact hi
 .rcases List.mem_cons.1 hi with rfl|hi
  .exact (lW hn h h).elim
  .refine (lW hn h ?_).elim;exact (List.Sublist.cons_cons k (List.singleton_sublist.2 hi)).trans (aiL a _)
theorem V5 {R}{C}(HT:E8 P C){F}{ι}{W}{nb}{ops}{l}{K:Env->M R}{r}{t0}(hlib:H5 F){Q}(hQ:∀a w,Now P F ι W t0 K r a w->Q .normal a w)(hok:Rq P C.mo ops l=true) t {E h a w}
  (R0:Rel P F ι h w) (HE:np P ι E a.tmps) (hd:a.defers=F.Rj) (hs:a.tmps.size=W.1) (hfr:Iv W t0 a.tmps) (hx:kH P C W (some nb) ops l E gD.emp (λ_=>none) K h=some r) :
  wpOps P ops Q (Region.schedule (P.follows .mixedOrders) ops t) a w:=by
 unfold Rq at hok;simp only[ac5] at hok;obtain⟨⟨⟨hmx,hpm⟩,hed⟩,hpr⟩:=hok;rw[Region.schedule,hmx,Bool.true_or,By rfl];have hpm:=List.isPerm_iff.1 hpm;have hlt:∀i o e,ops[i]?=some o->e∈o.after.toList->Region.binds .any e=true->e.on<i:=by
  intro i o e ho he hb;rw[anG] at hed;have h1:=hed (o,i) (by
   grind)
  simp only[anG] at h1;have h2:=h1 e he;rw[Ib,hb] at h2
  simp_all
 obtain⟨s1,s2,s3⟩:=JR hlt t;generalize Region.linearise .any ops t=σ at s1 s2 s3;have hnd:(l.map (·.1)).Nodup:=(hpm.nodup_iff).2 anX
 obtain⟨Af,Ck,Kk,E',L',h',hrun,hK,hks⟩:=Fa l E gD.emp (λ_=>none) h hnd hx;have hp:=JX s1 (λi o e a b c=>s3 i o e a b (by grind [Ib])) ops.toList [] (by simp) (by simp);have hmap:∀l:η,(l.map λi=>(i,([]:η))).map (·.1)=l:=λl=>by induction l<;>simp_all
 have hmem:∀x,x∈σ↔x∈l.map (·.1):=λx=>(hpm.trans s2.symm).mem_iff.symm
 have hsz:∀x,x∈σ->∃o,ops[x]?=some o:=λx hx=>by
  have:=List.mem_range.1 (s2.mem_iff.1 hx);exact⟨ops[x],by simp[this]⟩
 have swap:∀i j cj,(j,cj)∈l->G6 (l.map (·.1)) i j->(∃o p,ops[i]?=some o/\ops[j]?=some p/\Pc P C.mo ops o p (EX cj i)=true) ->
   ∀s s1 s2,Step P C W nb ops Af Ck Kk i s s1->Step P C W nb ops Af Ck Kk j s1 s2->∃s1',Step P C W nb ops Af Ck Kk j s s1'/\Step P C W nb ops Af Ck Kk i s1' s2:=by
  intro i j cj hm hij hsw s s1' s2' q1 q2;obtain⟨o,p,ho,hp',hsw⟩:=hsw;refine aer HT.mo ho hp' ?_ hsw ?_ ?_ q1 q2
  .rintro rfl;exact lW hnd hij hij
  .grind [um]
  .intro hck hal;have hmem:=um.1 hck;rw[(hks j cj hm i hmem).2.2];unfold It
   grind
 unfold Zf at hpr;split at hpr
 .have hany:=F6.any σ (l.map (·.1)) (hpm.trans s2.symm) (λi j hij hji=>by
   obtain⟨cj,hm,hc⟩:=Fb hpr i j hij;rcases hc with hc|rfl
   .rcases G9 hc with hc|hsw
    .exact absurd hji λhji=>lW s1 (hp j i hc) hji
    .exact swap i j cj hm hij hsw
   .have:=List.mem_range.1 (hpm.mem_iff.1 (RQ hij).2);omega) hrun
  have:=AY HT hlib hQ (W:=W) (nb:=some nb) (ops:=ops) (σ.map λi=>(i,[]));rw[hmap] at this;exact this E gD.emp (λ_=>none) F ι h a w R0 HE .emp hd hs hfr (.refl _) (.refl _) (A1 σ _ (E,gD.emp,h) (E',L',h') hany hK)
 .rename_i k d bad hl;rw[ac5] at hpr;obtain⟨hpr,hlk⟩:=hpr;obtain⟨hk,hkm,ck,hck,hbad⟩:=MD hl;have hlk:∀b o,ops[b]?=some o->(d∈fT ops o->k∈(FZ ops.toList).getD b [])/\(b≠k->o.dst≠some d)/\(k∈(FZ ops.toList).getD b []->∀c∈bad,c∈(FZ ops.toList).getD b []):=λb o ho=>by
   have h1:=List.all_eq_true.1 hlk (o,b) (by grind);simp only[ac5,apl,apy,anG] at h1;obtain⟨⟨h1,h2⟩,h3⟩:=h1;refine⟨λh=>?_,λhb hd=>?_,λh c hc=>?_⟩
   .grind [um]
   .rcases h2 with h2|h2
    .exact hb (abi h2)
    .rw[hd] at h2;simp[anD] at h2
   .grind [um]
  obtain⟨p,s,rfl⟩:=List.append_of_mem ((hmem k).2 hkm);obtain⟨q,rest,rfl,hc1,hc2⟩:=ZF (EX bad) s;have perm:(p++k::(q++rest)).Perm (p++(q++k::rest)):=(List.perm_middle.symm).append_left p;have hn':=perm.nodup_iff.1 s1;have noq:∀x∈q,k∉(FZ ops.toList).getD x []:=λx hx hkx=>by
   obtain⟨o,ho⟩:=hsz x (by simp[hx]);obtain⟨c,h1,h2⟩:=hc2 x hx;have h3:=hp x c ((hlk x o ho).2.2 hkx c (um.1 h1));rcases h2 with rfl|h2
   .exact lW s1 h3 h3
   .refine lW s1 h3 (h2.trans ?_);exact ((aqV q rest).cons k).trans (aiL p _)
  have hassoc:p++(q++k::rest)=(p++q)++k::rest:=by simp
  have hany:=F6.any (p++(q++k::rest)) (l.map (·.1)) ((hpm.trans s2.symm).trans perm) (λi j hij hji=>by
   by_cases hjk:j=k
   .subst hjk;rw[hassoc] at hji hn';have hir:=MF hn' hji;have hbi:=hc1 i hir;rcases hbad i (.inr hij) (by simp) hnd with hc|hc
    .rcases G9 hc with hc|hsw
     .refine (lW s1 (hp j i hc) ?_).elim;exact (List.Sublist.cons_cons j (List.singleton_sublist.2 (adr q hir))).trans (aiL p _)
     .exact swap i j ck hck hij hsw
    .rw[um.2 hc] at hbi;cases hbi
   .obtain⟨cj,hm,hc⟩:=Fb hpr i j hij;rcases G9 (hc.resolve_right hjk) with hpj|hsw
    .exfalso;have h1:=hp j i hpj;by_cases hik:i=k
     .subst hik;have h2:=MF s1 h1;rw[hassoc] at hji hn';have h3:=RU hn' hji;rcases List.mem_append.1 h3 with h3|h3
      .exact lW s1 h1 (RR h3 (OF ..))
      .exact noq j h3 hpj
     .refine lW s1 h1 ?_;have h2:=List.Sublist.filter (λx=>decide (x≠k)) hji;have e:(p++(q++k::rest)).filter (λx=>decide (x≠k))=(p++k::(q++rest)).filter (λx=>decide (x≠k)):=(by simp[List.filter_append,List.filter_cons]);rw[e] at h2;have e2:[j,i].filter (λx=>decide (x≠k))=[j,i]:=(by simp[hjk,hik]);rw[e2] at h2;exact h2.trans List.filter_sublist
    .exact swap i j cj hm hij hsw) hrun
  refine ZH HT hlib hQ hk (p:=p) (q:=q) (rest:=rest) (λj hj o ho=>⟨λhr=>noq j hj ((hlk j o ho).1 hr),(hlk j o ho).2.1 ?_⟩) (hn'.sublist (aiL p _)) _ _ _ _ _ _ _ _ R0 HE .emp hd hs hfr (.refl _) (.refl _) (A1 _ (λ_=>none) (E,gD.emp,h) (E',L',h') hany hK);intro e;rw[e] at hj;have hb:G6 ((p++q)++k::rest) k k:=RR (by simp[hj]) (OF ..);rw[hassoc] at hn';exact lW hn' hb hb
end Go.Ago
