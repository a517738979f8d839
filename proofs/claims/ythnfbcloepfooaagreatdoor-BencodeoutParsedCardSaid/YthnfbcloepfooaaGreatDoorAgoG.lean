
import Derived.Test.YthnfbcloepfooaaGreatDoorAgoU
import Derived.Scope
set_option linter.all false
namespace Go.Ago
open Go
variable {P:Program}{ι ι':gy}{h h' h1:af}{w w':World}
def ep (body:Code)(todo:List sN):List Item:=todo.map fun
 |.code p=>.code (cB body p)
 |.aD id=>.inBlock id
 |.VA p=>.inScope (cB body p)
def eqv:Exit->fw->Prop
 |.normal,.normal=>True
 |.exit a,.exit b=>a=b
 |.ret,.ret=>True
 |_,_=>False
def lX (P:Program)(its:List Item)(Q:Exit->Go.Act->World->Prop)(a:Go.Act)(w:World):Prop:=
 ∀(b:Frame) (k:List Item) (cs:List Frame),∃e a' w',Q e a' w'/\Arrives P (lone (b.at a (its++k)) cs w) b k cs e a' w'
def ym {R:Type}(P:Program)(F:Fz)(ι:gy)(W:Wr)(t0:ν)(fin:fw->Env->M R)(eA:ξ->M R)(r:R×af):Exit->Go.Act->World->Prop:=
 λe a w=>(∃ae,eqv e ae/\Pd P F ι W t0 (fin ae) r a w)\/DN P F ι W t0 eA r e a w
def VL (P:Program)(F:Fz)(ι:gy)(W:Wr)(t0:ν)(v:ξ)(h1:af):Exit->Go.Act->World->Prop:=
 λe a w=>∃ι' v',e=.panic (one v')/\ι.le ι'/\bg P ι' v v'/\Rel P F ι' h1 w/\a.defers=F.DH/\a.tmps.size=W.1/\zN W t0 a.tmps
def CD (P:Program)(F:Fz)(ι:gy)(W:Wr)(t0:ν)(ae:fw)(E':Env)(h1:af):Exit->Go.Act->World->Prop:=
 λe a w=>eqv e ae/\∃ι',ι.le ι'/\Rel P F ι' h1 w/\iu P ι' E' a.tmps/\a.defers=F.DH/\a.tmps.size=W.1/\zN W t0 a.tmps
structure Start (P:Program) (F:Fz) (ι:gy) (W:Wr) (E:Env) (h:af) (a:Go.Act) (w:World):Prop where
 rel:Rel P F ι h w
 env:iu P ι E a.tmps
 defers:a.defers=F.DH
 size:a.tmps.size=W.1
def JS (P:Program)(body:Code)(W:Wr)(p:Path)(E:Env):uN->Prop
 |.one _ m e out=>∀F h x h1,m h=some (x,h1)->∀ι w a,Start P F ι W E h a w->(cB body p).wp P (CD P F ι W a.tmps e (out x) h1) a w
 |.two _ _ m e out e' out'=>(∀F h x h1,m h=some (.inl x,h1)->∀ι w a,Start P F ι W E h a w->(cB body p).wp P (CD P F ι W a.tmps e (out x) h1) a w) /\
   (∀F h x h1,m h=some (.inr x,h1)->∀ι w a,Start P F ι W E h a w->(cB body p).wp P (CD P F ι W a.tmps e' (out' x) h1) a w)
 |.XA _ m e out=>(∀F h x h1,m h=some (.inl x,h1)->∀ι w a,Start P F ι W E h a w->(cB body p).wp P (CD P F ι W a.tmps e (out x) h1) a w) /\
   (∀F h v h1,m h=some (.inr v,h1)->∀ι w a,Start P F ι W E h a w->(cB body p).wp P (VL P F ι W a.tmps v h1) a w)
 |.XB _ _ m e out e' out'=>(∀F h x h1,m h=some (.inl (.inl x),h1)->∀ι w a,Start P F ι W E h a w->(cB body p).wp P (CD P F ι W a.tmps e (out x) h1) a w) /\
   (∀F h x h1,m h=some (.inl (.inr x),h1)->∀ι w a,Start P F ι W E h a w->(cB body p).wp P (CD P F ι W a.tmps e' (out' x) h1) a w) /\
   (∀F h v h1,m h=some (.inr v,h1)->∀ι w a,Start P F ι W E h a w->(cB body p).wp P (VL P F ι W a.tmps v h1) a w)
 |.none=>True
structure uY {R:Type} (P:Program) (body:Code) (T:Hp R) (W:Wr) (fin:fw->Env->M R):Prop where
 call:qu P T.call
 loop:∀p E,JS P body W p E (T.loop p E)
 join:∀p k J,T.join p=some (k,J)->∀E m,J E=some m->∀F h r,m h=some r->∀ι w a,Start P F ι W E h a w->lX P (ep body (.code p::k)) (ym P F ι W a.tmps fin T.eA r) a w
theorem lX.steps {its its':List Item}{Q:Exit->Go.Act->World->Prop}{a a':Go.Act}(hst:∀(b:Frame) (k:List Item) (cs:List Frame),Steps P (lone (b.at a (its++k)) cs w) (lone (b.at a' (its'++k)) cs w'))
  (hr:lX P its' Q a' w'):lX P its Q a w:=λb k cs=>
 let ⟨e,a2,w2,q,harr⟩:=hr b k cs
 ⟨e,a2,w2,q,.of_steps (hst b k cs) harr⟩
theorem lX.mono {its:List Item}{Q Q':Exit->Go.Act->World->Prop}{a:Go.Act}(hr:lX P its Q a w)(hq:∀e a w,Q e a w->Q' e a w):lX P its Q' a w:=λb k cs=>
 let ⟨e,a2,w2,q,harr⟩:=hr b k cs
 ⟨e,a2,w2,hq _ _ _ q,harr⟩
theorem lX.code {c:Code}{its:List Item}{Q:Exit->Go.Act->World->Prop}{a:Go.Act}(hc:c.wp P (λe a w=>e=.normal/\lX P its Q a w) a w):lX P (.code c::its) Q a w:=by
 intro b k cs;obtain⟨e,a1,w1,⟨rfl,hq⟩,harr⟩:=hc b (its++k) cs;obtain⟨e,a2,w2,q,harr2⟩:=hq b k cs;exact⟨e,a2,w2,q,.of_steps harr harr2⟩
theorem lX.XI {c:Code}{its:List Item}{Q:Exit->Go.Act->World->Prop}{a:Go.Act}(hc:c.wp P (λe a w=>(e=.normal/\lX P its Q a w)\/((∃ch,e=.panic ch)/\Q e a w)) a w):lX P (.code c::its) Q a w:=by
 intro b k cs;obtain⟨e,a1,w1,hq|⟨⟨ch,rfl⟩,hq⟩,harr⟩:=hc b (its++k) cs
 .obtain⟨rfl,hq⟩:=hq;obtain⟨e,a2,w2,q,harr2⟩:=hq b k cs;exact⟨e,a2,w2,q,.of_steps harr harr2⟩
 .exact⟨.panic ch,a1,w1,hq,harr⟩
theorem lX.S8 {its:List Item}{Q:Exit->Go.Act->World->Prop}{c:Code}{a:Go.Act}(hc:c.wp P (λe a w=>(∃ch,e=.panic ch)/\Q e a w) a w):lX P (.code c::its) Q a w:=by
 intro b k0 cs;obtain⟨e,a1,w1,⟨⟨ch,rfl⟩,h1⟩,harr⟩:=hc b (its++k0) cs;exact⟨.panic ch,a1,w1,h1,harr⟩
theorem pY {id:Nat}:∀{its its':List Item} (k:List Item),exitTo id its=some its'->exitTo id (its++k)=some (its'++k)
 |[],_,_,h=>by simp[exitTo] at h
 |x::its,its',k,h=>by
  cases x with
  |inBlock id'=>
   simp only[exitTo,aaq] at h⊢;split at h
   .rename_i e;rw[BY e];cases h;rfl
   .rename_i e;rw[By e];exact pY k h
  |_=>simp only[exitTo,aaq] at h⊢;exact pY k h
theorem kT {id:Nat}:∀{its:List Item} (k:List Item),exitTo id its=none->exitTo id (its++k)=exitTo id k
 |[],_,_=>rfl
 |x::its,k,h=>by
  cases x with
  |inBlock id'=>
   simp only[exitTo,aaq] at h⊢;split at h
   .cases h
   .rename_i e;rw[By e];exact kT k h
  |_=>simp only[exitTo,aaq] at h⊢;exact kT k h
theorem rV (body:Code)(id:Nat):∀(k:List sN),exitTo id (ep body k)=(mG id k).map (ep body)
 |[]=>rfl
 |.code p::k=>by simp only[ep,aaK,exitTo,mG];exact rV body id k
 |.VA p::k=>by simp only[ep,aaK,exitTo,mG];exact rV body id k
 |.aD id'::k=>by
  simp only[ep,aaK,exitTo,mG];cases hb:Nat.beq id' id with
  |true=>grind [Nat.eq_of_beq_eq_true,ep]
  |false=>
   have:id'≠id:=λe=>by subst e;rw[abe] at hb;cases hb
   rw[By (by simpa using this)];exact rV body id k
theorem lX.exitCode {body:Code}{id:Nat}{k:List sN}{Q:Exit->Go.Act->World->Prop}{a:Go.Act}{its:List Item}
  (hst:∀(b:Frame) (k0:List Item) (cs:List Frame) k',exitTo id (ep body k++k0)=some k'->Steps P (lone (b.at a (its++k0)) cs w) (lone (b.at a k') cs w))
  (h1:∀k',mG id k=some k'->lX P (ep body k') Q a w) (h2:mG id k=none->Q (.exit id) a w):lX P its Q a w:=by
 intro b k0 cs;have hs:=rV body id k;cases hp:mG id k with
 |some k'=>
  rw[hp] at hs;obtain⟨e,a2,w2,q,harr⟩:=h1 k' hp b k0 cs;exact⟨e,a2,w2,q,.of_steps (hst b k0 cs _ (pY k0 hs)) harr⟩
 |none=>
  rw[hp] at hs;refine⟨.exit id,a,w,h2 hp,λk' hk'=>hst b k0 cs k' ?_⟩;rw[kT k0 hs];exact hk'
theorem lX.MZ {body:Code}{id:Nat}{k:List sN}{Q:Exit->Go.Act->World->Prop}{c:Code}{a:Go.Act}
  (hc:c.wp P (λe a w=>e=.exit id/\(∀k',mG id k=some k'->lX P (ep body k') Q a w)/\(mG id k=none->Q (.exit id) a w)) a w):lX P (.code c::ep body k) Q a w:=by
 intro b k0 cs;obtain⟨e,a1,w1,⟨rfl,h1,h2⟩,harr⟩:=hc b (ep body k++k0) cs;have hs:=rV body id k;cases hp:mG id k with
 |some k'=>
  rw[hp] at hs;obtain⟨e,a2,w2,q,harr2⟩:=h1 k' hp b k0 cs;exact⟨e,a2,w2,q,.of_steps (harr _ (pY k0 hs)) harr2⟩
 |none=>
  rw[hp] at hs;refine⟨.exit id,a1,w1,h2 hp,λk' hk'=>harr k' ?_⟩;rw[kT k0 hs];exact hk'
theorem lX.S9 {its:List Item}{Q:Exit->Go.Act->World->Prop}{c:Code}{a:Go.Act}(hc:c.wp P (λe a w=>e=.ret/\Q .ret a w) a w):lX P (.code c::its) Q a w:=by
 intro b k0 cs;obtain⟨e,a1,w1,⟨rfl,h1⟩,harr⟩:=hc b (its++k0) cs;exact⟨.ret,a1,w1,h1,harr⟩
theorem JT:∀{k l:List sN},eqItems k l=true->k=l:=by
 have hp:∀{p q:Path},rO p q=true->p=q:=by
  intro p
  induction p with
  |nil=>grind [rO]
  |cons a p ih=>intro q hq;cases q with
   |nil=>simp[rO] at hq
   |cons b q=>
    simp only[rO,aaf] at hq;rw[IS hq.1,ih hq.2]
 intro k
 induction k with
 |nil=>grind [eqItems]
 |cons x k ih=>intro l hl;cases l with
  |nil=>cases x<;>simp[eqItems] at hl
  |cons y l=>
   cases x<;>cases y<;>simp only[eqItems,aaf] at hl<;>first
    |(rw[hp hl.1,ih hl.2])
    |(rw[IS hl.1,ih hl.2])
    |(cases hl)
theorem Pd.start {R:Type}{F:Fz}{W:Wr}{t0:ν}{K:Env->M R}{r:R×af}{a:Go.Act}(hn:Pd P F ι W t0 K r a w) :
  ∃ι' E h,ι.le ι'/\K E h=some r/\Start P F ι' W E h a w/\zN W t0 a.tmps:=
 let ⟨ι',E,h,q1,q2,q3,q4,q5,q6,q7⟩:=hn
 ⟨ι',E,h,q1,q2,⟨q3,q4,q5,q6⟩,q7⟩
theorem ym.trans {R:Type}{F:Fz}{W:Wr}{t0 t1:ν}{fin:fw->Env->M R}{eA:ξ->M R}{r:R×af}(hle:ι.le ι')(hf:zN W t0 t1)(e:Exit)(a:Go.Act)(w:World)
  (hp:ym P F ι' W t1 fin eA r e a w):ym P F ι W t0 fin eA r e a w:=by
 rcases hp with⟨ae,h1,ι2,E,h,q1,q2,q3,q4,q5,q6,q7⟩|hp
 .exact .inl ⟨ae,h1,ι2,E,h,hle.trans q1,q2,q3,q4,q5,q6,hf.trans q7⟩
 .exact .inr (hp.trans hle hf)
theorem map_fst (l:η):(l.map λi=>(i,([]:η))).map (·.1)=l:=by
 rw[List.map_map];have:((λx:Nat×η=>x.1)∘λi=>(i,([]:η)))=id:=rfl;rw[this,List.map_id]
theorem rG {R:Type}{body:Code}{T:Hp R}{W:Wr}{fin:fw->Env->M R}(HT:uY P body T W fin) :
  ∀(n:Nat) (j:Bool) (todo:List sN) (E:Env) (F:Fz) (ι:gy) (h:af) (r:R×af) (a:Go.Act) (w:World),Start P F ι W E h a w ->
   den P body T W fin n j todo E h=some r->lX P (ep body todo) (ym P F ι W a.tmps fin T.eA r) a w
 |0,j,todo,E,F,ι,h,r,a,w,S,hx=>by simp[den,AT] at hx
 |n+1,j,[],E,F,ι,h,r,a,w,S,hx=>λb k cs=>
  ⟨.normal,a,w,.inl ⟨.normal,trivial,ι,E,h,.refl _,hx,S.rel,S.env,S.defers,S.size,.refl _ _⟩,Steps.refl _ _⟩
 |n+1,j,.aD id::k,E,F,ι,h,r,a,w,S,hx=>by
  have ih:=rG HT n true k E F ι h r a w S hx;exact ih.steps λb k0 cs=>.one step_inBlock
 |n+1,j,.VA p::k,E,F,ι,h,r,a,w,S,hx=>by
  have ih:=rG HT n true k E F ι h r a w S hx;exact ih.steps λb k0 cs=>.one step_inScope
 |n+1,j,.code p::k,E,F,ι,h,r,a,w,S,hx=>by
  have ih:=rG HT n;generalize hm:den P body T W fin (n+1) j (.code p::k) E=m at hx;unfold den at hm;have ops:∀{id:Nat} {ops:Array Oper} {draw:Bool},cB body p=.region id ops draw ->
    (cB body p).wp P (λe a' w'=>e=.normal/\Pd P F ι W a.tmps (λE'=>den P body T W fin n true k E') r a' w') a w->lX P (ep body (.code p::k)) (ym P F ι W a.tmps fin T.eA r) a w:=by
   intro id ops draw _ hwp;refine lX.code (wp_mono hwp ?_);rintro e a' w' ⟨rfl,hn⟩;obtain⟨ι',E',h',q1,q2,q3,q4⟩:=hn.start;exact⟨rfl,(ih true k E' F ι' h' r a' w' q3 q2).mono λe a w=>ym.trans q1 q4 e a w⟩
  have opsP:∀{id:Nat} {ops:Array Oper} {draw:Bool},cB body p=.region id ops draw ->
    (cB body p).wp P (λe a' w'=>(e=.normal/\Pd P F ι W a.tmps (λE'=>den P body T W fin n true k E') r a' w')\/DN P F ι W a.tmps T.eA r e a' w') a w->lX P (ep body (.code p::k)) (ym P F ι W a.tmps fin T.eA r) a w:=by
   intro id ops draw _ hwp;refine lX.XI (wp_mono hwp ?_);rintro e a' w' (⟨rfl,hn⟩|hp)
   .obtain⟨ι',E',h',q1,q2,q3,q4⟩:=hn.start;exact .inl ⟨rfl,(ih true k E' F ι' h' r a' w' q3 q2).mono λe a w=>ym.trans q1 q4 e a w⟩
   .obtain⟨ι2,v,v',h,q1,q2⟩:=hp;exact .inr ⟨⟨_,q1⟩,.inr ⟨ι2,v,v',h,q1,q2⟩⟩
  have loopPan:∀(v:ξ) (h1:af),(cB body p).wp P (VL P F ι W a.tmps v h1) a w->T.eA v h1=some r->lX P (ep body (.code p::k)) (ym P F ι W a.tmps fin T.eA r) a w:=by
   intro v h1 hwp hv;refine lX.S8 (wp_mono hwp ?_);rintro e a' w' ⟨ι',v',rfl,q1,q2,q3,q4,q5,q6⟩;exact⟨⟨_,rfl⟩,.inr ⟨ι',v,v',h1,rfl,q1,hv,q2,q3,q4,q5,q6⟩⟩
  have loopEnd:∀(ae:fw) (E':Env) (h1:af),(cB body p).wp P (CD P F ι W a.tmps ae E' h1) a w ->
    (∀id,ae=.exit id->(∀k',mG id k=some k'->den P body T W fin n true k' E' h1=some r)/\(mG id k=none->fin (.exit id) E' h1=some r)) ->
    (ae=.ret->fin .ret E' h1=some r)->(ae≠.normal)->lX P (ep body (.code p::k)) (ym P F ι W a.tmps fin T.eA r) a w:=by
   intro ae E' h1 hwp hex hret hno;cases ae with
   |normal=>exact absurd rfl hno
   |exit id=>
    refine lX.MZ (body:=body) (id:=id) (k:=k) (wp_mono hwp ?_);rintro e a' w' ⟨he,ι',q1,q2,q3,q4,q5,q6⟩;cases e with
    |exit id'=>
     have:id'=id:=he;subst this;refine⟨rfl,λk' hk'=>?_,λhk'=>.inl ⟨.exit id',rfl,ι',E',h1,q1,(hex id' rfl).2 hk',q2,q3,q4,q5,q6⟩⟩;exact (ih true k' E' F ι' h1 r a' w' ⟨q2,q3,q4,q5⟩ ((hex id' rfl).1 k' hk')).mono λe a w=>ym.trans q1 q6 e a w
    |_=>exact he.elim
   |ret=>
    refine lX.S9 (wp_mono hwp ?_);rintro e a' w' ⟨he,ι',q1,q2,q3,q4,q5,q6⟩;cases e with
    |ret=>exact⟨rfl,.inl ⟨.ret,trivial,ι',E',h1,q1,hret rfl,q2,q3,q4,q5,q6⟩⟩
    |_=>exact he.elim
  split at hm
  ·-- a place where ways meet
   rename_i k' J hj;split at hm
   .rename_i hk;have hk:=JT hk;subst hk;split at hm
    .rename_i m0 hJ;subst hm;have hj':T.join p=some (k,J):=by
      split at hj
      .exact hj
      .cases hj
     exact HT.join p k J hj' E m0 hJ F h r hx ι w a S
    .subst hm;simp[AT] at hx
   .subst hm;simp[AT] at hx
  .split at hm
   ·-- skip
    rename_i hc;subst hm;refine (ih true k E F ι h r a w S hx).steps λb k0 cs=>?_;simp only[ep,aaK,hc,aaq];exact .one step_skip
   .rename_i l hc;subst hm;refine (ih true k E F ι h r a w S hx).steps λb k0 cs=>?_;simp only[ep,aaK,hc,aaq];exact .one step_label
   .rename_i x y hc;subst hm;refine (ih true _ E F ι h r a w S hx).steps λb k0 cs=>?_;simp only[ep,aaK,hc,aaq];have e0:cB body (0::p)=x:=(by simp[cB,hc,child]);have e1:cB body (1::p)=y:=(by simp[cB,hc,child]);rw[e0,e1];exact .one step_seq
   ·-- cond
    rename_i c x y hc;have e0:cB body (0::p)=x:=(by simp[cB,hc,child]);have e1:cB body (1::p)=y:=(by simp[cB,hc,child]);split at hm
    .rename_i b hb;have hev:=(aU S.env hb).bool;unfold kG at hm;split at hm
     .rename_i e;subst e;subst hm;refine (ih true _ _ F ι h r a w ⟨S.rel,S.env.nY hb,S.defers,S.size⟩ hx).steps λb k0 cs=>?_;simp only[ep,aaK,hc,aaq,e0];exact .one (step_cond (t:=true) hev)
     .rename_i e;have:b=false:=(by cases b<;>simp_all);subst this;subst hm;refine (ih true _ _ F ι h r a w ⟨S.rel,S.env.nY hb,S.defers,S.size⟩ hx).steps λb k0 cs=>?_;simp only[ep,aaK,hc,aaq,e1];exact .one (step_cond (t:=false) hev)
    .subst hm;simp[AT] at hx
   .rename_i id c hc;subst hm;refine (ih true _ E F ι h r a w S hx).steps λb k0 cs=>?_;have e0:cB body (0::p)=c:=(by simp[cB,hc,child]);simp only[ep,aaK,hc,aaq,e0];exact .one step_block
   ·-- scope
    rename_i c hc;subst hm;refine (ih true _ E F ι h r a w S hx).steps λb k0 cs=>?_;have e0:cB body (0::p)=c:=(by simp[cB,hc,child]);simp only[ep,aaK,hc,aaq,e0];exact .one step_scope
   ·-- loop
    rename_i c hc;have hl:=HT.loop p E;split at hm
    .rename_i α m0 e out hT;rw[hT] at hl;subst hm;simp only[AI] at hx;split at hx
     .rename_i x h1 hm0;refine loopEnd e (out x) h1 (hl F h x h1 hm0 ι w a S) ?_ ?_ ?_
      .rintro id rfl;simp only at hx;refine⟨λk' hk'=>?_,λhk'=>?_⟩
       .rw[hk'] at hx;exact hx
       .rw[hk'] at hx;exact hx
      .rintro rfl;exact hx
      .rintro rfl;simp[AT] at hx
     .cases hx
    .rename_i α β m0 e out e' out' hT;rw[hT] at hl;subst hm;simp only[AI] at hx;split at hx
     .rename_i x h1 hm0;cases x with
      |inl x=>
       simp only[cn] at hx;refine loopEnd e (out x) h1 (hl.1 F h x h1 hm0 ι w a S) ?_ ?_ ?_
       .rintro id rfl;simp only at hx;refine⟨λk' hk'=>?_,λhk'=>?_⟩
        .rw[hk'] at hx;exact hx
        .rw[hk'] at hx;exact hx
       .rintro rfl;exact hx
       .rintro rfl;simp[AT] at hx
      |inr x=>
       simp only[cn] at hx;refine loopEnd e' (out' x) h1 (hl.2 F h x h1 hm0 ι w a S) ?_ ?_ ?_
       .rintro id rfl;simp only at hx;refine⟨λk' hk'=>?_,λhk'=>?_⟩
        .rw[hk'] at hx;exact hx
        .rw[hk'] at hx;exact hx
       .rintro rfl;exact hx
       .rintro rfl;simp[AT] at hx
     .cases hx
    .rename_i α m0 e out hT;rw[hT] at hl;subst hm;simp only[AI] at hx;split at hx
     .rename_i x h1 hm0;cases x with
      |inl x=>
       simp only[cn] at hx;refine loopEnd e (out x) h1 (hl.1 F h x h1 hm0 ι w a S) ?_ ?_ ?_
       .rintro id rfl;simp only at hx;refine⟨λk' hk'=>?_,λhk'=>?_⟩
        .rw[hk'] at hx;exact hx
        .rw[hk'] at hx;exact hx
       .rintro rfl;exact hx
       .rintro rfl;simp[AT] at hx
      |inr v=>exact loopPan v h1 (hl.2 F h v h1 hm0 ι w a S) hx
     .cases hx
    .rename_i α β m0 e out e' out' hT;rw[hT] at hl;subst hm;simp only[AI] at hx;split at hx
     .rename_i x h1 hm0;rcases x with (x|x)|v
      .simp only[cn] at hx;refine loopEnd e (out x) h1 (hl.1 F h x h1 hm0 ι w a S) ?_ ?_ ?_
       .rintro id rfl;simp only at hx;refine⟨λk' hk'=>?_,λhk'=>?_⟩
        .rw[hk'] at hx;exact hx
        .rw[hk'] at hx;exact hx
       .rintro rfl;exact hx
       .rintro rfl;simp[AT] at hx
      .simp only[cn] at hx;refine loopEnd e' (out' x) h1 (hl.2.1 F h x h1 hm0 ι w a S) ?_ ?_ ?_
       .rintro id rfl;simp only at hx;refine⟨λk' hk'=>?_,λhk'=>?_⟩
        .rw[hk'] at hx;exact hx
        .rw[hk'] at hx;exact hx
       .rintro rfl;exact hx
       .rintro rfl;simp[AT] at hx
      .exact loopPan v h1 (hl.2.2 F h v h1 hm0 ι w a S) hx
     .cases hx
    .subst hm;simp[AT] at hx
   ·-- exit
    rename_i id hc;refine lX.exitCode (body:=body) (id:=id) (k:=k) (λb k0 cs k' hk'=>?_) (λk' hk'=>?_) (λhk'=>?_)
    .simp only[ep,aaK,hc,aaq];exact .one (step_exit hk')
    .rw[hk'] at hm;subst hm;exact ih true k' E F ι h r a w S hx
    .rw[hk'] at hm;subst hm;exact .inl ⟨.exit id,rfl,ι,E,h,.refl _,hx,S.rel,S.env,S.defers,S.size,.refl _ _⟩
   .rename_i hc;subst hm;intro b k0 cs;simp only[ep,aaK,hc,aaq];exact⟨.ret,a,w,.inl ⟨.ret,trivial,ι,E,h,.refl _,hx,S.rel,S.env,S.defers,S.size,.refl _ _⟩,_,.one step_ret⟩
   ·-- regions
    rename_i id os draw hc;split at hm
    ·-- that draw
     refine opsP hc ?_;rw[hc];split at hm
     .rename_i l hl;split at hm
      .rename_i hok;rw[aaf] at hok;obtain⟨hok,hbok⟩:=hok;unfold La at hok;simp only[aaf] at hok;obtain⟨⟨hok1,hok2⟩,hok3⟩:=hok;have hdst:∀(i:Nat) o,os[i]?=some o->dp T.call o=true->o.dst.isSome=true:=by
        intro i o ho hi;have:=List.all_eq_true.1 hok3 o (by rw[acf];exact abx ho);have hi:dp (T.call.kO P 0 os l) o=true:=hi;rw[hi] at this;simpa using this
       rw[zZ] at hok2;have fin2:∀(nb:Nat) (h2:af),Rel P F ι h2 w->kS P (T.call.kO P nb os l) W (some nb) os T.eA l E cK.emp (λ_=>none) (λE'=>den P body T W fin n true k E') h2=some r ->
         (Code.region id os true).wp P (λe a' w'=>(e=.normal/\Pd P F ι W a.tmps (λE'=>den P body T W fin n true k E') r a' w')\/DN P F ι W a.tmps T.eA r e a' w') a w:=by
        intro nb h2 R2 hx;refine wp_region_draw λt=>?_;have R3:Rel P F ι h2 { w with drawn:=w.drawn+1 }:=R2.of_heap rfl ⟨rfl,rfl⟩;rcases Ic (P:=P) (C:=T.call.kO P nb os l) (W:=W) (nb:=nb) (HT.call.kO nb os l).mo (VK hbok) (HT.call.kO nb os l).ZU (HT.call.kO nb os l).Hh hok1 (by rw[zZ];exact hok2) hdst t hx with hany|hany
        .have:=y9 (ι:=ι) (F:=F) (t0:=a.tmps) (HT.call.kO nb os l).XH S.rel.Cd (Q:=λe a' w'=>(e=.normal/\Pd P F ι W a.tmps (λE'=>den P body T W fin n true k E') r a' w')\/DN P F ι W a.tmps T.eA r e a' w') (λa w hn=>.inl ⟨rfl,hn⟩) _ E cK.emp (λ_=>none) F ι h2 a { w with drawn:=w.drawn+1 } R3 S.env .emp S.defers S.size (.refl _ _) (.refl _) (.refl _) hany;rw[map_fst] at this;exact this
        .exact tH (ι:=ι) (F:=F) (t0:=a.tmps) (HT.call.kO nb os l) S.rel.Cd _ E cK.emp F ι h2 a { w with drawn:=w.drawn+1 } R3 S.env .emp S.defers S.size (.refl _ _) (.refl _) (.refl _) hany
       split at hm
       .subst hm;simp only[AI,Ago.dT] at hx;exact fin2 _ _ (S.rel.dT _) hx
       .subst hm;exact fin2 _ _ S.rel hx
      .subst hm;simp[AT] at hx
     .subst hm;simp[AT] at hx
    .subst hm;refine opsP hc ?_;rw[hc];refine wp_region ?_;exact tH (ι:=ι) (F:=F) (t0:=a.tmps) HT.call S.rel.Cd _ E cK.emp F ι h a w S.rel S.env .emp S.defers S.size (.refl _ _) (.refl _) (.refl _) hx
   .subst hm;simp[AT] at hx
end Go.Ago
