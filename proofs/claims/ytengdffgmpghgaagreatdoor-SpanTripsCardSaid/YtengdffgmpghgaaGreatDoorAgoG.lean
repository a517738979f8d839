
import Derived.Test.YtengdffgmpghgaaGreatDoorAgoU
import Derived.Scope
set_option linter.all false
namespace Go.Ago
open Go
variable {P:Program}{ι ι':eg}{h h' h1:ab}{w w':World}
def eW (body:Code)(todo:List vH):List Item:=todo.map fun
 |.code p=>.code (cA body p)
 |.av id=>.inBlock id
 |.scp p=>.inScope (cA body p)
def eqv:Exit->gi->Prop
 |.normal,.normal=>True
 |.exit a,.exit b=>a=b
 |.ret,.ret=>True
 |_,_=>False
def ow (P:Program)(its:List Item)(Q:Exit->Go.Act->World->Prop)(a:Go.Act)(w:World):Prop:=
 ∀(b:Frame) (k:List Item) (cs:List Frame),∃e a' w',Q e a' w'/\Arrives P (lone (b.at a (its++k)) cs w) b k cs e a' w'
def Bh {R:Type}(P:Program)(F:Fz)(ι:eg)(W:Wr)(t0:ν)(fin:gi->Env->M R)(tY:ξ->M R)(r:R×ab):Exit->Go.Act->World->Prop:=
 λe a w=>(∃ae,eqv e ae/\Now P F ι W t0 (fin ae) r a w)\/Nh P F ι W t0 tY r e a w
def afm (P:Program)(F:Fz)(ι:eg)(W:Wr)(t0:ν)(v:ξ)(h1:ab):Exit->Go.Act->World->Prop:=
 λe a w=>∃ι' v',e=.panic (one v')/\ι.le ι'/\aN P ι' v v'/\Rel P F ι' h1 w/\a.defers=F.MI/\a.tmps.size=W.1/\Gt W t0 a.tmps
def GI (P:Program)(F:Fz)(ι:eg)(W:Wr)(t0:ν)(ae:gi)(E':Env)(h1:ab):Exit->Go.Act->World->Prop:=
 λe a w=>eqv e ae/\∃ι',ι.le ι'/\Rel P F ι' h1 w/\jW P ι' E' a.tmps/\a.defers=F.MI/\a.tmps.size=W.1/\Gt W t0 a.tmps
structure Start (P:Program) (F:Fz) (ι:eg) (W:Wr) (E:Env) (h:ab) (a:Go.Act) (w:World):Prop where
 rel:Rel P F ι h w
 env:jW P ι E a.tmps
 defers:a.defers=F.MI
 size:a.tmps.size=W.1
def Ps (P:Program)(body:Code)(W:Wr)(p:Path)(E:Env):xm->Prop
 |.one _ m e out=>∀F h x h1,m h=some (x,h1)->∀ι w a,Start P F ι W E h a w->(cA body p).wp P (GI P F ι W a.tmps e (out x) h1) a w
 |.two _ _ m e out e' out'=>(∀F h x h1,m h=some (.inl x,h1)->∀ι w a,Start P F ι W E h a w->(cA body p).wp P (GI P F ι W a.tmps e (out x) h1) a w) /\
   (∀F h x h1,m h=some (.inr x,h1)->∀ι w a,Start P F ι W E h a w->(cA body p).wp P (GI P F ι W a.tmps e' (out' x) h1) a w)
 |.ah2 _ m e out=>(∀F h x h1,m h=some (.inl x,h1)->∀ι w a,Start P F ι W E h a w->(cA body p).wp P (GI P F ι W a.tmps e (out x) h1) a w) /\
   (∀F h v h1,m h=some (.inr v,h1)->∀ι w a,Start P F ι W E h a w->(cA body p).wp P (afm P F ι W a.tmps v h1) a w)
 |.ah3 _ _ m e out e' out'=>(∀F h x h1,m h=some (.inl (.inl x),h1)->∀ι w a,Start P F ι W E h a w->(cA body p).wp P (GI P F ι W a.tmps e (out x) h1) a w) /\
   (∀F h x h1,m h=some (.inl (.inr x),h1)->∀ι w a,Start P F ι W E h a w->(cA body p).wp P (GI P F ι W a.tmps e' (out' x) h1) a w) /\
   (∀F h v h1,m h=some (.inr v,h1)->∀ι w a,Start P F ι W E h a w->(cA body p).wp P (afm P F ι W a.tmps v h1) a w)
 |.none=>True
structure xB {R:Type} (P:Program) (body:Code) (T:MG R) (W:Wr) (fin:gi->Env->M R):Prop where
 call:Bf P T.call
 loop:∀p E,Ps P body W p E (T.loop p E)
 join:∀p k J,T.join p=some (k,J)->∀E m,J E=some m->∀F h r,m h=some r->∀ι w a,Start P F ι W E h a w->ow P (eW body (.code p::k)) (Bh P F ι W a.tmps fin T.tY r) a w
theorem ow.steps {its its':List Item}{Q:Exit->Go.Act->World->Prop}{a a':Go.Act}(hst:∀(b:Frame) (k:List Item) (cs:List Frame),Steps P (lone (b.at a (its++k)) cs w) (lone (b.at a' (its'++k)) cs w'))
  (hr:ow P its' Q a' w'):ow P its Q a w:=λb k cs=>
 let ⟨e,a2,w2,q,harr⟩:=hr b k cs
 ⟨e,a2,w2,q,.of_steps (hst b k cs) harr⟩
theorem ow.mono {its:List Item}{Q Q':Exit->Go.Act->World->Prop}{a:Go.Act}(hr:ow P its Q a w)(hq:∀e a w,Q e a w->Q' e a w):ow P its Q' a w:=λb k cs=>
 let ⟨e,a2,w2,q,harr⟩:=hr b k cs
 ⟨e,a2,w2,hq _ _ _ q,harr⟩
theorem ow.code {c:Code}{its:List Item}{Q:Exit->Go.Act->World->Prop}{a:Go.Act}(hc:c.wp P (λe a w=>e=.normal/\ow P its Q a w) a w):ow P (.code c::its) Q a w:=by
 intro b k cs;obtain⟨e,a1,w1,⟨rfl,hq⟩,harr⟩:=hc b (its++k) cs;obtain⟨e,a2,w2,q,harr2⟩:=hq b k cs;exact⟨e,a2,w2,q,.of_steps harr harr2⟩
theorem ow.ah8 {c:Code}{its:List Item}{Q:Exit->Go.Act->World->Prop}{a:Go.Act}(hc:c.wp P (λe a w=>(e=.normal/\ow P its Q a w)\/((∃ch,e=.panic ch)/\Q e a w)) a w):ow P (.code c::its) Q a w:=by
 intro b k cs;obtain⟨e,a1,w1,hq|⟨⟨ch,rfl⟩,hq⟩,harr⟩:=hc b (its++k) cs
 .obtain⟨rfl,hq⟩:=hq;obtain⟨e,a2,w2,q,harr2⟩:=hq b k cs;exact⟨e,a2,w2,q,.of_steps harr harr2⟩
 .exact⟨.panic ch,a1,w1,hq,harr⟩
theorem ow.aaM {its:List Item}{Q:Exit->Go.Act->World->Prop}{c:Code}{a:Go.Act}(hc:c.wp P (λe a w=>(∃ch,e=.panic ch)/\Q e a w) a w):ow P (.code c::its) Q a w:=by
 intro b k0 cs;obtain⟨e,a1,w1,⟨⟨ch,rfl⟩,h1⟩,harr⟩:=hc b (its++k0) cs;exact⟨.panic ch,a1,w1,h1,harr⟩
theorem sM {id:Nat}:∀{its its':List Item} (k:List Item),exitTo id its=some its'->exitTo id (its++k)=some (its'++k)
 |[],_,_,h=>by simp[exitTo] at h
 |x::its,its',k,h=>by
  cases x with
  |inBlock id'=>
   simp only[exitTo,aao] at h⊢;split at h
   .rename_i e;rw[By e];cases h;rfl
   .rename_i e;rw[AT e];exact sM k h
  |_=>simp only[exitTo,aao] at h⊢;exact sM k h
theorem mr {id:Nat}:∀{its:List Item} (k:List Item),exitTo id its=none->exitTo id (its++k)=exitTo id k
 |[],_,_=>rfl
 |x::its,k,h=>by
  cases x with
  |inBlock id'=>
   simp only[exitTo,aao] at h⊢;split at h
   .cases h
   .rename_i e;rw[AT e];exact mr k h
  |_=>simp only[exitTo,aao] at h⊢;exact mr k h
theorem uU (body:Code)(id:Nat):∀(k:List vH),exitTo id (eW body k)=(o8 id k).map (eW body)
 |[]=>rfl
 |.code p::k=>by simp only[eW,adq,exitTo,o8];exact uU body id k
 |.scp p::k=>by simp only[eW,adq,exitTo,o8];exact uU body id k
 |.av id'::k=>by
  simp only[eW,adq,exitTo,o8];cases hb:Nat.beq id' id with
  |true=>grind [Nat.eq_of_beq_eq_true,eW]
  |false=>
   have:id'≠id:=λe=>by subst e;rw[ahN] at hb;cases hb
   rw[AT (by simpa using this)];exact uU body id k
theorem ow.exitCode {body:Code}{id:Nat}{k:List vH}{Q:Exit->Go.Act->World->Prop}{a:Go.Act}{its:List Item}
  (hst:∀(b:Frame) (k0:List Item) (cs:List Frame) k',exitTo id (eW body k++k0)=some k'->Steps P (lone (b.at a (its++k0)) cs w) (lone (b.at a k') cs w))
  (h1:∀k',o8 id k=some k'->ow P (eW body k') Q a w) (h2:o8 id k=none->Q (.exit id) a w):ow P its Q a w:=by
 intro b k0 cs;have hs:=uU body id k;cases hp:o8 id k with
 |some k'=>
  rw[hp] at hs;obtain⟨e,a2,w2,q,harr⟩:=h1 k' hp b k0 cs;exact⟨e,a2,w2,q,.of_steps (hst b k0 cs _ (sM k0 hs)) harr⟩
 |none=>
  rw[hp] at hs;refine⟨.exit id,a,w,h2 hp,λk' hk'=>hst b k0 cs k' ?_⟩;rw[mr k0 hs];exact hk'
theorem ow.TF {body:Code}{id:Nat}{k:List vH}{Q:Exit->Go.Act->World->Prop}{c:Code}{a:Go.Act}
  (hc:c.wp P (λe a w=>e=.exit id/\(∀k',o8 id k=some k'->ow P (eW body k') Q a w)/\(o8 id k=none->Q (.exit id) a w)) a w):ow P (.code c::eW body k) Q a w:=by
 intro b k0 cs;obtain⟨e,a1,w1,⟨rfl,h1,h2⟩,harr⟩:=hc b (eW body k++k0) cs;have hs:=uU body id k;cases hp:o8 id k with
 |some k'=>
  rw[hp] at hs;obtain⟨e,a2,w2,q,harr2⟩:=h1 k' hp b k0 cs;exact⟨e,a2,w2,q,.of_steps (harr _ (sM k0 hs)) harr2⟩
 |none=>
  rw[hp] at hs;refine⟨.exit id,a1,w1,h2 hp,λk' hk'=>harr k' ?_⟩;rw[mr k0 hs];exact hk'
theorem ow.aaN {its:List Item}{Q:Exit->Go.Act->World->Prop}{c:Code}{a:Go.Act}(hc:c.wp P (λe a w=>e=.ret/\Q .ret a w) a w):ow P (.code c::its) Q a w:=by
 intro b k0 cs;obtain⟨e,a1,w1,⟨rfl,h1⟩,harr⟩:=hc b (its++k0) cs;exact⟨.ret,a1,w1,h1,harr⟩
theorem Pt:∀{k l:List vH},eqItems k l=true->k=l:=by
 have hp:∀{p q:Path},uK p q=true->p=q:=by
  intro p
  induction p with
  |nil=>grind [uK]
  |cons a p ih=>intro q hq;cases q with
   |nil=>simp[uK] at hq
   |cons b q=>
    simp only[uK,aag] at hq;rw[IS hq.1,ih hq.2]
 intro k
 induction k with
 |nil=>grind [eqItems]
 |cons x k ih=>intro l hl;cases l with
  |nil=>cases x<;>simp[eqItems] at hl
  |cons y l=>
   cases x<;>cases y<;>simp only[eqItems,aag] at hl<;>first
    |(rw[hp hl.1,ih hl.2])
    |(rw[IS hl.1,ih hl.2])
    |(cases hl)
theorem Now.start {R:Type}{F:Fz}{W:Wr}{t0:ν}{K:Env->M R}{r:R×ab}{a:Go.Act}(hn:Now P F ι W t0 K r a w) :
  ∃ι' E h,ι.le ι'/\K E h=some r/\Start P F ι' W E h a w/\Gt W t0 a.tmps:=
 let ⟨ι',E,h,q1,q2,q3,q4,q5,q6,q7⟩:=hn
 ⟨ι',E,h,q1,q2,⟨q3,q4,q5,q6⟩,q7⟩
theorem Bh.trans {R:Type}{F:Fz}{W:Wr}{t0 t1:ν}{fin:gi->Env->M R}{tY:ξ->M R}{r:R×ab}(hle:ι.le ι')(hf:Gt W t0 t1)(e:Exit)(a:Go.Act)(w:World)
  (hp:Bh P F ι' W t1 fin tY r e a w):Bh P F ι W t0 fin tY r e a w:=by
 rcases hp with⟨ae,h1,ι2,E,h,q1,q2,q3,q4,q5,q6,q7⟩|hp
 .exact .inl ⟨ae,h1,ι2,E,h,hle.trans q1,q2,q3,q4,q5,q6,hf.trans q7⟩
 .exact .inr (hp.trans hle hf)
theorem map_fst (l:η):(l.map λi=>(i,([]:η))).map (·.1)=l:=by
 rw[akk];have:((λx:Nat×η=>x.1)∘λi=>(i,([]:η)))=id:=rfl;rw[this,List.map_id]
theorem uG {R:Type}{body:Code}{T:MG R}{W:Wr}{fin:gi->Env->M R}(HT:xB P body T W fin) :
  ∀(n:Nat) (j:Bool) (todo:List vH) (E:Env) (F:Fz) (ι:eg) (h:ab) (r:R×ab) (a:Go.Act) (w:World),Start P F ι W E h a w ->
   den P body T W fin n j todo E h=some r->ow P (eW body todo) (Bh P F ι W a.tmps fin T.tY r) a w
 |0,j,todo,E,F,ι,h,r,a,w,S,hx=>by simp[den,AS] at hx
 |n+1,j,[],E,F,ι,h,r,a,w,S,hx=>λb k cs=>
  ⟨.normal,a,w,.inl ⟨.normal,trivial,ι,E,h,.refl _,hx,S.rel,S.env,S.defers,S.size,.refl _ _⟩,Steps.refl _ _⟩
 |n+1,j,.av id::k,E,F,ι,h,r,a,w,S,hx=>by
  have ih:=uG HT n true k E F ι h r a w S hx;exact ih.steps λb k0 cs=>.one step_inBlock
 |n+1,j,.scp p::k,E,F,ι,h,r,a,w,S,hx=>by
  have ih:=uG HT n true k E F ι h r a w S hx;exact ih.steps λb k0 cs=>.one step_inScope
 |n+1,j,.code p::k,E,F,ι,h,r,a,w,S,hx=>by
  have ih:=uG HT n;generalize hm:den P body T W fin (n+1) j (.code p::k) E=m at hx;unfold den at hm;have ops:∀{id:Nat} {ops:Array Oper} {draw:Bool},cA body p=.region id ops draw ->
    (cA body p).wp P (λe a' w'=>e=.normal/\Now P F ι W a.tmps (λE'=>den P body T W fin n true k E') r a' w') a w->ow P (eW body (.code p::k)) (Bh P F ι W a.tmps fin T.tY r) a w:=by
   intro id ops draw _ hwp;refine ow.code (wp_mono hwp ?_);rintro e a' w' ⟨rfl,hn⟩;obtain⟨ι',E',h',q1,q2,q3,q4⟩:=hn.start;exact⟨rfl,(ih true k E' F ι' h' r a' w' q3 q2).mono λe a w=>Bh.trans q1 q4 e a w⟩
  have opsP:∀{id:Nat} {ops:Array Oper} {draw:Bool},cA body p=.region id ops draw ->
    (cA body p).wp P (λe a' w'=>(e=.normal/\Now P F ι W a.tmps (λE'=>den P body T W fin n true k E') r a' w')\/Nh P F ι W a.tmps T.tY r e a' w') a w->ow P (eW body (.code p::k)) (Bh P F ι W a.tmps fin T.tY r) a w:=by
   intro id ops draw _ hwp;refine ow.ah8 (wp_mono hwp ?_);rintro e a' w' (⟨rfl,hn⟩|hp)
   .obtain⟨ι',E',h',q1,q2,q3,q4⟩:=hn.start;exact .inl ⟨rfl,(ih true k E' F ι' h' r a' w' q3 q2).mono λe a w=>Bh.trans q1 q4 e a w⟩
   .obtain⟨ι2,v,v',h,q1,q2⟩:=hp;exact .inr ⟨⟨_,q1⟩,.inr ⟨ι2,v,v',h,q1,q2⟩⟩
  have loopPan:∀(v:ξ) (h1:ab),(cA body p).wp P (afm P F ι W a.tmps v h1) a w->T.tY v h1=some r->ow P (eW body (.code p::k)) (Bh P F ι W a.tmps fin T.tY r) a w:=by
   intro v h1 hwp hv;refine ow.aaM (wp_mono hwp ?_);rintro e a' w' ⟨ι',v',rfl,q1,q2,q3,q4,q5,q6⟩;exact⟨⟨_,rfl⟩,.inr ⟨ι',v,v',h1,rfl,q1,hv,q2,q3,q4,q5,q6⟩⟩
  have loopEnd:∀(ae:gi) (E':Env) (h1:ab),(cA body p).wp P (GI P F ι W a.tmps ae E' h1) a w ->
    (∀id,ae=.exit id->(∀k',o8 id k=some k'->den P body T W fin n true k' E' h1=some r)/\(o8 id k=none->fin (.exit id) E' h1=some r)) ->
    (ae=.ret->fin .ret E' h1=some r)->(ae≠.normal)->ow P (eW body (.code p::k)) (Bh P F ι W a.tmps fin T.tY r) a w:=by
   intro ae E' h1 hwp hex hret hno;cases ae with
   |normal=>exact absurd rfl hno
   |exit id=>
    refine ow.TF (body:=body) (id:=id) (k:=k) (wp_mono hwp ?_);rintro e a' w' ⟨he,ι',q1,q2,q3,q4,q5,q6⟩;cases e with
    |exit id'=>
     have:id'=id:=he;subst this;refine⟨rfl,λk' hk'=>?_,λhk'=>.inl ⟨.exit id',rfl,ι',E',h1,q1,(hex id' rfl).2 hk',q2,q3,q4,q5,q6⟩⟩;exact (ih true k' E' F ι' h1 r a' w' ⟨q2,q3,q4,q5⟩ ((hex id' rfl).1 k' hk')).mono λe a w=>Bh.trans q1 q6 e a w
    |_=>exact he.elim
   |ret=>
    refine ow.aaN (wp_mono hwp ?_);rintro e a' w' ⟨he,ι',q1,q2,q3,q4,q5,q6⟩;cases e with
    |ret=>exact⟨rfl,.inl ⟨.ret,trivial,ι',E',h1,q1,hret rfl,q2,q3,q4,q5,q6⟩⟩
    |_=>exact he.elim
  split at hm
  ·-- a place where ways meet
   rename_i k' J hj;split at hm
   .rename_i hk;have hk:=Pt hk;subst hk;split at hm
    .rename_i m0 hJ;subst hm;have hj':T.join p=some (k,J):=by
      split at hj
      .exact hj
      .cases hj
     exact HT.join p k J hj' E m0 hJ F h r hx ι w a S
    .subst hm;simp[AS] at hx
   .subst hm;simp[AS] at hx
  .split at hm
   ·-- skip
    rename_i hc;subst hm;refine (ih true k E F ι h r a w S hx).steps λb k0 cs=>?_;simp only[eW,adq,hc,aao];exact .one step_skip
   .rename_i l hc;subst hm;refine (ih true k E F ι h r a w S hx).steps λb k0 cs=>?_;simp only[eW,adq,hc,aao];exact .one step_label
   .rename_i x y hc;subst hm;refine (ih true _ E F ι h r a w S hx).steps λb k0 cs=>?_;simp only[eW,adq,hc,aao];have e0:cA body (0::p)=x:=(by simp[cA,hc,child]);have e1:cA body (1::p)=y:=(by simp[cA,hc,child]);rw[e0,e1];exact .one step_seq
   ·-- cond
    rename_i c x y hc;have e0:cA body (0::p)=x:=(by simp[cA,hc,child]);have e1:cA body (1::p)=y:=(by simp[cA,hc,child]);split at hm
    .rename_i b hb;have hev:=(aO S.env hb).bool;unfold wc at hm;split at hm
     .rename_i e;subst e;subst hm;refine (ih true _ _ F ι h r a w ⟨S.rel,S.env.sY hb,S.defers,S.size⟩ hx).steps λb k0 cs=>?_;simp only[eW,adq,hc,aao,e0];exact .one (step_cond (t:=true) hev)
     .rename_i e;have:b=false:=(by cases b<;>simp_all);subst this;subst hm;refine (ih true _ _ F ι h r a w ⟨S.rel,S.env.sY hb,S.defers,S.size⟩ hx).steps λb k0 cs=>?_;simp only[eW,adq,hc,aao,e1];exact .one (step_cond (t:=false) hev)
    .subst hm;simp[AS] at hx
   .rename_i id c hc;subst hm;refine (ih true _ E F ι h r a w S hx).steps λb k0 cs=>?_;have e0:cA body (0::p)=c:=(by simp[cA,hc,child]);simp only[eW,adq,hc,aao,e0];exact .one step_block
   ·-- scope
    rename_i c hc;subst hm;refine (ih true _ E F ι h r a w S hx).steps λb k0 cs=>?_;have e0:cA body (0::p)=c:=(by simp[cA,hc,child]);simp only[eW,adq,hc,aao,e0];exact .one step_scope
   ·-- loop
    rename_i c hc;have hl:=HT.loop p E;split at hm
    .rename_i α m0 e out hT;rw[hT] at hl;subst hm;simp only[sh] at hx;split at hx
     .rename_i x h1 hm0;refine loopEnd e (out x) h1 (hl F h x h1 hm0 ι w a S) ?_ ?_ ?_
      .rintro id rfl;simp only at hx;refine⟨λk' hk'=>?_,λhk'=>?_⟩
       .rw[hk'] at hx;exact hx
       .rw[hk'] at hx;exact hx
      .rintro rfl;exact hx
      .rintro rfl;simp[AS] at hx
     .cases hx
    .rename_i α β m0 e out e' out' hT;rw[hT] at hl;subst hm;simp only[sh] at hx;split at hx
     .rename_i x h1 hm0;cases x with
      |inl x=>
       simp only[bu] at hx;refine loopEnd e (out x) h1 (hl.1 F h x h1 hm0 ι w a S) ?_ ?_ ?_
       .rintro id rfl;simp only at hx;refine⟨λk' hk'=>?_,λhk'=>?_⟩
        .rw[hk'] at hx;exact hx
        .rw[hk'] at hx;exact hx
       .rintro rfl;exact hx
       .rintro rfl;simp[AS] at hx
      |inr x=>
       simp only[bu] at hx;refine loopEnd e' (out' x) h1 (hl.2 F h x h1 hm0 ι w a S) ?_ ?_ ?_
       .rintro id rfl;simp only at hx;refine⟨λk' hk'=>?_,λhk'=>?_⟩
        .rw[hk'] at hx;exact hx
        .rw[hk'] at hx;exact hx
       .rintro rfl;exact hx
       .rintro rfl;simp[AS] at hx
     .cases hx
    .rename_i α m0 e out hT;rw[hT] at hl;subst hm;simp only[sh] at hx;split at hx
     .rename_i x h1 hm0;cases x with
      |inl x=>
       simp only[bu] at hx;refine loopEnd e (out x) h1 (hl.1 F h x h1 hm0 ι w a S) ?_ ?_ ?_
       .rintro id rfl;simp only at hx;refine⟨λk' hk'=>?_,λhk'=>?_⟩
        .rw[hk'] at hx;exact hx
        .rw[hk'] at hx;exact hx
       .rintro rfl;exact hx
       .rintro rfl;simp[AS] at hx
      |inr v=>exact loopPan v h1 (hl.2 F h v h1 hm0 ι w a S) hx
     .cases hx
    .rename_i α β m0 e out e' out' hT;rw[hT] at hl;subst hm;simp only[sh] at hx;split at hx
     .rename_i x h1 hm0;rcases x with (x|x)|v
      .simp only[bu] at hx;refine loopEnd e (out x) h1 (hl.1 F h x h1 hm0 ι w a S) ?_ ?_ ?_
       .rintro id rfl;simp only at hx;refine⟨λk' hk'=>?_,λhk'=>?_⟩
        .rw[hk'] at hx;exact hx
        .rw[hk'] at hx;exact hx
       .rintro rfl;exact hx
       .rintro rfl;simp[AS] at hx
      .simp only[bu] at hx;refine loopEnd e' (out' x) h1 (hl.2.1 F h x h1 hm0 ι w a S) ?_ ?_ ?_
       .rintro id rfl;simp only at hx;refine⟨λk' hk'=>?_,λhk'=>?_⟩
        .rw[hk'] at hx;exact hx
        .rw[hk'] at hx;exact hx
       .rintro rfl;exact hx
       .rintro rfl;simp[AS] at hx
      .exact loopPan v h1 (hl.2.2 F h v h1 hm0 ι w a S) hx
     .cases hx
    .subst hm;simp[AS] at hx
   ·-- exit
    rename_i id hc;refine ow.exitCode (body:=body) (id:=id) (k:=k) (λb k0 cs k' hk'=>?_) (λk' hk'=>?_) (λhk'=>?_)
    .simp only[eW,adq,hc,aao];exact .one (step_exit hk')
    .rw[hk'] at hm;subst hm;exact ih true k' E F ι h r a w S hx
    .rw[hk'] at hm;subst hm;exact .inl ⟨.exit id,rfl,ι,E,h,.refl _,hx,S.rel,S.env,S.defers,S.size,.refl _ _⟩
   .rename_i hc;subst hm;intro b k0 cs;simp only[eW,adq,hc,aao];exact⟨.ret,a,w,.inl ⟨.ret,trivial,ι,E,h,.refl _,hx,S.rel,S.env,S.defers,S.size,.refl _ _⟩,_,.one step_ret⟩
   ·-- regions
    rename_i id os draw hc;split at hm
    ·-- that draw
     refine opsP hc ?_;rw[hc];split at hm
     .rename_i l hl;split at hm
      .rename_i hok;rw[aag] at hok;obtain⟨hok,hbok⟩:=hok;have Hl:∀(nb:Nat) (h2:ab),Rel P F ι h2 w->iI P (T.call.oo P nb os l) W (some nb) os l E fS.emp (λ_=>none) (λE'=>den P body T W fin n true k E') h2=some r ->
         (Code.region id os true).wp P (λe a' w'=>(e=.normal/\Now P F ι W a.tmps (λE'=>den P body T W fin n true k E') r a' w')\/Nh P F ι W a.tmps T.tY r e a' w') a w:=by
        intro nb h2 R2 hx;refine wp_region_draw λt=>?_;have R3:Rel P F ι h2 { w with drawn:=w.drawn+1 }:=R2.of_heap rfl ⟨rfl,rfl⟩;have:=xu (ι:=ι) (F:=F) (t0:=a.tmps) (HT.call.oo nb os l) S.rel.EG (Q:=λe a' w'=>(e=.normal/\Now P F ι W a.tmps (λE'=>den P body T W fin n true k E') r a' w')\/Nh P F ι W a.tmps T.tY r e a' w') (λa w hn=>.inl ⟨rfl,hn⟩) _ E fS.emp (λ_=>none) F ι h2 a { w with drawn:=w.drawn+1 } R3 S.env .emp S.defers S.size (.refl _ _) (.refl _) (.refl _)
         (Pq (HT.call.oo nb os l).mo (λa1 a2 a3 a4 a5 a6 b1 b2 b3 b4 b5 b6=>(afl hbok a1 a2 a3 a4 a5 a6 b1 b2 b3 b4 b5 b6).2) hok t hx)
        rw[map_fst] at this;exact this
       split at hm
       .subst hm;simp only[sh,Ago.eU] at hx;exact Hl _ _ (S.rel.eU _) hx
       .subst hm;exact Hl _ _ S.rel hx
      .subst hm;simp[AS] at hx
     .subst hm;simp[AS] at hx
    .subst hm;refine opsP hc ?_;rw[hc];refine wp_region ?_;have:=xu (ι:=ι) (F:=F) (t0:=a.tmps) HT.call S.rel.EG (Q:=λe a' w'=>(e=.normal/\Now P F ι W a.tmps (λE'=>den P body T W fin n true k E') r a' w')\/Nh P F ι W a.tmps T.tY r e a' w') (λa w hn=>.inl ⟨rfl,hn⟩) _ E fS.emp (λ_=>none) F ι h a w S.rel S.env .emp S.defers S.size (.refl _ _) (.refl _) (.refl _) hx;rw[map_fst] at this;exact this
   .subst hm;simp[AS] at hx
end Go.Ago
