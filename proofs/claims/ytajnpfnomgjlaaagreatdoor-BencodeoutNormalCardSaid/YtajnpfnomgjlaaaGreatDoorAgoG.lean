
import Derived.Test.YtajnpfnomgjlaaaGreatDoorAgoU
import Derived.Scope
set_option linter.all false
namespace Go.Ago
open Go
variable {P:Program}{ι ι':ja}{h h' h1:ai}{w w':World}
def fP (body:Code)(todo:List B6):List Item:=todo.map fun
 |.code p=>.code (cK body p)
 |.au id=>.inBlock id
 |.scp p=>.inScope (cK body p)
def eqv:Exit->jU->Prop
 |.normal,.normal=>True
 |.exit a,.exit b=>a=b
 |.ret,.ret=>True
 |_,_=>False
def pW (P:Program)(its:List Item)(Q:Exit->Go.Act->World->Prop)(a:Go.Act)(w:World):Prop:=
 ∀(b:Frame) (k:List Item) (cs:List Frame),∃e a' w',Q e a' w'/\Arrives P (lone (b.at a (its++k)) cs w) b k cs e a' w'
def Bj {R}(P:Program)(F:Fz)(ι:ja)(W:Wr)(t0:ν)(fin:jU->Env->M R)(uU:ξ->M R)(r:R×ai):Exit->Go.Act->World->Prop:=
 λe a w=>(∃ae,eqv e ae/\ZC P F ι W t0 (fin ae) r a w)\/MI P F ι W t0 uU r e a w
def ael (P:Program)(F:Fz)(ι:ja)(W:Wr)(t0:ν)(v:ξ)(h1:ai):Exit->Go.Act->World->Prop:=
 λe a w=>∃ι' v',e=.panic (one v')/\ι.le ι'/\aW P ι' v v'/\Rel P F ι' h1 w/\a.defers=F.Mb/\a.tmps.size=W.1/\F8 W t0 a.tmps
def Gn (P:Program)(F:Fz)(ι:ja)(W:Wr)(t0:ν)(ae:jU)(E':Env)(h1:ai):Exit->Go.Act->World->Prop:=
 λe a w=>eqv e ae/\∃ι',ι.le ι'/\Rel P F ι' h1 w/\lW P ι' E' a.tmps/\a.defers=F.Mb/\a.tmps.size=W.1/\F8 W t0 a.tmps
structure Start (P:Program) (F:Fz) (ι:ja) (W:Wr) (E:Env) (h:ai) (a:Go.Act) (w:World):Prop where
 rel:Rel P F ι h w
 env:lW P ι E a.tmps
 defers:a.defers=F.Mb
 size:a.tmps.size=W.1
def OS (P:Program)(body:Code)(W:Wr)(p:Path)(E:Env):xJ->Prop
 |.one _ m e out=>∀F h x h1,m h=some (x,h1)->∀ι w a,Start P F ι W E h a w->(cK body p).wp P (Gn P F ι W a.tmps e (out x) h1) a w
 |.two _ _ m e out e' out'=>(∀F h x h1,m h=some (.inl x,h1)->∀ι w a,Start P F ι W E h a w->(cK body p).wp P (Gn P F ι W a.tmps e (out x) h1) a w) /\
   (∀F h x h1,m h=some (.inr x,h1)->∀ι w a,Start P F ι W E h a w->(cK body p).wp P (Gn P F ι W a.tmps e' (out' x) h1) a w)
 |.agO _ m e out=>(∀F h x h1,m h=some (.inl x,h1)->∀ι w a,Start P F ι W E h a w->(cK body p).wp P (Gn P F ι W a.tmps e (out x) h1) a w) /\
   (∀F h v h1,m h=some (.inr v,h1)->∀ι w a,Start P F ι W E h a w->(cK body p).wp P (ael P F ι W a.tmps v h1) a w)
 |.agP _ _ m e out e' out'=>(∀F h x h1,m h=some (.inl (.inl x),h1)->∀ι w a,Start P F ι W E h a w->(cK body p).wp P (Gn P F ι W a.tmps e (out x) h1) a w) /\
   (∀F h x h1,m h=some (.inl (.inr x),h1)->∀ι w a,Start P F ι W E h a w->(cK body p).wp P (Gn P F ι W a.tmps e' (out' x) h1) a w) /\
   (∀F h v h1,m h=some (.inr v,h1)->∀ι w a,Start P F ι W E h a w->(cK body p).wp P (ael P F ι W a.tmps v h1) a w)
 |.none=>True
structure xU {R:Type} (P:Program) (body:Code) (T:Oi R) (W:Wr) (fin:jU->Env->M R):Prop where
 call:Bh P T.call
 loop:∀p E,OS P body W p E (T.loop p E)
 join:∀p k J,T.join p=some (k,J)->∀E m,J E=some m->∀F h r,m h=some r->∀ι w a,Start P F ι W E h a w->pW P (fP body (.code p::k)) (Bj P F ι W a.tmps fin T.uU r) a w
theorem pW.steps {its its' Q a a'}(hst:∀(b:Frame) (k:List Item) (cs:List Frame),Steps P (lone (b.at a (its++k)) cs w) (lone (b.at a' (its'++k)) cs w'))
  (hr:pW P its' Q a' w'):pW P its Q a w:=λb k cs=>
 let ⟨e,a2,w2,q,harr⟩:=hr b k cs
 ⟨e,a2,w2,q,.of_steps (hst b k cs) harr⟩
theorem pW.mono {its Q Q' a}(hr:pW P its Q a w)(hq:∀e a w,Q e a w->Q' e a w):pW P its Q' a w:=λb k cs=>
 let ⟨e,a2,w2,q,harr⟩:=hr b k cs
 ⟨e,a2,w2,hq _ _ _ q,harr⟩
theorem pW.code {c its Q a}(hc:c.wp P (λe a w=>e=.normal/\pW P its Q a w) a w):pW P (.code c::its) Q a w:=by
 intro b k cs;obtain⟨e,a1,w1,⟨rfl,hq⟩,harr⟩:=hc b (its++k) cs;obtain⟨e,a2,w2,q,harr2⟩:=hq b k cs;exact⟨e,a2,w2,q,.of_steps harr harr2⟩
theorem pW.agU {c its Q a}(hc:c.wp P (λe a w=>(e=.normal/\pW P its Q a w)\/((∃ch,e=.panic ch)/\Q e a w)) a w):pW P (.code c::its) Q a w:=by
 intro b k cs;obtain⟨e,a1,w1,hq|⟨⟨ch,rfl⟩,hq⟩,harr⟩:=hc b (its++k) cs
 .obtain⟨rfl,hq⟩:=hq;obtain⟨e,a2,w2,q,harr2⟩:=hq b k cs;exact⟨e,a2,w2,q,.of_steps harr harr2⟩
 .exact⟨.panic ch,a1,w1,hq,harr⟩
theorem pW.aac {its Q c a}(hc:c.wp P (λe a w=>(∃ch,e=.panic ch)/\Q e a w) a w):pW P (.code c::its) Q a w:=by
 intro b k0 cs;obtain⟨e,a1,w1,⟨⟨ch,rfl⟩,h1⟩,harr⟩:=hc b (its++k0) cs;exact⟨.panic ch,a1,w1,h1,harr⟩
theorem uc {id}:∀{its its'} k ,exitTo id its=some its'->exitTo id (its++k)=some (its'++k)
 |[],_,_,h=>by simp[exitTo] at h
 |x::its,its',k,h=>by
  cases x with
  |inBlock id'=>
   simp only[exitTo,adS] at h⊢;split at h
   .grind
   .rename_i e;rw[AT e];exact uc k h
  |_=>simp only[exitTo,adS] at h⊢;exact uc k h
theorem oN {id}:∀{its} k ,exitTo id its=none->exitTo id (its++k)=exitTo id k
 |[],_,_=>rfl
 |x::its,k,h=>by
  cases x with
  |inBlock id'=>
   simp only[exitTo,adS] at h⊢;split at h
   .cases h
   .rename_i e;rw[AT e];exact oN k h
  |_=>simp only[exitTo,adS] at h⊢;exact oN k h
theorem vK body id:∀k ,exitTo id (fP body k)=(qq id k).map (fP body)
 |[]=>rfl
 |.code p::k=>by simp[fP,adR,exitTo,qq];exact vK body id k
 |.scp p::k=>by simp[fP,adR,exitTo,qq];exact vK body id k
 |.au id'::k=>by
  simp only[fP,adR,exitTo,qq];cases hb:Nat.beq id' id with
  |true=>grind [Nat.eq_of_beq_eq_true,fP]
  |false=>
   have:id'≠id:=λe=>by simp_all
   rw[AT (by simpa using this)];exact vK body id k
theorem pW.exitCode {body id k Q a its}
  (hst:∀(b:Frame) (k0:List Item) (cs:List Frame) k',exitTo id (fP body k++k0)=some k'->Steps P (lone (b.at a (its++k0)) cs w) (lone (b.at a k') cs w))
  (h1:∀k',qq id k=some k'->pW P (fP body k') Q a w)(h2:qq id k=none->Q (.exit id) a w):pW P its Q a w:=by
 intro b k0 cs;have hs:=vK body id k;cases hp:qq id k with
 |some k'=>
  rw[hp] at hs;obtain⟨e,a2,w2,q,harr⟩:=h1 k' hp b k0 cs;exact⟨e,a2,w2,q,.of_steps (hst b k0 cs _ (uc k0 hs)) harr⟩
 |none=>
  rw[hp] at hs;refine⟨.exit id,a,w,h2 hp,λk' hk'=>hst b k0 cs k' ?_⟩
  grind [oN]
theorem pW.Sp {body id k Q c a}
  (hc:c.wp P (λe a w=>e=.exit id/\(∀k',qq id k=some k'->pW P (fP body k') Q a w)/\(qq id k=none->Q (.exit id) a w)) a w):pW P (.code c::fP body k) Q a w:=by
 intro b k0 cs;obtain⟨e,a1,w1,⟨rfl,h1,h2⟩,harr⟩:=hc b (fP body k++k0) cs;have hs:=vK body id k;cases hp:qq id k with
 |some k'=>
  rw[hp] at hs;obtain⟨e,a2,w2,q,harr2⟩:=h1 k' hp b k0 cs;exact⟨e,a2,w2,q,.of_steps (harr _ (uc k0 hs)) harr2⟩
 |none=>
  rw[hp] at hs;refine⟨.exit id,a1,w1,h2 hp,λk' hk'=>harr k' ?_⟩
  grind [oN]
theorem pW.aad {its Q c a}(hc:c.wp P (λe a w=>e=.ret/\Q .ret a w) a w):pW P (.code c::its) Q a w:=by
 intro b k0 cs;obtain⟨e,a1,w1,⟨rfl,h1⟩,harr⟩:=hc b (its++k0) cs;exact⟨.ret,a1,w1,h1,harr⟩
theorem OT:∀{k l},eqItems k l=true->k=l:=by
 have hp:∀{p q:Path},vD p q=true->p=q:=by
  intro p
  induction p with
  |nil=>grind [vD]
  |cons a p ih=>intro q hq;cases q with
   |nil=>simp[vD] at hq
   |cons b q=>
    simp only[vD,ach] at hq
    grind [Nat.eq_of_beq_eq_true]
 intro k
 induction k with
 |nil=>grind [eqItems]
 |cons x k ih=>intro l hl;cases l with
  |nil=>grind [eqItems]
  |cons y l=>
   cases x<;>cases y<;>simp only[eqItems,ach] at hl<;>first
    |(rw[hp hl.1,ih hl.2])
    |(rw[IS hl.1,ih hl.2])
    |(cases hl)
theorem ZC.start {R F W t0}{K:Env->M R}{r a}(hn:ZC P F ι W t0 K r a w) :
  ∃ι' E h,ι.le ι'/\K E h=some r/\Start P F ι' W E h a w/\F8 W t0 a.tmps:=
 let ⟨ι',E,h,q1,q2,q3,q4,q5,q6,q7⟩:=hn
 ⟨ι',E,h,q1,q2,⟨q3,q4,q5,q6⟩,q7⟩
theorem Bj.trans {R F W t0 t1}{fin:jU->Env->M R}{uU r}(hle:ι.le ι')(hf:F8 W t0 t1) e a w
  (hp:Bj P F ι' W t1 fin uU r e a w):Bj P F ι W t0 fin uU r e a w:=by
 rcases hp with⟨ae,h1,ι2,E,h,q1,q2,q3,q4,q5,q6,q7⟩|hp
 .exact .inl ⟨ae,h1,ι2,E,h,hle.trans q1,q2,q3,q4,q5,q6,hf.trans q7⟩
 .exact .inr (hp.trans hle hf)
theorem map_fst (l:η):(l.map λi=>(i,([]:η))).map (·.1)=l:=by
 rw[ajM];have:((λx:Nat×η=>x.1)∘λi=>(i,([]:η)))=id:=rfl;rw[this,List.map_id]
theorem vu {R body}{T:Oi R}{W fin}(HT:xU P body T W fin) :
  ∀n j todo E F ι h r a w ,Start P F ι W E h a w ->
   den P body T W fin n j todo E h=some r->pW P (fP body todo) (Bj P F ι W a.tmps fin T.uU r) a w
 |0,j,todo,E,F,ι,h,r,a,w,S,hx=>by simp[den,AS] at hx
 |n+1,j,[],E,F,ι,h,r,a,w,S,hx=>λb k cs=>
  ⟨.normal,a,w,.inl ⟨.normal,trivial,ι,E,h,.refl _,hx,S.rel,S.env,S.defers,S.size,.refl _ _⟩,Steps.refl _ _⟩
 |n+1,j,.au id::k,E,F,ι,h,r,a,w,S,hx=>by
  have ih:=vu HT n true k E F ι h r a w S hx;exact ih.steps λb k0 cs=>.one step_inBlock
 |n+1,j,.scp p::k,E,F,ι,h,r,a,w,S,hx=>by
  have ih:=vu HT n true k E F ι h r a w S hx;exact ih.steps λb k0 cs=>.one step_inScope
 |n+1,j,.code p::k,E,F,ι,h,r,a,w,S,hx=>by
  have ih:=vu HT n;generalize hm:den P body T W fin (n+1) j (.code p::k) E=m at hx;unfold den at hm;have ops:∀{id:Nat} {ops:Array Oper} {draw:Bool},cK body p=.region id ops draw ->
    (cK body p).wp P (λe a' w'=>e=.normal/\ZC P F ι W a.tmps (λE'=>den P body T W fin n true k E') r a' w') a w->pW P (fP body (.code p::k)) (Bj P F ι W a.tmps fin T.uU r) a w:=by
   intro id ops draw _ hwp;refine pW.code (wp_mono hwp ?_);rintro e a' w' ⟨rfl,hn⟩;obtain⟨ι',E',h',q1,q2,q3,q4⟩:=hn.start;exact⟨rfl,(ih true k E' F ι' h' r a' w' q3 q2).mono λe a w=>Bj.trans q1 q4 e a w⟩
  have opsP:∀{id:Nat} {ops:Array Oper} {draw:Bool},cK body p=.region id ops draw ->
    (cK body p).wp P (λe a' w'=>(e=.normal/\ZC P F ι W a.tmps (λE'=>den P body T W fin n true k E') r a' w')\/MI P F ι W a.tmps T.uU r e a' w') a w->pW P (fP body (.code p::k)) (Bj P F ι W a.tmps fin T.uU r) a w:=by
   intro id ops draw _ hwp;refine pW.agU (wp_mono hwp ?_);rintro e a' w' (⟨rfl,hn⟩|hp)
   .obtain⟨ι',E',h',q1,q2,q3,q4⟩:=hn.start;exact .inl ⟨rfl,(ih true k E' F ι' h' r a' w' q3 q2).mono λe a w=>Bj.trans q1 q4 e a w⟩
   .obtain⟨ι2,v,v',h,q1,q2⟩:=hp;exact .inr ⟨⟨_,q1⟩,.inr ⟨ι2,v,v',h,q1,q2⟩⟩
  have loopPan:∀(v:ξ) (h1:ai),(cK body p).wp P (ael P F ι W a.tmps v h1) a w->T.uU v h1=some r->pW P (fP body (.code p::k)) (Bj P F ι W a.tmps fin T.uU r) a w:=by
   intro v h1 hwp hv;refine pW.aac (wp_mono hwp ?_);rintro e a' w' ⟨ι',v',rfl,q1,q2,q3,q4,q5,q6⟩;exact⟨⟨_,rfl⟩,.inr ⟨ι',v,v',h1,rfl,q1,hv,q2,q3,q4,q5,q6⟩⟩
  have loopEnd:∀(ae:jU) (E':Env) (h1:ai),(cK body p).wp P (Gn P F ι W a.tmps ae E' h1) a w ->
    (∀id,ae=.exit id->(∀k',qq id k=some k'->den P body T W fin n true k' E' h1=some r)/\(qq id k=none->fin (.exit id) E' h1=some r)) ->
    (ae=.ret->fin .ret E' h1=some r)->(ae≠.normal)->pW P (fP body (.code p::k)) (Bj P F ι W a.tmps fin T.uU r) a w:=by
   intro ae E' h1 hwp hex hret hno;cases ae with
   |normal=>exact absurd rfl hno
   |exit id=>
    refine pW.Sp (id:=id) (wp_mono hwp ?_);rintro e a' w' ⟨he,ι',q1,q2,q3,q4,q5,q6⟩;cases e with
    |exit id'=>
     have:id'=id:=he;subst this;refine⟨rfl,λk' hk'=>?_,λhk'=>.inl ⟨.exit id',rfl,ι',E',h1,q1,(hex id' rfl).2 hk',q2,q3,q4,q5,q6⟩⟩;exact (ih true k' E' F ι' h1 r a' w' ⟨q2,q3,q4,q5⟩ ((hex id' rfl).1 k' hk')).mono λe a w=>Bj.trans q1 q6 e a w
    |_=>exact he.elim
   |ret=>
    refine pW.aad (wp_mono hwp ?_);rintro e a' w' ⟨he,ι',q1,q2,q3,q4,q5,q6⟩;cases e with
    |ret=>exact⟨rfl,.inl ⟨.ret,trivial,ι',E',h1,q1,hret rfl,q2,q3,q4,q5,q6⟩⟩
    |_=>exact he.elim
  split at hm
  ·-- a place where ways meet
   rename_i k' J hj;split at hm
   .rename_i hk;have hk:=OT hk;subst hk;split at hm
    .rename_i m0 hJ;subst hm;have hj':T.join p=some (k,J):=by
      grind
     exact HT.join p k J hj' E m0 hJ F h r hx ι w a S
    .subst hm;simp[AS] at hx
   .subst hm;simp[AS] at hx
  .split at hm
   ·-- skip
    rename_i hc;subst hm;refine (ih true k E F ι h r a w S hx).steps λb k0 cs=>?_;simp[fP,adR,hc,adS];exact .one step_skip
   .rename_i l hc;subst hm;refine (ih true k E F ι h r a w S hx).steps λb k0 cs=>?_;simp[fP,adR,hc,adS];exact .one step_label
   .rename_i x y hc;subst hm;refine (ih true _ E F ι h r a w S hx).steps λb k0 cs=>?_;simp[fP,adR,hc,adS];have e0:cK body (0::p)=x:=(by simp[cK,hc,child]);have e1:cK body (1::p)=y:=(by simp[cK,hc,child]);rw[e0,e1];exact .one step_seq
   ·-- cond
    rename_i c x y hc;have e0:cK body (0::p)=x:=(by simp[cK,hc,child]);have e1:cK body (1::p)=y:=(by simp[cK,hc,child]);split at hm
    .rename_i b hb;have hev:=(aV S.env hb).bool;unfold wR at hm;split at hm
     .rename_i e;subst e;subst hm;refine (ih true _ _ F ι h r a w ⟨S.rel,S.env.uq hb,S.defers,S.size⟩ hx).steps λb k0 cs=>?_;simp[fP,adR,hc,adS,e0];exact .one (step_cond hev)
     .rename_i e;have:b=false:=(by cases b<;>simp_all);subst this;subst hm;refine (ih true _ _ F ι h r a w ⟨S.rel,S.env.uq hb,S.defers,S.size⟩ hx).steps λb k0 cs=>?_;simp[fP,adR,hc,adS,e1];exact .one (step_cond hev)
    .subst hm;simp[AS] at hx
   .rename_i id c hc;subst hm;refine (ih true _ E F ι h r a w S hx).steps λb k0 cs=>?_;have e0:cK body (0::p)=c:=(by simp[cK,hc,child]);simp[fP,adR,hc,adS,e0];exact .one step_block
   ·-- scope
    rename_i c hc;subst hm;refine (ih true _ E F ι h r a w S hx).steps λb k0 cs=>?_;have e0:cK body (0::p)=c:=(by simp[cK,hc,child]);simp[fP,adR,hc,adS,e0];exact .one step_scope
   ·-- loop
    rename_i c hc;have hl:=HT.loop p E;split at hm
    .rename_i α m0 e out hT;rw[hT] at hl;subst hm;simp[sh] at hx;split at hx
     .rename_i x h1 hm0;refine loopEnd e (out x) h1 (hl F h x h1 hm0 ι w a S) ?_ ?_ ?_
      .rintro id rfl;simp at hx;refine⟨λk' hk'=>?_,λhk'=>?_⟩
       .rw[hk'] at hx;exact hx
       .rw[hk'] at hx;exact hx
      .rintro rfl;exact hx
      .rintro rfl;simp[AS] at hx
     .cases hx
    .rename_i α β m0 e out e' out' hT;rw[hT] at hl;subst hm;simp[sh] at hx;split at hx
     .rename_i x h1 hm0;cases x with
      |inl x=>
       simp[cz] at hx;refine loopEnd e (out x) h1 (hl.1 F h x h1 hm0 ι w a S) ?_ ?_ ?_
       .rintro id rfl;simp at hx;refine⟨λk' hk'=>?_,λhk'=>?_⟩
        .rw[hk'] at hx;exact hx
        .rw[hk'] at hx;exact hx
       .rintro rfl;exact hx
       .rintro rfl;simp[AS] at hx
      |inr x=>
       simp[cz] at hx;refine loopEnd e' (out' x) h1 (hl.2 F h x h1 hm0 ι w a S) ?_ ?_ ?_
       .rintro id rfl;simp at hx;refine⟨λk' hk'=>?_,λhk'=>?_⟩
        .rw[hk'] at hx;exact hx
        .rw[hk'] at hx;exact hx
       .rintro rfl;exact hx
       .rintro rfl;simp[AS] at hx
     .cases hx
    .rename_i α m0 e out hT;rw[hT] at hl;subst hm;simp[sh] at hx;split at hx
     .rename_i x h1 hm0;cases x with
      |inl x=>
       simp[cz] at hx;refine loopEnd e (out x) h1 (hl.1 F h x h1 hm0 ι w a S) ?_ ?_ ?_
       .rintro id rfl;simp at hx;refine⟨λk' hk'=>?_,λhk'=>?_⟩
        .rw[hk'] at hx;exact hx
        .rw[hk'] at hx;exact hx
       .rintro rfl;exact hx
       .rintro rfl;simp[AS] at hx
      |inr v=>exact loopPan v h1 (hl.2 F h v h1 hm0 ι w a S) hx
     .cases hx
    .rename_i α β m0 e out e' out' hT;rw[hT] at hl;subst hm;simp[sh] at hx;split at hx
     .rename_i x h1 hm0;rcases x with (x|x)|v
      .simp[cz] at hx;refine loopEnd e (out x) h1 (hl.1 F h x h1 hm0 ι w a S) ?_ ?_ ?_
       .rintro id rfl;simp at hx;refine⟨λk' hk'=>?_,λhk'=>?_⟩
        .rw[hk'] at hx;exact hx
        .rw[hk'] at hx;exact hx
       .rintro rfl;exact hx
       .rintro rfl;simp[AS] at hx
      .simp[cz] at hx;refine loopEnd e' (out' x) h1 (hl.2.1 F h x h1 hm0 ι w a S) ?_ ?_ ?_
       .rintro id rfl;simp at hx;refine⟨λk' hk'=>?_,λhk'=>?_⟩
        .rw[hk'] at hx;exact hx
        .rw[hk'] at hx;exact hx
       .rintro rfl;exact hx
       .rintro rfl;simp[AS] at hx
      .exact loopPan v h1 (hl.2.2 F h v h1 hm0 ι w a S) hx
     .cases hx
    .subst hm;simp[AS] at hx
   ·-- exit
    rename_i id hc;refine pW.exitCode (body:=body) (id:=id) (k:=k) (λb k0 cs k' hk'=>?_) (λk' hk'=>?_) (λhk'=>?_)
    .simp[fP,adR,hc,adS];exact .one (step_exit hk')
    .rw[hk'] at hm;subst hm
     grind
    .rw[hk'] at hm;subst hm;exact .inl ⟨.exit id,rfl,ι,E,h,.refl _,hx,S.rel,S.env,S.defers,S.size,.refl _ _⟩
   .rename_i hc;subst hm;intro b k0 cs;simp[fP,adR,hc,adS];exact⟨.ret,a,w,.inl ⟨.ret,trivial,ι,E,h,.refl _,hx,S.rel,S.env,S.defers,S.size,.refl _ _⟩,_,.one step_ret⟩
   ·-- regions
    rename_i id os draw hc;split at hm
    ·-- that draw
     refine opsP hc ?_;rw[hc];split at hm
     .rename_i l hl;split at hm
      .rename_i hok;rw[ach] at hok;obtain⟨hok,hbok⟩:=hok;have G9:∀(nb:Nat) (h2:ai),Rel P F ι h2 w->ki P (T.call.k8 P nb os l) W (some nb) os l E jl.emp (λ_=>none) (λE'=>den P body T W fin n true k E') h2=some r ->
         (Code.region id os true).wp P (λe a' w'=>(e=.normal/\ZC P F ι W a.tmps (λE'=>den P body T W fin n true k E') r a' w')\/MI P F ι W a.tmps T.uU r e a' w') a w:=by
        intro nb h2 R2 hx;refine wp_region_draw λt=>?_;have R3:Rel P F ι h2 { w with drawn:=w.drawn+1 }:=R2.of_heap rfl ⟨rfl,rfl⟩;have:=xN (HT.call.k8 nb os l) S.rel.Ea (Q:=λe a' w'=>(e=.normal/\ZC P F ι W a.tmps (λE'=>den P body T W fin n true k E') r a' w')\/MI P F ι W a.tmps T.uU r e a' w') (λa w hn=>.inl ⟨rfl,hn⟩) _ E jl.emp (λ_=>none) F ι h2 a { w with drawn:=w.drawn+1 } R3 S.env .emp S.defers S.size (.refl _ _) (.refl _) (.refl _)
         (OR (HT.call.k8 nb os l).mo (λa1 a2 a3 a4 a5 a6 b1 b2 b3 b4 b5 b6=>(aek hbok a1 a2 a3 a4 a5 a6 b1 b2 b3 b4 b5 b6).2) hok t hx)
        grind [map_fst]
       split at hm
       .subst hm;simp[sh,Ago.dz] at hx;exact G9 _ _ (S.rel.dz _) hx
       .subst hm;exact G9 _ _ S.rel hx
      .subst hm;simp[AS] at hx
     .subst hm;simp[AS] at hx
    .subst hm;refine opsP hc ?_;rw[hc];refine wp_region ?_;have:=xN HT.call S.rel.Ea (Q:=λe a' w'=>(e=.normal/\ZC P F ι W a.tmps (λE'=>den P body T W fin n true k E') r a' w')\/MI P F ι W a.tmps T.uU r e a' w') (λa w hn=>.inl ⟨rfl,hn⟩) _ E jl.emp (λ_=>none) F ι h a w S.rel S.env .emp S.defers S.size (.refl _ _) (.refl _) (.refl _) hx
     grind [map_fst]
   .subst hm;simp[AS] at hx
end Go.Ago
