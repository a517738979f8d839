
import Derived.Test.YtcdofopdlaebaaaGreatDoorAgoU
import Derived.Scope
namespace Go.Ago
open Go
variable {P:Program}{ι ι':fM}{h h' h1:af}{w w':World}
def eG (body:Code)(todo:List tD):List Item:=todo.map fun
 |.code p=>.code (cC body p)
 |.ar id=>.inBlock id
 |.scp p=>.inScope (cC body p)
def eqv:Exit->gh->Prop
 |.normal,.normal=>True
 |.exit a,.exit b=>a=b
 |.ret,.ret=>True
 |_,_=>False
def nM (P:Program)(its:List Item)(Q:Exit->Go.Act->World->Prop)(a:Go.Act)(w:World):Prop:=
 ∀(b:Frame) (k:List Item) (cs:List Frame),∃e a' w',Q e a' w'/\Arrives P (lone (b.at a (its++k)) cs w) b k cs e a' w'
def zE {R:Type}(P:Program)(F:Fz)(ι:fM)(W:Wr)(t0:Array Value)(fin:gh->Env->M R)(fj:Value->M R)(r:R×af):Exit->Go.Act->World->Prop:=
 λe a w=>(∃ae,eqv e ae/\SV P F ι W t0 (fin ae) r a w)\/F3 P F ι W t0 fj r e a w
def abd (P:Program)(F:Fz)(ι:fM)(W:Wr)(t0:Array Value)(v:Value)(h1:af):Exit->Go.Act->World->Prop:=
 λe a w=>∃ι' v',e=.panic (one v')/\ι.le ι'/\aS P ι' v v'/\Rel P F ι' h1 w/\a.defers=[]/\a.tmps.size=W.1/\Bh W t0 a.tmps
def EI (P:Program)(F:Fz)(ι:fM)(W:Wr)(t0:Array Value)(ae:gh)(E':Env)(h1:af):Exit->Go.Act->World->Prop:=
 λe a w=>eqv e ae/\∃ι',ι.le ι'/\Rel P F ι' h1 w/\iN P ι' E' a.tmps/\a.defers=[]/\a.tmps.size=W.1/\Bh W t0 a.tmps
structure Start (P:Program) (F:Fz) (ι:fM) (W:Wr) (E:Env) (h:af) (a:Go.Act) (w:World):Prop where
 rel:Rel P F ι h w
 env:iN P ι E a.tmps
 defers:a.defers=[]
 size:a.tmps.size=W.1
def MI (P:Program)(body:Code)(W:Wr)(p:Path)(E:Env):vJ->Prop
 |.one _ m e out=>∀F h x h1,m h=some (x,h1)->∀ι w a,Start P F ι W E h a w->(cC body p).wp P (EI P F ι W a.tmps e (out x) h1) a w
 |.two _ _ m e out e' out'=>(∀F h x h1,m h=some (.inl x,h1)->∀ι w a,Start P F ι W E h a w->(cC body p).wp P (EI P F ι W a.tmps e (out x) h1) a w) /\
   (∀F h x h1,m h=some (.inr x,h1)->∀ι w a,Start P F ι W E h a w->(cC body p).wp P (EI P F ι W a.tmps e' (out' x) h1) a w)
 |.adR _ m e out=>(∀F h x h1,m h=some (.inl x,h1)->∀ι w a,Start P F ι W E h a w->(cC body p).wp P (EI P F ι W a.tmps e (out x) h1) a w) /\
   (∀F h v h1,m h=some (.inr v,h1)->∀ι w a,Start P F ι W E h a w->(cC body p).wp P (abd P F ι W a.tmps v h1) a w)
 |.adS _ _ m e out e' out'=>(∀F h x h1,m h=some (.inl (.inl x),h1)->∀ι w a,Start P F ι W E h a w->(cC body p).wp P (EI P F ι W a.tmps e (out x) h1) a w) /\
   (∀F h x h1,m h=some (.inl (.inr x),h1)->∀ι w a,Start P F ι W E h a w->(cC body p).wp P (EI P F ι W a.tmps e' (out' x) h1) a w) /\
   (∀F h v h1,m h=some (.inr v,h1)->∀ι w a,Start P F ι W E h a w->(cC body p).wp P (abd P F ι W a.tmps v h1) a w)
 |.none=>True
structure vT {R:Type} (P:Program) (body:Code) (T:JY R) (W:Wr) (fin:gh->Env->M R):Prop where
 call:sw P T.call
 loop:∀p E,MI P body W p E (T.loop p E)
 join:∀p k J,T.join p=some (k,J)->∀E m,J E=some m->∀F h r,m h=some r->∀ι w a,Start P F ι W E h a w->nM P (eG body (.code p::k)) (zE P F ι W a.tmps fin T.fj r) a w
theorem nM.steps {its its':List Item}{Q:Exit->Go.Act->World->Prop}{a a':Go.Act}(hst:∀(b:Frame) (k:List Item) (cs:List Frame),Steps P (lone (b.at a (its++k)) cs w) (lone (b.at a' (its'++k)) cs w'))
  (hr:nM P its' Q a' w'):nM P its Q a w:=λb k cs=>
 let ⟨e,a2,w2,q,harr⟩:=hr b k cs
 ⟨e,a2,w2,q,.of_steps (hst b k cs) harr⟩
theorem nM.mono {its:List Item}{Q Q':Exit->Go.Act->World->Prop}{a:Go.Act}(hr:nM P its Q a w)(hq:∀e a w,Q e a w->Q' e a w):nM P its Q' a w:=λb k cs=>
 let ⟨e,a2,w2,q,harr⟩:=hr b k cs
 ⟨e,a2,w2,hq _ _ _ q,harr⟩
theorem nM.code {c:Code}{its:List Item}{Q:Exit->Go.Act->World->Prop}{a:Go.Act}(hc:c.wp P (λe a w=>e=.normal/\nM P its Q a w) a w):nM P (.code c::its) Q a w:=by
 intro b k cs;obtain⟨e,a1,w1,⟨rfl,hq⟩,harr⟩:=hc b (its++k) cs;obtain⟨e,a2,w2,q,harr2⟩:=hq b k cs;exact⟨e,a2,w2,q,.of_steps harr harr2⟩
theorem nM.adY {c:Code}{its:List Item}{Q:Exit->Go.Act->World->Prop}{a:Go.Act}(hc:c.wp P (λe a w=>(e=.normal/\nM P its Q a w)\/((∃ch,e=.panic ch)/\Q e a w)) a w):nM P (.code c::its) Q a w:=by
 intro b k cs;obtain⟨e,a1,w1,hq|⟨⟨ch,rfl⟩,hq⟩,harr⟩:=hc b (its++k) cs
 .obtain⟨rfl,hq⟩:=hq;obtain⟨e,a2,w2,q,harr2⟩:=hq b k cs;exact⟨e,a2,w2,q,.of_steps harr harr2⟩
 .exact⟨.panic ch,a1,w1,hq,harr⟩
theorem nM.XD {its:List Item}{Q:Exit->Go.Act->World->Prop}{c:Code}{a:Go.Act}(hc:c.wp P (λe a w=>(∃ch,e=.panic ch)/\Q e a w) a w):nM P (.code c::its) Q a w:=by
 intro b k0 cs;obtain⟨e,a1,w1,⟨⟨ch,rfl⟩,h1⟩,harr⟩:=hc b (its++k0) cs;exact⟨.panic ch,a1,w1,h1,harr⟩
theorem rH {id:Nat}:∀{its its':List Item} (k:List Item),exitTo id its=some its'->exitTo id (its++k)=some (its'++k)
 |[],_,_,h=>by simp[exitTo] at h
 |x::its,its',k,h=>by
  cases x with
  |inBlock id'=>
   simp only[exitTo,acJ] at h⊢;split at h
   .rename_i e;rw[if_pos e];cases h;rfl
   .rename_i e;rw[if_neg e];exact rH k h
  |_=>simp only[exitTo,acJ] at h⊢;exact rH k h
theorem lO {id:Nat}:∀{its:List Item} (k:List Item),exitTo id its=none->exitTo id (its++k)=exitTo id k
 |[],_,_=>rfl
 |x::its,k,h=>by
  cases x with
  |inBlock id'=>
   simp only[exitTo,acJ] at h⊢;split at h
   .cases h
   .rename_i e;rw[if_neg e];exact lO k h
  |_=>simp only[exitTo,acJ] at h⊢;exact lO k h
theorem tM (body:Code)(id:Nat):∀(k:List tD),exitTo id (eG body k)=(oz id k).map (eG body)
 |[]=>rfl
 |.code p::k=>by simp only[eG,adE,exitTo,oz];exact tM body id k
 |.scp p::k=>by simp only[eG,adE,exitTo,oz];exact tM body id k
 |.ar id'::k=>by
  simp only[eG,adE,exitTo,oz];cases hb:Nat.beq id' id with
  |true=>have:=BY hb;subst this;simp[eG]
  |false=>
   have:id'≠id:=λe=>by subst e;rw[aeP] at hb;cases hb
   rw[if_neg (by simpa using this)];exact tM body id k
theorem nM.exitCode {body:Code}{id:Nat}{k:List tD}{Q:Exit->Go.Act->World->Prop}{a:Go.Act}{its:List Item}
  (hst:∀(b:Frame) (k0:List Item) (cs:List Frame) k',exitTo id (eG body k++k0)=some k'->Steps P (lone (b.at a (its++k0)) cs w) (lone (b.at a k') cs w))
  (h1:∀k',oz id k=some k'->nM P (eG body k') Q a w) (h2:oz id k=none->Q (.exit id) a w):nM P its Q a w:=by
 intro b k0 cs;have hs:=tM body id k;cases hp:oz id k with
 |some k'=>
  rw[hp] at hs;obtain⟨e,a2,w2,q,harr⟩:=h1 k' hp b k0 cs;exact⟨e,a2,w2,q,.of_steps (hst b k0 cs _ (rH k0 hs)) harr⟩
 |none=>
  rw[hp] at hs;refine⟨.exit id,a,w,h2 hp,λk' hk'=>hst b k0 cs k' ?_⟩;rw[lO k0 hs];exact hk'
theorem nM.QW {body:Code}{id:Nat}{k:List tD}{Q:Exit->Go.Act->World->Prop}{c:Code}{a:Go.Act}
  (hc:c.wp P (λe a w=>e=.exit id/\(∀k',oz id k=some k'->nM P (eG body k') Q a w)/\(oz id k=none->Q (.exit id) a w)) a w):nM P (.code c::eG body k) Q a w:=by
 intro b k0 cs;obtain⟨e,a1,w1,⟨rfl,h1,h2⟩,harr⟩:=hc b (eG body k++k0) cs;have hs:=tM body id k;cases hp:oz id k with
 |some k'=>
  rw[hp] at hs;obtain⟨e,a2,w2,q,harr2⟩:=h1 k' hp b k0 cs;exact⟨e,a2,w2,q,.of_steps (harr _ (rH k0 hs)) harr2⟩
 |none=>
  rw[hp] at hs;refine⟨.exit id,a1,w1,h2 hp,λk' hk'=>harr k' ?_⟩;rw[lO k0 hs];exact hk'
theorem nM.XE {its:List Item}{Q:Exit->Go.Act->World->Prop}{c:Code}{a:Go.Act}(hc:c.wp P (λe a w=>e=.ret/\Q .ret a w) a w):nM P (.code c::its) Q a w:=by
 intro b k0 cs;obtain⟨e,a1,w1,⟨rfl,h1⟩,harr⟩:=hc b (its++k0) cs;exact⟨.ret,a1,w1,h1,harr⟩
theorem MJ:∀{k l:List tD},eqItems k l=true->k=l:=by
 have hp:∀{p q:Path},tE p q=true->p=q:=by
  intro p
  induction p with
  |nil=>intro q hq;cases q with
   |nil=>rfl
   |cons=>simp[tE] at hq
  |cons a p ih=>intro q hq;cases q with
   |nil=>simp[tE] at hq
   |cons b q=>
    simp only[tE,IT] at hq;rw[BY hq.1,ih hq.2]
 intro k
 induction k with
 |nil=>intro l hl;cases l with
  |nil=>rfl
  |cons=>simp[eqItems] at hl
 |cons x k ih=>intro l hl;cases l with
  |nil=>cases x<;>simp[eqItems] at hl
  |cons y l=>
   cases x<;>cases y<;>simp only[eqItems,IT] at hl<;>first
    |(rw[hp hl.1,ih hl.2])
    |(rw[BY hl.1,ih hl.2])
    |(cases hl)
theorem SV.start {R:Type}{F:Fz}{W:Wr}{t0:Array Value}{K:Env->M R}{r:R×af}{a:Go.Act}(hn:SV P F ι W t0 K r a w) :
  ∃ι' E h,ι.le ι'/\K E h=some r/\Start P F ι' W E h a w/\Bh W t0 a.tmps:=
 let ⟨ι',E,h,q1,q2,q3,q4,q5,q6,q7⟩:=hn
 ⟨ι',E,h,q1,q2,⟨q3,q4,q5,q6⟩,q7⟩
theorem zE.trans {R:Type}{F:Fz}{W:Wr}{t0 t1:Array Value}{fin:gh->Env->M R}{fj:Value->M R}{r:R×af}(hle:ι.le ι')(hf:Bh W t0 t1)(e:Exit)(a:Go.Act)(w:World)
  (hp:zE P F ι' W t1 fin fj r e a w):zE P F ι W t0 fin fj r e a w:=by
 rcases hp with⟨ae,h1,ι2,E,h,q1,q2,q3,q4,q5,q6,q7⟩|hp
 .exact .inl ⟨ae,h1,ι2,E,h,hle.trans q1,q2,q3,q4,q5,q6,hf.trans q7⟩
 .exact .inr (hp.trans hle hf)
theorem map_fst (l:List Nat):(l.map λi=>(i,([]:List Nat))).map (·.1)=l:=by
 rw[agr];have:((λx:Nat×List Nat=>x.1)∘λi=>(i,([]:List Nat)))=id:=rfl;rw[this,List.map_id]
theorem tx {R:Type}{body:Code}{T:JY R}{W:Wr}{fin:gh->Env->M R}(HT:vT P body T W fin) :
  ∀(n:Nat) (j:Bool) (todo:List tD) (E:Env) (F:Fz) (ι:fM) (h:af) (r:R×af) (a:Go.Act) (w:World),Start P F ι W E h a w ->
   den P body T W fin n j todo E h=some r->nM P (eG body todo) (zE P F ι W a.tmps fin T.fj r) a w
 |0,j,todo,E,F,ι,h,r,a,w,S,hx=>by simp[den,AS] at hx
 |n+1,j,[],E,F,ι,h,r,a,w,S,hx=>λb k cs=>
  ⟨.normal,a,w,.inl ⟨.normal,trivial,ι,E,h,.refl _,hx,S.rel,S.env,S.defers,S.size,.refl _ _⟩,Steps.refl _ _⟩
 |n+1,j,.ar id::k,E,F,ι,h,r,a,w,S,hx=>by
  have ih:=tx HT n true k E F ι h r a w S hx;exact ih.steps λb k0 cs=>.one step_inBlock
 |n+1,j,.scp p::k,E,F,ι,h,r,a,w,S,hx=>by
  have ih:=tx HT n true k E F ι h r a w S hx;exact ih.steps λb k0 cs=>.one step_inScope
 |n+1,j,.code p::k,E,F,ι,h,r,a,w,S,hx=>by
  have ih:=tx HT n;generalize hm:den P body T W fin (n+1) j (.code p::k) E=m at hx;unfold den at hm;have ops:∀{id:Nat} {ops:Array Oper} {draw:Bool},cC body p=.region id ops draw ->
    (cC body p).wp P (λe a' w'=>e=.normal/\SV P F ι W a.tmps (λE'=>den P body T W fin n true k E') r a' w') a w->nM P (eG body (.code p::k)) (zE P F ι W a.tmps fin T.fj r) a w:=by
   intro id ops draw _ hwp;refine nM.code (wp_mono hwp ?_);rintro e a' w' ⟨rfl,hn⟩;obtain⟨ι',E',h',q1,q2,q3,q4⟩:=hn.start;exact⟨rfl,(ih true k E' F ι' h' r a' w' q3 q2).mono λe a w=>zE.trans q1 q4 e a w⟩
  have opsP:∀{id:Nat} {ops:Array Oper} {draw:Bool},cC body p=.region id ops draw ->
    (cC body p).wp P (λe a' w'=>(e=.normal/\SV P F ι W a.tmps (λE'=>den P body T W fin n true k E') r a' w')\/F3 P F ι W a.tmps T.fj r e a' w') a w->nM P (eG body (.code p::k)) (zE P F ι W a.tmps fin T.fj r) a w:=by
   intro id ops draw _ hwp;refine nM.adY (wp_mono hwp ?_);rintro e a' w' (⟨rfl,hn⟩|hp)
   .obtain⟨ι',E',h',q1,q2,q3,q4⟩:=hn.start;exact .inl ⟨rfl,(ih true k E' F ι' h' r a' w' q3 q2).mono λe a w=>zE.trans q1 q4 e a w⟩
   .obtain⟨ι2,v,v',h,q1,q2⟩:=hp;exact .inr ⟨⟨_,q1⟩,.inr ⟨ι2,v,v',h,q1,q2⟩⟩
  have loopPan:∀(v:Value) (h1:af),(cC body p).wp P (abd P F ι W a.tmps v h1) a w->T.fj v h1=some r->nM P (eG body (.code p::k)) (zE P F ι W a.tmps fin T.fj r) a w:=by
   intro v h1 hwp hv;refine nM.XD (wp_mono hwp ?_);rintro e a' w' ⟨ι',v',rfl,q1,q2,q3,q4,q5,q6⟩;exact⟨⟨_,rfl⟩,.inr ⟨ι',v,v',h1,rfl,q1,hv,q2,q3,q4,q5,q6⟩⟩
  have loopEnd:∀(ae:gh) (E':Env) (h1:af),(cC body p).wp P (EI P F ι W a.tmps ae E' h1) a w ->
    (∀id,ae=.exit id->(∀k',oz id k=some k'->den P body T W fin n true k' E' h1=some r)/\(oz id k=none->fin (.exit id) E' h1=some r)) ->
    (ae=.ret->fin .ret E' h1=some r)->(ae≠.normal)->nM P (eG body (.code p::k)) (zE P F ι W a.tmps fin T.fj r) a w:=by
   intro ae E' h1 hwp hex hret hno;cases ae with
   |normal=>exact absurd rfl hno
   |exit id=>
    refine nM.QW (body:=body) (id:=id) (k:=k) (wp_mono hwp ?_);rintro e a' w' ⟨he,ι',q1,q2,q3,q4,q5,q6⟩;cases e with
    |exit id'=>
     have:id'=id:=he;subst this;refine⟨rfl,λk' hk'=>?_,λhk'=>.inl ⟨.exit id',rfl,ι',E',h1,q1,(hex id' rfl).2 hk',q2,q3,q4,q5,q6⟩⟩;exact (ih true k' E' F ι' h1 r a' w' ⟨q2,q3,q4,q5⟩ ((hex id' rfl).1 k' hk')).mono λe a w=>zE.trans q1 q6 e a w
    |_=>exact he.elim
   |ret=>
    refine nM.XE (wp_mono hwp ?_);rintro e a' w' ⟨he,ι',q1,q2,q3,q4,q5,q6⟩;cases e with
    |ret=>exact⟨rfl,.inl ⟨.ret,trivial,ι',E',h1,q1,hret rfl,q2,q3,q4,q5,q6⟩⟩
    |_=>exact he.elim
  split at hm
  ·-- a place where ways meet
   rename_i k' J hj;split at hm
   .rename_i hk;have hk:=MJ hk;subst hk;split at hm
    .rename_i m0 hJ;subst hm;have hj':T.join p=some (k,J):=by
      split at hj
      .exact hj
      .cases hj
     exact HT.join p k J hj' E m0 hJ F h r hx ι w a S
    .subst hm;simp[AS] at hx
   .subst hm;simp[AS] at hx
  .split at hm
   ·-- skip
    rename_i hc;subst hm;refine (ih true k E F ι h r a w S hx).steps λb k0 cs=>?_;simp only[eG,adE,hc,acJ];exact .one step_skip
   .rename_i l hc;subst hm;refine (ih true k E F ι h r a w S hx).steps λb k0 cs=>?_;simp only[eG,adE,hc,acJ];exact .one step_label
   .rename_i x y hc;subst hm;refine (ih true _ E F ι h r a w S hx).steps λb k0 cs=>?_;simp only[eG,adE,hc,acJ];have e0:cC body (0::p)=x:=(by simp[cC,hc,child]);have e1:cC body (1::p)=y:=(by simp[cC,hc,child]);rw[e0,e1];exact .one step_seq
   ·-- cond
    rename_i c x y hc;have e0:cC body (0::p)=x:=(by simp[cC,hc,child]);have e1:cC body (1::p)=y:=(by simp[cC,hc,child]);split at hm
    .rename_i b hb;have hev:=(aQ S.env hb).bool;unfold lG at hm;split at hm
     .rename_i e;subst e;subst hm;refine (ih true _ _ F ι h r a w ⟨S.rel,S.env.pA hb,S.defers,S.size⟩ hx).steps λb k0 cs=>?_;simp only[eG,adE,hc,acJ,e0];exact .one (step_cond (t:=true) hev)
     .rename_i e;have:b=false:=(by cases b<;>simp_all);subst this;subst hm;refine (ih true _ _ F ι h r a w ⟨S.rel,S.env.pA hb,S.defers,S.size⟩ hx).steps λb k0 cs=>?_;simp only[eG,adE,hc,acJ,e1];exact .one (step_cond (t:=false) hev)
    .subst hm;simp[AS] at hx
   .rename_i id c hc;subst hm;refine (ih true _ E F ι h r a w S hx).steps λb k0 cs=>?_;have e0:cC body (0::p)=c:=(by simp[cC,hc,child]);simp only[eG,adE,hc,acJ,e0];exact .one step_block
   ·-- scope
    rename_i c hc;subst hm;refine (ih true _ E F ι h r a w S hx).steps λb k0 cs=>?_;have e0:cC body (0::p)=c:=(by simp[cC,hc,child]);simp only[eG,adE,hc,acJ,e0];exact .one step_scope
   ·-- loop
    rename_i c hc;have hl:=HT.loop p E;split at hm
    .rename_i α m0 e out hT;rw[hT] at hl;subst hm;simp only[sh] at hx;split at hx
     .rename_i x h1 hm0;refine loopEnd e (out x) h1 (hl F h x h1 hm0 ι w a S) ?_ ?_ ?_
      .rintro id rfl;simp only at hx;refine⟨λk' hk'=>?_,λhk'=>?_⟩
       .rw[hk'] at hx;exact hx
       .rw[hk'] at hx;exact hx
      .rintro rfl;exact hx
      .rintro rfl;simp[AS] at hx
     .cases hx
    .rename_i α β m0 e out e' out' hT;rw[hT] at hl;subst hm;simp only[sh] at hx;split at hx
     .rename_i x h1 hm0;cases x with
      |inl x=>
       simp only[cw] at hx;refine loopEnd e (out x) h1 (hl.1 F h x h1 hm0 ι w a S) ?_ ?_ ?_
       .rintro id rfl;simp only at hx;refine⟨λk' hk'=>?_,λhk'=>?_⟩
        .rw[hk'] at hx;exact hx
        .rw[hk'] at hx;exact hx
       .rintro rfl;exact hx
       .rintro rfl;simp[AS] at hx
      |inr x=>
       simp only[cw] at hx;refine loopEnd e' (out' x) h1 (hl.2 F h x h1 hm0 ι w a S) ?_ ?_ ?_
       .rintro id rfl;simp only at hx;refine⟨λk' hk'=>?_,λhk'=>?_⟩
        .rw[hk'] at hx;exact hx
        .rw[hk'] at hx;exact hx
       .rintro rfl;exact hx
       .rintro rfl;simp[AS] at hx
     .cases hx
    .rename_i α m0 e out hT;rw[hT] at hl;subst hm;simp only[sh] at hx;split at hx
     .rename_i x h1 hm0;cases x with
      |inl x=>
       simp only[cw] at hx;refine loopEnd e (out x) h1 (hl.1 F h x h1 hm0 ι w a S) ?_ ?_ ?_
       .rintro id rfl;simp only at hx;refine⟨λk' hk'=>?_,λhk'=>?_⟩
        .rw[hk'] at hx;exact hx
        .rw[hk'] at hx;exact hx
       .rintro rfl;exact hx
       .rintro rfl;simp[AS] at hx
      |inr v=>exact loopPan v h1 (hl.2 F h v h1 hm0 ι w a S) hx
     .cases hx
    .rename_i α β m0 e out e' out' hT;rw[hT] at hl;subst hm;simp only[sh] at hx;split at hx
     .rename_i x h1 hm0;rcases x with (x|x)|v
      .simp only[cw] at hx;refine loopEnd e (out x) h1 (hl.1 F h x h1 hm0 ι w a S) ?_ ?_ ?_
       .rintro id rfl;simp only at hx;refine⟨λk' hk'=>?_,λhk'=>?_⟩
        .rw[hk'] at hx;exact hx
        .rw[hk'] at hx;exact hx
       .rintro rfl;exact hx
       .rintro rfl;simp[AS] at hx
      .simp only[cw] at hx;refine loopEnd e' (out' x) h1 (hl.2.1 F h x h1 hm0 ι w a S) ?_ ?_ ?_
       .rintro id rfl;simp only at hx;refine⟨λk' hk'=>?_,λhk'=>?_⟩
        .rw[hk'] at hx;exact hx
        .rw[hk'] at hx;exact hx
       .rintro rfl;exact hx
       .rintro rfl;simp[AS] at hx
      .exact loopPan v h1 (hl.2.2 F h v h1 hm0 ι w a S) hx
     .cases hx
    .subst hm;simp[AS] at hx
   ·-- exit
    rename_i id hc;refine nM.exitCode (body:=body) (id:=id) (k:=k) (λb k0 cs k' hk'=>?_) (λk' hk'=>?_) (λhk'=>?_)
    .simp only[eG,adE,hc,acJ];exact .one (step_exit hk')
    .rw[hk'] at hm;subst hm;exact ih true k' E F ι h r a w S hx
    .rw[hk'] at hm;subst hm;exact .inl ⟨.exit id,rfl,ι,E,h,.refl _,hx,S.rel,S.env,S.defers,S.size,.refl _ _⟩
   .rename_i hc;subst hm;intro b k0 cs;simp only[eG,adE,hc,acJ];exact⟨.ret,a,w,.inl ⟨.ret,trivial,ι,E,h,.refl _,hx,S.rel,S.env,S.defers,S.size,.refl _ _⟩,_,.one step_ret⟩
   ·-- regions
    rename_i id os draw hc;split at hm
    ·-- that draw
     refine opsP hc ?_;rw[hc];split at hm
     .rename_i l hl;split at hm
      .rename_i hok;rw[IT] at hok;obtain⟨hok,hbok⟩:=hok;unfold OM at hok;simp only[IT] at hok;obtain⟨⟨hok1,hok2⟩,hok3⟩:=hok;have hdst:∀(i:Nat) o,os[i]?=some o->dA T.call o=true->o.dst.isSome=true:=by
        intro i o ho hi;have:=List.all_eq_true.1 hok3 o (by rw[agE];exact afG ho);have hi:dA (T.call.kG P 0 os l) o=true:=hi;rw[hi] at this;simpa using this
       rw[Bt] at hok2;have Fq:∀(nb:Nat) (h2:af),Rel P F ι h2 w->lM P (T.call.kG P nb os l) W (some nb) os T.fj l E cP.emp (λ_=>none) (λE'=>den P body T W fin n true k E') h2=some r ->
         (Code.region id os true).wp P (λe a' w'=>(e=.normal/\SV P F ι W a.tmps (λE'=>den P body T W fin n true k E') r a' w')\/F3 P F ι W a.tmps T.fj r e a' w') a w:=by
        intro nb h2 R2 hx;refine wp_region_draw λt=>?_;have R3:Rel P F ι h2 { w with drawn:=w.drawn+1 }:=R2.of_heap rfl ⟨rfl,rfl⟩;rcases KK (P:=P) (C:=T.call.kG P nb os l) (W:=W) (nb:=nb) (HT.call.kG nb os l).mo (abc hbok) (HT.call.kG nb os l).dis (HT.call.kG nb os l).JN hok1 (by rw[Bt];exact hok2) hdst t hx with hany|hany
        .have:=AE (ι:=ι) (F:=F) (t0:=a.tmps) (HT.call.kG nb os l).adX S.rel.Ei (Q:=λe a' w'=>(e=.normal/\SV P F ι W a.tmps (λE'=>den P body T W fin n true k E') r a' w')\/F3 P F ι W a.tmps T.fj r e a' w') (λa w hn=>.inl ⟨rfl,hn⟩) _ E cP.emp (λ_=>none) F ι h2 a { w with drawn:=w.drawn+1 } R3 S.env .emp S.defers S.size (.refl _ _) (.refl _) (.refl _) hany;rw[map_fst] at this;exact this
        .exact uS (ι:=ι) (F:=F) (t0:=a.tmps) (HT.call.kG nb os l) S.rel.Ei _ E cP.emp F ι h2 a { w with drawn:=w.drawn+1 } R3 S.env .emp S.defers S.size (.refl _ _) (.refl _) (.refl _) hany
       split at hm
       .subst hm;simp only[sh,Ago.eS] at hx;exact Fq _ _ (S.rel.eS _) hx
       .subst hm;exact Fq _ _ S.rel hx
      .subst hm;simp[AS] at hx
     .subst hm;simp[AS] at hx
    .subst hm;refine opsP hc ?_;rw[hc];refine wp_region ?_;exact uS (ι:=ι) (F:=F) (t0:=a.tmps) HT.call S.rel.Ei _ E cP.emp F ι h a w S.rel S.env .emp S.defers S.size (.refl _ _) (.refl _) (.refl _) hx
   .subst hm;simp[AS] at hx
end Go.Ago
