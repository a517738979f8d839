
import Derived.Test.YtpojbnjkkkiccaaGreatDoorAgoT
import Derived.Scope
set_option linter.all false
namespace Go.Ago
open Go
variable {P:Program}{ι ι':gO}{h h' h1:ai}{w w':World}
def fP (body:Code)(todo:List Fo):List Item:=todo.map fun
 |.code p=>.code (fU body p)
 |.ar id=>.inBlock id
 |.scp p=>.inScope (fU body p)
def eqv:Exit->ov->Prop
 |.normal,.normal=>True
 |.exit a,.exit b=>a=b
 |.ret,.ret=>True
 |_,_=>False
def vQ (P:Program)(its:List Item)(Q:Exit->Go.Act->World->Prop)(a:Go.Act)(w:World):Prop:=
 ∀(b:Frame) (k:List Item) (cs:List Frame),∃e a' w',Q e a' w'/\Arrives P (lone (b.at a (its++k)) cs w) b k cs e a' w'
def JL {R}(P:Program)(F:Fz)(ι:gO)(W:Wr)(t0:ν)(fin:ov->Env->M R)(r:R×ai):Exit->Go.Act->World->Prop:=
 λe a w=>∃ae,eqv e ae/\YZ P F ι W t0 (fin ae) r a w
def T9 (P:Program)(F:Fz)(ι:gO)(W:Wr)(t0:ν)(ae:ov)(E':Env)(h1:ai):Exit->Go.Act->World->Prop:=
 λe a w=>eqv e ae/\∃ι',ι.le ι'/\Rel P F ι' h1 w/\lv P ι' E' a.tmps/\a.defers=F.QZ/\a.tmps.size=W.1/\Fw W t0 a.tmps
structure Start (P:Program) (F:Fz) (ι:gO) (W:Wr) (E:Env) (h:ai) (a:Go.Act) (w:World):Prop where
 rel:Rel P F ι h w
 env:lv P ι E a.tmps
 defers:a.defers=F.QZ
 size:a.tmps.size=W.1
def RC (P:Program)(body:Code)(W:Wr)(p:Path)(E:Env):xZ->Prop
 |.one _ m e out=>∀F h x h1,m h=some (x,h1)->∀ι w a,Start P F ι W E h a w->(fU body p).wp P (T9 P F ι W a.tmps e (out x) h1) a w
 |.two _ _ m e out e' out'=>(∀F h x h1,m h=some (.inl x,h1)->∀ι w a,Start P F ι W E h a w->(fU body p).wp P (T9 P F ι W a.tmps e (out x) h1) a w) /\
   (∀F h x h1,m h=some (.inr x,h1)->∀ι w a,Start P F ι W E h a w->(fU body p).wp P (T9 P F ι W a.tmps e' (out' x) h1) a w)
 |.none=>True
structure zX {R:Type} (P:Program) (body:Code) (T:OM R) (W:Wr) (fin:ov->Env->M R):Prop where
 call:BC P T.call
 loop:∀p E,RC P body W p E (T.loop p E)
 join:∀p k J,T.join p=some (k,J)->∀E m,J E=some m->∀F h r,m h=some r->∀ι w a,Start P F ι W E h a w->vQ P (fP body (.code p::k)) (JL P F ι W a.tmps fin r) a w
def vQ.steps {its its'}{Q}{a a'}(hst:∀(b:Frame) (k:List Item) (cs:List Frame),Steps P (lone (b.at a (its++k)) cs w) (lone (b.at a' (its'++k)) cs w'))
  (hr:vQ P its' Q a' w'):vQ P its Q a w:=λb k cs=>
 let ⟨e,a2,w2,q,harr⟩:=hr b k cs
 ⟨e,a2,w2,q,.of_steps (hst b k cs) harr⟩
def vQ.mono {its}{Q Q'}{a}(hr:vQ P its Q a w)(hq:∀e a w,Q e a w->Q' e a w):vQ P its Q' a w:=λb k cs=>
 let ⟨e,a2,w2,q,harr⟩:=hr b k cs
 ⟨e,a2,w2,hq _ _ _ q,harr⟩
def vQ.code {c}{its}{Q}{a}(hc:c.wp P (λe a w=>e=.normal/\vQ P its Q a w) a w):vQ P (.code c::its) Q a w:=by
 intro b k cs;obtain⟨e,a1,w1,⟨rfl,hq⟩,harr⟩:=hc b (its++k) cs;obtain⟨e,a2,w2,q,harr2⟩:=hq b k cs;exact⟨e,a2,w2,q,.of_steps harr harr2⟩
theorem vk {id}:∀{its its'} k ,exitTo id its=some its'->exitTo id (its++k)=some (its'++k)
 |[],_,_,h=>by simp[exitTo] at h
 |x::its,its',k,h=>by
  cases x with
  |inBlock id'=>
   simp only[exitTo,acV] at h⊢;split at h
   .grind
   .rename_i e;rw[AT e];exact vk k h
  |_=>simp only[exitTo,acV] at h⊢;exact vk k h
theorem nJ {id}:∀{its} k ,exitTo id its=none->exitTo id (its++k)=exitTo id k
 |[],_,_=>rfl
 |x::its,k,h=>by
  cases x with
  |inBlock id'=>
   simp only[exitTo,acV] at h⊢;split at h
   .cases h
   .rename_i e;rw[AT e];exact nJ k h
  |_=>simp only[exitTo,acV] at h⊢;exact nJ k h
theorem xi body id:∀k ,exitTo id (fP body k)=(uk id k).map (fP body)
 |[]=>rfl
 |.code p::k=>by simp[fP,acW,exitTo,uk];exact xi body id k
 |.scp p::k=>by simp[fP,acW,exitTo,uk];exact xi body id k
 |.ar id'::k=>by
  simp only[fP,acW,exitTo,uk];cases hb:Nat.beq id' id with
  |true=>grind [Nat.eq_of_beq_eq_true,fP]
  |false=>
   have:id'≠id:=λe=>by simp_all
   rw[AT (by simpa using this)];exact xi body id k
theorem vQ.exitCode {body}{id}{k}{Q}{a}{its}
  (hst:∀(b:Frame) (k0:List Item) (cs:List Frame) k',exitTo id (fP body k++k0)=some k'->Steps P (lone (b.at a (its++k0)) cs w) (lone (b.at a k') cs w))
  (h1:∀k',uk id k=some k'->vQ P (fP body k') Q a w) (h2:uk id k=none->Q (.exit id) a w):vQ P its Q a w:=by
 intro b k0 cs;have hs:=xi body id k;cases hp:uk id k with
 |some k'=>
  rw[hp] at hs;obtain⟨e,a2,w2,q,harr⟩:=h1 k' hp b k0 cs;exact⟨e,a2,w2,q,.of_steps (hst b k0 cs _ (vk k0 hs)) harr⟩
 |none=>
  rw[hp] at hs;refine⟨.exit id,a,w,h2 hp,λk' hk'=>hst b k0 cs k' ?_⟩
  grind [nJ]
theorem vQ.V3 {body}{id}{k}{Q}{c}{a}
  (hc:c.wp P (λe a w=>e=.exit id/\(∀k',uk id k=some k'->vQ P (fP body k') Q a w)/\(uk id k=none->Q (.exit id) a w)) a w):vQ P (.code c::fP body k) Q a w:=by
 intro b k0 cs;obtain⟨e,a1,w1,⟨rfl,h1,h2⟩,harr⟩:=hc b (fP body k++k0) cs;have hs:=xi body id k;cases hp:uk id k with
 |some k'=>
  rw[hp] at hs;obtain⟨e,a2,w2,q,harr2⟩:=h1 k' hp b k0 cs;exact⟨e,a2,w2,q,.of_steps (harr _ (vk k0 hs)) harr2⟩
 |none=>
  rw[hp] at hs;refine⟨.exit id,a1,w1,h2 hp,λk' hk'=>harr k' ?_⟩
  grind [nJ]
theorem vQ.ado {its}{Q}{c}{a}(hc:c.wp P (λe a w=>e=.ret/\Q .ret a w) a w):vQ P (.code c::its) Q a w:=by
 intro b k0 cs;obtain⟨e,a1,w1,⟨rfl,h1⟩,harr⟩:=hc b (its++k0) cs;exact⟨.ret,a1,w1,h1,harr⟩
theorem RD:∀{k l},eqItems k l=true->k=l:=by
 have hp:∀{p q:Path},xa p q=true->p=q:=by
  intro p
  induction p with
  |nil=>grind [xa]
  |cons a p ih=>intro q hq;cases q with
   |nil=>simp[xa] at hq
   |cons b q=>
    simp only[xa,abw] at hq
    grind [Nat.eq_of_beq_eq_true]
 intro k
 induction k with
 |nil=>grind [eqItems]
 |cons x k ih=>intro l hl;cases l with
  |nil=>grind [eqItems]
  |cons y l=>
   cases x<;>cases y<;>simp only[eqItems,abw] at hl<;>first
    |(rw[hp hl.1,ih hl.2])
    |(rw[IT hl.1,ih hl.2])
    |(cases hl)
def YZ.start {R}{F}{W}{t0}{K:Env->M R}{r}{a}(hn:YZ P F ι W t0 K r a w) :
  ∃ι' E h,ι.le ι'/\K E h=some r/\Start P F ι' W E h a w/\Fw W t0 a.tmps:=
 let ⟨ι',E,h,q1,q2,q3,q4,q5,q6,q7⟩:=hn
 ⟨ι',E,h,q1,q2,⟨q3,q4,q5,q6⟩,q7⟩
theorem JL.trans {R}{F}{W}{t0 t1}{fin:ov->Env->M R}{r}(hle:ι.le ι')(hf:Fw W t0 t1) e a w
  (hp:JL P F ι' W t1 fin r e a w):JL P F ι W t0 fin r e a w:=by
 obtain⟨ae,h1,ι2,E,h,q1,q2,q3,q4,q5,q6,q7⟩:=hp;exact⟨ae,h1,ι2,E,h,hle.trans q1,q2,q3,q4,q5,q6,hf.trans q7⟩
theorem map_fst (l:η):(l.map λi=>(i,([]:η))).map (·.1)=l:=by
 rw[ao8];have:((λx:Nat×η=>x.1)∘λi=>(i,([]:η)))=id:=rfl;rw[this,aox]
theorem wU {R}{body}{T:OM R}{W}{fin}(HT:zX P body T W fin) :
  ∀n j todo E F ι h r a w ,Start P F ι W E h a w ->
   den P body T W fin n j todo E h=some r->vQ P (fP body todo) (JL P F ι W a.tmps fin r) a w
 |0,j,todo,E,F,ι,h,r,a,w,S,hx=>by simp[den,AS] at hx
 |n+1,j,[],E,F,ι,h,r,a,w,S,hx=>λb k cs=>
  ⟨.normal,a,w,⟨.normal,trivial,ι,E,h,.refl _,hx,S.rel,S.env,S.defers,S.size,.refl _ _⟩,Steps.refl _ _⟩
 |n+1,j,.ar id::k,E,F,ι,h,r,a,w,S,hx=>by
  have ih:=wU HT n true k E F ι h r a w S hx;exact ih.steps λb k0 cs=>.one step_inBlock
 |n+1,j,.scp p::k,E,F,ι,h,r,a,w,S,hx=>by
  have ih:=wU HT n true k E F ι h r a w S hx;exact ih.steps λb k0 cs=>.one step_inScope
 |n+1,j,.code p::k,E,F,ι,h,r,a,w,S,hx=>by
  have ih:=wU HT n;generalize hm:den P body T W fin (n+1) j (.code p::k) E=m at hx;unfold den at hm;have ops:∀{id:Nat} {ops:Array Oper} {draw:Bool},fU body p=.region id ops draw ->
    (fU body p).wp P (λe a' w'=>e=.normal/\YZ P F ι W a.tmps (λE'=>den P body T W fin n true k E') r a' w') a w->vQ P (fP body (.code p::k)) (JL P F ι W a.tmps fin r) a w:=by
   intro id ops draw _ hwp;refine vQ.code (wp_mono hwp ?_);rintro e a' w' ⟨rfl,hn⟩;obtain⟨ι',E',h',q1,q2,q3,q4⟩:=hn.start;exact⟨rfl,(ih true k E' F ι' h' r a' w' q3 q2).mono λe a w=>JL.trans q1 q4 e a w⟩
  have loopEnd:∀(ae:ov) (E':Env) (h1:ai),(fU body p).wp P (T9 P F ι W a.tmps ae E' h1) a w ->
    (∀id,ae=.exit id->(∀k',uk id k=some k'->den P body T W fin n true k' E' h1=some r)/\(uk id k=none->fin (.exit id) E' h1=some r)) ->
    (ae=.ret->fin .ret E' h1=some r)->(ae≠.normal)->vQ P (fP body (.code p::k)) (JL P F ι W a.tmps fin r) a w:=by
   intro ae E' h1 hwp hex hret hno;cases ae with
   |normal=>exact absurd rfl hno
   |exit id=>
    refine vQ.V3 (id:=id) (wp_mono hwp ?_);rintro e a' w' ⟨he,ι',q1,q2,q3,q4,q5,q6⟩;cases e with
    |exit id'=>
     have:id'=id:=he;subst this;refine⟨rfl,λk' hk'=>?_,λhk'=>⟨.exit id',rfl,ι',E',h1,q1,(hex id' rfl).2 hk',q2,q3,q4,q5,q6⟩⟩;exact (ih true k' E' F ι' h1 r a' w' ⟨q2,q3,q4,q5⟩ ((hex id' rfl).1 k' hk')).mono λe a w=>JL.trans q1 q6 e a w
    |_=>exact he.elim
   |ret=>
    refine vQ.ado (wp_mono hwp ?_);rintro e a' w' ⟨he,ι',q1,q2,q3,q4,q5,q6⟩;cases e with
    |ret=>exact⟨rfl,⟨.ret,trivial,ι',E',h1,q1,hret rfl,q2,q3,q4,q5,q6⟩⟩
    |_=>exact he.elim
  split at hm
  ·-- a place where ways meet
   rename_i k' J hj;split at hm
   .rename_i hk;have hk:=RD hk;subst hk;split at hm
    .rename_i m0 hJ;subst hm;have hj':T.join p=some (k,J):=by
      grind
     exact HT.join p k J hj' E m0 hJ F h r hx ι w a S
    .subst hm;simp[AS] at hx
   .subst hm;simp[AS] at hx
  .split at hm
   ·-- skip
    rename_i hc;subst hm;refine (ih true k E F ι h r a w S hx).steps λb k0 cs=>?_;simp[fP,acW,hc,acV];exact .one step_skip
   .rename_i l hc;subst hm;refine (ih true k E F ι h r a w S hx).steps λb k0 cs=>?_;simp[fP,acW,hc,acV];exact .one step_label
   .rename_i x y hc;subst hm;refine (ih true _ E F ι h r a w S hx).steps λb k0 cs=>?_;simp[fP,acW,hc,acV];have e0:fU body (0::p)=x:=(by simp[fU,hc,child]);have e1:fU body (1::p)=y:=(by simp[fU,hc,child]);rw[e0,e1];exact .one step_seq
   ·-- cond
    rename_i c x y hc;have e0:fU body (0::p)=x:=(by simp[fU,hc,child]);have e1:fU body (1::p)=y:=(by simp[fU,hc,child]);split at hm
    .rename_i b hb;have hev:=(aK S.env hb).bool;unfold yC at hm;split at hm
     .rename_i e;subst e;subst hm;refine (ih true _ _ F ι h r a w ⟨S.rel,S.env.vz hb,S.defers,S.size⟩ hx).steps λb k0 cs=>?_;simp[fP,acW,hc,acV,e0];exact .one (step_cond hev)
     .rename_i e;have:b=false:=(by cases b<;>simp_all);subst this;subst hm;refine (ih true _ _ F ι h r a w ⟨S.rel,S.env.vz hb,S.defers,S.size⟩ hx).steps λb k0 cs=>?_;simp[fP,acW,hc,acV,e1];exact .one (step_cond hev)
    .subst hm;simp[AS] at hx
   .rename_i id c hc;subst hm;refine (ih true _ E F ι h r a w S hx).steps λb k0 cs=>?_;have e0:fU body (0::p)=c:=(by simp[fU,hc,child]);simp[fP,acW,hc,acV,e0];exact .one step_block
   ·-- scope
    rename_i c hc;subst hm;refine (ih true _ E F ι h r a w S hx).steps λb k0 cs=>?_;have e0:fU body (0::p)=c:=(by simp[fU,hc,child]);simp[fP,acW,hc,acV,e0];exact .one step_scope
   ·-- loop
    rename_i c hc;have hl:=HT.loop p E;split at hm
    .rename_i α m0 e out hT;rw[hT] at hl;subst hm;simp[sh] at hx;split at hx
     .rename_i x h1 hm0;refine loopEnd e (out x) h1 (hl F h x h1 hm0 ι w a S) ?_ ?_ ?_
      .rintro id rfl;simp at hx;refine⟨λk' hk'=>?_,λhk'=>?_⟩
       .rw[hk'] at hx;exact hx
       .rw[hk'] at hx;exact hx
      .rintro rfl;exact hx
      .rintro rfl;simp[AS] at hx
     .cases hx
    .rename_i α β m0 e out e' out' hT;rw[hT] at hl;subst hm;simp[sh] at hx;split at hx
     .rename_i x h1 hm0;cases x with
      |inl x=>
       simp[dW] at hx;refine loopEnd e (out x) h1 (hl.1 F h x h1 hm0 ι w a S) ?_ ?_ ?_
       .rintro id rfl;simp at hx;refine⟨λk' hk'=>?_,λhk'=>?_⟩
        .rw[hk'] at hx;exact hx
        .rw[hk'] at hx;exact hx
       .rintro rfl;exact hx
       .rintro rfl;simp[AS] at hx
      |inr x=>
       simp[dW] at hx;refine loopEnd e' (out' x) h1 (hl.2 F h x h1 hm0 ι w a S) ?_ ?_ ?_
       .rintro id rfl;simp at hx;refine⟨λk' hk'=>?_,λhk'=>?_⟩
        .rw[hk'] at hx;exact hx
        .rw[hk'] at hx;exact hx
       .rintro rfl;exact hx
       .rintro rfl;simp[AS] at hx
     .cases hx
    .subst hm;simp[AS] at hx
   ·-- exit
    rename_i id hc;refine vQ.exitCode (body:=body) (id:=id) (k:=k) (λb k0 cs k' hk'=>?_) (λk' hk'=>?_) (λhk'=>?_)
    .simp[fP,acW,hc,acV];exact .one (step_exit hk')
    .rw[hk'] at hm;subst hm
     grind
    .rw[hk'] at hm;subst hm;exact⟨.exit id,rfl,ι,E,h,.refl _,hx,S.rel,S.env,S.defers,S.size,.refl _ _⟩
   .rename_i hc;subst hm;intro b k0 cs;simp[fP,acW,hc,acV];exact⟨.ret,a,w,⟨.ret,trivial,ι,E,h,.refl _,hx,S.rel,S.env,S.defers,S.size,.refl _ _⟩,_,.one step_ret⟩
   ·-- regions
    rename_i id os draw hc;split at hm
    ·-- that draw
     refine ops hc ?_;rw[hc];split at hm
     .rename_i l hl;split at hm
      .rename_i hok;have Kw:∀(nb:Nat) (h2:ai),Rel P F ι h2 w->jn P T.call W (some nb) os l E fK.emp (λ_=>none) (λE'=>den P body T W fin n true k E') h2=some r ->
         (Code.region id os true).wp P (λe a' w'=>e=.normal/\YZ P F ι W a.tmps (λE'=>den P body T W fin n true k E') r a' w') a w:=by
        intro nb h2 R2 hx;refine wp_region_draw λt=>?_;have R3:Rel P F ι h2 { w with drawn:=w.drawn+1 }:=R2.of_heap rfl ⟨rfl,rfl⟩;exact V2 HT.call S.rel.GL (Q:=λe a' w'=>e=.normal/\YZ P F ι W a.tmps (λE'=>den P body T W fin n true k E') r a' w') (λa w hn=>⟨rfl,hn⟩) hok t R3 S.env S.defers S.size (.refl _ _) hx
       split at hm
       .subst hm;simp[sh,Ago.dP] at hx;exact Kw _ _ (S.rel.dP _) hx
       .subst hm;exact Kw _ _ S.rel hx
      .subst hm;simp[AS] at hx
     .subst hm;simp[AS] at hx
    .subst hm;refine ops hc ?_;rw[hc];refine wp_region ?_;have:=Fx HT.call S.rel.GL (Q:=λe a' w'=>e=.normal/\YZ P F ι W a.tmps (λE'=>den P body T W fin n true k E') r a' w') (λa w hn=>⟨rfl,hn⟩) _ E fK.emp (λ_=>none) F ι h a w S.rel S.env .emp S.defers S.size (.refl _ _) (.refl _) (.refl _) hx
     grind [map_fst]
   .subst hm;simp[AS] at hx
end Go.Ago
