
import Derived.Test.YtdbjhobkhjneeaaGreatDoorAgoT
import Derived.Scope
set_option linter.all false
namespace Go.Ago
open Go
variable {P:Program}{ι ι':gX}{h h' h1:aj}{w w':World}
def fZ (body:Code)(todo:List DR):List Item:=todo.map fun
 |.code p=>.code (gp body p)
 |.au id=>.inBlock id
 |.scp p=>.inScope (gp body p)
def eqv:Exit->nP->Prop
 |.normal,.normal=>True
 |.exit a,.exit b=>a=b
 |.ret,.ret=>True
 |_,_=>False
def uT (P:Program)(its:List Item)(Q:Exit->Go.Act->World->Prop)(a:Go.Act)(w:World):Prop:=
 ∀(b:Frame) (k:List Item) (cs:List Frame),∃e a' w',Q e a' w'/\Arrives P (lone (b.at a (its++k)) cs w) b k cs e a' w'
def HS {R}(P:Program)(F:Fz)(ι:gX)(W:Wr)(t0:ξ)(fin:nP->Env->M R)(r:R×aj):Exit->Go.Act->World->Prop:=
 λe a w=>∃ae,eqv e ae/\XI P F ι W t0 (fin ae) r a w
def Sd (P:Program)(F:Fz)(ι:gX)(W:Wr)(t0:ξ)(ae:nP)(E':Env)(h1:aj):Exit->Go.Act->World->Prop:=
 λe a w=>eqv e ae/\∃ι',ι.le ι'/\Rel P F ι' h1 w/\kZ P ι' E' a.tmps/\a.defers=F.PR/\a.tmps.size=W.1/\DZ W t0 a.tmps
structure Start (P:Program) (F:Fz) (ι:gX) (W:Wr) (E:Env) (h:aj) (a:Go.Act) (w:World):Prop where
 rel:Rel P F ι h w
 env:kZ P ι E a.tmps
 defers:a.defers=F.PR
 size:a.tmps.size=W.1
def Qo (P:Program)(body:Code)(W:Wr)(p:Path)(E:Env):xe->Prop
 |.one _ m e out=>∀F h x h1,m h=some (x,h1)->∀ι w a,Start P F ι W E h a w->(gp body p).wp P (Sd P F ι W a.tmps e (out x) h1) a w
 |.two _ _ m e out e' out'=>(∀F h x h1,m h=some (.inl x,h1)->∀ι w a,Start P F ι W E h a w->(gp body p).wp P (Sd P F ι W a.tmps e (out x) h1) a w) /\
   (∀F h x h1,m h=some (.inr x,h1)->∀ι w a,Start P F ι W E h a w->(gp body p).wp P (Sd P F ι W a.tmps e' (out' x) h1) a w)
 |.none=>True
structure yU {R:Type} (P:Program) (body:Code) (T:Nh R) (W:Wr) (fin:nP->Env->M R):Prop where
 call:Az P T.call
 loop:∀p E,Qo P body W p E (T.loop p E)
 join:∀p k J,T.join p=some (k,J)->∀E m,J E=some m->∀F h r,m h=some r->∀ι w a,Start P F ι W E h a w->uT P (fZ body (.code p::k)) (HS P F ι W a.tmps fin r) a w
def uT.steps {its its'}{Q}{a a'}(hst:∀(b:Frame) (k:List Item) (cs:List Frame),Steps P (lone (b.at a (its++k)) cs w) (lone (b.at a' (its'++k)) cs w'))
  (hr:uT P its' Q a' w'):uT P its Q a w:=λb k cs=>
 let ⟨e,a2,w2,q,harr⟩:=hr b k cs
 ⟨e,a2,w2,q,.of_steps (hst b k cs) harr⟩
def uT.mono {its}{Q Q'}{a}(hr:uT P its Q a w)(hq:∀e a w,Q e a w->Q' e a w):uT P its Q' a w:=λb k cs=>
 let ⟨e,a2,w2,q,harr⟩:=hr b k cs
 ⟨e,a2,w2,hq _ _ _ q,harr⟩
def uT.code {c}{its}{Q}{a}(hc:c.wp P (λe a w=>e=.normal/\uT P its Q a w) a w):uT P (.code c::its) Q a w:=by
 intro b k cs;obtain⟨e,a1,w1,⟨rfl,hq⟩,harr⟩:=hc b (its++k) cs;obtain⟨e,a2,w2,q,harr2⟩:=hq b k cs;exact⟨e,a2,w2,q,.of_steps harr harr2⟩
theorem uu {id}:∀{its its'} k ,exitTo id its=some its'->exitTo id (its++k)=some (its'++k)
 |[],_,_,h=>by simp[exitTo] at h
 |x::its,its',k,h=>by
  cases x with
  |inBlock id'=>
   simp only[exitTo,abE] at h⊢;split at h
   .grind
   .rename_i e;rw[AT e];exact uu k h
  |_=>simp only[exitTo,abE] at h⊢;exact uu k h
theorem na {id}:∀{its} k ,exitTo id its=none->exitTo id (its++k)=exitTo id k
 |[],_,_=>rfl
 |x::its,k,h=>by
  cases x with
  |inBlock id'=>
   simp only[exitTo,abE] at h⊢;split at h
   .cases h
   .rename_i e;rw[AT e];exact na k h
  |_=>simp only[exitTo,abE] at h⊢;exact na k h
theorem wj body id:∀k ,exitTo id (fZ body k)=(tu id k).map (fZ body)
 |[]=>rfl
 |.code p::k=>by simp[fZ,ab4,exitTo,tu];exact wj body id k
 |.scp p::k=>by simp[fZ,ab4,exitTo,tu];exact wj body id k
 |.au id'::k=>by
  simp only[fZ,ab4,exitTo,tu];cases hb:Nat.beq id' id with
  |true=>grind [Nat.eq_of_beq_eq_true,fZ]
  |false=>
   have:id'≠id:=λe=>by simp_all
   rw[AT (by simpa using this)];exact wj body id k
theorem uT.exitCode {body}{id}{k}{Q}{a}{its}
  (hst:∀(b:Frame) (k0:List Item) (cs:List Frame) k',exitTo id (fZ body k++k0)=some k'->Steps P (lone (b.at a (its++k0)) cs w) (lone (b.at a k') cs w))
  (h1:∀k',tu id k=some k'->uT P (fZ body k') Q a w) (h2:tu id k=none->Q (.exit id) a w):uT P its Q a w:=by
 intro b k0 cs;have hs:=wj body id k;cases hp:tu id k with
 |some k'=>
  rw[hp] at hs;obtain⟨e,a2,w2,q,harr⟩:=h1 k' hp b k0 cs;exact⟨e,a2,w2,q,.of_steps (hst b k0 cs _ (uu k0 hs)) harr⟩
 |none=>
  rw[hp] at hs;refine⟨.exit id,a,w,h2 hp,λk' hk'=>hst b k0 cs k' ?_⟩
  grind [na]
theorem uT.Uy {body}{id}{k}{Q}{c}{a}
  (hc:c.wp P (λe a w=>e=.exit id/\(∀k',tu id k=some k'->uT P (fZ body k') Q a w)/\(tu id k=none->Q (.exit id) a w)) a w):uT P (.code c::fZ body k) Q a w:=by
 intro b k0 cs;obtain⟨e,a1,w1,⟨rfl,h1,h2⟩,harr⟩:=hc b (fZ body k++k0) cs;have hs:=wj body id k;cases hp:tu id k with
 |some k'=>
  rw[hp] at hs;obtain⟨e,a2,w2,q,harr2⟩:=h1 k' hp b k0 cs;exact⟨e,a2,w2,q,.of_steps (harr _ (uu k0 hs)) harr2⟩
 |none=>
  rw[hp] at hs;refine⟨.exit id,a1,w1,h2 hp,λk' hk'=>harr k' ?_⟩
  grind [na]
theorem uT.ab9 {its}{Q}{c}{a}(hc:c.wp P (λe a w=>e=.ret/\Q .ret a w) a w):uT P (.code c::its) Q a w:=by
 intro b k0 cs;obtain⟨e,a1,w1,⟨rfl,h1⟩,harr⟩:=hc b (its++k0) cs;exact⟨.ret,a1,w1,h1,harr⟩
theorem Qp:∀{k l},eqItems k l=true->k=l:=by
 have hp:∀{p q:Path},vZ p q=true->p=q:=by
  intro p
  induction p with
  |nil=>grind [vZ]
  |cons a p ih=>intro q hq;cases q with
   |nil=>simp[vZ] at hq
   |cons b q=>
    simp only[vZ,abi] at hq
    grind [Nat.eq_of_beq_eq_true]
 intro k
 induction k with
 |nil=>grind [eqItems]
 |cons x k ih=>intro l hl;cases l with
  |nil=>grind [eqItems]
  |cons y l=>
   cases x<;>cases y<;>simp only[eqItems,abi] at hl<;>first
    |(rw[hp hl.1,ih hl.2])
    |(rw[IT hl.1,ih hl.2])
    |(cases hl)
def XI.start {R}{F}{W}{t0}{K:Env->M R}{r}{a}(hn:XI P F ι W t0 K r a w) :
  ∃ι' E h,ι.le ι'/\K E h=some r/\Start P F ι' W E h a w/\DZ W t0 a.tmps:=
 let ⟨ι',E,h,q1,q2,q3,q4,q5,q6,q7⟩:=hn
 ⟨ι',E,h,q1,q2,⟨q3,q4,q5,q6⟩,q7⟩
theorem HS.trans {R}{F}{W}{t0 t1}{fin:nP->Env->M R}{r}(hle:ι.le ι')(hf:DZ W t0 t1) e a w
  (hp:HS P F ι' W t1 fin r e a w):HS P F ι W t0 fin r e a w:=by
 obtain⟨ae,h1,ι2,E,h,q1,q2,q3,q4,q5,q6,q7⟩:=hp;exact⟨ae,h1,ι2,E,h,hle.trans q1,q2,q3,q4,q5,q6,hf.trans q7⟩
theorem map_fst (l:η):(l.map λi=>(i,([]:η))).map (·.1)=l:=by
 rw[akr];have:((λx:Nat×η=>x.1)∘λi=>(i,([]:η)))=id:=rfl;rw[this,List.map_id]
theorem vV {R}{body}{T:Nh R}{W}{fin}(HT:yU P body T W fin) :
  ∀n j todo E F ι h r a w ,Start P F ι W E h a w ->
   den P body T W fin n j todo E h=some r->uT P (fZ body todo) (HS P F ι W a.tmps fin r) a w
 |0,j,todo,E,F,ι,h,r,a,w,S,hx=>by simp[den,AS] at hx
 |n+1,j,[],E,F,ι,h,r,a,w,S,hx=>λb k cs=>
  ⟨.normal,a,w,⟨.normal,trivial,ι,E,h,.refl _,hx,S.rel,S.env,S.defers,S.size,.refl _ _⟩,Steps.refl _ _⟩
 |n+1,j,.au id::k,E,F,ι,h,r,a,w,S,hx=>by
  have ih:=vV HT n true k E F ι h r a w S hx;exact ih.steps λb k0 cs=>.one step_inBlock
 |n+1,j,.scp p::k,E,F,ι,h,r,a,w,S,hx=>by
  have ih:=vV HT n true k E F ι h r a w S hx;exact ih.steps λb k0 cs=>.one step_inScope
 |n+1,j,.code p::k,E,F,ι,h,r,a,w,S,hx=>by
  have ih:=vV HT n;generalize hm:den P body T W fin (n+1) j (.code p::k) E=m at hx;unfold den at hm;have ops:∀{id:Nat} {ops:Array Oper} {draw:Bool},gp body p=.region id ops draw ->
    (gp body p).wp P (λe a' w'=>e=.normal/\XI P F ι W a.tmps (λE'=>den P body T W fin n true k E') r a' w') a w->uT P (fZ body (.code p::k)) (HS P F ι W a.tmps fin r) a w:=by
   intro id ops draw _ hwp;refine uT.code (wp_mono hwp ?_);rintro e a' w' ⟨rfl,hn⟩;obtain⟨ι',E',h',q1,q2,q3,q4⟩:=hn.start;exact⟨rfl,(ih true k E' F ι' h' r a' w' q3 q2).mono λe a w=>HS.trans q1 q4 e a w⟩
  have loopEnd:∀(ae:nP) (E':Env) (h1:aj),(gp body p).wp P (Sd P F ι W a.tmps ae E' h1) a w ->
    (∀id,ae=.exit id->(∀k',tu id k=some k'->den P body T W fin n true k' E' h1=some r)/\(tu id k=none->fin (.exit id) E' h1=some r)) ->
    (ae=.ret->fin .ret E' h1=some r)->(ae≠.normal)->uT P (fZ body (.code p::k)) (HS P F ι W a.tmps fin r) a w:=by
   intro ae E' h1 hwp hex hret hno;cases ae with
   |normal=>exact absurd rfl hno
   |exit id=>
    refine uT.Uy (id:=id) (wp_mono hwp ?_);rintro e a' w' ⟨he,ι',q1,q2,q3,q4,q5,q6⟩;cases e with
    |exit id'=>
     have:id'=id:=he;subst this;refine⟨rfl,λk' hk'=>?_,λhk'=>⟨.exit id',rfl,ι',E',h1,q1,(hex id' rfl).2 hk',q2,q3,q4,q5,q6⟩⟩;exact (ih true k' E' F ι' h1 r a' w' ⟨q2,q3,q4,q5⟩ ((hex id' rfl).1 k' hk')).mono λe a w=>HS.trans q1 q6 e a w
    |_=>exact he.elim
   |ret=>
    refine uT.ab9 (wp_mono hwp ?_);rintro e a' w' ⟨he,ι',q1,q2,q3,q4,q5,q6⟩;cases e with
    |ret=>exact⟨rfl,⟨.ret,trivial,ι',E',h1,q1,hret rfl,q2,q3,q4,q5,q6⟩⟩
    |_=>exact he.elim
  split at hm
  ·-- a place where ways meet
   rename_i k' J hj;split at hm
   .rename_i hk;have hk:=Qp hk;subst hk;split at hm
    .rename_i m0 hJ;subst hm;have hj':T.join p=some (k,J):=by
      grind
     exact HT.join p k J hj' E m0 hJ F h r hx ι w a S
    .subst hm;simp[AS] at hx
   .subst hm;simp[AS] at hx
  .split at hm
   ·-- skip
    rename_i hc;subst hm;refine (ih true k E F ι h r a w S hx).steps λb k0 cs=>?_;simp[fZ,ab4,hc,abE];exact .one step_skip
   .rename_i l hc;subst hm;refine (ih true k E F ι h r a w S hx).steps λb k0 cs=>?_;simp[fZ,ab4,hc,abE];exact .one step_label
   .rename_i x y hc;subst hm;refine (ih true _ E F ι h r a w S hx).steps λb k0 cs=>?_;simp[fZ,ab4,hc,abE];have e0:gp body (0::p)=x:=(by simp[gp,hc,child]);have e1:gp body (1::p)=y:=(by simp[gp,hc,child]);rw[e0,e1];exact .one step_seq
   ·-- cond
    rename_i c x y hc;have e0:gp body (0::p)=x:=(by simp[gp,hc,child]);have e1:gp body (1::p)=y:=(by simp[gp,hc,child]);split at hm
    .rename_i b hb;have hev:=(aK S.env hb).bool;unfold xz at hm;split at hm
     .rename_i e;subst e;subst hm;refine (ih true _ _ F ι h r a w ⟨S.rel,S.env.uE hb,S.defers,S.size⟩ hx).steps λb k0 cs=>?_;simp[fZ,ab4,hc,abE,e0];exact .one (step_cond hev)
     .rename_i e;have:b=false:=(by cases b<;>simp_all);subst this;subst hm;refine (ih true _ _ F ι h r a w ⟨S.rel,S.env.uE hb,S.defers,S.size⟩ hx).steps λb k0 cs=>?_;simp[fZ,ab4,hc,abE,e1];exact .one (step_cond hev)
    .subst hm;simp[AS] at hx
   .rename_i id c hc;subst hm;refine (ih true _ E F ι h r a w S hx).steps λb k0 cs=>?_;have e0:gp body (0::p)=c:=(by simp[gp,hc,child]);simp[fZ,ab4,hc,abE,e0];exact .one step_block
   ·-- scope
    rename_i c hc;subst hm;refine (ih true _ E F ι h r a w S hx).steps λb k0 cs=>?_;have e0:gp body (0::p)=c:=(by simp[gp,hc,child]);simp[fZ,ab4,hc,abE,e0];exact .one step_scope
   ·-- loop
    rename_i c hc;have hl:=HT.loop p E;split at hm
    .rename_i α m0 e out hT;rw[hT] at hl;subst hm;simp[sh] at hx;split at hx
     .rename_i x h1 hm0;refine loopEnd e (out x) h1 (hl F h x h1 hm0 ι w a S) ?_ ?_ ?_
      .rintro id rfl;simp at hx;refine⟨λk' hk'=>?_,λhk'=>?_⟩
       .rw[hk'] at hx;exact hx
       .rw[hk'] at hx;exact hx
      .rintro rfl;exact hx
      .rintro rfl;simp[AS] at hx
     .cases hx
    .rename_i α β m0 e out e' out' hT;rw[hT] at hl;subst hm;simp[sh] at hx;split at hx
     .rename_i x h1 hm0;cases x with
      |inl x=>
       simp[dU] at hx;refine loopEnd e (out x) h1 (hl.1 F h x h1 hm0 ι w a S) ?_ ?_ ?_
       .rintro id rfl;simp at hx;refine⟨λk' hk'=>?_,λhk'=>?_⟩
        .rw[hk'] at hx;exact hx
        .rw[hk'] at hx;exact hx
       .rintro rfl;exact hx
       .rintro rfl;simp[AS] at hx
      |inr x=>
       simp[dU] at hx;refine loopEnd e' (out' x) h1 (hl.2 F h x h1 hm0 ι w a S) ?_ ?_ ?_
       .rintro id rfl;simp at hx;refine⟨λk' hk'=>?_,λhk'=>?_⟩
        .rw[hk'] at hx;exact hx
        .rw[hk'] at hx;exact hx
       .rintro rfl;exact hx
       .rintro rfl;simp[AS] at hx
     .cases hx
    .subst hm;simp[AS] at hx
   ·-- exit
    rename_i id hc;refine uT.exitCode (body:=body) (id:=id) (k:=k) (λb k0 cs k' hk'=>?_) (λk' hk'=>?_) (λhk'=>?_)
    .simp[fZ,ab4,hc,abE];exact .one (step_exit hk')
    .rw[hk'] at hm;subst hm
     grind
    .rw[hk'] at hm;subst hm;exact⟨.exit id,rfl,ι,E,h,.refl _,hx,S.rel,S.env,S.defers,S.size,.refl _ _⟩
   .rename_i hc;subst hm;intro b k0 cs;simp[fZ,ab4,hc,abE];exact⟨.ret,a,w,⟨.ret,trivial,ι,E,h,.refl _,hx,S.rel,S.env,S.defers,S.size,.refl _ _⟩,_,.one step_ret⟩
   ·-- regions
    rename_i id os draw hc;split at hm
    ·-- that draw
     refine ops hc ?_;rw[hc];split at hm
     .rename_i l hl;split at hm
      .rename_i hok;have Iy:∀(nb:Nat) (h2:aj),Rel P F ι h2 w->jv P T.call W (some nb) os l E fT.emp (λ_=>none) (λE'=>den P body T W fin n true k E') h2=some r ->
         (Code.region id os true).wp P (λe a' w'=>e=.normal/\XI P F ι W a.tmps (λE'=>den P body T W fin n true k E') r a' w') a w:=by
        intro nb h2 R2 hx;refine wp_region_draw λt=>?_;have R3:Rel P F ι h2 { w with drawn:=w.drawn+1 }:=R2.of_heap rfl ⟨rfl,rfl⟩;exact Ux HT.call S.rel.EK (Q:=λe a' w'=>e=.normal/\XI P F ι W a.tmps (λE'=>den P body T W fin n true k E') r a' w') (λa w hn=>⟨rfl,hn⟩) hok t R3 S.env S.defers S.size (.refl _ _) hx
       split at hm
       .subst hm;simp[sh,Ago.eA] at hx;exact Iy _ _ (S.rel.eA _) hx
       .subst hm;exact Iy _ _ S.rel hx
      .subst hm;simp[AS] at hx
     .subst hm;simp[AS] at hx
    .subst hm;refine ops hc ?_;rw[hc];refine wp_region ?_;have:=D1 HT.call S.rel.EK (Q:=λe a' w'=>e=.normal/\XI P F ι W a.tmps (λE'=>den P body T W fin n true k E') r a' w') (λa w hn=>⟨rfl,hn⟩) _ E fT.emp (λ_=>none) F ι h a w S.rel S.env .emp S.defers S.size (.refl _ _) (.refl _) (.refl _) hx
     grind [map_fst]
   .subst hm;simp[AS] at hx
end Go.Ago
