
import Derived.Test.YtpojbnjkkkiccaaGreatDoorAgoH
set_option linter.all false
namespace Go.Ago
open Go
variable {P:Program}{ι ι':gO}{h h' h1:ai}{w w':World}
theorem sv {c}{Q Q'}(hq:∀e a w,e≠.normal->Q e a w->Q' e a w):∀n a w ,Code.rounds P c Q n a w->Code.rounds P c Q' n a w
 |0,_,_,h=>h
 |n+1,a,w,h=>wp_mono h λe a w he=>by
  cases e with
  |normal=>exact sv hq n a w he
  |_=>exact hq _ _ _ (by simp) he
def FC {R} ls (g:aV (lN ls)->M R)(E:Env):M R:=
 match tY E ls with
 |some vs=>(match yX (lN ls) vs with|some x=>g x|none=>AS)
 |none=>AS
theorem JN {R}{ls}{g:aV (lN ls)->M R}{E}{r}(hx:FC ls g E h=some r):∃x,tY E ls=some (fC (lN ls) x)/\g x h=some r:=by
 unfold FC at hx;generalize hg:tY E ls=o at hx;cases o with
 |none=>simp[AS] at hx
 |some vs=>
  simp at hx;generalize hu:yX (lN ls) vs=o at hx;cases o with
  |none=>simp[AS] at hx
  |some x=>grind [wD]
theorem FD {R}{body c}{p}{ls}{nt}{ws}{G:Nat->aV (lN ls)->M R}{fin:Nat->ov->Env->M R}{T:Nat->OM R}{N}
  (hc:fU body p=.loop c) (h0:∀x,G 0 x=AS)
  (hs:∀n x,den P body (T n) (nt,some ws) (fin n) N false [.code (0::p)] (zJ ls (fC (lN ls) x))=G (n+1) x)
  (hn:∀n E,fin n .normal E=FC ls (G n) E) :
  ∀n ,(∀m,m<n->zX P body (T m) (nt,some ws) (fin m))->∀x F h r ,G n x h=some r->∀ι w a ,Start P F ι (nt,some ws) (zJ ls (fC (lN ls) x)) h a w ->
   Code.rounds P c (λe a' w'=>∃m,JL P F ι (nt,some ws) a.tmps (fin m) r e a' w') n a w
 |0,_,x,F,h,r,hx,ι,w,a,S=>by rw[h0] at hx;simp[AS] at hx
 |n+1,hT,x,F,h,r,hx,ι,w,a,S=>by
  rw[<-hs] at hx;have hd:=wU (hT n (ais n)) N false [.code (0::p)] _ F ι h r a w S hx;have hcc:fU body (0::p)=c:=by grind [child,fU]
  intro b k cs;obtain⟨e,a',w',hpost,harr⟩:=hd b k cs;refine⟨e,a',w',?_,by grind [fP]⟩;cases e with
  |normal=>
   obtain⟨ae,heq,hnow⟩:=hpost
   .cases ae with
    |normal=>
     obtain⟨ι2,E2,h2,hle,hk,S2,hfr⟩:=hnow.start;rw[hn] at hk;obtain⟨x2,hg,hk⟩:=JN hk;have ih:=FD hc h0 hs hn n (λm hm=>hT m (Nat.lt_succ_of_lt hm)) x2 F h2 r hk ι2 w' a' ⟨S2.rel,za hg S2.env,S2.defers,S2.size⟩;refine sv (λe a w _ hq=>?_) n a' w' ih
     grind [JL.trans]
    |_=>exact heq.elim
  |_=>exact⟨n,hpost⟩
def GX (P:Program)(body:Code)(W:Wr)(e:OR):Prop:=∀E x,tY E e.ls=some (fC (lN e.ls) x)->RC P body W e.p E (e.act x)
def Ln (P:Program)(body:Code)(W:Wr):List OR->Prop
 |[]=>True
 |e::r=>GX P body W e/\Ln P body W r
theorem GY:∀{p q},xa p q=true->p=q
 |[],[],_=>rfl
 |[],_::_,h=>by cases h
 |_::_,[],h=>by cases h
 |a::p,b::q,h=>by
  simp only[xa,abw] at h;rw[IT h.1,GY h.2]
def JO {body}{W}:∀{l},Ln P body W l->∀p E,RC P body W p E (Jk l p E)
 |[],_,p,E=>trivial
 |e::r,hl,p,E=>by
  simp[Jk];split
  .rename_i hp;have:=GY hp;subst this;split
   .rename_i vs hg;split
    .rename_i x hu;exact hl.1 E x (by rw[hg,wD hu])
    .trivial
   .trivial
  .exact JO hl.2 p E
def FE {F}{W}{nt}{ws}{ls ms}{E E'}{x}{y}{a a':Go.Act}
  (hW:Jl W nt ws=true) (hg:tY E ls=some (fC (lN ls) x)) (S:Start P F ι W E h a w) (hg':tY E' ms=some (fC (lN ms) y))
  (hle:ι.le ι') (R':Rel P F ι' h1 w') (HE':lv P ι' E' a'.tmps) (hd:a'.defers=F.QZ) (hs:a'.tmps.size=nt) (hfr:Fw (nt,some ws) a.tmps a'.tmps) :
  ∃ι',ι.le ι'/\Rel P F ι' h1 w'/\lv P ι' (YJ ls ms ws x y) a'.tmps/\a'.defers=F.QZ/\a'.tmps.size=W.1/\Fw W a.tmps a'.tmps:=by
 unfold Jl at hW;rw[abw] at hW;have hnt:=IT hW.1;refine⟨ι',hle,R',?_,hd,by rw[hs,hnt],hfr.1,λl hl i hi=>?_⟩
 .intro j u hu;rcases Me hg' j u hu with h1|⟨h1,h2⟩
  .exact HE' j u h1
  .unfold aml at h1;cases hb:ws.any (Nat.beq j) with
   |true=>rw[hb] at h1;cases h1
   |false=>
    rw[hb] at h1;obtain⟨u',h3,h4⟩:=za hg S.env j u h1;exact⟨u',by rw[hfr.2 ws rfl _ hb];exact h3,h4.mono hle⟩
 .refine hfr.2 ws rfl i ?_
  simp_all
theorem adp {ms}{R}{E}{f:aV (lN ms)->R}{r}
  (hx:FC ms (λx=>AI (f x)) E h=some r):∃y,tY E ms=some (fC (lN ms) y)/\r=(f y,h):=by
 obtain⟨y,h1,h2⟩:=JN hx;simp[AI,acU] at h2
 grind
variable {body c:Code}{p:Path}{ls ms rs:List (Nat×Ty)}{nt id N:Nat}{ws:η}{e2:ov}
theorem Za {G:Nat->aV (lN ls)->M (aV (lN ms))}{T:Nat->OM (aV (lN ms))}(hc:fU body p=.loop c)(h0:∀x,G 0 x=AS)
  (hs:∀n x,den P body (T n) (nt,some ws) (OP ls ms id (G n)) N false [.code (0::p)] (zJ ls (fC (lN ls) x))=G (n+1) x)
  n (hT:∀m,m<n->zX P body (T m) (nt,some ws) (OP ls ms id (G m))) {W} (hW:Jl W nt ws=true) :
  GX P body W ⟨p,ls,agl ls ms ws id (G n)⟩:=by
 intro E x hg F h y h1 hx ι w a S;rw[hc];have hnt:W.1=nt:=by unfold Jl at hW;simp_all
 refine wp_loop_rounds n (sv (λe a' w' hne hq=>?_) n a w (FD hc h0 hs (λ_ _=>rfl) n hT x F h (y,h1) hx ι w a ⟨S.rel,za hg S.env,S.defers,by rw[S.size,hnt]⟩));obtain⟨m,hq⟩:=hq;obtain⟨ae,heq,ι',E',h',hle,hfin,R',HE',hd,hs',hfr⟩:=hq;cases ae with
 |normal=>cases e<;>first|exact absurd rfl hne|exact heq.elim
 |ret=>simp[OP,AS] at hfin
 |exit id'=>
  have hfin':id=id'/\FC ms (λx=>AI x) E' h'=some (y,h1):=by
   simp[OP] at hfin;generalize hb:Nat.beq id id'=b at hfin;generalize hgg:tY E' ms=o at hfin;cases b<;>cases o<;>simp only at hfin<;>try (simp[AS] at hfin;done)
   refine⟨IT hb,?_⟩;unfold FC;rw[hgg];exact hfin
  obtain⟨rfl,hfin'⟩:=hfin';obtain⟨y',hg',e1⟩:=adp hfin';cases e1;exact⟨heq,FE hW hg S hg' hle R' HE' hd hs' hfr⟩
theorem Zb {G:Nat->aV (lN ls)->M (aV (lN rs))}{T:Nat->OM (aV (lN rs))}(hc:fU body p=.loop c)(h0:∀x,G 0 x=AS)
  (hs:∀n x,den P body (T n) (nt,some ws) (TH ls rs (G n)) N false [.code (0::p)] (zJ ls (fC (lN ls) x))=G (n+1) x)
  n (hT:∀m,m<n->zX P body (T m) (nt,some ws) (TH ls rs (G m))) {W} (hW:Jl W nt ws=true) :
  GX P body W ⟨p,ls,agm ls rs ws (G n)⟩:=by
 intro E x hg F h y h1 hx ι w a S;rw[hc];have hnt:W.1=nt:=by unfold Jl at hW;simp_all
 refine wp_loop_rounds n (sv (λe a' w' hne hq=>?_) n a w (FD hc h0 hs (λ_ _=>rfl) n hT x F h (y,h1) hx ι w a ⟨S.rel,za hg S.env,S.defers,by rw[S.size,hnt]⟩));obtain⟨m,hq⟩:=hq;obtain⟨ae,heq,ι',E',h',hle,hfin,R',HE',hd,hs',hfr⟩:=hq;cases ae with
 |normal=>cases e<;>first|exact absurd rfl hne|exact heq.elim
 |exit id'=>simp[TH,AS] at hfin
 |ret=>
  obtain⟨y',hg',e1⟩:=adp (show FC rs (λx=>AI x) E' h'=some (y,h1) from hfin);cases e1;exact⟨heq,FE hW hg S hg' hle R' HE' hd hs' hfr⟩
def Zc {a b}(h:eqE a b=true):a=b:=by
 cases a<;>cases b<;>simp only[eqE] at h<;>first|rfl|(cases h;done)|simp_all
theorem Zd {G:Nat->aV (lN ls)->M (aV (lN ms)⊕aV (lN rs))}{T:Nat->OM (aV (lN ms)⊕aV (lN rs))}(hc:fU body p=.loop c)(h0:∀x,G 0 x=AS)
  (hs:∀n x,den P body (T n) (nt,some ws) (YI ls ms rs id e2 (G n)) N false [.code (0::p)] (zJ ls (fC (lN ls) x))=G (n+1) x)
  n (hT:∀m,m<n->zX P body (T m) (nt,some ws) (YI ls ms rs id e2 (G m))) {W} (hW:Jl W nt ws=true) :
  GX P body W ⟨p,ls,agn ls ms rs ws id e2 (G n)⟩:=by
 intro E x hg;have hnt:W.1=nt:=by unfold Jl at hW;simp_all
 have key:∀{F:Fz} {h:ai} {r h1},G n x h=some (r,h1)->∀ι w a,Start P F ι W E h a w ->
   Code.rounds P c (λe a' w'=>∃ι' E' h',ι.le ι'/\Rel P F ι' h' w'/\lv P ι' E' a'.tmps/\a'.defers=F.QZ/\a'.tmps.size=nt/\Fw (nt,some ws) a.tmps a'.tmps /\
    ((eqv e (.exit id)/\∃y,tY E' ms=some (fC (lN ms) y)/\r=.inl y/\h1=h')\/(eqv e e2/\∃y,tY E' rs=some (fC (lN rs) y)/\r=.inr y/\h1=h'))) n a w:=by
  intro F h r h1 hx ι w a S;refine sv (λe a' w' hne hq=>?_) n a w (FD hc h0 hs (λ_ _=>rfl) n hT x F h (r,h1) hx ι w a ⟨S.rel,za hg S.env,S.defers,by rw[S.size,hnt]⟩);obtain⟨m,hq⟩:=hq;obtain⟨ae,heq,ι',E',h',hle,hfin,R',HE',hd,hs',hfr⟩:=hq;refine⟨ι',E',h',hle,R',HE',hd,hs',hfr,?_⟩;have tail:∀ae,ae≠.normal->eqv e ae->(match eqE ae (.exit id) with
    |true=>FC ms (λx=>AI (Sum.inl x:aV (lN ms)⊕aV (lN rs))) E'
    |false=>(match eqE ae e2 with
     |true=>FC rs (λx=>AI (Sum.inr x:aV (lN ms)⊕aV (lN rs))) E'
     |false=>AS)) h'=some (r,h1)->((eqv e (.exit id)/\∃y,tY E' ms=some (fC (lN ms) y)/\r=.inl y/\h1=h')\/(eqv e e2/\∃y,tY E' rs=some (fC (lN rs) y)/\r=.inr y/\h1=h')):=by
   intro ae _ he2 hf2;cases h2:eqE ae (.exit id)<;>rw[h2] at hf2
   .cases h3:eqE ae e2<;>rw[h3] at hf2
    .simp[AS] at hf2
    .have:=Zc h3;subst this;obtain⟨y',hg',e1⟩:=adp hf2
     grind
   .have:=Zc h2;subst this;obtain⟨y',hg',e1⟩:=adp hf2
    grind
  cases ae with
  |normal=>cases e<;>first|exact absurd rfl hne|exact heq.elim
  |ret=>exact tail .ret (by simp) heq hfin
  |exit id'=>exact tail (.exit id') (by simp) heq hfin
 refine⟨λF h y h1 hx ι w a S=>?_,λF h y h1 hx ι w a S=>?_⟩<;>rw[hc]<;>refine wp_loop_rounds n (sv (λe a' w' hne hq=>?_) n a w (key hx ι w a S))
 .obtain⟨ι',E',h',hle,R',HE',hd,hs',hfr,⟨q0,y',q1,q2,q3⟩|⟨q0,y',q1,q2,q3⟩⟩:=hq
  .cases q2;subst q3;exact⟨q0,FE hW hg S q1 hle R' HE' hd hs' hfr⟩
  .cases q2
 .obtain⟨ι',E',h',hle,R',HE',hd,hs',hfr,⟨q0,y',q1,q2,q3⟩|⟨q0,y',q1,q2,q3⟩⟩:=hq
  .cases q2
  .cases q2;subst q3;exact⟨q0,FE hW hg S q1 hle R' HE' hd hs' hfr⟩
def Nr {R}(P:Program)(body:Code)(cl:List dh)(dl:List nH)(ms:List FuncId)(ll:List OR)(dr:Nat->Option (List (Nat×η)))(W:Wr)(fin:ov->Env->M R)(N:Nat):List (iB R)->Prop
 |[]=>True
 |e::r=>(∀x,den P body ⟨OQ cl dl ms,Jk ll,LY r,dr⟩ W fin N false (.code e.p::e.k) (zJ e.ls (fC (lN e.ls) x))=e.m x)/\Nr P body cl dl ms ll dr W fin N r
theorem Ua {R}{W}{cl}{dl}{ms}{ll}{dr}{fin:ov->Env->M R}{N}(hmo:FB cl ms)(h1:cV P cl)(hd:ni P dl)(h2:Ln P body W ll) :
  ∀{js},Nr P body cl dl ms ll dr W fin N js->zX P body ⟨OQ cl dl ms,Jk ll,LY js,dr⟩ W fin
 |[],_=>⟨PD h1 hd hmo,JO h2,λ_ _ _ h=>by cases h⟩
 |e::r,hj=>by
  have ih:=Ua hmo h1 hd h2 hj.2;refine⟨PD h1 hd hmo,JO h2,λp k J hp E m hJ F h r' hx ι w a S=>?_⟩;simp[LY] at hp;split at hp
  .rename_i he;have:=GY he;subst this;cases hp;unfold goJ at hJ;split at hJ
   .rename_i vs hg;split at hJ
    .rename_i x hu;cases hJ;have hgg:tY E e.ls=some (fC (lN e.ls) x):=(by rw[hg,wD hu]);rw[<-hj.1 x] at hx;exact wU ih N false _ _ F ι h r' a w ⟨S.rel,za hgg S.env,S.defers,S.size⟩ hx
    .cases hJ
   .cases hJ
  .exact ih.join p k J hp E m hJ F h r' hx ι w a S
def Nr.nil {R}{body}{cl}{dl}{ms}{ll}{dr}{W}{fin}{N}:Nr P body cl dl ms ll dr W fin N ([]:List (iB R)):=trivial
def Ln.nil {body}{W}:Ln P body W []:=trivial
theorem cV.cons {e}{r}(h:aC P e)(hr:cV P r):cV P (e::r):=⟨h,hr⟩
theorem ni.cons {e}{r}(h:RE P e)(hr:ni P r):ni P (e::r):=⟨h,hr⟩
def ni.nil:ni P []:=trivial
theorem PB.cons {as rs}{e:DTg as rs}{r}(h:aij P e)(hr:PB P r):PB P (e::r):=⟨h,hr⟩
def PB.nil {as rs}:PB P ([]:List (DTg as rs)):=trivial
def cV.nil:cV P []:=trivial
theorem eE {e} fn (hf : P.funcs[e.id]? = some fn := by kernel_rfl) (hb : fn.body.isNone = false := by kernel_rfl) (hn : (fn.name == "runtime.NumGoroutine") = false := by kernel_rfl) (h0 : ∀x, e.m x = AS := by intro x; kernel_rfl) : aC P e :=by
 intro x;refine iw.of (λargs w=>iN hf hb hn args w) ?_;intro F h y h1 hx;simp[h0,AS] at hx
structure Yr {R:Type} (P:Program) (body:Code) (W:Wr) (cl:List dh) (dl:List nH) (mo:List FuncId) (ll:List OR) (js:List (iB R)) (dr:Nat->Option (List (Nat×η))) (fin:ov->Env->M R):Prop where
 hm:FB cl mo
 c:cV P cl
 d:ni P dl
 l:Ln P body W ll
 j:Nr P body cl dl mo ll dr W fin 400 js
def Yr.ok {R}{body}{W}{cl}{dl}{mo}{ll}{js:List (iB R)}{dr}{fin}(t:Yr P body W cl dl mo ll js dr fin) :
  zX P body ⟨OQ cl dl mo,Jk ll,LY js,dr⟩ W fin:=Ua t.hm t.c t.d t.l t.j
@[reducible] def FT (R:Type):List Ty->Type
 |[]=>R
 |[t]=>t.den->R
 |t::t'::ts=>t.den->FT R (t'::ts)
def uc {R}:(ts:List Ty)->FT R ts->aV ts->R
 |[],f,_=>f
 |[_],f,x=>f x
 |_::t::ts,f,x=>uc (t::ts) (f x.1) x.2
abbrev eN (id:FuncId) as rs (f:FT (M (aV rs)) as):dh:=⟨id,as,rs,uc as f⟩
abbrev dN t as rs (f:ξ->FT (M (aV rs)) as):=nH.mk t as rs λx=>uc as (f x)
abbrev jN {R} p k ls (f:FT (M R) (lN ls)):=iB.mk p k ls (uc _ f)
structure LL where
 p:Path
 ls:List (Nat×Ty)
 ws:η
 R:Type
 fin:(aV (lN ls)->M R)->ov->Env->M R
 act:(aV (lN ls)->M R)->aV (lN ls)->xZ
 g:Nat->FT (M R) (lN ls)
 ok:∀{P body c nt} {T:Nat->OM R} {N},fU body p=.loop c->(∀x,uc _ (g 0) x=AS) ->
  (∀n x,den P body (T n) (nt,some ws) (fin (uc _ (g n))) N false [.code (0::p)] (zJ ls (fC (lN ls) x))=uc _ (g (n+1)) x) ->
  ∀n,(∀m,m<n->zX P body (T m) (nt,some ws) (fin (uc _ (g m))))->∀W,Jl W nt ws=true->GX P body W ⟨p,ls,act (uc _ (g n))⟩
abbrev L1 p ls ms ws id g:=LL.mk p ls ws _ (OP ls ms id) (agl ls ms ws id) g λhc h0 hs n hT _ hW=>Za hc h0 hs n hT hW
abbrev Lr p ls rs ws g:=LL.mk p ls ws _ (TH ls rs) (agm ls rs ws) g λhc h0 hs n hT _ hW=>Zb hc h0 hs n hT hW
abbrev L2 p ls ms rs ws id e2 g:=LL.mk p ls ws _ (YI ls ms rs id e2) (agn ls ms rs ws id e2) g λhc h0 hs n hT _ hW=>Zd hc h0 hs n hT hW
abbrev LL.e (s:LL) n:=OR.mk s.p s.ls (s.act (uc _ (s.g n)))
def LOK (P:Program)(fn:Func)(l:OR)(ws:η):Prop:=∀(W:Wr),Jl W fn.ntmps ws=true->GX P (xc fn) W l
def Ln.cc {fn}{W}{e}{r}{ws}(h:LOK P fn e ws)(hr:Ln P (xc fn) W r)(hw:Jl W fn.ntmps ws=true:=by kernel_rfl):Ln P (xc fn) W (e::r):=⟨h W hw,hr⟩
abbrev dF {R}(P:Program) fn cl dl mo ll (js:List (iB R)) dr W fin k E:=den P (xc fn) ⟨OQ cl dl mo,Jk ll,LY js,dr⟩ W fin 400 false k E
def Nr.cc {R}{fn}{cl}{dl}{ms}{ll}{dr}{W}{fin:ov->Env->M R}{e}{r}
  (hr:Nr P (xc fn) cl dl ms ll dr W fin 400 r) (h:∀x,dF P fn cl dl ms ll r dr W fin (.code e.p::e.k) (zJ e.ls (fC (lN e.ls) x))=e.m x:=by intro x;kernel_rfl):Nr P (xc fn) cl dl ms ll dr W fin 400 (e::r):=⟨h,hr⟩
def LL.k (s:LL) P fn n {ct:Nat->List dh}{mo}{dt:Nat->List nH}{lt:Nat->List OR}(dr:Nat->Option (List (Nat×η)):=λ_=>none)(jt:Nat->List (iB s.R):=λ_=>[])
  (hT:∀m,m<n->Yr P (xc fn) (fn.ntmps,some s.ws) (ct m) (dt m) mo (lt m) (jt m) dr (s.fin (uc _ (s.g m))))
  (hc:fU (xc fn) s.p=.loop (child (fU (xc fn) s.p) 0):=by kernel_rfl) (h0:∀x,uc _ (s.g 0) x=AS:=by intro x;kernel_rfl)
  (hs:∀n x,dF P fn (ct n) (dt n) mo (lt n) (jt n) dr (fn.ntmps,some s.ws) (s.fin (uc _ (s.g n))) [.code (0::s.p)] (zJ s.ls (fC (lN s.ls) x))=uc _ (s.g (n+1)) x:=by intro n x;kernel_rfl) :
  LOK P fn (s.e n) s.ws:=s.ok hc h0 hs n λm hm=>(hT m hm).ok
def adq:Nat->List Ty->List (Nat×Ty)
 |_,[]=>[]
 |i,t::ts=>(i,t)::adq (i+1) ts
def PE:∀i ts ,(adq i ts).map (·.1)=List.range' i ts.length
 |i,[]=>rfl
 |i,t::ts=>by rw[adq,acW,abK,aoP,PE (i+1) ts]
def aR {e} fn {cl mo dl ll}(js:List (iB (aV e.rs)):=[])(dr:Nat->Option (List (Nat×η)):=λ_=>none)
  (hT:Yr P (xc fn) (fn.ntmps,none) cl dl mo ll js dr (YH P fn e.rs))
  (hf : P.funcs[e.id]? = some fn := by kernel_rfl) (hb : fn.body = some (xc fn) := by kernel_rfl) (hn : (fn.name == "runtime.NumGoroutine") = false := by kernel_rfl) (hnt : Nat.ble e.as.length fn.ntmps = true := by kernel_rfl)
  (hg:∀x,dF P fn cl dl mo ll js dr (fn.ntmps,none) (YH P fn e.rs) [.code []] (zJ (adq 0 e.as) (fC e.as x))=e.m x:=by intro x;kernel_rfl):aC P e:=
 amp hf hb hn (PE 0 e.as) hnt hT.ok hg
def Hy (Q:Nat->Prop)(n:Nat):Prop:=∀m,m<=n->Q m
def Hy.s {Q n}(h:Hy Q n):Q n:=h n (abi n)
def Hy.d {Q n}(h:Hy Q n){m}(hm:m<n):Hy Q m:=λk hk=>h k (by omega)
def FF {Q:Nat->Prop}(h0:Q 0)(hs:∀k,Hy Q k->Q (k+1)) n:Q n:=by
 induction n using Nat.strongRecOn with
 |_ k ih=>cases k with
  |zero=>exact h0
  |succ k=>exact hs k λm hm=>ih m (by omega)
def dY:Nat->Nat->η
 |0,_=>[]
 |f+1,x=>cond (Nat.beq x 0) [] ((x%1000-1)::dY f (x/1000))
def dR (l:List (Nat×η))(i:Nat):Option (List (Nat×η)):=
 match l with
 |[]=>none
 |(j,o)::r=>cond (Nat.beq i j) (some (o.map λx=>(x%1000,dY 99 (x/1000)))) (dR r i)
def Yr.m2 {R}{body}{W}{cl}{ll}{dr}{fin}(c:cV P cl)(l:Ln P body W ll):Yr P body W cl [] [] ll ([]:List (iB R)) dr fin:=⟨.nil,c,.nil,l,.nil⟩
def Yr.m3 {R}{body}{W}{cl}{js:List (iB R)}{dr}{fin}(c:cV P cl)(j:Nr P body cl [] [] [] dr W fin 400 js):Yr P body W cl [] [] [] js dr fin:=⟨.nil,c,.nil,.nil,j⟩
def Yr.m1 {R}{body}{W}{cl}{dr}{fin}(c:cV P cl):Yr P body W cl [] [] [] ([]:List (iB R)) dr fin:=⟨.nil,c,.nil,.nil,.nil⟩
def apd:(as cs:List Ty)->aV as->aV cs->aV (as++cs)
 |[],_,_,c=>c
 |[_],[],a,_=>a
 |[_],_::_,a,c=>(a,c)
 |_::t::as,cs,a,c=>(a.1,apd (t::as) cs a.2 c)
def Ze:∀as cs a c,fC (as++cs) (apd as cs a c)=fC as a++fC cs c
 |[],_,_,c=>rfl
 |[_],[],a,_=>rfl
 |[_],_::_,a,c=>rfl
 |t::t'::as,cs,a,c=>alZ (GH t a.1::·) (Ze (t'::as) cs a.2 c)
def ke {as rs id} cs {m:aV (as++cs)->M (aV rs)}(h:aC P ⟨id,as++cs,rs,m⟩):aij P (as:=as) (rs:=rs) ⟨id,cs,λa c=>m (apd as cs a c)⟩:=λa c=>PA (Ze as cs a c) (h _)
end Go.Ago
