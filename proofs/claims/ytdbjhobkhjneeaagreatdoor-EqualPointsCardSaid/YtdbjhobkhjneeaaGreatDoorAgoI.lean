
import Derived.Test.YtdbjhobkhjneeaaGreatDoorAgoH
set_option linter.all false
namespace Go.Ago
open Go
variable {P:Program}{ι ι':gX}{h h' h1:aj}{w w':World}
theorem rA {c}{Q Q'}(hq:∀e a w,e≠.normal->Q e a w->Q' e a w):∀n a w ,Code.rounds P c Q n a w->Code.rounds P c Q' n a w
 |0,_,_,h=>h
 |n+1,a,w,h=>wp_mono h λe a w he=>by
  cases e with
  |normal=>exact rA hq n a w he
  |_=>exact hq _ _ _ (by simp) he
def D4 {R} ls (g:aY (lH ls)->M R)(E:Env):M R:=
 match s6 E ls with
 |some vs=>(match xX (lH ls) vs with|some x=>g x|none=>AS)
 |none=>AS
theorem HU {R}{ls}{g:aY (lH ls)->M R}{E}{r}(hx:D4 ls g E h=some r):∃x,s6 E ls=some (fS (lH ls) x)/\g x h=some r:=by
 unfold D4 at hx;generalize hg:s6 E ls=o at hx;cases o with
 |none=>simp[AS] at hx
 |some vs=>
  simp at hx;generalize hu:xX (lH ls) vs=o at hx;cases o with
  |none=>simp[AS] at hx
  |some x=>grind [vB]
theorem D5 {R}{body c}{p}{ls}{nt}{ws}{G:Nat->aY (lH ls)->M R}{fin:Nat->nP->Env->M R}{T:Nat->Nh R}{N}
  (hc:gp body p=.loop c) (h0:∀x,G 0 x=AS)
  (hs:∀n x,den P body (T n) (nt,some ws) (fin n) N false [.code (0::p)] (yG ls (fS (lH ls) x))=G (n+1) x)
  (hn:∀n E,fin n .normal E=D4 ls (G n) E) :
  ∀n ,(∀m,m<n->yU P body (T m) (nt,some ws) (fin m))->∀x F h r ,G n x h=some r->∀ι w a ,Start P F ι (nt,some ws) (yG ls (fS (lH ls) x)) h a w ->
   Code.rounds P c (λe a' w'=>∃m,HS P F ι (nt,some ws) a.tmps (fin m) r e a' w') n a w
 |0,_,x,F,h,r,hx,ι,w,a,S=>by rw[h0] at hx;simp[AS] at hx
 |n+1,hT,x,F,h,r,hx,ι,w,a,S=>by
  rw[<-hs] at hx;have hd:=vV (hT n (agS n)) N false [.code (0::p)] _ F ι h r a w S hx;have hcc:gp body (0::p)=c:=by grind [child,gp]
  intro b k cs;obtain⟨e,a',w',hpost,harr⟩:=hd b k cs;refine⟨e,a',w',?_,by grind [fZ]⟩;cases e with
  |normal=>
   obtain⟨ae,heq,hnow⟩:=hpost
   .cases ae with
    |normal=>
     obtain⟨ι2,E2,h2,hle,hk,S2,hfr⟩:=hnow.start;rw[hn] at hk;obtain⟨x2,hg,hk⟩:=HU hk;have ih:=D5 hc h0 hs hn n (λm hm=>hT m (Nat.lt_succ_of_lt hm)) x2 F h2 r hk ι2 w' a' ⟨S2.rel,yf hg S2.env,S2.defers,S2.size⟩;refine rA (λe a w _ hq=>?_) n a' w' ih
     grind [HS.trans]
    |_=>exact heq.elim
  |_=>exact⟨n,hpost⟩
def EV (P:Program)(body:Code)(W:Wr)(e:Np):Prop:=∀E x,s6 E e.ls=some (fS (lH e.ls) x)->Qo P body W e.p E (e.act x)
def Jp (P:Program)(body:Code)(W:Wr):List Np->Prop
 |[]=>True
 |e::r=>EV P body W e/\Jp P body W r
theorem EW:∀{p q},vZ p q=true->p=q
 |[],[],_=>rfl
 |[],_::_,h=>by cases h
 |_::_,[],h=>by cases h
 |a::p,b::q,h=>by
  simp only[vZ,abi] at h;rw[IT h.1,EW h.2]
def HV {body}{W}:∀{l},Jp P body W l->∀p E,Qo P body W p E (Hk l p E)
 |[],_,p,E=>trivial
 |e::r,hl,p,E=>by
  simp[Hk];split
  .rename_i hp;have:=EW hp;subst this;split
   .rename_i vs hg;split
    .rename_i x hu;exact hl.1 E x (by rw[hg,vB hu])
    .trivial
   .trivial
  .exact HV hl.2 p E
def D6 {F}{W}{nt}{ws}{ls ms}{E E'}{x}{y}{a a':Go.Act}
  (hW:Hl W nt ws=true) (hg:s6 E ls=some (fS (lH ls) x)) (S:Start P F ι W E h a w) (hg':s6 E' ms=some (fS (lH ms) y))
  (hle:ι.le ι') (R':Rel P F ι' h1 w') (HE':kZ P ι' E' a'.tmps) (hd:a'.defers=F.PR) (hs:a'.tmps.size=nt) (hfr:DZ (nt,some ws) a.tmps a'.tmps) :
  ∃ι',ι.le ι'/\Rel P F ι' h1 w'/\kZ P ι' (Xs ls ms ws x y) a'.tmps/\a'.defers=F.PR/\a'.tmps.size=W.1/\DZ W a.tmps a'.tmps:=by
 unfold Hl at hW;rw[abi] at hW;have hnt:=IT hW.1;refine⟨ι',hle,R',?_,hd,by rw[hs,hnt],hfr.1,λl hl i hi=>?_⟩
 .intro j u hu;rcases J8 hg' j u hu with h1|⟨h1,h2⟩
  .exact HE' j u h1
  .unfold akQ at h1;cases hb:ws.any (Nat.beq j) with
   |true=>rw[hb] at h1;cases h1
   |false=>
    rw[hb] at h1;obtain⟨u',h3,h4⟩:=yf hg S.env j u h1;exact⟨u',by rw[hfr.2 ws rfl _ hb];exact h3,h4.mono hle⟩
 .refine hfr.2 ws rfl i ?_
  simp_all
theorem aca {ms}{R}{E}{f:aY (lH ms)->R}{r}
  (hx:D4 ms (λx=>AI (f x)) E h=some r):∃y,s6 E ms=some (fS (lH ms) y)/\r=(f y,h):=by
 obtain⟨y,h1,h2⟩:=HU hx;simp[AI,abH] at h2
 grind
variable {body c:Code}{p:Path}{ls ms rs:List (Nat×Ty)}{nt id N:Nat}{ws:η}{e2:nP}
theorem XT {G:Nat->aY (lH ls)->M (aY (lH ms))}{T:Nat->Nh (aY (lH ms))}(hc:gp body p=.loop c)(h0:∀x,G 0 x=AS)
  (hs:∀n x,den P body (T n) (nt,some ws) (Nk ls ms id (G n)) N false [.code (0::p)] (yG ls (fS (lH ls) x))=G (n+1) x)
  n (hT:∀m,m<n->yU P body (T m) (nt,some ws) (Nk ls ms id (G m))) {W} (hW:Hl W nt ws=true) :
  EV P body W ⟨p,ls,aeS ls ms ws id (G n)⟩:=by
 intro E x hg F h y h1 hx ι w a S;rw[hc];have hnt:W.1=nt:=by unfold Hl at hW;simp_all
 refine wp_loop_rounds n (rA (λe a' w' hne hq=>?_) n a w (D5 hc h0 hs (λ_ _=>rfl) n hT x F h (y,h1) hx ι w a ⟨S.rel,yf hg S.env,S.defers,by rw[S.size,hnt]⟩));obtain⟨m,hq⟩:=hq;obtain⟨ae,heq,ι',E',h',hle,hfin,R',HE',hd,hs',hfr⟩:=hq;cases ae with
 |normal=>cases e<;>first|exact absurd rfl hne|exact heq.elim
 |ret=>simp[Nk,AS] at hfin
 |exit id'=>
  have hfin':id=id'/\D4 ms (λx=>AI x) E' h'=some (y,h1):=by
   simp[Nk] at hfin;generalize hb:Nat.beq id id'=b at hfin;generalize hgg:s6 E' ms=o at hfin;cases b<;>cases o<;>simp only at hfin<;>try (simp[AS] at hfin;done)
   refine⟨IT hb,?_⟩;unfold D4;rw[hgg];exact hfin
  obtain⟨rfl,hfin'⟩:=hfin';obtain⟨y',hg',e1⟩:=aca hfin';cases e1;exact⟨heq,D6 hW hg S hg' hle R' HE' hd hs' hfr⟩
theorem XU {G:Nat->aY (lH ls)->M (aY (lH rs))}{T:Nat->Nh (aY (lH rs))}(hc:gp body p=.loop c)(h0:∀x,G 0 x=AS)
  (hs:∀n x,den P body (T n) (nt,some ws) (RQ ls rs (G n)) N false [.code (0::p)] (yG ls (fS (lH ls) x))=G (n+1) x)
  n (hT:∀m,m<n->yU P body (T m) (nt,some ws) (RQ ls rs (G m))) {W} (hW:Hl W nt ws=true) :
  EV P body W ⟨p,ls,aeT ls rs ws (G n)⟩:=by
 intro E x hg F h y h1 hx ι w a S;rw[hc];have hnt:W.1=nt:=by unfold Hl at hW;simp_all
 refine wp_loop_rounds n (rA (λe a' w' hne hq=>?_) n a w (D5 hc h0 hs (λ_ _=>rfl) n hT x F h (y,h1) hx ι w a ⟨S.rel,yf hg S.env,S.defers,by rw[S.size,hnt]⟩));obtain⟨m,hq⟩:=hq;obtain⟨ae,heq,ι',E',h',hle,hfin,R',HE',hd,hs',hfr⟩:=hq;cases ae with
 |normal=>cases e<;>first|exact absurd rfl hne|exact heq.elim
 |exit id'=>simp[RQ,AS] at hfin
 |ret=>
  obtain⟨y',hg',e1⟩:=aca (show D4 rs (λx=>AI x) E' h'=some (y,h1) from hfin);cases e1;exact⟨heq,D6 hW hg S hg' hle R' HE' hd hs' hfr⟩
def XV {a b}(h:eqE a b=true):a=b:=by
 cases a<;>cases b<;>simp only[eqE] at h<;>first|rfl|(cases h;done)|simp_all
theorem XW {G:Nat->aY (lH ls)->M (aY (lH ms)⊕aY (lH rs))}{T:Nat->Nh (aY (lH ms)⊕aY (lH rs))}(hc:gp body p=.loop c)(h0:∀x,G 0 x=AS)
  (hs:∀n x,den P body (T n) (nt,some ws) (Xr ls ms rs id e2 (G n)) N false [.code (0::p)] (yG ls (fS (lH ls) x))=G (n+1) x)
  n (hT:∀m,m<n->yU P body (T m) (nt,some ws) (Xr ls ms rs id e2 (G m))) {W} (hW:Hl W nt ws=true) :
  EV P body W ⟨p,ls,aeU ls ms rs ws id e2 (G n)⟩:=by
 intro E x hg;have hnt:W.1=nt:=by unfold Hl at hW;simp_all
 have key:∀{F:Fz} {h:aj} {r h1},G n x h=some (r,h1)->∀ι w a,Start P F ι W E h a w ->
   Code.rounds P c (λe a' w'=>∃ι' E' h',ι.le ι'/\Rel P F ι' h' w'/\kZ P ι' E' a'.tmps/\a'.defers=F.PR/\a'.tmps.size=nt/\DZ (nt,some ws) a.tmps a'.tmps /\
    ((eqv e (.exit id)/\∃y,s6 E' ms=some (fS (lH ms) y)/\r=.inl y/\h1=h')\/(eqv e e2/\∃y,s6 E' rs=some (fS (lH rs) y)/\r=.inr y/\h1=h'))) n a w:=by
  intro F h r h1 hx ι w a S;refine rA (λe a' w' hne hq=>?_) n a w (D5 hc h0 hs (λ_ _=>rfl) n hT x F h (r,h1) hx ι w a ⟨S.rel,yf hg S.env,S.defers,by rw[S.size,hnt]⟩);obtain⟨m,hq⟩:=hq;obtain⟨ae,heq,ι',E',h',hle,hfin,R',HE',hd,hs',hfr⟩:=hq;refine⟨ι',E',h',hle,R',HE',hd,hs',hfr,?_⟩;have tail:∀ae,ae≠.normal->eqv e ae->(match eqE ae (.exit id) with
    |true=>D4 ms (λx=>AI (Sum.inl x:aY (lH ms)⊕aY (lH rs))) E'
    |false=>(match eqE ae e2 with
     |true=>D4 rs (λx=>AI (Sum.inr x:aY (lH ms)⊕aY (lH rs))) E'
     |false=>AS)) h'=some (r,h1)->((eqv e (.exit id)/\∃y,s6 E' ms=some (fS (lH ms) y)/\r=.inl y/\h1=h')\/(eqv e e2/\∃y,s6 E' rs=some (fS (lH rs) y)/\r=.inr y/\h1=h')):=by
   intro ae _ he2 hf2;cases h2:eqE ae (.exit id)<;>rw[h2] at hf2
   .cases h3:eqE ae e2<;>rw[h3] at hf2
    .simp[AS] at hf2
    .have:=XV h3;subst this;obtain⟨y',hg',e1⟩:=aca hf2
     grind
   .have:=XV h2;subst this;obtain⟨y',hg',e1⟩:=aca hf2
    grind
  cases ae with
  |normal=>cases e<;>first|exact absurd rfl hne|exact heq.elim
  |ret=>exact tail .ret (by simp) heq hfin
  |exit id'=>exact tail (.exit id') (by simp) heq hfin
 refine⟨λF h y h1 hx ι w a S=>?_,λF h y h1 hx ι w a S=>?_⟩<;>rw[hc]<;>refine wp_loop_rounds n (rA (λe a' w' hne hq=>?_) n a w (key hx ι w a S))
 .obtain⟨ι',E',h',hle,R',HE',hd,hs',hfr,⟨q0,y',q1,q2,q3⟩|⟨q0,y',q1,q2,q3⟩⟩:=hq
  .cases q2;subst q3;exact⟨q0,D6 hW hg S q1 hle R' HE' hd hs' hfr⟩
  .cases q2
 .obtain⟨ι',E',h',hle,R',HE',hd,hs',hfr,⟨q0,y',q1,q2,q3⟩|⟨q0,y',q1,q2,q3⟩⟩:=hq
  .cases q2
  .cases q2;subst q3;exact⟨q0,D6 hW hg S q1 hle R' HE' hd hs' hfr⟩
def Ly {R}(P:Program)(body:Code)(cl:List dV)(dl:List rF)(ms:List FuncId)(ll:List Np)(dr:Nat->Option (List (Nat×η)))(W:Wr)(fin:nP->Env->M R)(N:Nat):List (iU R)->Prop
 |[]=>True
 |e::r=>(∀x,den P body ⟨Nn cl dl ms,Hk ll,JT r,dr⟩ W fin N false (.code e.p::e.k) (yG e.ls (fS (lH e.ls) x))=e.m x)/\Ly P body cl dl ms ll dr W fin N r
theorem Se {R}{W}{cl}{dl}{ms}{ll}{dr}{fin:nP->Env->M R}{N}(hmo:N9 cl ms)(h1:eY P cl)(hd:qU P dl)(h2:Jp P body W ll) :
  ∀{js},Ly P body cl dl ms ll dr W fin N js->yU P body ⟨Nn cl dl ms,Hk ll,JT js,dr⟩ W fin
 |[],_=>⟨Oa h1 hd hmo,HV h2,λ_ _ _ h=>by cases h⟩
 |e::r,hj=>by
  have ih:=Se hmo h1 hd h2 hj.2;refine⟨Oa h1 hd hmo,HV h2,λp k J hp E m hJ F h r' hx ι w a S=>?_⟩;simp[JT] at hp;split at hp
  .rename_i he;have:=EW he;subst this;cases hp;unfold goJ at hJ;split at hJ
   .rename_i vs hg;split at hJ
    .rename_i x hu;cases hJ;have hgg:s6 E e.ls=some (fS (lH e.ls) x):=(by rw[hg,vB hu]);rw[<-hj.1 x] at hx;exact vV ih N false _ _ F ι h r' a w ⟨S.rel,yf hgg S.env,S.defers,S.size⟩ hx
    .cases hJ
   .cases hJ
  .exact ih.join p k J hp E m hJ F h r' hx ι w a S
def Ly.nil {R}{body}{cl}{dl}{ms}{ll}{dr}{W}{fin}{N}:Ly P body cl dl ms ll dr W fin N ([]:List (iU R)):=trivial
def Jp.nil {body}{W}:Jp P body W []:=trivial
theorem eY.cons {e}{r}(h:aH P e)(hr:eY P r):eY P (e::r):=⟨h,hr⟩
theorem qU.cons {e}{r}(h:Qq P e)(hr:qU P r):qU P (e::r):=⟨h,hr⟩
def qU.nil:qU P []:=trivial
theorem N7.cons {as rs}{e:DTg as rs}{r}(h:agJ P e)(hr:N7 P r):N7 P (e::r):=⟨h,hr⟩
def N7.nil {as rs}:N7 P ([]:List (DTg as rs)):=trivial
def eY.nil:eY P []:=trivial
theorem gM {e} fn (hf : P.funcs[e.id]? = some fn := by kernel_rfl) (hb : fn.body.isNone = false := by kernel_rfl) (hn : (fn.name == "runtime.NumGoroutine") = false := by kernel_rfl) (h0 : ∀x, e.m x = AS := by intro x; kernel_rfl) : aH P e :=by
 intro x;refine iH.of (λargs w=>iV hf hb hn args w) ?_;intro F h y h1 hx;simp[h0,AS] at hx
structure Xb {R:Type} (P:Program) (body:Code) (W:Wr) (cl:List dV) (dl:List rF) (mo:List FuncId) (ll:List Np) (js:List (iU R)) (dr:Nat->Option (List (Nat×η))) (fin:nP->Env->M R):Prop where
 hm:N9 cl mo
 c:eY P cl
 d:qU P dl
 l:Jp P body W ll
 j:Ly P body cl dl mo ll dr W fin 400 js
def Xb.ok {R}{body}{W}{cl}{dl}{mo}{ll}{js:List (iU R)}{dr}{fin}(t:Xb P body W cl dl mo ll js dr fin) :
  yU P body ⟨Nn cl dl mo,Hk ll,JT js,dr⟩ W fin:=Se t.hm t.c t.d t.l t.j
@[reducible] def FT (R:Type):List Ty->Type
 |[]=>R
 |[t]=>t.den->R
 |t::t'::ts=>t.den->FT R (t'::ts)
def uc {R}:(ts:List Ty)->FT R ts->aY ts->R
 |[],f,_=>f
 |[_],f,x=>f x
 |_::t::ts,f,x=>uc (t::ts) (f x.1) x.2
abbrev eN (id:FuncId) as rs (f:FT (M (aY rs)) as):dV:=⟨id,as,rs,uc as f⟩
abbrev dN t as rs (f:ο->FT (M (aY rs)) as):=rF.mk t as rs λx=>uc as (f x)
abbrev jN {R} p k ls (f:FT (M R) (lH ls)):=iU.mk p k ls (uc _ f)
structure LL where
 p:Path
 ls:List (Nat×Ty)
 ws:η
 R:Type
 fin:(aY (lH ls)->M R)->nP->Env->M R
 act:(aY (lH ls)->M R)->aY (lH ls)->xe
 g:Nat->FT (M R) (lH ls)
 ok:∀{P body c nt} {T:Nat->Nh R} {N},gp body p=.loop c->(∀x,uc _ (g 0) x=AS) ->
  (∀n x,den P body (T n) (nt,some ws) (fin (uc _ (g n))) N false [.code (0::p)] (yG ls (fS (lH ls) x))=uc _ (g (n+1)) x) ->
  ∀n,(∀m,m<n->yU P body (T m) (nt,some ws) (fin (uc _ (g m))))->∀W,Hl W nt ws=true->EV P body W ⟨p,ls,act (uc _ (g n))⟩
abbrev L1 p ls ms ws id g:=LL.mk p ls ws _ (Nk ls ms id) (aeS ls ms ws id) g λhc h0 hs n hT _ hW=>XT hc h0 hs n hT hW
abbrev Lr p ls rs ws g:=LL.mk p ls ws _ (RQ ls rs) (aeT ls rs ws) g λhc h0 hs n hT _ hW=>XU hc h0 hs n hT hW
abbrev L2 p ls ms rs ws id e2 g:=LL.mk p ls ws _ (Xr ls ms rs id e2) (aeU ls ms rs ws id e2) g λhc h0 hs n hT _ hW=>XW hc h0 hs n hT hW
abbrev LL.e (s:LL) n:=Np.mk s.p s.ls (s.act (uc _ (s.g n)))
def LOK (P:Program)(fn:Func)(l:Np)(ws:η):Prop:=∀(W:Wr),Hl W fn.ntmps ws=true->EV P (wa fn) W l
def Jp.cc {fn}{W}{e}{r}{ws}(h:LOK P fn e ws)(hr:Jp P (wa fn) W r)(hw:Hl W fn.ntmps ws=true:=by kernel_rfl):Jp P (wa fn) W (e::r):=⟨h W hw,hr⟩
abbrev dF {R}(P:Program) fn cl dl mo ll (js:List (iU R)) dr W fin k E:=den P (wa fn) ⟨Nn cl dl mo,Hk ll,JT js,dr⟩ W fin 400 false k E
def Ly.cc {R}{fn}{cl}{dl}{ms}{ll}{dr}{W}{fin:nP->Env->M R}{e}{r}
  (hr:Ly P (wa fn) cl dl ms ll dr W fin 400 r) (h:∀x,dF P fn cl dl ms ll r dr W fin (.code e.p::e.k) (yG e.ls (fS (lH e.ls) x))=e.m x:=by intro x;kernel_rfl):Ly P (wa fn) cl dl ms ll dr W fin 400 (e::r):=⟨h,hr⟩
def LL.k (s:LL) P fn n {ct:Nat->List dV}{mo}{dt:Nat->List rF}{lt:Nat->List Np}(dr:Nat->Option (List (Nat×η)):=λ_=>none)(jt:Nat->List (iU s.R):=λ_=>[])
  (hT:∀m,m<n->Xb P (wa fn) (fn.ntmps,some s.ws) (ct m) (dt m) mo (lt m) (jt m) dr (s.fin (uc _ (s.g m))))
  (hc:gp (wa fn) s.p=.loop (child (gp (wa fn) s.p) 0):=by kernel_rfl) (h0:∀x,uc _ (s.g 0) x=AS:=by intro x;kernel_rfl)
  (hs:∀n x,dF P fn (ct n) (dt n) mo (lt n) (jt n) dr (fn.ntmps,some s.ws) (s.fin (uc _ (s.g n))) [.code (0::s.p)] (yG s.ls (fS (lH s.ls) x))=uc _ (s.g (n+1)) x:=by intro n x;kernel_rfl) :
  LOK P fn (s.e n) s.ws:=s.ok hc h0 hs n λm hm=>(hT m hm).ok
def acb:Nat->List Ty->List (Nat×Ty)
 |_,[]=>[]
 |i,t::ts=>(i,t)::acb (i+1) ts
def Ob:∀i ts ,(acb i ts).map (·.1)=List.range' i ts.length
 |i,[]=>rfl
 |i,t::ts=>by rw[acb,ab4,abv,anp,Ob (i+1) ts]
def bf {e} fn {cl mo dl ll}(js:List (iU (aY e.rs)):=[])(dr:Nat->Option (List (Nat×η)):=λ_=>none)
  (hT:Xb P (wa fn) (fn.ntmps,none) cl dl mo ll js dr (Xq P fn e.rs))
  (hf : P.funcs[e.id]? = some fn := by kernel_rfl) (hb : fn.body = some (wa fn) := by kernel_rfl) (hn : (fn.name == "runtime.NumGoroutine") = false := by kernel_rfl) (hnt : Nat.ble e.as.length fn.ntmps = true := by kernel_rfl)
  (hg:∀x,dF P fn cl dl mo ll js dr (fn.ntmps,none) (Xq P fn e.rs) [.code []] (yG (acb 0 e.as) (fS e.as x))=e.m x:=by intro x;kernel_rfl):aH P e:=
 akU hf hb hn (Ob 0 e.as) hnt hT.ok hg
def Hy (Q:Nat->Prop)(n:Nat):Prop:=∀m,m<=n->Q m
def Hy.s {Q n}(h:Hy Q n):Q n:=h n (aa2 n)
def Hy.d {Q n}(h:Hy Q n){m}(hm:m<n):Hy Q m:=λk hk=>h k (by omega)
def Oc {Q:Nat->Prop}(h0:Q 0)(hs:∀k,Hy Q k->Q (k+1)) n:Q n:=by
 induction n using Nat.strongRecOn with
 |_ k ih=>cases k with
  |zero=>exact h0
  |succ k=>exact hs k λm hm=>ih m (by omega)
def dY:Nat->Nat->η
 |0,_=>[]
 |f+1,x=>cond (Nat.beq x 0) [] ((x%1000-1)::dY f (x/1000))
def dR (l:List (Nat×η))(i:Nat):Option (List (Nat×η)):=
 match l with
 |[]=>none
 |(j,o)::r=>cond (Nat.beq i j) (some (o.map λx=>(x%1000,dY 99 (x/1000)))) (dR r i)
def Xb.m2 {R}{body}{W}{cl}{ll}{dr}{fin}(c:eY P cl)(l:Jp P body W ll):Xb P body W cl [] [] ll ([]:List (iU R)) dr fin:=⟨.nil,c,.nil,l,.nil⟩
def Xb.m3 {R}{body}{W}{cl}{js:List (iU R)}{dr}{fin}(c:eY P cl)(j:Ly P body cl [] [] [] dr W fin 400 js):Xb P body W cl [] [] [] js dr fin:=⟨.nil,c,.nil,.nil,j⟩
def Xb.m1 {R}{body}{W}{cl}{dr}{fin}(c:eY P cl):Xb P body W cl [] [] [] ([]:List (iU R)) dr fin:=⟨.nil,c,.nil,.nil,.nil⟩
def apd:(as cs:List Ty)->aY as->aY cs->aY (as++cs)
 |[],_,_,c=>c
 |[_],[],a,_=>a
 |[_],_::_,a,c=>(a,c)
 |_::t::as,cs,a,c=>(a.1,apd (t::as) cs a.2 c)
def XX:∀as cs a c,fS (as++cs) (apd as cs a c)=fS as a++fS cs c
 |[],_,_,c=>rfl
 |[_],[],a,_=>rfl
 |[_],_::_,a,c=>rfl
 |t::t'::as,cs,a,c=>akL (EG t a.1::·) (XX (t'::as) cs a.2 c)
def oT {as rs id} cs {m:aY (as++cs)->M (aY rs)}(h:aH P ⟨id,as++cs,rs,m⟩):agJ P (as:=as) (rs:=rs) ⟨id,cs,λa c=>m (apd as cs a c)⟩:=λa c=>N6 (XX as cs a c) (h _)
end Go.Ago
