
import Derived.Test.YthcljaholofonaaGreatDoorAgoH
set_option linter.all false
namespace Go.Ago
open Go
variable {P:Program}{ι ι':iE}{h h' h1:aj}{w w':World}
def tQ {c}{Q Q'}(hq:∀e a w,e≠.normal->Q e a w->Q' e a w):∀n a w ,Code.rounds P c Q n a w->Code.rounds P c Q' n a w
 |0,_,_,h=>h
 |n+1,a,w,h=>wp_mono h λe a w he=>by
  cases e with
  |normal=>exact tQ hq n a w he
  |_=>exact hq _ _ _ (by simp) he
def Ga {R} ls (g:aY (nM ls)->M R)(E:Env):M R:=
 match ve E ls with
 |some vs=>(match An (nM ls) vs with|some x=>g x|none=>AS)
 |none=>AS
def J4 {R}{ls}{g:aY (nM ls)->M R}{E}{r}(hx:Ga ls g E h=some r):∃x,ve E ls=some (gp (nM ls) x)/\g x h=some r:=by
 unfold Ga at hx;generalize hg:ve E ls=o at hx;cases o with
 |none=>simp[AS] at hx
 |some vs=>
  simp at hx;generalize hu:An (nM ls) vs=o at hx;cases o with
  |none=>simp[AS] at hx
  |some x=>grind [xA]
def Gb {R}{body c}{p}{ls}{nt}{ws}{G:Nat->aY (nM ls)->M R}{fin:Nat->qd->Env->M R}{T:Nat->O9 R}{N}
  (hc:gU body p=.loop c) (h0:∀x,G 0 x=AS)
  (hs:∀n x,den P body (T n) (nt,some ws) (fin n) N false [.code (0::p)] (AP ls (gp (nM ls) x))=G (n+1) x)
  (hn:∀n E,fin n .normal E=Ga ls (G n) E) :
  ∀n ,(∀m,m<n->A7 P body (T m) (nt,some ws) (fin m))->∀x F h r ,G n x h=some r->∀ι w a ,Start P F ι (nt,some ws) (AP ls (gp (nM ls) x)) h a w ->
   Code.rounds P c (λe a' w'=>∃m,JY P F ι (nt,some ws) a.tmps (fin m) r e a' w') n a w
 |0,_,x,F,h,r,hx,ι,w,a,S=>by rw[h0] at hx;simp[AS] at hx
 |n+1,hT,x,F,h,r,hx,ι,w,a,S=>by
  rw[<-hs] at hx;have hd:=yc (hT n (IT n)) N false [.code (0::p)] _ F ι h r a w S hx;have hcc:gU body (0::p)=c:=by grind [child,gU]
  intro b k cs;obtain⟨e,a',w',hpost,harr⟩:=hd b k cs;refine⟨e,a',w',?_,by grind [gP]⟩;cases e with
  |normal=>
   obtain⟨ae,heq,hnow⟩:=hpost
   .cases ae with
    |normal=>
     obtain⟨ι2,E2,h2,hle,hk,S2,hfr⟩:=hnow.start;rw[hn] at hk;obtain⟨x2,hg,hk⟩:=J4 hk;have ih:=Gb hc h0 hs hn n (λm hm=>hT m (adX hm)) x2 F h2 r hk ι2 w' a' ⟨S2.rel,Av hg S2.env,S2.defers,S2.size⟩;refine tQ (λe a w _ hq=>?_) n a' w' ih
     grind [JY.trans]
    |_=>exact heq.elim
  |_=>exact⟨n,hpost⟩
def Hb (P:Program)(body:Code)(W:Wr)(e:Ph):Prop:=∀E x,ve E e.ls=some (gp (nM e.ls) x)->RV P body W e.p E (e.act x)
def LV (P:Program)(body:Code)(W:Wr):List Ph->Prop
 |[]=>True
 |e::r=>Hb P body W e/\LV P body W r
def Hc:∀{p q},yg p q=true->p=q
 |[],[],_=>rfl
 |[],_::_,h=>by cases h
 |_::_,[],h=>by cases h
 |a::p,b::q,h=>by
  simp only[yg,ac5] at h;rw[abi h.1,Hc h.2]
def J5 {body}{W}:∀{l},LV P body W l->∀p E,RV P body W p E (JA l p E)
 |[],_,p,E=>trivial
 |e::r,hl,p,E=>by
  simp[JA];split
  .rename_i hp;have:=Hc hp;subst this;split
   .rename_i vs hg;split
    .rename_i x hu;exact hl.1 E x (by rw[hg,xA hu])
    .trivial
   .trivial
  .exact J5 hl.2 p E
def Gc {F}{W}{nt}{ws}{ls ms}{E E'}{x}{y}{a a':Go.Act}
  (hW:JB W nt ws=true) (hg:ve E ls=some (gp (nM ls) x)) (S:Start P F ι W E h a w) (hg':ve E' ms=some (gp (nM ms) y))
  (hle:ι.le ι') (R':Rel P F ι' h1 w') (HE':np P ι' E' a'.tmps) (hd:a'.defers=F.Rj) (hs:a'.tmps.size=nt) (hfr:Iv (nt,some ws) a.tmps a'.tmps) :
  ∃ι',ι.le ι'/\Rel P F ι' h1 w'/\np P ι' (Zj ls ms ws x y) a'.tmps/\a'.defers=F.Rj/\a'.tmps.size=W.1/\Iv W a.tmps a'.tmps:=by
 unfold JB at hW;rw[ac5] at hW;have hnt:=abi hW.1;refine⟨ι',hle,R',?_,hd,by rw[hs,hnt],hfr.1,λl hl i hi=>?_⟩
 .intro j u hu;rcases MG hg' j u hu with h1|⟨h1,h2⟩
  .exact HE' j u h1
  .unfold an2 at h1;cases hb:ws.any (Nat.beq j) with
   |true=>rw[hb] at h1;cases h1
   |false=>
    rw[hb] at h1;obtain⟨u',h3,h4⟩:=Av hg S.env j u h1;exact⟨u',by rw[hfr.2 ws rfl _ hb];exact h3,h4.mono hle⟩
 .refine hfr.2 ws rfl i ?_
  simp_all
def aeu {ms}{R}{E}{f:aY (nM ms)->R}{r}
  (hx:Ga ms (λx=>AI (f x)) E h=some r):∃y,ve E ms=some (gp (nM ms) y)/\r=(f y,h):=by
 obtain⟨y,h1,h2⟩:=J4 hx;simp[AI,adW] at h2
 grind
variable {body c:Code}{p:Path}{ls ms rs:List (Nat×Ty)}{nt id N:Nat}{ws:η}{e2:qd}
def ZL {G:Nat->aY (nM ls)->M (aY (nM ms))}{T:Nat->O9 (aY (nM ms))}(hc:gU body p=.loop c)(h0:∀x,G 0 x=AS)
  (hs:∀n x,den P body (T n) (nt,some ws) (Pf ls ms id (G n)) N false [.code (0::p)] (AP ls (gp (nM ls) x))=G (n+1) x)
  n (hT:∀m,m<n->A7 P body (T m) (nt,some ws) (Pf ls ms id (G m))) {W} (hW:JB W nt ws=true) :
  Hb P body W ⟨p,ls,ahj ls ms ws id (G n)⟩:=by
 intro E x hg F h y h1 hx ι w a S;rw[hc];have hnt:W.1=nt:=by unfold JB at hW;simp_all
 refine wp_loop_rounds n (tQ (λe a' w' hne hq=>?_) n a w (Gb hc h0 hs (λ_ _=>rfl) n hT x F h (y,h1) hx ι w a ⟨S.rel,Av hg S.env,S.defers,by rw[S.size,hnt]⟩));obtain⟨m,hq⟩:=hq;obtain⟨ae,heq,ι',E',h',hle,hfin,R',HE',hd,hs',hfr⟩:=hq;cases ae with
 |normal=>cases e<;>first|exact absurd rfl hne|exact heq.elim
 |ret=>simp[Pf,AS] at hfin
 |exit id'=>
  have hfin':id=id'/\Ga ms (λx=>AI x) E' h'=some (y,h1):=by
   simp[Pf] at hfin;generalize hb:Nat.beq id id'=b at hfin;generalize hgg:ve E' ms=o at hfin;cases b<;>cases o<;>simp only at hfin<;>try (simp[AS] at hfin;done)
   refine⟨abi hb,?_⟩;unfold Ga;rw[hgg];exact hfin
  obtain⟨rfl,hfin'⟩:=hfin';obtain⟨y',hg',e1⟩:=aeu hfin';cases e1;exact⟨heq,Gc hW hg S hg' hle R' HE' hd hs' hfr⟩
def ZM {G:Nat->aY (nM ls)->M (aY (nM rs))}{T:Nat->O9 (aY (nM rs))}(hc:gU body p=.loop c)(h0:∀x,G 0 x=AS)
  (hs:∀n x,den P body (T n) (nt,some ws) (T8 ls rs (G n)) N false [.code (0::p)] (AP ls (gp (nM ls) x))=G (n+1) x)
  n (hT:∀m,m<n->A7 P body (T m) (nt,some ws) (T8 ls rs (G m))) {W} (hW:JB W nt ws=true) :
  Hb P body W ⟨p,ls,ahk ls rs ws (G n)⟩:=by
 intro E x hg F h y h1 hx ι w a S;rw[hc];have hnt:W.1=nt:=by unfold JB at hW;simp_all
 refine wp_loop_rounds n (tQ (λe a' w' hne hq=>?_) n a w (Gb hc h0 hs (λ_ _=>rfl) n hT x F h (y,h1) hx ι w a ⟨S.rel,Av hg S.env,S.defers,by rw[S.size,hnt]⟩));obtain⟨m,hq⟩:=hq;obtain⟨ae,heq,ι',E',h',hle,hfin,R',HE',hd,hs',hfr⟩:=hq;cases ae with
 |normal=>cases e<;>first|exact absurd rfl hne|exact heq.elim
 |exit id'=>simp[T8,AS] at hfin
 |ret=>
  obtain⟨y',hg',e1⟩:=aeu (show Ga rs (λx=>AI x) E' h'=some (y,h1) from hfin);cases e1;exact⟨heq,Gc hW hg S hg' hle R' HE' hd hs' hfr⟩
def ZN {a b}(h:eqE a b=true):a=b:=by
 cases a<;>cases b<;>simp only[eqE] at h<;>first|rfl|(cases h;done)|simp_all
def ZO {G:Nat->aY (nM ls)->M (aY (nM ms)⊕aY (nM rs))}{T:Nat->O9 (aY (nM ms)⊕aY (nM rs))}(hc:gU body p=.loop c)(h0:∀x,G 0 x=AS)
  (hs:∀n x,den P body (T n) (nt,some ws) (Zi ls ms rs id e2 (G n)) N false [.code (0::p)] (AP ls (gp (nM ls) x))=G (n+1) x)
  n (hT:∀m,m<n->A7 P body (T m) (nt,some ws) (Zi ls ms rs id e2 (G m))) {W} (hW:JB W nt ws=true) :
  Hb P body W ⟨p,ls,ahl ls ms rs ws id e2 (G n)⟩:=by
 intro E x hg;have hnt:W.1=nt:=by unfold JB at hW;simp_all
 have key:∀{F:Fz} {h:aj} {r h1},G n x h=some (r,h1)->∀ι w a,Start P F ι W E h a w ->
   Code.rounds P c (λe a' w'=>∃ι' E' h',ι.le ι'/\Rel P F ι' h' w'/\np P ι' E' a'.tmps/\a'.defers=F.Rj/\a'.tmps.size=nt/\Iv (nt,some ws) a.tmps a'.tmps /\
    ((eqv e (.exit id)/\∃y,ve E' ms=some (gp (nM ms) y)/\r=.inl y/\h1=h')\/(eqv e e2/\∃y,ve E' rs=some (gp (nM rs) y)/\r=.inr y/\h1=h'))) n a w:=by
  intro F h r h1 hx ι w a S;refine tQ (λe a' w' hne hq=>?_) n a w (Gb hc h0 hs (λ_ _=>rfl) n hT x F h (r,h1) hx ι w a ⟨S.rel,Av hg S.env,S.defers,by rw[S.size,hnt]⟩);obtain⟨m,hq⟩:=hq;obtain⟨ae,heq,ι',E',h',hle,hfin,R',HE',hd,hs',hfr⟩:=hq;refine⟨ι',E',h',hle,R',HE',hd,hs',hfr,?_⟩;have tail:∀ae,ae≠.normal->eqv e ae->(match eqE ae (.exit id) with
    |true=>Ga ms (λx=>AI (Sum.inl x:aY (nM ms)⊕aY (nM rs))) E'
    |false=>(match eqE ae e2 with
     |true=>Ga rs (λx=>AI (Sum.inr x:aY (nM ms)⊕aY (nM rs))) E'
     |false=>AS)) h'=some (r,h1)->((eqv e (.exit id)/\∃y,ve E' ms=some (gp (nM ms) y)/\r=.inl y/\h1=h')\/(eqv e e2/\∃y,ve E' rs=some (gp (nM rs) y)/\r=.inr y/\h1=h')):=by
   intro ae _ he2 hf2;cases h2:eqE ae (.exit id)<;>rw[h2] at hf2
   .cases h3:eqE ae e2<;>rw[h3] at hf2
    .simp[AS] at hf2
    .have:=ZN h3;subst this;obtain⟨y',hg',e1⟩:=aeu hf2
     grind
   .have:=ZN h2;subst this;obtain⟨y',hg',e1⟩:=aeu hf2
    grind
  cases ae with
  |normal=>cases e<;>first|exact absurd rfl hne|exact heq.elim
  |ret=>exact tail .ret (by simp) heq hfin
  |exit id'=>exact tail (.exit id') (by simp) heq hfin
 refine⟨λF h y h1 hx ι w a S=>?_,λF h y h1 hx ι w a S=>?_⟩<;>rw[hc]<;>refine wp_loop_rounds n (tQ (λe a' w' hne hq=>?_) n a w (key hx ι w a S))
 .obtain⟨ι',E',h',hle,R',HE',hd,hs',hfr,⟨q0,y',q1,q2,q3⟩|⟨q0,y',q1,q2,q3⟩⟩:=hq
  .cases q2;subst q3;exact⟨q0,Gc hW hg S q1 hle R' HE' hd hs' hfr⟩
  .cases q2
 .obtain⟨ι',E',h',hle,R',HE',hd,hs',hfr,⟨q0,y',q1,q2,q3⟩|⟨q0,y',q1,q2,q3⟩⟩:=hq
  .cases q2
  .cases q2;subst q3;exact⟨q0,Gc hW hg S q1 hle R' HE' hd hs' hfr⟩
def NC {R}(P:Program)(body:Code)(cl:List cA)(dl:List tB)(ms:List FuncId)(ll:List Ph)(dr:Nat->Option (List (Nat×η)))(W:Wr)(fin:qd->Env->M R)(N:Nat):List (gO R)->Prop
 |[]=>True
 |e::r=>(∀x,den P body ⟨Pg cl dl ms,JA ll,Mq r,dr⟩ W fin N false (.code e.p::e.k) (AP e.ls (gp (nM e.ls) x))=e.m x)/\NC P body cl dl ms ll dr W fin N r
def Uq {R}{W}{cl}{dl}{ms}{ll}{dr}{fin:qd->Env->M R}{N}(hmo:F9 cl ms)(h1:cS P cl)(hd:sP P dl)(h2:LV P body W ll) :
  ∀{js},NC P body cl dl ms ll dr W fin N js->A7 P body ⟨Pg cl dl ms,JA ll,Mq js,dr⟩ W fin
 |[],_=>⟨P7 h1 hd hmo,J5 h2,λ_ _ _ h=>by cases h⟩
 |e::r,hj=>by
  have ih:=Uq hmo h1 hd h2 hj.2;refine⟨P7 h1 hd hmo,J5 h2,λp k J hp E m hJ F h r' hx ι w a S=>?_⟩;simp[Mq] at hp;split at hp
  .rename_i he;have:=Hc he;subst this;cases hp;unfold goJ at hJ;split at hJ
   .rename_i vs hg;split at hJ
    .rename_i x hu;cases hJ;have hgg:ve E e.ls=some (gp (nM e.ls) x):=(by rw[hg,xA hu]);rw[<-hj.1 x] at hx;exact yc ih N false _ _ F ι h r' a w ⟨S.rel,Av hgg S.env,S.defers,S.size⟩ hx
    .cases hJ
   .cases hJ
  .exact ih.join p k J hp E m hJ F h r' hx ι w a S
def NC.nil {R}{body}{cl}{dl}{ms}{ll}{dr}{W}{fin}{N}:NC P body cl dl ms ll dr W fin N ([]:List (gO R)):=trivial
def LV.nil {body}{W}:LV P body W []:=trivial
theorem cS.cons {e}{r}(h:aC P e)(hr:cS P r):cS P (e::r):=⟨h,hr⟩
theorem sP.cons {e}{r}(h:RX P e)(hr:sP P r):sP P (e::r):=⟨h,hr⟩
def sP.nil:sP P []:=trivial
theorem P5.cons {as rs}{e:DTg as rs}{r}(h:aje P e)(hr:P5 P r):P5 P (e::r):=⟨h,hr⟩
def P5.nil {as rs}:P5 P ([]:List (DTg as rs)):=trivial
def cS.nil:cS P []:=trivial
def eJ {e} fn (hf : P.funcs[e.id]? = some fn := by kernel_rfl) (hb : fn.body.isNone = false := by kernel_rfl) (hn : (fn.name == "runtime.NumGoroutine") = false := by kernel_rfl) (h0 : ∀x, e.m x = AS := by intro x; kernel_rfl) : aC P e :=by
 intro x;refine iG.of (λargs w=>jl hf hb hn args w) ?_;intro F h y h1 hx;simp[h0,AS] at hx
structure Y3 {R:Type} (P:Program) (body:Code) (W:Wr) (cl:List cA) (dl:List tB) (mo:List FuncId) (ll:List Ph) (js:List (gO R)) (dr:Nat->Option (List (Nat×η))) (fin:qd->Env->M R):Prop where
 hm:F9 cl mo
 c:cS P cl
 d:sP P dl
 l:LV P body W ll
 j:NC P body cl dl mo ll dr W fin 400 js
def Y3.ok {R}{body}{W}{cl}{dl}{mo}{ll}{js:List (gO R)}{dr}{fin}(t:Y3 P body W cl dl mo ll js dr fin) :
  A7 P body ⟨Pg cl dl mo,JA ll,Mq js,dr⟩ W fin:=Uq t.hm t.c t.d t.l t.j
@[reducible] def FT (R:Type):List Ty->Type
 |[]=>R
 |[t]=>t.den->R
 |t::t'::ts=>t.den->FT R (t'::ts)
def uc {R}:(ts:List Ty)->FT R ts->aY ts->R
 |[],f,_=>f
 |[_],f,x=>f x
 |_::t::ts,f,x=>uc (t::ts) (f x.1) x.2
abbrev eN (id:FuncId) as rs (f:FT (M (aY rs)) as):cA:=⟨id,as,rs,uc as f⟩
abbrev dN t as rs (f:ξ->FT (M (aY rs)) as):=tB.mk t as rs λx=>uc as (f x)
abbrev jN {R} p k ls (f:FT (M R) (nM ls)):=gO.mk p k ls (uc _ f)
structure LL where
 p:Path
 ls:List (Nat×Ty)
 ws:η
 R:Type
 fin:(aY (nM ls)->M R)->qd->Env->M R
 act:(aY (nM ls)->M R)->aY (nM ls)->zp
 g:Nat->FT (M R) (nM ls)
 ok:∀{P body c nt} {T:Nat->O9 R} {N},gU body p=.loop c->(∀x,uc _ (g 0) x=AS) ->
  (∀n x,den P body (T n) (nt,some ws) (fin (uc _ (g n))) N false [.code (0::p)] (AP ls (gp (nM ls) x))=uc _ (g (n+1)) x) ->
  ∀n,(∀m,m<n->A7 P body (T m) (nt,some ws) (fin (uc _ (g m))))->∀W,JB W nt ws=true->Hb P body W ⟨p,ls,act (uc _ (g n))⟩
abbrev L1 p ls ms ws id g:=LL.mk p ls ws _ (Pf ls ms id) (ahj ls ms ws id) g λhc h0 hs n hT _ hW=>ZL hc h0 hs n hT hW
abbrev Lr p ls rs ws g:=LL.mk p ls ws _ (T8 ls rs) (ahk ls rs ws) g λhc h0 hs n hT _ hW=>ZM hc h0 hs n hT hW
abbrev L2 p ls ms rs ws id e2 g:=LL.mk p ls ws _ (Zi ls ms rs id e2) (ahl ls ms rs ws id e2) g λhc h0 hs n hT _ hW=>ZO hc h0 hs n hT hW
abbrev LL.e (s:LL) n:=Ph.mk s.p s.ls (s.act (uc _ (s.g n)))
def LOK (P:Program)(fn:Func)(l:Ph)(ws:η):Prop:=∀(W:Wr),JB W fn.ntmps ws=true->Hb P (yj fn) W l
def LV.cc {fn}{W}{e}{r}{ws}(h:LOK P fn e ws)(hr:LV P (yj fn) W r)(hw:JB W fn.ntmps ws=true:=by kernel_rfl):LV P (yj fn) W (e::r):=⟨h W hw,hr⟩
abbrev dF {R}(P:Program) fn cl dl mo ll (js:List (gO R)) dr W fin k E:=den P (yj fn) ⟨Pg cl dl mo,JA ll,Mq js,dr⟩ W fin 400 false k E
def NC.cc {R}{fn}{cl}{dl}{ms}{ll}{dr}{W}{fin:qd->Env->M R}{e}{r}
  (hr:NC P (yj fn) cl dl ms ll dr W fin 400 r) (h:∀x,dF P fn cl dl ms ll r dr W fin (.code e.p::e.k) (AP e.ls (gp (nM e.ls) x))=e.m x:=by intro x;kernel_rfl):NC P (yj fn) cl dl ms ll dr W fin 400 (e::r):=⟨h,hr⟩
def LL.k (s:LL) P fn n {ct:Nat->List cA}{mo}{dt:Nat->List tB}{lt:Nat->List Ph}(dr:Nat->Option (List (Nat×η)):=λ_=>none)(jt:Nat->List (gO s.R):=λ_=>[])
  (hT:∀m,m<n->Y3 P (yj fn) (fn.ntmps,some s.ws) (ct m) (dt m) mo (lt m) (jt m) dr (s.fin (uc _ (s.g m))))
  (hc:gU (yj fn) s.p=.loop (child (gU (yj fn) s.p) 0):=by kernel_rfl) (h0:∀x,uc _ (s.g 0) x=AS:=by intro x;kernel_rfl)
  (hs:∀n x,dF P fn (ct n) (dt n) mo (lt n) (jt n) dr (fn.ntmps,some s.ws) (s.fin (uc _ (s.g n))) [.code (0::s.p)] (AP s.ls (gp (nM s.ls) x))=uc _ (s.g (n+1)) x:=by intro n x;kernel_rfl) :
  LOK P fn (s.e n) s.ws:=s.ok hc h0 hs n λm hm=>(hT m hm).ok
def aev:Nat->List Ty->List (Nat×Ty)
 |_,[]=>[]
 |i,t::ts=>(i,t)::aev (i+1) ts
def P8:∀i ts ,(aev i ts).map (·.1)=List.range' i ts.length
 |i,[]=>rfl
 |i,t::ts=>by rw[aev,adZ,acg,aqn,P8 (i+1) ts]
def aL {e} fn {cl mo dl ll}(js:List (gO (aY e.rs)):=[])(dr:Nat->Option (List (Nat×η)):=λ_=>none)
  (hT:Y3 P (yj fn) (fn.ntmps,none) cl dl mo ll js dr (Zh P fn e.rs))
  (hf : P.funcs[e.id]? = some fn := by kernel_rfl) (hb : fn.body = some (yj fn) := by kernel_rfl) (hn : (fn.name == "runtime.NumGoroutine") = false := by kernel_rfl) (hnt : Nat.ble e.as.length fn.ntmps = true := by kernel_rfl)
  (hg:∀x,dF P fn cl dl mo ll js dr (fn.ntmps,none) (Zh P fn e.rs) [.code []] (AP (aev 0 e.as) (gp e.as x))=e.m x:=by intro x;kernel_rfl):aC P e:=
 an6 hf hb hn (P8 0 e.as) hnt hT.ok hg
def dY:Nat->Nat->η
 |0,_=>[]
 |f+1,x=>cond (Nat.beq x 0) [] ((x%1000-1)::dY f (x/1000))
def dR (l:List (Nat×η))(i:Nat):Option (List (Nat×η)):=
 match l with
 |[]=>none
 |(j,o)::r=>cond (Nat.beq i j) (some (o.map λx=>(x%1000,dY 99 (x/1000)))) (dR r i)
def Y3.m2 {R}{body}{W}{cl}{ll}{dr}{fin}(c:cS P cl)(l:LV P body W ll):Y3 P body W cl [] [] ll ([]:List (gO R)) dr fin:=⟨.nil,c,.nil,l,.nil⟩
def Y3.m3 {R}{body}{W}{cl}{js:List (gO R)}{dr}{fin}(c:cS P cl)(j:NC P body cl [] [] [] dr W fin 400 js):Y3 P body W cl [] [] [] js dr fin:=⟨.nil,c,.nil,.nil,j⟩
def Y3.m1 {R}{body}{W}{cl}{dr}{fin}(c:cS P cl):Y3 P body W cl [] [] [] ([]:List (gO R)) dr fin:=⟨.nil,c,.nil,.nil,.nil⟩
def apd:(as cs:List Ty)->aY as->aY cs->aY (as++cs)
 |[],_,_,c=>c
 |[_],[],a,_=>a
 |[_],_::_,a,c=>(a,c)
 |_::t::as,cs,a,c=>(a.1,apd (t::as) cs a.2 c)
def ZP:∀as cs a c,gp (as++cs) (apd as cs a c)=gp as a++gp cs c
 |[],_,_,c=>rfl
 |[_],[],a,_=>rfl
 |[_],_::_,a,c=>rfl
 |t::t'::as,cs,a,c=>an1 (GR t a.1::·) (ZP (t'::as) cs a.2 c)
def lA {as rs id} cs {m:aY (as++cs)->M (aY rs)}(h:aC P ⟨id,as++cs,rs,m⟩):aje P (as:=as) (rs:=rs) ⟨id,cs,λa c=>m (apd as cs a c)⟩:=λa c=>P4 (ZP as cs a c) (h _)
end Go.Ago
