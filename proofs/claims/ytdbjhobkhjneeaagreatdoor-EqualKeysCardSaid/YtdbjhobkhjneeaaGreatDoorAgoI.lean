
import Derived.Test.YtdbjhobkhjneeaaGreatDoorAgoH
set_option linter.all false
namespace Go.Ago
open Go
variable {P:Program}{ι ι':gY}{h h' h1:aj}{w w':World}
theorem rm {c}{Q Q'}(hq:∀e a w,e≠.normal->Q e a w->Q' e a w):∀n a w ,Code.rounds P c Q n a w->Code.rounds P c Q' n a w
 |0,_,_,h=>h
 |n+1,a,w,h=>wp_mono h λe a w he=>by
  cases e with
  |normal=>exact rm hq n a w he
  |_=>exact hq _ _ _ (by simp) he
def DW {R} ls (g:bf (lD ls)->M R)(E:Env):M R:=
 match sV E ls with
 |some vs=>(match xR (lD ls) vs with|some x=>g x|none=>AS)
 |none=>AS
def HI {R}{ls}{g:bf (lD ls)->M R}{E}{r}(hx:DW ls g E h=some r):∃x,sV E ls=some (fW (lD ls) x)/\g x h=some r:=by
 unfold DW at hx;generalize hg:sV E ls=o at hx;cases o with
 |none=>simp[AS] at hx
 |some vs=>
  simp at hx;generalize hu:xR (lD ls) vs=o at hx;cases o with
  |none=>simp[AS] at hx
  |some x=>grind [vx]
def DX {R}{body c}{p}{ls}{nt}{ws}{G:Nat->bf (lD ls)->M R}{fin:Nat->nJ->Env->M R}{T:Nat->MV R}{N}
  (hc:gw body p=.loop c) (h0:∀x,G 0 x=AS)
  (hs:∀n x,den P body (T n) (nt,some ws) (fin n) N false [.code (0::p)] (yC ls (fW (lD ls) x))=G (n+1) x)
  (hn:∀n E,fin n .normal E=DW ls (G n) E) :
  ∀n ,(∀m,m<n->yQ P body (T m) (nt,some ws) (fin m))->∀x F h r ,G n x h=some r->∀ι w a ,Start P F ι (nt,some ws) (yC ls (fW (lD ls) x)) h a w ->
   Code.rounds P c (λe a' w'=>∃m,HH P F ι (nt,some ws) a.tmps (fin m) r e a' w') n a w
 |0,_,x,F,h,r,hx,ι,w,a,S=>by rw[h0] at hx;simp[AS] at hx
 |n+1,hT,x,F,h,r,hx,ι,w,a,S=>by
  rw[<-hs] at hx;have hd:=vR (hT n (af7 n)) N false [.code (0::p)] _ F ι h r a w S hx;have hcc:gw body (0::p)=c:=by grind [child,gw]
  intro b k cs;obtain⟨e,a',w',hpost,harr⟩:=hd b k cs;refine⟨e,a',w',?_,by grind [gj]⟩;cases e with
  |normal=>
   obtain⟨ae,heq,hnow⟩:=hpost
   .cases ae with
    |normal=>
     obtain⟨ι2,E2,h2,hle,hk,S2,hfr⟩:=hnow.start;rw[hn] at hk;obtain⟨x2,hg,hk⟩:=HI hk;have ih:=DX hc h0 hs hn n (λm hm=>hT m (Nat.lt_succ_of_lt hm)) x2 F h2 r hk ι2 w' a' ⟨S2.rel,ya hg S2.env,S2.defers,S2.size⟩;refine rm (λe a w _ hq=>?_) n a' w' ih
     grind [HH.trans]
    |_=>exact heq.elim
  |_=>exact⟨n,hpost⟩
def EO (P:Program)(body:Code)(W:Wr)(e:M5):Prop:=∀E x,sV E e.ls=some (fW (lD e.ls) x)->P3 P body W e.p E (e.act x)
def Jf (P:Program)(body:Code)(W:Wr):List M5->Prop
 |[]=>True
 |e::r=>EO P body W e/\Jf P body W r
theorem EP:∀{p q},vW p q=true->p=q
 |[],[],_=>rfl
 |[],_::_,h=>by cases h
 |_::_,[],h=>by cases h
 |a::p,b::q,h=>by
  simp only[vW,aaq] at h;rw[IT h.1,EP h.2]
def HJ {body}{W}:∀{l},Jf P body W l->∀p E,P3 P body W p E (Hc l p E)
 |[],_,p,E=>trivial
 |e::r,hl,p,E=>by
  simp[Hc];split
  .rename_i hp;have:=EP hp;subst this;split
   .rename_i vs hg;split
    .rename_i x hu;exact hl.1 E x (by rw[hg,vx hu])
    .trivial
   .trivial
  .exact HJ hl.2 p E
def DY {F}{W}{nt}{ws}{ls ms}{E E'}{x}{y}{a a':Go.Act}
  (hW:Hd W nt ws=true) (hg:sV E ls=some (fW (lD ls) x)) (S:Start P F ι W E h a w) (hg':sV E' ms=some (fW (lD ms) y))
  (hle:ι.le ι') (R':Rel P F ι' h1 w') (HE':kY P ι' E' a'.tmps) (hd:a'.defers=F.Pv) (hs:a'.tmps.size=nt) (hfr:DR (nt,some ws) a.tmps a'.tmps) :
  ∃ι',ι.le ι'/\Rel P F ι' h1 w'/\kY P ι' (W1 ls ms ws x y) a'.tmps/\a'.defers=F.Pv/\a'.tmps.size=W.1/\DR W a.tmps a'.tmps:=by
 unfold Hd at hW;rw[aaq] at hW;have hnt:=IT hW.1;refine⟨ι',hle,R',?_,hd,by rw[hs,hnt],hfr.1,λl hl i hi=>?_⟩
 .intro j u hu;rcases JU hg' j u hu with h1|⟨h1,h2⟩
  .exact HE' j u h1
  .unfold akD at h1;cases hb:ws.any (Nat.beq j) with
   |true=>rw[hb] at h1;cases h1
   |false=>
    rw[hb] at h1;obtain⟨u',h3,h4⟩:=ya hg S.env j u h1;exact⟨u',by rw[hfr.2 ws rfl _ hb];exact h3,h4.mono hle⟩
 .refine hfr.2 ws rfl i ?_
  simp_all
theorem abV {ms}{R}{E}{f:bf (lD ms)->R}{r}
  (hx:DW ms (λx=>AI (f x)) E h=some r):∃y,sV E ms=some (fW (lD ms) y)/\r=(f y,h):=by
 obtain⟨y,h1,h2⟩:=HI hx;simp[AI,abo] at h2
 grind
variable {body c:Code}{p:Path}{ls ms rs:List (Nat×Ty)}{nt id N:Nat}{ws:η}{e2:nJ}
theorem Xu {G:Nat->bf (lD ls)->M (bf (lD ms))}{T:Nat->MV (bf (lD ms))}(hc:gw body p=.loop c)(h0:∀x,G 0 x=AS)
  (hs:∀n x,den P body (T n) (nt,some ws) (MY ls ms id (G n)) N false [.code (0::p)] (yC ls (fW (lD ls) x))=G (n+1) x)
  n (hT:∀m,m<n->yQ P body (T m) (nt,some ws) (MY ls ms id (G m))) {W} (hW:Hd W nt ws=true) :
  EO P body W ⟨p,ls,aeF ls ms ws id (G n)⟩:=by
 intro E x hg F h y h1 hx ι w a S;rw[hc];have hnt:W.1=nt:=by unfold Hd at hW;simp_all
 refine wp_loop_rounds n (rm (λe a' w' hne hq=>?_) n a w (DX hc h0 hs (λ_ _=>rfl) n hT x F h (y,h1) hx ι w a ⟨S.rel,ya hg S.env,S.defers,by rw[S.size,hnt]⟩));obtain⟨m,hq⟩:=hq;obtain⟨ae,heq,ι',E',h',hle,hfin,R',HE',hd,hs',hfr⟩:=hq;cases ae with
 |normal=>cases e<;>first|exact absurd rfl hne|exact heq.elim
 |ret=>simp[MY,AS] at hfin
 |exit id'=>
  have hfin':id=id'/\DW ms (λx=>AI x) E' h'=some (y,h1):=by
   simp[MY] at hfin;generalize hb:Nat.beq id id'=b at hfin;generalize hgg:sV E' ms=o at hfin;cases b<;>cases o<;>simp only at hfin<;>try (simp[AS] at hfin;done)
   refine⟨IT hb,?_⟩;unfold DW;rw[hgg];exact hfin
  obtain⟨rfl,hfin'⟩:=hfin';obtain⟨y',hg',e1⟩:=abV hfin';cases e1;exact⟨heq,DY hW hg S hg' hle R' HE' hd hs' hfr⟩
theorem Xv {G:Nat->bf (lD ls)->M (bf (lD rs))}{T:Nat->MV (bf (lD rs))}(hc:gw body p=.loop c)(h0:∀x,G 0 x=AS)
  (hs:∀n x,den P body (T n) (nt,some ws) (Rr ls rs (G n)) N false [.code (0::p)] (yC ls (fW (lD ls) x))=G (n+1) x)
  n (hT:∀m,m<n->yQ P body (T m) (nt,some ws) (Rr ls rs (G m))) {W} (hW:Hd W nt ws=true) :
  EO P body W ⟨p,ls,aeG ls rs ws (G n)⟩:=by
 intro E x hg F h y h1 hx ι w a S;rw[hc];have hnt:W.1=nt:=by unfold Hd at hW;simp_all
 refine wp_loop_rounds n (rm (λe a' w' hne hq=>?_) n a w (DX hc h0 hs (λ_ _=>rfl) n hT x F h (y,h1) hx ι w a ⟨S.rel,ya hg S.env,S.defers,by rw[S.size,hnt]⟩));obtain⟨m,hq⟩:=hq;obtain⟨ae,heq,ι',E',h',hle,hfin,R',HE',hd,hs',hfr⟩:=hq;cases ae with
 |normal=>cases e<;>first|exact absurd rfl hne|exact heq.elim
 |exit id'=>simp[Rr,AS] at hfin
 |ret=>
  obtain⟨y',hg',e1⟩:=abV (show DW rs (λx=>AI x) E' h'=some (y,h1) from hfin);cases e1;exact⟨heq,DY hW hg S hg' hle R' HE' hd hs' hfr⟩
def Xw {a b}(h:eqE a b=true):a=b:=by
 cases a<;>cases b<;>simp only[eqE] at h<;>first|rfl|(cases h;done)|simp_all
theorem Xx {G:Nat->bf (lD ls)->M (bf (lD ms)⊕bf (lD rs))}{T:Nat->MV (bf (lD ms)⊕bf (lD rs))}(hc:gw body p=.loop c)(h0:∀x,G 0 x=AS)
  (hs:∀n x,den P body (T n) (nt,some ws) (WZ ls ms rs id e2 (G n)) N false [.code (0::p)] (yC ls (fW (lD ls) x))=G (n+1) x)
  n (hT:∀m,m<n->yQ P body (T m) (nt,some ws) (WZ ls ms rs id e2 (G m))) {W} (hW:Hd W nt ws=true) :
  EO P body W ⟨p,ls,aeH ls ms rs ws id e2 (G n)⟩:=by
 intro E x hg;have hnt:W.1=nt:=by unfold Hd at hW;simp_all
 have key:∀{F:Fz} {h:aj} {r h1},G n x h=some (r,h1)->∀ι w a,Start P F ι W E h a w ->
   Code.rounds P c (λe a' w'=>∃ι' E' h',ι.le ι'/\Rel P F ι' h' w'/\kY P ι' E' a'.tmps/\a'.defers=F.Pv/\a'.tmps.size=nt/\DR (nt,some ws) a.tmps a'.tmps /\
    ((eqv e (.exit id)/\∃y,sV E' ms=some (fW (lD ms) y)/\r=.inl y/\h1=h')\/(eqv e e2/\∃y,sV E' rs=some (fW (lD rs) y)/\r=.inr y/\h1=h'))) n a w:=by
  intro F h r h1 hx ι w a S;refine rm (λe a' w' hne hq=>?_) n a w (DX hc h0 hs (λ_ _=>rfl) n hT x F h (r,h1) hx ι w a ⟨S.rel,ya hg S.env,S.defers,by rw[S.size,hnt]⟩);obtain⟨m,hq⟩:=hq;obtain⟨ae,heq,ι',E',h',hle,hfin,R',HE',hd,hs',hfr⟩:=hq;refine⟨ι',E',h',hle,R',HE',hd,hs',hfr,?_⟩;have tail:∀ae,ae≠.normal->eqv e ae->(match eqE ae (.exit id) with
    |true=>DW ms (λx=>AI (Sum.inl x:bf (lD ms)⊕bf (lD rs))) E'
    |false=>(match eqE ae e2 with
     |true=>DW rs (λx=>AI (Sum.inr x:bf (lD ms)⊕bf (lD rs))) E'
     |false=>AS)) h'=some (r,h1)->((eqv e (.exit id)/\∃y,sV E' ms=some (fW (lD ms) y)/\r=.inl y/\h1=h')\/(eqv e e2/\∃y,sV E' rs=some (fW (lD rs) y)/\r=.inr y/\h1=h')):=by
   intro ae _ he2 hf2;cases h2:eqE ae (.exit id)<;>rw[h2] at hf2
   .cases h3:eqE ae e2<;>rw[h3] at hf2
    .simp[AS] at hf2
    .have:=Xw h3;subst this;obtain⟨y',hg',e1⟩:=abV hf2
     grind
   .have:=Xw h2;subst this;obtain⟨y',hg',e1⟩:=abV hf2
    grind
  cases ae with
  |normal=>cases e<;>first|exact absurd rfl hne|exact heq.elim
  |ret=>exact tail .ret (by simp) heq hfin
  |exit id'=>exact tail (.exit id') (by simp) heq hfin
 refine⟨λF h y h1 hx ι w a S=>?_,λF h y h1 hx ι w a S=>?_⟩<;>rw[hc]<;>refine wp_loop_rounds n (rm (λe a' w' hne hq=>?_) n a w (key hx ι w a S))
 .obtain⟨ι',E',h',hle,R',HE',hd,hs',hfr,⟨q0,y',q1,q2,q3⟩|⟨q0,y',q1,q2,q3⟩⟩:=hq
  .cases q2;subst q3;exact⟨q0,DY hW hg S q1 hle R' HE' hd hs' hfr⟩
  .cases q2
 .obtain⟨ι',E',h',hle,R',HE',hd,hs',hfr,⟨q0,y',q1,q2,q3⟩|⟨q0,y',q1,q2,q3⟩⟩:=hq
  .cases q2
  .cases q2;subst q3;exact⟨q0,DY hW hg S q1 hle R' HE' hd hs' hfr⟩
def Lj {R}(P:Program)(body:Code)(cl:List dZ)(dl:List ru)(ms:List FuncId)(ll:List M5)(dr:Nat->Option (List (Nat×η)))(W:Wr)(fin:nJ->Env->M R)(N:Nat):List (iV R)->Prop
 |[]=>True
 |e::r=>(∀x,den P body ⟨M4 cl dl ms,Hc ll,JI r,dr⟩ W fin N false (.code e.p::e.k) (yC e.ls (fW (lD e.ls) x))=e.m x)/\Lj P body cl dl ms ll dr W fin N r
theorem RL {R}{W}{cl}{dl}{ms}{ll}{dr}{fin:nJ->Env->M R}{N}(hmo:NP cl ms)(h1:eY P cl)(hd:qO P dl)(h2:Jf P body W ll) :
  ∀{js},Lj P body cl dl ms ll dr W fin N js->yQ P body ⟨M4 cl dl ms,Hc ll,JI js,dr⟩ W fin
 |[],_=>⟨NQ h1 hd hmo,HJ h2,λ_ _ _ h=>by cases h⟩
 |e::r,hj=>by
  have ih:=RL hmo h1 hd h2 hj.2;refine⟨NQ h1 hd hmo,HJ h2,λp k J hp E m hJ F h r' hx ι w a S=>?_⟩;simp[JI] at hp;split at hp
  .rename_i he;have:=EP he;subst this;cases hp;unfold goJ at hJ;split at hJ
   .rename_i vs hg;split at hJ
    .rename_i x hu;cases hJ;have hgg:sV E e.ls=some (fW (lD e.ls) x):=(by rw[hg,vx hu]);rw[<-hj.1 x] at hx;exact vR ih N false _ _ F ι h r' a w ⟨S.rel,ya hgg S.env,S.defers,S.size⟩ hx
    .cases hJ
   .cases hJ
  .exact ih.join p k J hp E m hJ F h r' hx ι w a S
def Lj.nil {R}{body}{cl}{dl}{ms}{ll}{dr}{W}{fin}{N}:Lj P body cl dl ms ll dr W fin N ([]:List (iV R)):=trivial
def Jf.nil {body}{W}:Jf P body W []:=trivial
theorem eY.cons {e}{r}(h:aH P e)(hr:eY P r):eY P (e::r):=⟨h,hr⟩
theorem qO.cons {e}{r}(h:P5 P e)(hr:qO P r):qO P (e::r):=⟨h,hr⟩
def qO.nil:qO P []:=trivial
theorem NN.cons {as rs}{e:DTg as rs}{r}(h:agv P e)(hr:NN P r):NN P (e::r):=⟨h,hr⟩
def NN.nil {as rs}:NN P ([]:List (DTg as rs)):=trivial
def eY.nil:eY P []:=trivial
theorem gR {e} fn (hf : P.funcs[e.id]? = some fn := by kernel_rfl) (hb : fn.body.isNone = false := by kernel_rfl) (hn : (fn.name == "runtime.NumGoroutine") = false := by kernel_rfl) (h0 : ∀x, e.m x = AS := by intro x; kernel_rfl) : aH P e :=by
 intro x;refine iG.of (λargs w=>iW hf hb hn args w) ?_;intro F h y h1 hx;simp[h0,AS] at hx
structure WJ {R:Type} (P:Program) (body:Code) (W:Wr) (cl:List dZ) (dl:List ru) (mo:List FuncId) (ll:List M5) (js:List (iV R)) (dr:Nat->Option (List (Nat×η))) (fin:nJ->Env->M R):Prop where
 hm:NP cl mo
 c:eY P cl
 d:qO P dl
 l:Jf P body W ll
 j:Lj P body cl dl mo ll dr W fin 400 js
def WJ.ok {R}{body}{W}{cl}{dl}{mo}{ll}{js:List (iV R)}{dr}{fin}(t:WJ P body W cl dl mo ll js dr fin) :
  yQ P body ⟨M4 cl dl mo,Hc ll,JI js,dr⟩ W fin:=RL t.hm t.c t.d t.l t.j
@[reducible] def FT (R:Type):List Ty->Type
 |[]=>R
 |[t]=>t.den->R
 |t::t'::ts=>t.den->FT R (t'::ts)
def uc {R}:(ts:List Ty)->FT R ts->bf ts->R
 |[],f,_=>f
 |[_],f,x=>f x
 |_::t::ts,f,x=>uc (t::ts) (f x.1) x.2
abbrev eN (id:FuncId) as rs (f:FT (M (bf rs)) as):dZ:=⟨id,as,rs,uc as f⟩
abbrev dN t as rs (f:ο->FT (M (bf rs)) as):=ru.mk t as rs λx=>uc as (f x)
abbrev jN {R} p k ls (f:FT (M R) (lD ls)):=iV.mk p k ls (uc _ f)
structure LL where
 p:Path
 ls:List (Nat×Ty)
 ws:η
 R:Type
 fin:(bf (lD ls)->M R)->nJ->Env->M R
 act:(bf (lD ls)->M R)->bf (lD ls)->w8
 g:Nat->FT (M R) (lD ls)
 ok:∀{P body c nt} {T:Nat->MV R} {N},gw body p=.loop c->(∀x,uc _ (g 0) x=AS) ->
  (∀n x,den P body (T n) (nt,some ws) (fin (uc _ (g n))) N false [.code (0::p)] (yC ls (fW (lD ls) x))=uc _ (g (n+1)) x) ->
  ∀n,(∀m,m<n->yQ P body (T m) (nt,some ws) (fin (uc _ (g m))))->∀W,Hd W nt ws=true->EO P body W ⟨p,ls,act (uc _ (g n))⟩
abbrev L1 p ls ms ws id g:=LL.mk p ls ws _ (MY ls ms id) (aeF ls ms ws id) g λhc h0 hs n hT _ hW=>Xu hc h0 hs n hT hW
abbrev Lr p ls rs ws g:=LL.mk p ls ws _ (Rr ls rs) (aeG ls rs ws) g λhc h0 hs n hT _ hW=>Xv hc h0 hs n hT hW
abbrev L2 p ls ms rs ws id e2 g:=LL.mk p ls ws _ (WZ ls ms rs id e2) (aeH ls ms rs ws id e2) g λhc h0 hs n hT _ hW=>Xx hc h0 hs n hT hW
abbrev LL.e (s:LL) n:=M5.mk s.p s.ls (s.act (uc _ (s.g n)))
def LOK (P:Program)(fn:Func)(l:M5)(ws:η):Prop:=∀(W:Wr),Hd W fn.ntmps ws=true->EO P (vY fn) W l
def Jf.cc {fn}{W}{e}{r}{ws}(h:LOK P fn e ws)(hr:Jf P (vY fn) W r)(hw:Hd W fn.ntmps ws=true:=by kernel_rfl):Jf P (vY fn) W (e::r):=⟨h W hw,hr⟩
abbrev dF {R}(P:Program) fn cl dl mo ll (js:List (iV R)) dr W fin k E:=den P (vY fn) ⟨M4 cl dl mo,Hc ll,JI js,dr⟩ W fin 400 false k E
def Lj.cc {R}{fn}{cl}{dl}{ms}{ll}{dr}{W}{fin:nJ->Env->M R}{e}{r}
  (hr:Lj P (vY fn) cl dl ms ll dr W fin 400 r) (h:∀x,dF P fn cl dl ms ll r dr W fin (.code e.p::e.k) (yC e.ls (fW (lD e.ls) x))=e.m x:=by intro x;kernel_rfl):Lj P (vY fn) cl dl ms ll dr W fin 400 (e::r):=⟨h,hr⟩
def LL.k (s:LL) P fn n {ct:Nat->List dZ}{mo}{dt:Nat->List ru}{lt:Nat->List M5}(dr:Nat->Option (List (Nat×η)):=λ_=>none)(jt:Nat->List (iV s.R):=λ_=>[])
  (hT:∀m,m<n->WJ P (vY fn) (fn.ntmps,some s.ws) (ct m) (dt m) mo (lt m) (jt m) dr (s.fin (uc _ (s.g m))))
  (hc:gw (vY fn) s.p=.loop (child (gw (vY fn) s.p) 0):=by kernel_rfl) (h0:∀x,uc _ (s.g 0) x=AS:=by intro x;kernel_rfl)
  (hs:∀n x,dF P fn (ct n) (dt n) mo (lt n) (jt n) dr (fn.ntmps,some s.ws) (s.fin (uc _ (s.g n))) [.code (0::s.p)] (yC s.ls (fW (lD s.ls) x))=uc _ (s.g (n+1)) x:=by intro n x;kernel_rfl) :
  LOK P fn (s.e n) s.ws:=s.ok hc h0 hs n λm hm=>(hT m hm).ok
def abW:Nat->List Ty->List (Nat×Ty)
 |_,[]=>[]
 |i,t::ts=>(i,t)::abW (i+1) ts
def NR:∀i ts ,(abW i ts).map (·.1)=List.range' i ts.length
 |i,[]=>rfl
 |i,t::ts=>by rw[abW,abv,aaH,am7,NR (i+1) ts]
def bg {e} fn {cl mo dl ll}(js:List (iV (bf e.rs)):=[])(dr:Nat->Option (List (Nat×η)):=λ_=>none)
  (hT:WJ P (vY fn) (fn.ntmps,none) cl dl mo ll js dr (WY P fn e.rs))
  (hf : P.funcs[e.id]? = some fn := by kernel_rfl) (hb : fn.body = some (vY fn) := by kernel_rfl) (hn : (fn.name == "runtime.NumGoroutine") = false := by kernel_rfl) (hnt : Nat.ble e.as.length fn.ntmps = true := by kernel_rfl)
  (hg:∀x,dF P fn cl dl mo ll js dr (fn.ntmps,none) (WY P fn e.rs) [.code []] (yC (abW 0 e.as) (fW e.as x))=e.m x:=by intro x;kernel_rfl):aH P e:=
 akH hf hb hn (NR 0 e.as) hnt hT.ok hg
def Hy (Q:Nat->Prop)(n:Nat):Prop:=∀m,m<=n->Q m
def Hy.s {Q n}(h:Hy Q n):Q n:=h n (aao n)
def Hy.d {Q n}(h:Hy Q n){m}(hm:m<n):Hy Q m:=λk hk=>h k (by omega)
def NT {Q:Nat->Prop}(h0:Q 0)(hs:∀k,Hy Q k->Q (k+1)) n:Q n:=by
 induction n using Nat.strongRecOn with
 |_ k ih=>cases k with
  |zero=>exact h0
  |succ k=>exact hs k λm hm=>ih m (by omega)
def dY:Nat->Nat->η
 |0,_=>[]
 |f+1,x=>cond (Nat.beq x 0) [] ((x%1000-1)::dY f (x/1000))
def dR (l:List (Nat×η))(i:Nat):Option (List (Nat×η)):=
 match l with
 |[]=>none
 |(j,o)::r=>cond (Nat.beq i j) (some (o.map λx=>(x%1000,dY 99 (x/1000)))) (dR r i)
def WJ.m2 {R}{body}{W}{cl}{ll}{dr}{fin}(c:eY P cl)(l:Jf P body W ll):WJ P body W cl [] [] ll ([]:List (iV R)) dr fin:=⟨.nil,c,.nil,l,.nil⟩
def WJ.m3 {R}{body}{W}{cl}{js:List (iV R)}{dr}{fin}(c:eY P cl)(j:Lj P body cl [] [] [] dr W fin 400 js):WJ P body W cl [] [] [] js dr fin:=⟨.nil,c,.nil,.nil,j⟩
def WJ.m1 {R}{body}{W}{cl}{dr}{fin}(c:eY P cl):WJ P body W cl [] [] [] ([]:List (iV R)) dr fin:=⟨.nil,c,.nil,.nil,.nil⟩
def apd:(as cs:List Ty)->bf as->bf cs->bf (as++cs)
 |[],_,_,c=>c
 |[_],[],a,_=>a
 |[_],_::_,a,c=>(a,c)
 |_::t::as,cs,a,c=>(a.1,apd (t::as) cs a.2 c)
def Xy:∀as cs a c,fW (as++cs) (apd as cs a c)=fW as a++fW cs c
 |[],_,_,c=>rfl
 |[_],[],a,_=>rfl
 |[_],_::_,a,c=>rfl
 |t::t'::as,cs,a,c=>akn (EA t a.1::·) (Xy (t'::as) cs a.2 c)
def oQ {as rs id} cs {m:bf (as++cs)->M (bf rs)}(h:aH P ⟨id,as++cs,rs,m⟩):agv P (as:=as) (rs:=rs) ⟨id,cs,λa c=>m (apd as cs a c)⟩:=λa c=>NM (Xy as cs a c) (h _)
end Go.Ago
