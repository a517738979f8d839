
import Derived.Test.YtajnpfnomgjlaaaGreatDoorAgoH
set_option linter.all false
namespace Go.Ago
open Go
variable {P:Program}{ι ι':ja}{h h' h1:ai}{w w':World}
theorem rl {c Q Q'}(hq:∀e a w,e≠.normal->Q e a w->Q' e a w):∀n a w ,Code.rounds P c Q n a w->Code.rounds P c Q' n a w
 |0,_,_,h=>h
 |n+1,a,w,h=>wp_mono h λe a w he=>by
  cases e with
  |normal=>exact rl hq n a w he
  |_=>exact hq _ _ _ (by simp) he
def Cf {R} ls (g:aY (jk ls)->M R)(E:Env):M R:=
 match sS E ls with
 |some vs=>(match wv (jk ls) vs with|some x=>g x|none=>AS)
 |none=>AS
theorem Gq {R ls}{g:aY (jk ls)->M R}{E r}(hx:Cf ls g E h=some r):∃x,sS E ls=some (fE (jk ls) x)/\g x h=some r:=by
 unfold Cf at hx;generalize hg:sS E ls=o at hx;cases o with
 |none=>simp[AS] at hx
 |some vs=>
  simp at hx;generalize hu:wv (jk ls) vs=o at hx;cases o with
  |none=>simp[AS] at hx
  |some x=>grind [ud]
theorem Cg {R body c p ls nt ws}{G:Nat->aY (jk ls)->M R}{fin:Nat->jU->Env->M R}{T:Nat->Oi R}{N}
  (hc:cK body p=.loop c)(h0:∀x,G 0 x=AS)
  (hs:∀n x,den P body (T n) (nt,some ws) (fin n) N false [.code (0::p)] (uG ls (fE (jk ls) x))=G (n+1) x)
  (hn:∀n E,fin n .normal E=Cf ls (G n) E) :
  ∀n ,(∀m,m<n->xU P body (T m) (nt,some ws) (fin m))->∀x F h r ,G n x h=some r->∀ι w a ,Start P F ι (nt,some ws) (uG ls (fE (jk ls) x)) h a w ->
   Code.rounds P c (λe a' w'=>∃m,Bj P F ι (nt,some ws) a.tmps (fin m) (T m).uU r e a' w') n a w
 |0,_,x,F,h,r,hx,ι,w,a,S=>by rw[h0] at hx;simp[AS] at hx
 |n+1,hT,x,F,h,r,hx,ι,w,a,S=>by
  rw[<-hs] at hx;have hd:=vu (hT n (IT n)) N false [.code (0::p)] _ F ι h r a w S hx;have hcc:cK body (0::p)=c:=by grind [child,cK]
  intro b k cs;obtain⟨e,a',w',hpost,harr⟩:=hd b k cs;refine⟨e,a',w',?_,by grind [fP]⟩;cases e with
  |normal=>
   rcases hpost with⟨ae,heq,hnow⟩|⟨_,_,_,_,q,_⟩
   .cases ae with
    |normal=>
     obtain⟨ι2,E2,h2,hle,hk,S2,hfr⟩:=hnow.start;rw[hn] at hk;obtain⟨x2,hg,hk⟩:=Gq hk;have ih:=Cg hc h0 hs hn n (λm hm=>hT m (adf hm)) x2 F h2 r hk ι2 w' a' ⟨S2.rel,xk hg S2.env,S2.defers,S2.size⟩;refine rl (λe a w _ hq=>?_) n a' w' ih
     grind [Bj.trans]
    |_=>exact heq.elim
   .cases q
  |_=>exact⟨n,hpost⟩
def xV (P:Program)(body:Code)(W:Wr)(e:Av):Prop:=∀E x,sS E e.ls=some (fE (jk e.ls) x)->OS P body W e.p E (e.act x)
def Dh (P:Program)(body:Code)(W:Wr):List Av->Prop
 |[]=>True
 |e::r=>xV P body W e/\Dh P body W r
theorem Di:∀{p q},vD p q=true->p=q
 |[],[],_=>rfl
 |[],_::_,h=>by cases h
 |_::_,[],h=>by cases h
 |a::p,b::q,h=>by
  simp only[vD,ach] at h;rw[IS h.1,Di h.2]
theorem Gr {body W}:∀{l},Dh P body W l->∀p E,OS P body W p E (ri l p E)
 |[],_,p,E=>trivial
 |e::r,hl,p,E=>by
  simp[ri];split
  .rename_i hp;have:=Di hp;subst this;split
   .rename_i vs hg;split
    .rename_i x hu;exact hl.1 E x (by rw[hg,ud hu])
    .trivial
   .trivial
  .exact Gr hl.2 p E
theorem Ch {F W nt ws ls ms E E' x y}{a a':Go.Act}
  (hW:CU W nt ws=true)(hg:sS E ls=some (fE (jk ls) x))(S:Start P F ι W E h a w)(hg':sS E' ms=some (fE (jk ms) y))
  (hle:ι.le ι')(R':Rel P F ι' h1 w')(HE':lW P ι' E' a'.tmps)(hd:a'.defers=F.Mb)(hs:a'.tmps.size=nt)(hfr:F8 (nt,some ws) a.tmps a'.tmps) :
  ∃ι',ι.le ι'/\Rel P F ι' h1 w'/\lW P ι' (Ve ls ms ws x y) a'.tmps/\a'.defers=F.Mb/\a'.tmps.size=W.1/\F8 W a.tmps a'.tmps:=by
 unfold CU at hW;rw[ach] at hW;have hnt:=IS hW.1;refine⟨ι',hle,R',?_,hd,by rw[hs,hnt],hfr.1,λl hl i hi=>?_⟩
 .intro j u hu;rcases Iu hg' j u hu with h1|⟨h1,h2⟩
  .exact HE' j u h1
  .unfold agN at h1;cases hb:ws.any (Nat.beq j) with
   |true=>rw[hb] at h1;cases h1
   |false=>
    rw[hb] at h1;obtain⟨u',h3,h4⟩:=xk hg S.env j u h1;exact⟨u',by rw[hfr.2 ws rfl _ hb];exact h3,h4.mono hle⟩
 .refine hfr.2 ws rfl i ?_
  simp_all
theorem OX {R F W t0}{fin:jU->Env->M R}{uU r e a}(hp:uU=λ_=>AS)(h:Bj P F ι W t0 fin uU r e a w) :
  ∃ae,eqv e ae/\ZC P F ι W t0 (fin ae) r a w:=by
 rcases h with h|⟨ι2,v,v',h,q1,q2,q3,_⟩
 .exact h
 .rw[hp] at q3;simp[AS] at q3
theorem aae {ms R E}{f:aY (jk ms)->R}{r}
  (hx:Cf ms (λx=>AI (f x)) E h=some r):∃y,sS E ms=some (fE (jk ms) y)/\r=(f y,h):=by
 obtain⟨y,h1,h2⟩:=Gq hx;simp[AI,adA] at h2
 grind
variable {body c:Code}{p:Path}{ls ms rs:List (Nat×Ty)}{nt id N:Nat}{ws:η}{e2:jU}
theorem VH {G:Nat->aY (jk ls)->M (aY (jk ms))}{T:Nat->Oi (aY (jk ms))}(hc:cK body p=.loop c)(h0:∀x,G 0 x=AS)
  (hs:∀n x,den P body (T n) (nt,some ws) (D9 ls ms id (G n)) N false [.code (0::p)] (uG ls (fE (jk ls) x))=G (n+1) x)
  (hp:∀m,(T m).uU=λ_=>AS)
  n (hT:∀m,m<n->xU P body (T m) (nt,some ws) (D9 ls ms id (G m))){W}(hW:CU W nt ws=true) :
  xV P body W ⟨p,ls,Vf ls ms ws id (G n)⟩:=by
 intro E x hg F h y h1 hx ι w a S;rw[hc];have hnt:W.1=nt:=by unfold CU at hW;simp_all
 refine wp_loop_rounds n (rl (λe a' w' hne hq=>?_) n a w (Cg hc h0 hs (λ_ _=>rfl) n hT x F h (y,h1) hx ι w a ⟨S.rel,xk hg S.env,S.defers,by rw[S.size,hnt]⟩));obtain⟨m,hq⟩:=hq;obtain⟨ae,heq,ι',E',h',hle,hfin,R',HE',hd,hs',hfr⟩:=OX (hp m) hq;cases ae with
 |normal=>cases e<;>first|exact absurd rfl hne|exact heq.elim
 |ret=>simp[D9,AS] at hfin
 |exit id'=>
  have hfin':id=id'/\Cf ms (λx=>AI x) E' h'=some (y,h1):=by
   simp[D9] at hfin;generalize hb:Nat.beq id id'=b at hfin;generalize hgg:sS E' ms=o at hfin;cases b<;>cases o<;>simp only at hfin<;>try (simp[AS] at hfin;done)
   refine⟨IS hb,?_⟩;unfold Cf;rw[hgg];exact hfin
  obtain⟨rfl,hfin'⟩:=hfin';obtain⟨y',hg',e1⟩:=aae hfin';cases e1;exact⟨heq,Ch hW hg S hg' hle R' HE' hd hs' hfr⟩
theorem VI {G:Nat->aY (jk ls)->M (aY (jk rs))}{T:Nat->Oi (aY (jk rs))}(hc:cK body p=.loop c)(h0:∀x,G 0 x=AS)
  (hs:∀n x,den P body (T n) (nt,some ws) (FU ls rs (G n)) N false [.code (0::p)] (uG ls (fE (jk ls) x))=G (n+1) x)
  (hp:∀m,(T m).uU=λ_=>AS)
  n (hT:∀m,m<n->xU P body (T m) (nt,some ws) (FU ls rs (G m))){W}(hW:CU W nt ws=true) :
  xV P body W ⟨p,ls,Vg ls rs ws (G n)⟩:=by
 intro E x hg F h y h1 hx ι w a S;rw[hc];have hnt:W.1=nt:=by unfold CU at hW;simp_all
 refine wp_loop_rounds n (rl (λe a' w' hne hq=>?_) n a w (Cg hc h0 hs (λ_ _=>rfl) n hT x F h (y,h1) hx ι w a ⟨S.rel,xk hg S.env,S.defers,by rw[S.size,hnt]⟩));obtain⟨m,hq⟩:=hq;obtain⟨ae,heq,ι',E',h',hle,hfin,R',HE',hd,hs',hfr⟩:=OX (hp m) hq;cases ae with
 |normal=>cases e<;>first|exact absurd rfl hne|exact heq.elim
 |exit id'=>simp[FU,AS] at hfin
 |ret=>
  obtain⟨y',hg',e1⟩:=aae (show Cf rs (λx=>AI x) E' h'=some (y,h1) from hfin);cases e1;exact⟨heq,Ch hW hg S hg' hle R' HE' hd hs' hfr⟩
theorem VJ {a b}(h:eqE a b=true):a=b:=by
 cases a<;>cases b<;>simp only[eqE] at h<;>first|rfl|(cases h;done)|simp_all
theorem VK {G:Nat->aY (jk ls)->M (aY (jk ms)⊕aY (jk rs))}{T:Nat->Oi (aY (jk ms)⊕aY (jk rs))}(hc:cK body p=.loop c)(h0:∀x,G 0 x=AS)
  (hs:∀n x,den P body (T n) (nt,some ws) (Ie ls ms rs id e2 (G n)) N false [.code (0::p)] (uG ls (fE (jk ls) x))=G (n+1) x)
  (hp:∀m,(T m).uU=λ_=>AS)
  n (hT:∀m,m<n->xU P body (T m) (nt,some ws) (Ie ls ms rs id e2 (G m))){W}(hW:CU W nt ws=true) :
  xV P body W ⟨p,ls,Vh ls ms rs ws id e2 (G n)⟩:=by
 intro E x hg;have hnt:W.1=nt:=by unfold CU at hW;simp_all
 have key:∀{F:Fz} {h:ai} {r h1},G n x h=some (r,h1)->∀ι w a,Start P F ι W E h a w ->
   Code.rounds P c (λe a' w'=>∃ι' E' h',ι.le ι'/\Rel P F ι' h' w'/\lW P ι' E' a'.tmps/\a'.defers=F.Mb/\a'.tmps.size=nt/\F8 (nt,some ws) a.tmps a'.tmps /\
    ((eqv e (.exit id)/\∃y,sS E' ms=some (fE (jk ms) y)/\r=.inl y/\h1=h')\/(eqv e e2/\∃y,sS E' rs=some (fE (jk rs) y)/\r=.inr y/\h1=h'))) n a w:=by
  intro F h r h1 hx ι w a S;refine rl (λe a' w' hne hq=>?_) n a w (Cg hc h0 hs (λ_ _=>rfl) n hT x F h (r,h1) hx ι w a ⟨S.rel,xk hg S.env,S.defers,by rw[S.size,hnt]⟩);obtain⟨m,hq⟩:=hq;obtain⟨ae,heq,ι',E',h',hle,hfin,R',HE',hd,hs',hfr⟩:=OX (hp m) hq;refine⟨ι',E',h',hle,R',HE',hd,hs',hfr,?_⟩;have tail:∀ae,ae≠.normal->eqv e ae->(match eqE ae (.exit id) with
    |true=>Cf ms (λx=>AI (Sum.inl x:aY (jk ms)⊕aY (jk rs))) E'
    |false=>(match eqE ae e2 with
     |true=>Cf rs (λx=>AI (Sum.inr x:aY (jk ms)⊕aY (jk rs))) E'
     |false=>AS)) h'=some (r,h1)->((eqv e (.exit id)/\∃y,sS E' ms=some (fE (jk ms) y)/\r=.inl y/\h1=h')\/(eqv e e2/\∃y,sS E' rs=some (fE (jk rs) y)/\r=.inr y/\h1=h')):=by
   intro ae _ he2 hf2;cases h2:eqE ae (.exit id)<;>rw[h2] at hf2
   .cases h3:eqE ae e2<;>rw[h3] at hf2
    .simp[AS] at hf2
    .have:=VJ h3;subst this;obtain⟨y',hg',e1⟩:=aae hf2
     grind
   .have:=VJ h2;subst this;obtain⟨y',hg',e1⟩:=aae hf2
    grind
  cases ae with
  |normal=>cases e<;>first|exact absurd rfl hne|exact heq.elim
  |ret=>exact tail .ret (by simp) heq hfin
  |exit id'=>exact tail (.exit id') (by simp) heq hfin
 refine⟨λF h y h1 hx ι w a S=>?_,λF h y h1 hx ι w a S=>?_⟩<;>rw[hc]<;>refine wp_loop_rounds n (rl (λe a' w' hne hq=>?_) n a w (key hx ι w a S))
 .obtain⟨ι',E',h',hle,R',HE',hd,hs',hfr,⟨q0,y',q1,q2,q3⟩|⟨q0,y',q1,q2,q3⟩⟩:=hq
  .cases q2;subst q3;exact⟨q0,Ch hW hg S q1 hle R' HE' hd hs' hfr⟩
  .cases q2
 .obtain⟨ι',E',h',hle,R',HE',hd,hs',hfr,⟨q0,y',q1,q2,q3⟩|⟨q0,y',q1,q2,q3⟩⟩:=hq
  .cases q2
  .cases q2;subst q3;exact⟨q0,Ch hW hg S q1 hle R' HE' hd hs' hfr⟩
def EB {R}(P:Program)(body:Code)(cl:List dv)(dl:List oZ)(ms:List FuncId)(ll:List Av)(dr:Nat->Option (List (Nat×η)))(W:Wr)(fin:jU->Env->M R)(N:Nat)(ps:List Ma)(uU:ξ->M R):List (jm R)->Prop
 |[]=>True
 |e::r=>(∀x,den P body ⟨tf cl dl ms ps,ri ll,rL r,dr,uU⟩ W fin N false (.code e.p::e.k) (uG e.ls (fE (jk e.ls) x))=e.m x)/\EB P body cl dl ms ll dr W fin N ps uU r
theorem VL l:OW l []=true:=by unfold OW;simp
theorem Je {R W cl dl ms ll dr}{fin:jU->Env->M R}{N ps uU}(hmo:A5 cl ms)(h1:eE P cl)(hd:pK P dl)(h2:Dh P body W ll)(h4:HG P ps)(h5:OW cl ps=true) :
  ∀{js},EB P body cl dl ms ll dr W fin N ps uU js->xU P body ⟨tf cl dl ms ps,ri ll,rL js,dr,uU⟩ W fin
 |[],_=>⟨MW h1 hd hmo h4 h5,Gr h2,λ_ _ _ h=>by cases h⟩
 |e::r,hj=>by
  have ih:=Je hmo h1 hd h2 h4 h5 hj.2;refine⟨MW h1 hd hmo h4 h5,Gr h2,λp k J hp E m hJ F h r' hx ι w a S=>?_⟩;simp[rL] at hp;split at hp
  .rename_i he;have:=Di he;subst this;cases hp;unfold goJ at hJ;split at hJ
   .rename_i vs hg;split at hJ
    .rename_i x hu;cases hJ;have hgg:sS E e.ls=some (fE (jk e.ls) x):=(by rw[hg,ud hu]);rw[<-hj.1 x] at hx;exact vu ih N false _ _ F ι h r' a w ⟨S.rel,xk hgg S.env,S.defers,S.size⟩ hx
    .cases hJ
   .cases hJ
  .exact ih.join p k J hp E m hJ F h r' hx ι w a S
theorem EB.cons {R body cl dl ms ll dr W}{fin:jU->Env->M R}{N ps uU e r}
  (h:∀x,den P body ⟨tf cl dl ms ps,ri ll,rL r,dr,uU⟩ W fin N false (.code e.p::e.k) (uG e.ls (fE (jk e.ls) x))=e.m x)(hr:EB P body cl dl ms ll dr W fin N ps uU r):EB P body cl dl ms ll dr W fin N ps uU (e::r):=⟨h,hr⟩
theorem EB.nil {R body cl dl ms ll dr W fin N ps uU}:EB P body cl dl ms ll dr W fin N ps uU ([]:List (jm R)):=trivial
theorem Dh.cons {body W e r}(h:xV P body W e)(hr:Dh P body W r):Dh P body W (e::r):=⟨h,hr⟩
theorem Dh.nil {body W}:Dh P body W []:=trivial
theorem eE.cons {e r}(h:aK P e)(hr:eE P r):eE P (e::r):=⟨h,hr⟩
theorem pK.cons {e r}(h:OU P e)(hr:pK P r):pK P (e::r):=⟨h,hr⟩
theorem pK.nil:pK P []:=trivial
theorem MS.cons {as rs}{e:DTg as rs}{r}(h:agV P e)(hr:MS P r):MS P (e::r):=⟨h,hr⟩
theorem MS.nil {as rs}:MS P ([]:List (DTg as rs)):=trivial
theorem eE.nil:eE P []:=trivial
theorem gf {e fn}(hf : P.funcs[e.id]? = some fn)(hb : fn.body.isNone = false)(hn : (fn.name == "runtime.NumGoroutine") = false)(h0 : ∀x, e.m x = AS) : aK P e :=by
 intro x;refine iw.of (λargs w=>jc hf hb hn args w) ?_;intro F h y h1 hx;simp[h0,AS] at hx
structure QH {R:Type} (P:Program) (body:Code) (W:Wr) (cl:List dv) (dl:List oZ) (mo:List FuncId) (ll:List Av) (js:List (jm R)) (dr:Nat->Option (List (Nat×η))) (fin:jU->Env->M R):Prop where
 hm:A5 cl mo
 c:eE P cl
 d:pK P dl
 l:Dh P body W ll
 j:EB P body cl dl mo ll dr W fin 400 [] (λ_=>AS) js
theorem QH.ok {R body W cl dl mo ll}{js:List (jm R)}{dr fin}(t:QH P body W cl dl mo ll js dr fin) :
  xU P body ⟨tf cl dl mo,ri ll,rL js,dr,λ_=>AS⟩ W fin:=Je (ps:=[]) (uU:=λ_=>AS) t.hm t.c t.d t.l trivial (VL _) t.j
section
variable (body:Code)(p:Path)(ls ms rs:List (Nat×Ty))(id:Nat)(e2:jU)(nt:Nat)(ws:η)(mo:List FuncId)(ct:Nat->List dv)(dt:Nat->List oZ)(lt:Nat->List Av)(dr:Nat->Option (List (Nat×η)))
theorem aaf (G:Nat->aY (jk ls)->M (aY (jk ms)))(jt:Nat->List (jm (aY (jk ms))))(hc:cK body p=.loop (child (cK body p) 0))(h0:∀x,G 0 x=AS)
  (hs:∀n x,den P body ⟨tf (ct n) (dt n) mo,ri (lt n),rL (jt n),dr,λ_=>AS⟩ (nt,some ws) (D9 ls ms id (G n)) 400 false [.code (0::p)] (uG ls (fE (jk ls) x))=G (n+1) x)
  n (hT:∀m,m<n->QH P body (nt,some ws) (ct m) (dt m) mo (lt m) (jt m) dr (D9 ls ms id (G m))){W}(hW:CU W nt ws=true):xV P body W ⟨p,ls,Vf ls ms ws id (G n)⟩:=
 VH (T:=λn=>⟨tf (ct n) (dt n) mo,ri (lt n),rL (jt n),dr,λ_=>AS⟩) hc h0 hs (λ_=>rfl) n (λm hm=>(hT m hm).ok) hW
theorem aag (G:Nat->aY (jk ls)->M (aY (jk rs)))(jt:Nat->List (jm (aY (jk rs))))(hc:cK body p=.loop (child (cK body p) 0))(h0:∀x,G 0 x=AS)
  (hs:∀n x,den P body ⟨tf (ct n) (dt n) mo,ri (lt n),rL (jt n),dr,λ_=>AS⟩ (nt,some ws) (FU ls rs (G n)) 400 false [.code (0::p)] (uG ls (fE (jk ls) x))=G (n+1) x)
  n (hT:∀m,m<n->QH P body (nt,some ws) (ct m) (dt m) mo (lt m) (jt m) dr (FU ls rs (G m))){W}(hW:CU W nt ws=true):xV P body W ⟨p,ls,Vg ls rs ws (G n)⟩:=
 VI (T:=λn=>⟨tf (ct n) (dt n) mo,ri (lt n),rL (jt n),dr,λ_=>AS⟩) hc h0 hs (λ_=>rfl) n (λm hm=>(hT m hm).ok) hW
theorem aah (G:Nat->aY (jk ls)->M (aY (jk ms)⊕aY (jk rs)))(jt:Nat->List (jm (aY (jk ms)⊕aY (jk rs))))(hc:cK body p=.loop (child (cK body p) 0))(h0:∀x,G 0 x=AS)
  (hs:∀n x,den P body ⟨tf (ct n) (dt n) mo,ri (lt n),rL (jt n),dr,λ_=>AS⟩ (nt,some ws) (Ie ls ms rs id e2 (G n)) 400 false [.code (0::p)] (uG ls (fE (jk ls) x))=G (n+1) x)
  n (hT:∀m,m<n->QH P body (nt,some ws) (ct m) (dt m) mo (lt m) (jt m) dr (Ie ls ms rs id e2 (G m))){W}(hW:CU W nt ws=true):xV P body W ⟨p,ls,Vh ls ms rs ws id e2 (G n)⟩:=
 VK (T:=λn=>⟨tf (ct n) (dt n) mo,ri (lt n),rL (jt n),dr,λ_=>AS⟩) hc h0 hs (λ_=>rfl) n (λm hm=>(hT m hm).ok) hW
end
theorem ais e fn c ps mo cl dl ll js dr
  (hf : P.funcs[e.id]? = some fn)(hb : fn.body = some c)(hn : (fn.name == "runtime.NumGoroutine") = false)(hps : ps.map (·.1) = List.range' 0 e.as.length)(hnt : Nat.ble e.as.length fn.ntmps = true)
  (hT:QH P c (fn.ntmps,none) cl dl mo ll js dr (On P fn e.rs))
  (hg:∀x,den P c ⟨tf cl dl mo,ri ll,rL js,dr,λ_=>AS⟩ (fn.ntmps,none) (On P fn e.rs) 400 false [.code []] (uG ps (fE e.as x))=e.m x):aK P e:=
 agW hf hb hn hps hnt hT.ok rfl hg
abbrev aen {R}:ξ->M (R⊕ξ):=λv=>AI (.inr v)
section
variable {body c:Code}{p:Path}{ls ms rs:List (Nat×Ty)}{nt id N:Nat}{ws:η}{e2:jU}
end
structure agX {X:Type} (P:Program) (body:Code) (W:Wr) (cl:List dv) (dl:List oZ) (pl:List Ma) (mo:List FuncId) (ll:List Av) (js:List (jm (X⊕ξ))) (dr:Nat->Option (List (Nat×η))) (fin:jU->Env->M (X⊕ξ)):Prop where
 hm:A5 cl mo
 c:eE P cl
 d:pK P dl
 p:HG P pl
 x:OW cl pl=true
 l:Dh P body W ll
 j:EB P body cl dl mo ll dr W fin 400 pl aen js
theorem agX.ok {X body W cl dl pl mo ll}{js:List (jm (X⊕ξ))}{dr fin}(t:agX P body W cl dl pl mo ll js dr fin) :
  xU P body ⟨tf cl dl mo pl,ri ll,rL js,dr,aen⟩ W fin:=Je (ps:=pl) (uU:=aen) t.hm t.c t.d t.l t.p t.x t.j
theorem HG.cons {e r}(h:ack P e)(hr:HG P r):HG P (e::r):=⟨h,hr⟩
theorem HG.nil:HG P []:=trivial
section
variable (body:Code)(p:Path)(ls ms rs:List (Nat×Ty))(id:Nat)(e2:jU)(nt:Nat)(ws:η)(mo:List FuncId)(ct:Nat->List dv)(dt:Nat->List oZ)(pt:Nat->List Ma)(lt:Nat->List Av)(dr:Nat->Option (List (Nat×η)))
end
structure L1 where
 p:Path
 ls:List (Nat×Ty)
 ms:List (Nat×Ty)
 ws:η
 id:Nat
 g:Nat->aY (jk ls)->M (aY (jk ms))
structure Lr where
 p:Path
 ls:List (Nat×Ty)
 rs:List (Nat×Ty)
 ws:η
 g:Nat->aY (jk ls)->M (aY (jk rs))
structure L2 where
 p:Path
 ls:List (Nat×Ty)
 ms:List (Nat×Ty)
 rs:List (Nat×Ty)
 ws:η
 id:Nat
 e2:jU
 g:Nat->aY (jk ls)->M (aY (jk ms)⊕aY (jk rs))
def L1.e (s:L1)(n:Nat):Av:=⟨s.p,s.ls,Vf s.ls s.ms s.ws s.id (s.g n)⟩
def Lr.e (s:Lr)(n:Nat):Av:=⟨s.p,s.ls,Vg s.ls s.rs s.ws (s.g n)⟩
def L2.e (s:L2)(n:Nat):Av:=⟨s.p,s.ls,Vh s.ls s.ms s.rs s.ws s.id s.e2 (s.g n)⟩
def lA (P:Program)(fn:Func)(l:Av)(ws:η):Prop:=∀(W:Wr),CU W fn.ntmps ws=true->xV P (lV fn) W l
theorem Dh.cc {fn W e r ws}(h:lA P fn e ws)(hr:Dh P (lV fn) W r)(hw:CU W fn.ntmps ws=true:=by kernel_rfl):Dh P (lV fn) W (e::r):=⟨h W hw,hr⟩
theorem EB.cc {R body cl dl ms ll dr W}{fin:jU->Env->M R}{N ps uU e r}
  (hr:EB P body cl dl ms ll dr W fin N ps uU r)(h:∀x,den P body ⟨tf cl dl ms ps,ri ll,rL r,dr,uU⟩ W fin N false (.code e.p::e.k) (uG e.ls (fE (jk e.ls) x))=e.m x:=by intro x;kernel_rfl):EB P body cl dl ms ll dr W fin N ps uU (e::r):=⟨h,hr⟩
theorem L1.ok fn (s:L1) n (ct:Nat->List dv)(mo:List FuncId:=[])(dt:Nat->List oZ:=λ_=>[])(lt:Nat->List Av:=λ_=>[])(dr:Nat->Option (List (Nat×η)):=λ_=>none)(jt:Nat->List (jm (aY (jk s.ms))):=λ_=>[])
  (hT:∀m,m<n->QH P (lV fn) (fn.ntmps,some s.ws) (ct m) (dt m) mo (lt m) (jt m) dr (D9 s.ls s.ms s.id (s.g m)))
  (hc:cK (lV fn) s.p=.loop (child (cK (lV fn) s.p) 0):=by kernel_rfl)(h0:∀x,s.g 0 x=AS:=by intro x;kernel_rfl)
  (hs:∀n x,den P (lV fn) ⟨tf (ct n) (dt n) mo,ri (lt n),rL (jt n),dr,λ_=>AS⟩ (fn.ntmps,some s.ws) (D9 s.ls s.ms s.id (s.g n)) 400 false [.code (0::s.p)] (uG s.ls (fE (jk s.ls) x))=s.g (n+1) x:=by intro n x;kernel_rfl) :
  lA P fn (s.e n) s.ws:=λW hW=>aaf (lV fn) s.p s.ls s.ms s.id fn.ntmps s.ws mo ct dt lt dr s.g jt hc h0 hs n hT hW
theorem Lr.ok fn (s:Lr) n (ct:Nat->List dv)(mo:List FuncId:=[])(dt:Nat->List oZ:=λ_=>[])(lt:Nat->List Av:=λ_=>[])(dr:Nat->Option (List (Nat×η)):=λ_=>none)(jt:Nat->List (jm (aY (jk s.rs))):=λ_=>[])
  (hT:∀m,m<n->QH P (lV fn) (fn.ntmps,some s.ws) (ct m) (dt m) mo (lt m) (jt m) dr (FU s.ls s.rs (s.g m)))
  (hc:cK (lV fn) s.p=.loop (child (cK (lV fn) s.p) 0):=by kernel_rfl)(h0:∀x,s.g 0 x=AS:=by intro x;kernel_rfl)
  (hs:∀n x,den P (lV fn) ⟨tf (ct n) (dt n) mo,ri (lt n),rL (jt n),dr,λ_=>AS⟩ (fn.ntmps,some s.ws) (FU s.ls s.rs (s.g n)) 400 false [.code (0::s.p)] (uG s.ls (fE (jk s.ls) x))=s.g (n+1) x:=by intro n x;kernel_rfl) :
  lA P fn (s.e n) s.ws:=λW hW=>aag (lV fn) s.p s.ls s.rs fn.ntmps s.ws mo ct dt lt dr s.g jt hc h0 hs n hT hW
theorem L2.ok fn (s:L2) n (ct:Nat->List dv)(mo:List FuncId:=[])(dt:Nat->List oZ:=λ_=>[])(lt:Nat->List Av:=λ_=>[])(dr:Nat->Option (List (Nat×η)):=λ_=>none)(jt:Nat->List (jm (aY (jk s.ms)⊕aY (jk s.rs))):=λ_=>[])
  (hT:∀m,m<n->QH P (lV fn) (fn.ntmps,some s.ws) (ct m) (dt m) mo (lt m) (jt m) dr (Ie s.ls s.ms s.rs s.id s.e2 (s.g m)))
  (hc:cK (lV fn) s.p=.loop (child (cK (lV fn) s.p) 0):=by kernel_rfl)(h0:∀x,s.g 0 x=AS:=by intro x;kernel_rfl)
  (hs:∀n x,den P (lV fn) ⟨tf (ct n) (dt n) mo,ri (lt n),rL (jt n),dr,λ_=>AS⟩ (fn.ntmps,some s.ws) (Ie s.ls s.ms s.rs s.id s.e2 (s.g n)) 400 false [.code (0::s.p)] (uG s.ls (fE (jk s.ls) x))=s.g (n+1) x:=by intro n x;kernel_rfl) :
  lA P fn (s.e n) s.ws:=λW hW=>aah (lV fn) s.p s.ls s.ms s.rs s.id s.e2 fn.ntmps s.ws mo ct dt lt dr s.g jt hc h0 hs n hT hW
def VM:Nat->List Ty->List (Nat×Ty)
 |_,[]=>[]
 |i,t::ts=>(i,t)::VM (i+1) ts
theorem MX:∀i ts ,(VM i ts).map (·.1)=List.range' i ts.length
 |i,[]=>rfl
 |i,t::ts=>by rw[VM,adR,acp,ajl,MX (i+1) ts]
theorem bw {e} fn cl (mo:List FuncId:=[])(dl:List oZ:=[])(ll:List Av:=[])(js:List (jm (aY e.rs)):=[])(dr:Nat->Option (List (Nat×η)):=λ_=>none)
  (hT:QH P (lV fn) (fn.ntmps,none) cl dl mo ll js dr (On P fn e.rs))
  (hf : P.funcs[e.id]? = some fn := by kernel_rfl)(hb : fn.body = some (lV fn) := by kernel_rfl)(hn : (fn.name == "runtime.NumGoroutine") = false := by kernel_rfl)(hnt : Nat.ble e.as.length fn.ntmps = true := by kernel_rfl)
  (hg:∀x,den P (lV fn) ⟨tf cl dl mo,ri ll,rL js,dr,λ_=>AS⟩ (fn.ntmps,none) (On P fn e.rs) 400 false [.code []] (uG (VM 0 e.as) (fE e.as x))=e.m x:=by intro x;kernel_rfl):aK P e:=
 ais e fn (lV fn) (VM 0 e.as) mo cl dl ll js dr hf hb hn (MX 0 e.as) hnt hT hg
theorem QH.m1 {R body W cl dr fin}(c:eE P cl):QH P body W cl [] [] [] ([]:List (jm R)) dr fin:=⟨.nil,c,.nil,.nil,.nil⟩
end Go.Ago
