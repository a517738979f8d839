
import Derived.Test.YtengdffgmpghgaaGreatDoorAgoH
set_option linter.all false
namespace Go.Ago
open Go
variable {P:Program}{ι ι':eg}{h h' h1:ab}{w w':World}
theorem p7 {c:Code}{Q Q':Exit->Go.Act->World->Prop}(hq:∀e a w,e≠.normal->Q e a w->Q' e a w):∀(n:Nat) (a:Go.Act) (w:World),Code.rounds P c Q n a w->Code.rounds P c Q' n a w
 |0,_,_,h=>h
 |n+1,a,w,h=>wp_mono h λe a w he=>by
  cases e with
  |normal=>exact p7 hq n a w he
  |_=>exact hq _ _ _ (by simp) he
def Cf {R:Type}(ls:List (Nat×Ty))(g:aH (gJ ls)->M R)(E:Env):M R:=
 match rv E ls with
 |some vs=>(match wa (gJ ls) vs with|some x=>g x|none=>AS)
 |none=>AS
theorem GJ {R:Type}{ls:List (Nat×Ty)}{g:aH (gJ ls)->M R}{E:Env}{r:R×ab}(hx:Cf ls g E h=some r):∃x,rv E ls=some (eE (gJ ls) x)/\g x h=some r:=by
 unfold Cf at hx;generalize hg:rv E ls=o at hx;cases o with
 |none=>simp[AS] at hx
 |some vs=>
  simp only at hx;generalize hu:wa (gJ ls) vs=o at hx;cases o with
  |none=>simp[AS] at hx
  |some x=>exact⟨x,by rw[<-sN hu],hx⟩
theorem Cg {R:Type}{body c:Code}{p:Path}{ls:List (Nat×Ty)}{nt:Nat}{ws:η}{G:Nat->aH (gJ ls)->M R}{fin:Nat->gi->Env->M R}{T:Nat->MG R}{N:Nat}
  (hc:cA body p=.loop c) (h0:∀x,G 0 x=AS)
  (hs:∀n x,den P body (T n) (nt,some ws) (fin n) N false [.code (0::p)] (tB ls (eE (gJ ls) x))=G (n+1) x)
  (hn:∀n E,fin n .normal E=Cf ls (G n) E) :
  ∀(n:Nat),(∀m,m<n->xB P body (T m) (nt,some ws) (fin m))->∀(x:aH (gJ ls)) (F:Fz) (h:ab) (r:R×ab),G n x h=some r->∀(ι:eg) (w:World) (a:Go.Act),Start P F ι (nt,some ws) (tB ls (eE (gJ ls) x)) h a w ->
   Code.rounds P c (λe a' w'=>∃m,Bh P F ι (nt,some ws) a.tmps (fin m) (T m).tY r e a' w') n a w
 |0,_,x,F,h,r,hx,ι,w,a,S=>by rw[h0] at hx;simp[AS] at hx
 |n+1,hT,x,F,h,r,hx,ι,w,a,S=>by
  rw[<-hs] at hx;have hd:=uG (hT n (aad n)) N false [.code (0::p)] _ F ι h r a w S hx;have hcc:cA body (0::p)=c:=by show child (cA body p) 0=c;rw[hc];rfl
  intro b k cs;obtain⟨e,a',w',hpost,harr⟩:=hd b k cs;refine⟨e,a',w',?_,by grind [eW]⟩;cases e with
  |normal=>
   rcases hpost with⟨ae,heq,hnow⟩|⟨_,_,_,_,q,_⟩
   .cases ae with
    |normal=>
     obtain⟨ι2,E2,h2,hle,hk,S2,hfr⟩:=hnow.start;rw[hn] at hk;obtain⟨x2,hg,hk⟩:=GJ hk;have ih:=Cg hc h0 hs hn n (λm hm=>hT m (acy hm)) x2 F h2 r hk ι2 w' a' ⟨S2.rel,wS hg S2.env,S2.defers,S2.size⟩;refine p7 (λe a w _ hq=>?_) n a' w' ih
     grind [Bh.trans]
    |_=>exact heq.elim
   .cases q
  |_=>exact⟨n,hpost⟩
def xC (P:Program)(body:Code)(W:Wr)(e:ry):Prop:=∀E x,rv E e.ls=some (eE (gJ e.ls) x)->Ps P body W e.p E (e.act x)
def Dp (P:Program)(body:Code)(W:Wr):List ry->Prop
 |[]=>True
 |e::r=>xC P body W e/\Dp P body W r
theorem Dq:∀{p q:Path},uK p q=true->p=q
 |[],[],_=>rfl
 |[],_::_,h=>by cases h
 |_::_,[],h=>by cases h
 |a::p,b::q,h=>by
  simp only[uK,aag] at h;rw[IS h.1,Dq h.2]
theorem GK {body:Code}{W:Wr}:∀{l:List ry},Dp P body W l->∀p E,Ps P body W p E (pZ l p E)
 |[],_,p,E=>trivial
 |e::r,hl,p,E=>by
  simp only[pZ];split
  .rename_i hp;have:=Dq hp;subst this;split
   .rename_i vs hg;split
    .rename_i x hu;exact hl.1 E x (by rw[hg,sN hu])
    .trivial
   .trivial
  .exact GK hl.2 p E
theorem Ch {F:Fz}{W:Wr}{nt:Nat}{ws:η}{ls ms:List (Nat×Ty)}{E E':Env}{x:aH (gJ ls)}{y:aH (gJ ms)}{a a':Go.Act}
  (hW:Dc W nt ws=true) (hg:rv E ls=some (eE (gJ ls) x)) (S:Start P F ι W E h a w) (hg':rv E' ms=some (eE (gJ ms) y))
  (hle:ι.le ι') (R':Rel P F ι' h1 w') (HE':jW P ι' E' a'.tmps) (hd:a'.defers=F.MI) (hs:a'.tmps.size=nt) (hfr:Gt (nt,some ws) a.tmps a'.tmps) :
  ∃ι',ι.le ι'/\Rel P F ι' h1 w'/\jW P ι' (Wf ls ms ws x y) a'.tmps/\a'.defers=F.MI/\a'.tmps.size=W.1/\Gt W a.tmps a'.tmps:=by
 unfold Dc at hW;rw[aag] at hW;have hnt:=IS hW.1;refine⟨ι',hle,R',?_,hd,by rw[hs,hnt],hfr.1,λl hl i hi=>?_⟩
 .intro j u hu;rcases IM hg' j u hu with h1|⟨h1,h2⟩
  .exact HE' j u h1
  .unfold ah1 at h1;cases hb:ws.any (Nat.beq j) with
   |true=>rw[hb] at h1;cases h1
   |false=>
    rw[hb] at h1;obtain⟨u',h3,h4⟩:=wS hg S.env j u h1;exact⟨u',by rw[hfr.2 ws rfl _ hb];exact h3,h4.mono hle⟩
 .refine hfr.2 ws rfl i ?_
  simp_all
theorem Px {R:Type}{F:Fz}{W:Wr}{t0:ν}{fin:gi->Env->M R}{tY:ξ->M R}{r:R×ab}{e:Exit}{a:Go.Act}(hp:tY=λ_=>AS)(h:Bh P F ι W t0 fin tY r e a w) :
  ∃ae,eqv e ae/\Now P F ι W t0 (fin ae) r a w:=by
 rcases h with h|⟨ι2,v,v',h,q1,q2,q3,_⟩
 .exact h
 .rw[hp] at q3;simp[AS] at q3
theorem aaO {ms:List (Nat×Ty)}{R:Type}{E:Env}{f:aH (gJ ms)->R}{r:R×ab}
  (hx:Cf ms (λx=>AI (f x)) E h=some r):∃y,rv E ms=some (eE (gJ ms) y)/\r=(f y,h):=by
 obtain⟨y,h1,h2⟩:=GJ hx;simp only[AI,aai] at h2;exact⟨y,h1,h2.symm⟩
variable {body c:Code}{p:Path}{ls ms rs:List (Nat×Ty)}{nt id N:Nat}{ws:η}{e2:gi}
theorem WL {G:Nat->aH (gJ ls)->M (aH (gJ ms))}{T:Nat->MG (aH (gJ ms))}(hc:cA body p=.loop c)(h0:∀x,G 0 x=AS)
  (hs:∀n x,den P body (T n) (nt,some ws) (Eg ls ms id (G n)) N false [.code (0::p)] (tB ls (eE (gJ ls) x))=G (n+1) x)
  (hp:∀m,(T m).tY=λ_=>AS)
  (n:Nat) (hT:∀m,m<n->xB P body (T m) (nt,some ws) (Eg ls ms id (G m))) {W:Wr} (hW:Dc W nt ws=true) :
  xC P body W ⟨p,ls,Wg ls ms ws id (G n)⟩:=by
 intro E x hg F h y h1 hx ι w a S;rw[hc];have hnt:W.1=nt:=by unfold Dc at hW;simp_all
 refine wp_loop_rounds n (p7 (λe a' w' hne hq=>?_) n a w (Cg hc h0 hs (λ_ _=>rfl) n hT x F h (y,h1) hx ι w a ⟨S.rel,wS hg S.env,S.defers,by rw[S.size,hnt]⟩));obtain⟨m,hq⟩:=hq;obtain⟨ae,heq,ι',E',h',hle,hfin,R',HE',hd,hs',hfr⟩:=Px (hp m) hq;cases ae with
 |normal=>cases e<;>first|exact absurd rfl hne|exact heq.elim
 |ret=>simp[Eg,AS] at hfin
 |exit id'=>
  have hfin':id=id'/\Cf ms (λx=>AI x) E' h'=some (y,h1):=by
   simp only[Eg] at hfin;generalize hb:Nat.beq id id'=b at hfin;generalize hgg:rv E' ms=o at hfin;cases b<;>cases o<;>simp only at hfin<;>try (simp[AS] at hfin;done)
   refine⟨IS hb,?_⟩;unfold Cf;rw[hgg];exact hfin
  obtain⟨rfl,hfin'⟩:=hfin';obtain⟨y',hg',e1⟩:=aaO hfin';cases e1;exact⟨heq,Ch hW hg S hg' hle R' HE' hd hs' hfr⟩
theorem WM {G:Nat->aH (gJ ls)->M (aH (gJ rs))}{T:Nat->MG (aH (gJ rs))}(hc:cA body p=.loop c)(h0:∀x,G 0 x=AS)
  (hs:∀n x,den P body (T n) (nt,some ws) (Ge ls rs (G n)) N false [.code (0::p)] (tB ls (eE (gJ ls) x))=G (n+1) x)
  (hp:∀m,(T m).tY=λ_=>AS)
  (n:Nat) (hT:∀m,m<n->xB P body (T m) (nt,some ws) (Ge ls rs (G m))) {W:Wr} (hW:Dc W nt ws=true) :
  xC P body W ⟨p,ls,Wh ls rs ws (G n)⟩:=by
 intro E x hg F h y h1 hx ι w a S;rw[hc];have hnt:W.1=nt:=by unfold Dc at hW;simp_all
 refine wp_loop_rounds n (p7 (λe a' w' hne hq=>?_) n a w (Cg hc h0 hs (λ_ _=>rfl) n hT x F h (y,h1) hx ι w a ⟨S.rel,wS hg S.env,S.defers,by rw[S.size,hnt]⟩));obtain⟨m,hq⟩:=hq;obtain⟨ae,heq,ι',E',h',hle,hfin,R',HE',hd,hs',hfr⟩:=Px (hp m) hq;cases ae with
 |normal=>cases e<;>first|exact absurd rfl hne|exact heq.elim
 |exit id'=>simp[Ge,AS] at hfin
 |ret=>
  obtain⟨y',hg',e1⟩:=aaO (f:=λx=>x) (show Cf rs (λx=>AI x) E' h'=some (y,h1) from hfin);cases e1;exact⟨heq,Ch hW hg S hg' hle R' HE' hd hs' hfr⟩
theorem WN {a b:gi}(h:eqE a b=true):a=b:=by
 cases a<;>cases b<;>simp only[eqE] at h<;>first|rfl|(cases h;done)|(rw[IS h])
theorem WO {G:Nat->aH (gJ ls)->M (aH (gJ ms)⊕aH (gJ rs))}{T:Nat->MG (aH (gJ ms)⊕aH (gJ rs))}(hc:cA body p=.loop c)(h0:∀x,G 0 x=AS)
  (hs:∀n x,den P body (T n) (nt,some ws) (Iz ls ms rs id e2 (G n)) N false [.code (0::p)] (tB ls (eE (gJ ls) x))=G (n+1) x)
  (hp:∀m,(T m).tY=λ_=>AS)
  (n:Nat) (hT:∀m,m<n->xB P body (T m) (nt,some ws) (Iz ls ms rs id e2 (G m))) {W:Wr} (hW:Dc W nt ws=true) :
  xC P body W ⟨p,ls,Wi ls ms rs ws id e2 (G n)⟩:=by
 intro E x hg;have hnt:W.1=nt:=by unfold Dc at hW;simp_all
 have key:∀{F:Fz} {h:ab} {r h1},G n x h=some (r,h1)->∀ι w a,Start P F ι W E h a w ->
   Code.rounds P c (λe a' w'=>∃ι' E' h',ι.le ι'/\Rel P F ι' h' w'/\jW P ι' E' a'.tmps/\a'.defers=F.MI/\a'.tmps.size=nt/\Gt (nt,some ws) a.tmps a'.tmps /\
    ((eqv e (.exit id)/\∃y,rv E' ms=some (eE (gJ ms) y)/\r=.inl y/\h1=h')\/(eqv e e2/\∃y,rv E' rs=some (eE (gJ rs) y)/\r=.inr y/\h1=h'))) n a w:=by
  intro F h r h1 hx ι w a S;refine p7 (λe a' w' hne hq=>?_) n a w (Cg hc h0 hs (λ_ _=>rfl) n hT x F h (r,h1) hx ι w a ⟨S.rel,wS hg S.env,S.defers,by rw[S.size,hnt]⟩);obtain⟨m,hq⟩:=hq;obtain⟨ae,heq,ι',E',h',hle,hfin,R',HE',hd,hs',hfr⟩:=Px (hp m) hq;refine⟨ι',E',h',hle,R',HE',hd,hs',hfr,?_⟩;have tail:∀ae,ae≠.normal->eqv e ae->(match eqE ae (.exit id) with
    |true=>Cf ms (λx=>AI (Sum.inl x:aH (gJ ms)⊕aH (gJ rs))) E'
    |false=>(match eqE ae e2 with
     |true=>Cf rs (λx=>AI (Sum.inr x:aH (gJ ms)⊕aH (gJ rs))) E'
     |false=>AS)) h'=some (r,h1)->((eqv e (.exit id)/\∃y,rv E' ms=some (eE (gJ ms) y)/\r=.inl y/\h1=h')\/(eqv e e2/\∃y,rv E' rs=some (eE (gJ rs) y)/\r=.inr y/\h1=h')):=by
   intro ae _ he2 hf2;cases h2:eqE ae (.exit id)<;>rw[h2] at hf2
   .cases h3:eqE ae e2<;>rw[h3] at hf2
    .simp[AS] at hf2
    .have:=WN h3;subst this;obtain⟨y',hg',e1⟩:=aaO (f:=λx=>(Sum.inr x:aH (gJ ms)⊕aH (gJ rs))) hf2;cases e1;exact .inr ⟨he2,y',hg',rfl,rfl⟩
   .have:=WN h2;subst this;obtain⟨y',hg',e1⟩:=aaO (f:=λx=>(Sum.inl x:aH (gJ ms)⊕aH (gJ rs))) hf2;cases e1;exact .inl ⟨he2,y',hg',rfl,rfl⟩
  cases ae with
  |normal=>cases e<;>first|exact absurd rfl hne|exact heq.elim
  |ret=>exact tail .ret (by simp) heq hfin
  |exit id'=>exact tail (.exit id') (by simp) heq hfin
 refine⟨λF h y h1 hx ι w a S=>?_,λF h y h1 hx ι w a S=>?_⟩<;>rw[hc]<;>refine wp_loop_rounds n (p7 (λe a' w' hne hq=>?_) n a w (key hx ι w a S))
 .obtain⟨ι',E',h',hle,R',HE',hd,hs',hfr,⟨q0,y',q1,q2,q3⟩|⟨q0,y',q1,q2,q3⟩⟩:=hq
  .cases q2;subst q3;exact⟨q0,Ch hW hg S q1 hle R' HE' hd hs' hfr⟩
  .cases q2
 .obtain⟨ι',E',h',hle,R',HE',hd,hs',hfr,⟨q0,y',q1,q2,q3⟩|⟨q0,y',q1,q2,q3⟩⟩:=hq
  .cases q2
  .cases q2;subst q3;exact⟨q0,Ch hW hg S q1 hle R' HE' hd hs' hfr⟩
def EI {R:Type}(P:Program)(body:Code)(cl:List aS)(dl:List jV)(ms:List FuncId)(ll:List ry)(dr:Nat->Option (List (Nat×η)))(W:Wr)(fin:gi->Env->M R)(N:Nat)(ps:List xp)(tY:ξ->M R):List (fT R)->Prop
 |[]=>True
 |e::r=>(∀x,den P body ⟨rM cl dl ms ps,pZ ll,qg r,dr,tY⟩ W fin N false (.code e.p::e.k) (tB e.ls (eE (gJ e.ls) x))=e.m x)/\EI P body cl dl ms ll dr W fin N ps tY r
theorem WQ (l:List aS):Pw l []=true:=by unfold Pw;simp
theorem Jv {R:Type}{W:Wr}{cl:List aS}{dl:List jV}{ms:List FuncId}{ll:List ry}{dr:Nat->Option (List (Nat×η))}{fin:gi->Env->M R}{N:Nat}{ps:List xp}{tY:ξ->M R}(hmo:Ep cl ms)(h1:aC P cl)(hd:qc P dl)(h2:Dp P body W ll)(h4:H5 P ps)(h5:Pw cl ps=true) :
  ∀{js:List (fT R)},EI P body cl dl ms ll dr W fin N ps tY js->xB P body ⟨rM cl dl ms ps,pZ ll,qg js,dr,tY⟩ W fin
 |[],_=>⟨Nv h1 hd hmo h4 h5,GK h2,λ_ _ _ h=>by cases h⟩
 |e::r,hj=>by
  have ih:=Jv (fin:=fin) (N:=N) hmo h1 hd h2 h4 h5 hj.2;refine⟨Nv h1 hd hmo h4 h5,GK h2,λp k J hp E m hJ F h r' hx ι w a S=>?_⟩;simp only[qg] at hp;split at hp
  .rename_i he;have:=Dq he;subst this;cases hp;unfold goJ at hJ;split at hJ
   .rename_i vs hg;split at hJ
    .rename_i x hu;cases hJ;have hgg:rv E e.ls=some (eE (gJ e.ls) x):=(by rw[hg,sN hu]);rw[<-hj.1 x] at hx;exact uG ih N false _ _ F ι h r' a w ⟨S.rel,wS hgg S.env,S.defers,S.size⟩ hx
    .cases hJ
   .cases hJ
  .exact ih.join p k J hp E m hJ F h r' hx ι w a S
theorem EI.cons {R:Type}{body:Code}{cl:List aS}{dl:List jV}{ms:List FuncId}{ll:List ry}{dr:Nat->Option (List (Nat×η))}{W:Wr}{fin:gi->Env->M R}{N:Nat}{ps:List xp}{tY:ξ->M R}{e:fT R}{r:List (fT R)}
  (h:∀x,den P body ⟨rM cl dl ms ps,pZ ll,qg r,dr,tY⟩ W fin N false (.code e.p::e.k) (tB e.ls (eE (gJ e.ls) x))=e.m x) (hr:EI P body cl dl ms ll dr W fin N ps tY r):EI P body cl dl ms ll dr W fin N ps tY (e::r):=⟨h,hr⟩
theorem EI.nil {R:Type}{body:Code}{cl:List aS}{dl:List jV}{ms:List FuncId}{ll:List ry}{dr:Nat->Option (List (Nat×η))}{W:Wr}{fin:gi->Env->M R}{N:Nat}{ps:List xp}{tY:ξ->M R}:EI P body cl dl ms ll dr W fin N ps tY ([]:List (fT R)):=trivial
theorem Dp.cons {body:Code}{W:Wr}{e:ry}{r:List ry}(h:xC P body W e)(hr:Dp P body W r):Dp P body W (e::r):=⟨h,hr⟩
theorem Dp.nil {body:Code}{W:Wr}:Dp P body W []:=trivial
theorem aC.cons {e:aS}{r:List aS}(h:aF P e)(hr:aC P r):aC P (e::r):=⟨h,hr⟩
theorem qc.cons {e:jV}{r:List jV}(h:Pv P e)(hr:qc P r):qc P (e::r):=⟨h,hr⟩
theorem qc.nil:qc P []:=trivial
theorem Nr.cons {as rs:List Ty}{e:DTg as rs}{r:List (DTg as rs)}(h:ah9 P e)(hr:Nr P r):Nr P (e::r):=⟨h,hr⟩
theorem Nr.nil {as rs:List Ty}:Nr P ([]:List (DTg as rs)):=trivial
theorem aC.nil:aC P []:=trivial
theorem gr {e : aS} {fn : Func} (hf : P.funcs[e.id]? = some fn) (hb : fn.body.isNone = false) (hn : (fn.name == "runtime.NumGoroutine") = false) (h0 : ∀x, e.m x = AS) : aF P e :=by
 intro x;refine gM.of (λargs w=>ia hf hb hn args w) ?_;intro F h y h1 hx;simp[h0,AS] at hx
structure RE {R:Type} (P:Program) (body:Code) (W:Wr) (cl:List aS) (dl:List jV) (mo:List FuncId) (ll:List ry) (js:List (fT R)) (dr:Nat->Option (List (Nat×η))) (fin:gi->Env->M R):Prop where
 hm:Ep cl mo
 c:aC P cl
 d:qc P dl
 l:Dp P body W ll
 j:EI P body cl dl mo ll dr W fin 400 [] (λ_=>AS) js
theorem RE.ok {R:Type}{body:Code}{W:Wr}{cl:List aS}{dl:List jV}{mo:List FuncId}{ll:List ry}{js:List (fT R)}{dr:Nat->Option (List (Nat×η))}{fin:gi->Env->M R}(t:RE P body W cl dl mo ll js dr fin) :
  xB P body ⟨rM cl dl mo,pZ ll,qg js,dr,λ_=>AS⟩ W fin:=Jv (ps:=[]) (tY:=λ_=>AS) t.hm t.c t.d t.l trivial (WQ _) t.j
section
variable (body:Code)(p:Path)(ls ms rs:List (Nat×Ty))(id:Nat)(e2:gi)(nt:Nat)(ws:η)(mo:List FuncId)(ct:Nat->List aS)(dt:Nat->List jV)(lt:Nat->List ry)(dr:Nat->Option (List (Nat×η)))
theorem aaP (G:Nat->aH (gJ ls)->M (aH (gJ ms)))(jt:Nat->List (fT (aH (gJ ms))))(hc:cA body p=.loop (child (cA body p) 0))(h0:∀x,G 0 x=AS)
  (hs:∀n x,den P body ⟨rM (ct n) (dt n) mo,pZ (lt n),qg (jt n),dr,λ_=>AS⟩ (nt,some ws) (Eg ls ms id (G n)) 400 false [.code (0::p)] (tB ls (eE (gJ ls) x))=G (n+1) x)
  (n:Nat) (hT:∀m,m<n->RE P body (nt,some ws) (ct m) (dt m) mo (lt m) (jt m) dr (Eg ls ms id (G m))) {W:Wr} (hW:Dc W nt ws=true):xC P body W ⟨p,ls,Wg ls ms ws id (G n)⟩:=
 WL (T:=λn=>⟨rM (ct n) (dt n) mo,pZ (lt n),qg (jt n),dr,λ_=>AS⟩) hc h0 hs (λ_=>rfl) n (λm hm=>(hT m hm).ok) hW
theorem aaQ (G:Nat->aH (gJ ls)->M (aH (gJ rs)))(jt:Nat->List (fT (aH (gJ rs))))(hc:cA body p=.loop (child (cA body p) 0))(h0:∀x,G 0 x=AS)
  (hs:∀n x,den P body ⟨rM (ct n) (dt n) mo,pZ (lt n),qg (jt n),dr,λ_=>AS⟩ (nt,some ws) (Ge ls rs (G n)) 400 false [.code (0::p)] (tB ls (eE (gJ ls) x))=G (n+1) x)
  (n:Nat) (hT:∀m,m<n->RE P body (nt,some ws) (ct m) (dt m) mo (lt m) (jt m) dr (Ge ls rs (G m))) {W:Wr} (hW:Dc W nt ws=true):xC P body W ⟨p,ls,Wh ls rs ws (G n)⟩:=
 WM (T:=λn=>⟨rM (ct n) (dt n) mo,pZ (lt n),qg (jt n),dr,λ_=>AS⟩) hc h0 hs (λ_=>rfl) n (λm hm=>(hT m hm).ok) hW
theorem aaR (G:Nat->aH (gJ ls)->M (aH (gJ ms)⊕aH (gJ rs)))(jt:Nat->List (fT (aH (gJ ms)⊕aH (gJ rs))))(hc:cA body p=.loop (child (cA body p) 0))(h0:∀x,G 0 x=AS)
  (hs:∀n x,den P body ⟨rM (ct n) (dt n) mo,pZ (lt n),qg (jt n),dr,λ_=>AS⟩ (nt,some ws) (Iz ls ms rs id e2 (G n)) 400 false [.code (0::p)] (tB ls (eE (gJ ls) x))=G (n+1) x)
  (n:Nat) (hT:∀m,m<n->RE P body (nt,some ws) (ct m) (dt m) mo (lt m) (jt m) dr (Iz ls ms rs id e2 (G m))) {W:Wr} (hW:Dc W nt ws=true):xC P body W ⟨p,ls,Wi ls ms rs ws id e2 (G n)⟩:=
 WO (T:=λn=>⟨rM (ct n) (dt n) mo,pZ (lt n),qg (jt n),dr,λ_=>AS⟩) hc h0 hs (λ_=>rfl) n (λm hm=>(hT m hm).ok) hW
end
theorem akc (e:aS)(fn:Func)(c:Code)(ps:List (Nat×Ty))(mo:List FuncId)(cl:List aS)(dl:List jV)(ll:List ry)(js:List (fT (aH e.rs)))(dr:Nat->Option (List (Nat×η)))
  (hf : P.funcs[e.id]? = some fn) (hb : fn.body = some c) (hn : (fn.name == "runtime.NumGoroutine") = false) (hps : ps.map (·.1) = List.range' 0 e.as.length) (hnt : Nat.ble e.as.length fn.ntmps = true)
  (hT:RE P c (fn.ntmps,none) cl dl mo ll js dr (O2 P fn e.rs))
  (hg:∀x,den P c ⟨rM cl dl mo,pZ ll,qg js,dr,λ_=>AS⟩ (fn.ntmps,none) (O2 P fn e.rs) 400 false [.code []] (tB ps (eE e.as x))=e.m x):aF P e:=
 aia hf hb hn hps hnt hT.ok rfl hg
abbrev afo {R:Type}:ξ->M (R⊕ξ):=λv=>AI (.inr v)
section
variable {body c:Code}{p:Path}{ls ms rs:List (Nat×Ty)}{nt id N:Nat}{ws:η}{e2:gi}
end
structure aib {X:Type} (P:Program) (body:Code) (W:Wr) (cl:List aS) (dl:List jV) (pl:List xp) (mo:List FuncId) (ll:List ry) (js:List (fT (X⊕ξ))) (dr:Nat->Option (List (Nat×η))) (fin:gi->Env->M (X⊕ξ)):Prop where
 hm:Ep cl mo
 c:aC P cl
 d:qc P dl
 p:H5 P pl
 x:Pw cl pl=true
 l:Dp P body W ll
 j:EI P body cl dl mo ll dr W fin 400 pl afo js
theorem aib.ok {X:Type}{body:Code}{W:Wr}{cl:List aS}{dl:List jV}{pl:List xp}{mo:List FuncId}{ll:List ry}{js:List (fT (X⊕ξ))}{dr:Nat->Option (List (Nat×η))}{fin:gi->Env->M (X⊕ξ)}(t:aib P body W cl dl pl mo ll js dr fin) :
  xB P body ⟨rM cl dl mo pl,pZ ll,qg js,dr,afo⟩ W fin:=Jv (ps:=pl) (tY:=afo) t.hm t.c t.d t.l t.p t.x t.j
theorem H5.cons {e:xp}{r:List xp}(h:adl P e)(hr:H5 P r):H5 P (e::r):=⟨h,hr⟩
theorem H5.nil:H5 P []:=trivial
section
variable (body:Code)(p:Path)(ls ms rs:List (Nat×Ty))(id:Nat)(e2:gi)(nt:Nat)(ws:η)(mo:List FuncId)(ct:Nat->List aS)(dt:Nat->List jV)(pt:Nat->List xp)(lt:Nat->List ry)(dr:Nat->Option (List (Nat×η)))
end
structure L1 where
 p:Path
 ls:List (Nat×Ty)
 ms:List (Nat×Ty)
 ws:η
 id:Nat
 g:Nat->aH (gJ ls)->M (aH (gJ ms))
structure Lr where
 p:Path
 ls:List (Nat×Ty)
 rs:List (Nat×Ty)
 ws:η
 g:Nat->aH (gJ ls)->M (aH (gJ rs))
structure L2 where
 p:Path
 ls:List (Nat×Ty)
 ms:List (Nat×Ty)
 rs:List (Nat×Ty)
 ws:η
 id:Nat
 e2:gi
 g:Nat->aH (gJ ls)->M (aH (gJ ms)⊕aH (gJ rs))
def L1.e (s:L1)(n:Nat):ry:=⟨s.p,s.ls,Wg s.ls s.ms s.ws s.id (s.g n)⟩
def Lr.e (s:Lr)(n:Nat):ry:=⟨s.p,s.ls,Wh s.ls s.rs s.ws (s.g n)⟩
def L2.e (s:L2)(n:Nat):ry:=⟨s.p,s.ls,Wi s.ls s.ms s.rs s.ws s.id s.e2 (s.g n)⟩
def iJ (P:Program)(fn:Func)(l:ry)(ws:η):Prop:=∀(W:Wr),Dc W fn.ntmps ws=true->xC P (jU fn) W l
theorem Dp.cc {fn:Func}{W:Wr}{e:ry}{r:List ry}{ws:η}(h:iJ P fn e ws)(hr:Dp P (jU fn) W r)(hw:Dc W fn.ntmps ws=true:=by kernel_rfl):Dp P (jU fn) W (e::r):=⟨h W hw,hr⟩
theorem EI.cc {R:Type}{body:Code}{cl:List aS}{dl:List jV}{ms:List FuncId}{ll:List ry}{dr:Nat->Option (List (Nat×η))}{W:Wr}{fin:gi->Env->M R}{N:Nat}{ps:List xp}{tY:ξ->M R}{e:fT R}{r:List (fT R)}
  (hr:EI P body cl dl ms ll dr W fin N ps tY r) (h:∀x,den P body ⟨rM cl dl ms ps,pZ ll,qg r,dr,tY⟩ W fin N false (.code e.p::e.k) (tB e.ls (eE (gJ e.ls) x))=e.m x:=by intro x;kernel_rfl):EI P body cl dl ms ll dr W fin N ps tY (e::r):=⟨h,hr⟩
theorem L1.ok (fn:Func)(s:L1)(n:Nat)(ct:Nat->List aS)(mo:List FuncId:=[])(dt:Nat->List jV:=λ_=>[])(lt:Nat->List ry:=λ_=>[])(dr:Nat->Option (List (Nat×η)):=λ_=>none)(jt:Nat->List (fT (aH (gJ s.ms))):=λ_=>[])
  (hT:∀m,m<n->RE P (jU fn) (fn.ntmps,some s.ws) (ct m) (dt m) mo (lt m) (jt m) dr (Eg s.ls s.ms s.id (s.g m)))
  (hc:cA (jU fn) s.p=.loop (child (cA (jU fn) s.p) 0):=by kernel_rfl) (h0:∀x,s.g 0 x=AS:=by intro x;kernel_rfl)
  (hs:∀n x,den P (jU fn) ⟨rM (ct n) (dt n) mo,pZ (lt n),qg (jt n),dr,λ_=>AS⟩ (fn.ntmps,some s.ws) (Eg s.ls s.ms s.id (s.g n)) 400 false [.code (0::s.p)] (tB s.ls (eE (gJ s.ls) x))=s.g (n+1) x:=by intro n x;kernel_rfl) :
  iJ P fn (s.e n) s.ws:=λW hW=>aaP (jU fn) s.p s.ls s.ms s.id fn.ntmps s.ws mo ct dt lt dr s.g jt hc h0 hs n hT hW
theorem Lr.ok (fn:Func)(s:Lr)(n:Nat)(ct:Nat->List aS)(mo:List FuncId:=[])(dt:Nat->List jV:=λ_=>[])(lt:Nat->List ry:=λ_=>[])(dr:Nat->Option (List (Nat×η)):=λ_=>none)(jt:Nat->List (fT (aH (gJ s.rs))):=λ_=>[])
  (hT:∀m,m<n->RE P (jU fn) (fn.ntmps,some s.ws) (ct m) (dt m) mo (lt m) (jt m) dr (Ge s.ls s.rs (s.g m)))
  (hc:cA (jU fn) s.p=.loop (child (cA (jU fn) s.p) 0):=by kernel_rfl) (h0:∀x,s.g 0 x=AS:=by intro x;kernel_rfl)
  (hs:∀n x,den P (jU fn) ⟨rM (ct n) (dt n) mo,pZ (lt n),qg (jt n),dr,λ_=>AS⟩ (fn.ntmps,some s.ws) (Ge s.ls s.rs (s.g n)) 400 false [.code (0::s.p)] (tB s.ls (eE (gJ s.ls) x))=s.g (n+1) x:=by intro n x;kernel_rfl) :
  iJ P fn (s.e n) s.ws:=λW hW=>aaQ (jU fn) s.p s.ls s.rs fn.ntmps s.ws mo ct dt lt dr s.g jt hc h0 hs n hT hW
theorem L2.ok (fn:Func)(s:L2)(n:Nat)(ct:Nat->List aS)(mo:List FuncId:=[])(dt:Nat->List jV:=λ_=>[])(lt:Nat->List ry:=λ_=>[])(dr:Nat->Option (List (Nat×η)):=λ_=>none)(jt:Nat->List (fT (aH (gJ s.ms)⊕aH (gJ s.rs))):=λ_=>[])
  (hT:∀m,m<n->RE P (jU fn) (fn.ntmps,some s.ws) (ct m) (dt m) mo (lt m) (jt m) dr (Iz s.ls s.ms s.rs s.id s.e2 (s.g m)))
  (hc:cA (jU fn) s.p=.loop (child (cA (jU fn) s.p) 0):=by kernel_rfl) (h0:∀x,s.g 0 x=AS:=by intro x;kernel_rfl)
  (hs:∀n x,den P (jU fn) ⟨rM (ct n) (dt n) mo,pZ (lt n),qg (jt n),dr,λ_=>AS⟩ (fn.ntmps,some s.ws) (Iz s.ls s.ms s.rs s.id s.e2 (s.g n)) 400 false [.code (0::s.p)] (tB s.ls (eE (gJ s.ls) x))=s.g (n+1) x:=by intro n x;kernel_rfl) :
  iJ P fn (s.e n) s.ws:=λW hW=>aaR (jU fn) s.p s.ls s.ms s.rs s.id s.e2 fn.ntmps s.ws mo ct dt lt dr s.g jt hc h0 hs n hT hW
def WR:Nat->List Ty->List (Nat×Ty)
 |_,[]=>[]
 |i,t::ts=>(i,t)::WR (i+1) ts
theorem Nw:∀(i:Nat) (ts:List Ty),(WR i ts).map (·.1)=List.range' i ts.length
 |i,[]=>rfl
 |i,t::ts=>by rw[WR,adq,aac,aj7,Nw (i+1) ts]
theorem aY {e:aS}(fn:Func)(cl:List aS)(mo:List FuncId:=[])(dl:List jV:=[])(ll:List ry:=[])(js:List (fT (aH e.rs)):=[])(dr:Nat->Option (List (Nat×η)):=λ_=>none)
  (hT:RE P (jU fn) (fn.ntmps,none) cl dl mo ll js dr (O2 P fn e.rs))
  (hf : P.funcs[e.id]? = some fn := by kernel_rfl) (hb : fn.body = some (jU fn) := by kernel_rfl) (hn : (fn.name == "runtime.NumGoroutine") = false := by kernel_rfl) (hnt : Nat.ble e.as.length fn.ntmps = true := by kernel_rfl)
  (hg:∀x,den P (jU fn) ⟨rM cl dl mo,pZ ll,qg js,dr,λ_=>AS⟩ (fn.ntmps,none) (O2 P fn e.rs) 400 false [.code []] (tB (WR 0 e.as) (eE e.as x))=e.m x:=by intro x;kernel_rfl):aF P e:=
 akc e fn (jU fn) (WR 0 e.as) mo cl dl ll js dr hf hb hn (Nw 0 e.as) hnt hT hg
theorem RE.m1 {R:Type}{body:Code}{W:Wr}{cl:List aS}{dr:Nat->Option (List (Nat×η))}{fin:gi->Env->M R}(c:aC P cl):RE P body W cl [] [] [] ([]:List (fT R)) dr fin:=⟨.nil,c,.nil,.nil,.nil⟩
end Go.Ago
