
import Derived.Test.YtmfkngdglbcngaaGreatDoorAgoH
set_option linter.all false
namespace Go.Ago
open Go
variable {P:Program}{ι ι':gD}{h h' h1:af}{w w':World}
theorem pW {c:Code}{Q Q':Exit->Go.Act->World->Prop}(hq:∀e a w,e≠.normal->Q e a w->Q' e a w):∀(n:Nat) (a:Go.Act) (w:World),Code.rounds P c Q n a w->Code.rounds P c Q' n a w
 |0,_,_,h=>h
 |n+1,a,w,h=>wp_mono h λe a w he=>by
  cases e with
  |normal=>exact pW hq n a w he
  |_=>exact hq _ _ _ (by simp) he
def Bp {R:Type}(ls:List (Nat×Ty))(g:aL (gV ls)->M R)(E:Env):M R:=
 match rf E ls with
 |some vs=>(match vy (gV ls) vs with|some x=>g x|none=>AS)
 |none=>AS
theorem FE {R:Type}{ls:List (Nat×Ty)}{g:aL (gV ls)->M R}{E:Env}{r:R×af}(hx:Bp ls g E h=some r):∃x,rf E ls=some (fq (gV ls) x)/\g x h=some r:=by
 unfold Bp at hx;generalize hg:rf E ls=o at hx;cases o with
 |none=>simp[AS] at hx
 |some vs=>
  simp only at hx;generalize hu:vy (gV ls) vs=o at hx;cases o with
  |none=>simp[AS] at hx
  |some x=>exact⟨x,by rw[<-sx hu],hx⟩
theorem Bq {R:Type}{body c:Code}{p:Path}{ls:List (Nat×Ty)}{nt:Nat}{ws:η}{G:Nat->aL (gV ls)->M R}{fin:Nat->gF->Env->M R}{T:Nat->KX R}{N:Nat}
  (hc:cG body p=.loop c) (h0:∀x,G 0 x=AS)
  (hs:∀n x,den P body (T n) (nt,some ws) (fin n) N false [.code (0::p)] (s7 ls (fq (gV ls) x))=G (n+1) x)
  (hn:∀n E,fin n .normal E=Bp ls (G n) E) :
  ∀(n:Nat),(∀m,m<n->wV P body (T m) (nt,some ws) (fin m))->∀(x:aL (gV ls)) (F:Fz) (h:af) (r:R×af),G n x h=some r->∀(ι:gD) (w:World) (a:Go.Act),Start P F ι (nt,some ws) (s7 ls (fq (gV ls) x)) h a w ->
   Code.rounds P c (λe a' w'=>∃m,Au P F ι (nt,some ws) a.tmps (fin m) (T m).tM r e a' w') n a w
 |0,_,x,F,h,r,hx,ι,w,a,S=>by rw[h0] at hx;simp[AS] at hx
 |n+1,hT,x,F,h,r,hx,ι,w,a,S=>by
  rw[<-hs] at hx;have hd:=um (hT n (aam n)) N false [.code (0::p)] _ F ι h r a w S hx;have hcc:cG body (0::p)=c:=by show child (cG body p) 0=c;rw[hc];rfl
  intro b k cs;obtain⟨e,a',w',hpost,harr⟩:=hd b k cs;refine⟨e,a',w',?_,by grind [ff]⟩;cases e with
  |normal=>
   rcases hpost with⟨ae,heq,hnow⟩|⟨_,_,_,_,q,_⟩
   .cases ae with
    |normal=>
     obtain⟨ι2,E2,h2,hle,hk,S2,hfr⟩:=hnow.start;rw[hn] at hk;obtain⟨x2,hg,hk⟩:=FE hk;have ih:=Bq hc h0 hs hn n (λm hm=>hT m (ab8 hm)) x2 F h2 r hk ι2 w' a' ⟨S2.rel,wa hg S2.env,S2.defers,S2.size⟩;refine pW (λe a w _ hq=>?_) n a' w' ih
     grind [Au.trans]
    |_=>exact heq.elim
   .cases q
  |_=>exact⟨n,hpost⟩
def wW (P:Program)(body:Code)(W:Wr)(e:rj):Prop:=∀E x,rf E e.ls=some (fq (gV e.ls) x)->NH P body W e.p E (e.act x)
def Cm (P:Program)(body:Code)(W:Wr):List rj->Prop
 |[]=>True
 |e::r=>wW P body W e/\Cm P body W r
theorem Cn:∀{p q:Path},uv p q=true->p=q
 |[],[],_=>rfl
 |[],_::_,h=>by cases h
 |_::_,[],h=>by cases h
 |a::p,b::q,h=>by
  simp only[uv,aau] at h;rw[aab h.1,Cn h.2]
theorem FF {body:Code}{W:Wr}:∀{l:List rj},Cm P body W l->∀p E,NH P body W p E (pU l p E)
 |[],_,p,E=>trivial
 |e::r,hl,p,E=>by
  simp only[pU];split
  .rename_i hp;have:=Cn hp;subst this;split
   .rename_i vs hg;split
    .rename_i x hu;exact hl.1 E x (by rw[hg,sx hu])
    .trivial
   .trivial
  .exact FF hl.2 p E
theorem Br {F:Fz}{W:Wr}{nt:Nat}{ws:η}{ls ms:List (Nat×Ty)}{E E':Env}{x:aL (gV ls)}{y:aL (gV ms)}{a a':Go.Act}
  (hW:B9 W nt ws=true) (hg:rf E ls=some (fq (gV ls) x)) (S:Start P F ι W E h a w) (hg':rf E' ms=some (fq (gV ms) y))
  (hle:ι.le ι') (R':Rel P F ι' h1 w') (HE':jS P ι' E' a'.tmps) (hd:a'.defers=[]) (hs:a'.tmps.size=nt) (hfr:Fm (nt,some ws) a.tmps a'.tmps) :
  ∃ι',ι.le ι'/\Rel P F ι' h1 w'/\jS P ι' (Ue ls ms ws x y) a'.tmps/\a'.defers=[]/\a'.tmps.size=W.1/\Fm W a.tmps a'.tmps:=by
 unfold B9 at hW;rw[aau] at hW;have hnt:=aab hW.1;refine⟨ι',hle,R',?_,hd,by rw[hs,hnt],hfr.1,λl hl i hi=>?_⟩
 .intro j u hu;rcases HK hg' j u hu with h1|⟨h1,h2⟩
  .exact HE' j u h1
  .unfold aeZ at h1;cases hb:ws.any (Nat.beq j) with
   |true=>rw[hb] at h1;cases h1
   |false=>
    rw[hb] at h1;obtain⟨u',h3,h4⟩:=wa hg S.env j u h1;exact⟨u',by rw[hfr.2 ws rfl _ hb];exact h3,h4.mono hle⟩
 .refine hfr.2 ws rfl i ?_
  simp_all
theorem NN {R:Type}{F:Fz}{W:Wr}{t0:ν}{fin:gF->Env->M R}{tM:ξ->M R}{r:R×af}{e:Exit}{a:Go.Act}(hp:tM=λ_=>AS)(h:Au P F ι W t0 fin tM r e a w) :
  ∃ae,eqv e ae/\XX P F ι W t0 (fin ae) r a w:=by
 rcases h with h|⟨ι2,v,v',h,q1,q2,q3,_⟩
 .exact h
 .rw[hp] at q3;simp[AS] at q3
theorem Yv {ms:List (Nat×Ty)}{R:Type}{E:Env}{f:aL (gV ms)->R}{r:R×af}
  (hx:Bp ms (λx=>AI (f x)) E h=some r):∃y,rf E ms=some (fq (gV ms) y)/\r=(f y,h):=by
 obtain⟨y,h1,h2⟩:=FE hx;simp only[AI,abG] at h2;exact⟨y,h1,h2.symm⟩
variable {body c:Code}{p:Path}{ls ms rs:List (Nat×Ty)}{nt id N:Nat}{ws:η}{e2:gF}
theorem UF {G:Nat->aL (gV ls)->M (aL (gV ms))}{T:Nat->KX (aL (gV ms))}(hc:cG body p=.loop c)(h0:∀x,G 0 x=AS)
  (hs:∀n x,den P body (T n) (nt,some ws) (Dj ls ms id (G n)) N false [.code (0::p)] (s7 ls (fq (gV ls) x))=G (n+1) x)
  (hp:∀m,(T m).tM=λ_=>AS)
  (n:Nat) (hT:∀m,m<n->wV P body (T m) (nt,some ws) (Dj ls ms id (G m))) {W:Wr} (hW:B9 W nt ws=true) :
  wW P body W ⟨p,ls,Uf ls ms ws id (G n)⟩:=by
 intro E x hg F h y h1 hx ι w a S;rw[hc];have hnt:W.1=nt:=by unfold B9 at hW;simp_all
 refine wp_loop_rounds n (pW (λe a' w' hne hq=>?_) n a w (Bq hc h0 hs (λ_ _=>rfl) n hT x F h (y,h1) hx ι w a ⟨S.rel,wa hg S.env,S.defers,by rw[S.size,hnt]⟩));obtain⟨m,hq⟩:=hq;obtain⟨ae,heq,ι',E',h',hle,hfin,R',HE',hd,hs',hfr⟩:=NN (hp m) hq;cases ae with
 |normal=>cases e<;>first|exact absurd rfl hne|exact heq.elim
 |ret=>simp[Dj,AS] at hfin
 |exit id'=>
  have hfin':id=id'/\Bp ms (λx=>AI x) E' h'=some (y,h1):=by
   simp only[Dj] at hfin;generalize hb:Nat.beq id id'=b at hfin;generalize hgg:rf E' ms=o at hfin;cases b<;>cases o<;>simp only at hfin<;>try (simp[AS] at hfin;done)
   refine⟨aab hb,?_⟩;unfold Bp;rw[hgg];exact hfin
  obtain⟨rfl,hfin'⟩:=hfin';obtain⟨y',hg',e1⟩:=Yv hfin';cases e1;exact⟨heq,Br hW hg S hg' hle R' HE' hd hs' hfr⟩
theorem UG {G:Nat->aL (gV ls)->M (aL (gV rs))}{T:Nat->KX (aL (gV rs))}(hc:cG body p=.loop c)(h0:∀x,G 0 x=AS)
  (hs:∀n x,den P body (T n) (nt,some ws) (E9 ls rs (G n)) N false [.code (0::p)] (s7 ls (fq (gV ls) x))=G (n+1) x)
  (hp:∀m,(T m).tM=λ_=>AS)
  (n:Nat) (hT:∀m,m<n->wV P body (T m) (nt,some ws) (E9 ls rs (G m))) {W:Wr} (hW:B9 W nt ws=true) :
  wW P body W ⟨p,ls,Ug ls rs ws (G n)⟩:=by
 intro E x hg F h y h1 hx ι w a S;rw[hc];have hnt:W.1=nt:=by unfold B9 at hW;simp_all
 refine wp_loop_rounds n (pW (λe a' w' hne hq=>?_) n a w (Bq hc h0 hs (λ_ _=>rfl) n hT x F h (y,h1) hx ι w a ⟨S.rel,wa hg S.env,S.defers,by rw[S.size,hnt]⟩));obtain⟨m,hq⟩:=hq;obtain⟨ae,heq,ι',E',h',hle,hfin,R',HE',hd,hs',hfr⟩:=NN (hp m) hq;cases ae with
 |normal=>cases e<;>first|exact absurd rfl hne|exact heq.elim
 |exit id'=>simp[E9,AS] at hfin
 |ret=>
  obtain⟨y',hg',e1⟩:=Yv (f:=λx=>x) (show Bp rs (λx=>AI x) E' h'=some (y,h1) from hfin);cases e1;exact⟨heq,Br hW hg S hg' hle R' HE' hd hs' hfr⟩
theorem UH {a b:gF}(h:eqE a b=true):a=b:=by
 cases a<;>cases b<;>simp only[eqE] at h<;>first|rfl|(cases h;done)|(rw[aab h])
theorem UI {G:Nat->aL (gV ls)->M (aL (gV ms)⊕aL (gV rs))}{T:Nat->KX (aL (gV ms)⊕aL (gV rs))}(hc:cG body p=.loop c)(h0:∀x,G 0 x=AS)
  (hs:∀n x,den P body (T n) (nt,some ws) (Ht ls ms rs id e2 (G n)) N false [.code (0::p)] (s7 ls (fq (gV ls) x))=G (n+1) x)
  (hp:∀m,(T m).tM=λ_=>AS)
  (n:Nat) (hT:∀m,m<n->wV P body (T m) (nt,some ws) (Ht ls ms rs id e2 (G m))) {W:Wr} (hW:B9 W nt ws=true) :
  wW P body W ⟨p,ls,Uh ls ms rs ws id e2 (G n)⟩:=by
 intro E x hg;have hnt:W.1=nt:=by unfold B9 at hW;simp_all
 have key:∀{F:Fz} {h:af} {r h1},G n x h=some (r,h1)->∀ι w a,Start P F ι W E h a w ->
   Code.rounds P c (λe a' w'=>∃ι' E' h',ι.le ι'/\Rel P F ι' h' w'/\jS P ι' E' a'.tmps/\a'.defers=[]/\a'.tmps.size=nt/\Fm (nt,some ws) a.tmps a'.tmps /\
    ((eqv e (.exit id)/\∃y,rf E' ms=some (fq (gV ms) y)/\r=.inl y/\h1=h')\/(eqv e e2/\∃y,rf E' rs=some (fq (gV rs) y)/\r=.inr y/\h1=h'))) n a w:=by
  intro F h r h1 hx ι w a S;refine pW (λe a' w' hne hq=>?_) n a w (Bq hc h0 hs (λ_ _=>rfl) n hT x F h (r,h1) hx ι w a ⟨S.rel,wa hg S.env,S.defers,by rw[S.size,hnt]⟩);obtain⟨m,hq⟩:=hq;obtain⟨ae,heq,ι',E',h',hle,hfin,R',HE',hd,hs',hfr⟩:=NN (hp m) hq;refine⟨ι',E',h',hle,R',HE',hd,hs',hfr,?_⟩;have tail:∀ae,ae≠.normal->eqv e ae->(match eqE ae (.exit id) with
    |true=>Bp ms (λx=>AI (Sum.inl x:aL (gV ms)⊕aL (gV rs))) E'
    |false=>(match eqE ae e2 with
     |true=>Bp rs (λx=>AI (Sum.inr x:aL (gV ms)⊕aL (gV rs))) E'
     |false=>AS)) h'=some (r,h1)->((eqv e (.exit id)/\∃y,rf E' ms=some (fq (gV ms) y)/\r=.inl y/\h1=h')\/(eqv e e2/\∃y,rf E' rs=some (fq (gV rs) y)/\r=.inr y/\h1=h')):=by
   intro ae _ he2 hf2;cases h2:eqE ae (.exit id)<;>rw[h2] at hf2
   .cases h3:eqE ae e2<;>rw[h3] at hf2
    .simp[AS] at hf2
    .have:=UH h3;subst this;obtain⟨y',hg',e1⟩:=Yv (f:=λx=>(Sum.inr x:aL (gV ms)⊕aL (gV rs))) hf2;cases e1;exact .inr ⟨he2,y',hg',rfl,rfl⟩
   .have:=UH h2;subst this;obtain⟨y',hg',e1⟩:=Yv (f:=λx=>(Sum.inl x:aL (gV ms)⊕aL (gV rs))) hf2;cases e1;exact .inl ⟨he2,y',hg',rfl,rfl⟩
  cases ae with
  |normal=>cases e<;>first|exact absurd rfl hne|exact heq.elim
  |ret=>exact tail .ret (by simp) heq hfin
  |exit id'=>exact tail (.exit id') (by simp) heq hfin
 refine⟨λF h y h1 hx ι w a S=>?_,λF h y h1 hx ι w a S=>?_⟩<;>rw[hc]<;>refine wp_loop_rounds n (pW (λe a' w' hne hq=>?_) n a w (key hx ι w a S))
 .obtain⟨ι',E',h',hle,R',HE',hd,hs',hfr,⟨q0,y',q1,q2,q3⟩|⟨q0,y',q1,q2,q3⟩⟩:=hq
  .cases q2;subst q3;exact⟨q0,Br hW hg S q1 hle R' HE' hd hs' hfr⟩
  .cases q2
 .obtain⟨ι',E',h',hle,R',HE',hd,hs',hfr,⟨q0,y',q1,q2,q3⟩|⟨q0,y',q1,q2,q3⟩⟩:=hq
  .cases q2
  .cases q2;subst q3;exact⟨q0,Br hW hg S q1 hle R' HE' hd hs' hfr⟩
def DK {R:Type}(P:Program)(body:Code)(cl:List bB)(dl:List jM)(ms:List FuncId)(ll:List rj)(dr:Nat->Option (List (Nat×η)))(W:Wr)(fin:gF->Env->M R)(N:Nat)(ps:List wL)(tM:ξ->M R):List (gC R)->Prop
 |[]=>True
 |e::r=>(∀x,den P body ⟨rC cl dl ms ps,pU ll,p9 r,dr,tM⟩ W fin N false (.code e.p::e.k) (s7 e.ls (fq (gV e.ls) x))=e.m x)/\DK P body cl dl ms ll dr W fin N ps tM r
theorem UJ (l:List bB):NM l []=true:=by unfold NM;simp
theorem ID {R:Type}{W:Wr}{cl:List bB}{dl:List jM}{ms:List FuncId}{ll:List rj}{dr:Nat->Option (List (Nat×η))}{fin:gF->Env->M R}{N:Nat}{ps:List wL}{tM:ξ->M R}(hmo:Ds cl ms)(h1:aI P cl)(hd:pI P dl)(h2:Cm P body W ll)(h4:GZ P ps)(h5:NM cl ps=true) :
  ∀{js:List (gC R)},DK P body cl dl ms ll dr W fin N ps tM js->wV P body ⟨rC cl dl ms ps,pU ll,p9 js,dr,tM⟩ W fin
 |[],_=>⟨LY h1 hd hmo h4 h5,FF h2,λ_ _ _ h=>by cases h⟩
 |e::r,hj=>by
  have ih:=ID (fin:=fin) (N:=N) hmo h1 hd h2 h4 h5 hj.2;refine⟨LY h1 hd hmo h4 h5,FF h2,λp k J hp E m hJ F h r' hx ι w a S=>?_⟩;simp only[p9] at hp;split at hp
  .rename_i he;have:=Cn he;subst this;cases hp;unfold goJ at hJ;split at hJ
   .rename_i vs hg;split at hJ
    .rename_i x hu;cases hJ;have hgg:rf E e.ls=some (fq (gV e.ls) x):=(by rw[hg,sx hu]);rw[<-hj.1 x] at hx;exact um ih N false _ _ F ι h r' a w ⟨S.rel,wa hgg S.env,S.defers,S.size⟩ hx
    .cases hJ
   .cases hJ
  .exact ih.join p k J hp E m hJ F h r' hx ι w a S
theorem DK.cons {R:Type}{body:Code}{cl:List bB}{dl:List jM}{ms:List FuncId}{ll:List rj}{dr:Nat->Option (List (Nat×η))}{W:Wr}{fin:gF->Env->M R}{N:Nat}{ps:List wL}{tM:ξ->M R}{e:gC R}{r:List (gC R)}
  (h:∀x,den P body ⟨rC cl dl ms ps,pU ll,p9 r,dr,tM⟩ W fin N false (.code e.p::e.k) (s7 e.ls (fq (gV e.ls) x))=e.m x) (hr:DK P body cl dl ms ll dr W fin N ps tM r):DK P body cl dl ms ll dr W fin N ps tM (e::r):=⟨h,hr⟩
theorem DK.nil {R:Type}{body:Code}{cl:List bB}{dl:List jM}{ms:List FuncId}{ll:List rj}{dr:Nat->Option (List (Nat×η))}{W:Wr}{fin:gF->Env->M R}{N:Nat}{ps:List wL}{tM:ξ->M R}:DK P body cl dl ms ll dr W fin N ps tM ([]:List (gC R)):=trivial
theorem Cm.cons {body:Code}{W:Wr}{e:rj}{r:List rj}(h:wW P body W e)(hr:Cm P body W r):Cm P body W (e::r):=⟨h,hr⟩
theorem Cm.nil {body:Code}{W:Wr}:Cm P body W []:=trivial
theorem aI.cons {e:bB}{r:List bB}(h:aP P e)(hr:aI P r):aI P (e::r):=⟨h,hr⟩
theorem pI.cons {e:jM}{r:List jM}(h:NL P e)(hr:pI P r):pI P (e::r):=⟨h,hr⟩
theorem pI.nil:pI P []:=trivial
theorem LU.cons {as rs:List Ty}{e:DTg as rs}{r:List (DTg as rs)}(h:ae7 P e)(hr:LU P r):LU P (e::r):=⟨h,hr⟩
theorem LU.nil {as rs:List Ty}:LU P ([]:List (DTg as rs)):=trivial
theorem aI.nil:aI P []:=trivial
theorem gu {e : bB} {fn : Func} (hf : P.funcs[e.id]? = some fn) (hb : fn.body.isNone = false) (hn : (fn.name == "runtime.NumGoroutine") = false) (h0 : ∀x, e.m x = AS) : aP P e :=by
 intro x;refine hZ.of (λargs w=>iZ hf hb hn args w) ?_;intro F h y h1 hx;simp[h0,AS] at hx
structure P3 {R:Type} (P:Program) (body:Code) (W:Wr) (cl:List bB) (dl:List jM) (mo:List FuncId) (ll:List rj) (js:List (gC R)) (dr:Nat->Option (List (Nat×η))) (fin:gF->Env->M R):Prop where
 hm:Ds cl mo
 c:aI P cl
 d:pI P dl
 l:Cm P body W ll
 j:DK P body cl dl mo ll dr W fin 400 [] (λ_=>AS) js
theorem P3.ok {R:Type}{body:Code}{W:Wr}{cl:List bB}{dl:List jM}{mo:List FuncId}{ll:List rj}{js:List (gC R)}{dr:Nat->Option (List (Nat×η))}{fin:gF->Env->M R}(t:P3 P body W cl dl mo ll js dr fin) :
  wV P body ⟨rC cl dl mo,pU ll,p9 js,dr,λ_=>AS⟩ W fin:=ID (ps:=[]) (tM:=λ_=>AS) t.hm t.c t.d t.l trivial (UJ _) t.j
section
variable (body:Code)(p:Path)(ls ms rs:List (Nat×Ty))(id:Nat)(e2:gF)(nt:Nat)(ws:η)(mo:List FuncId)(ct:Nat->List bB)(dt:Nat->List jM)(lt:Nat->List rj)(dr:Nat->Option (List (Nat×η)))
theorem Yw (G:Nat->aL (gV ls)->M (aL (gV ms)))(jt:Nat->List (gC (aL (gV ms))))(hc:cG body p=.loop (child (cG body p) 0))(h0:∀x,G 0 x=AS)
  (hs:∀n x,den P body ⟨rC (ct n) (dt n) mo,pU (lt n),p9 (jt n),dr,λ_=>AS⟩ (nt,some ws) (Dj ls ms id (G n)) 400 false [.code (0::p)] (s7 ls (fq (gV ls) x))=G (n+1) x)
  (n:Nat) (hT:∀m,m<n->P3 P body (nt,some ws) (ct m) (dt m) mo (lt m) (jt m) dr (Dj ls ms id (G m))) {W:Wr} (hW:B9 W nt ws=true):wW P body W ⟨p,ls,Uf ls ms ws id (G n)⟩:=
 UF (T:=λn=>⟨rC (ct n) (dt n) mo,pU (lt n),p9 (jt n),dr,λ_=>AS⟩) hc h0 hs (λ_=>rfl) n (λm hm=>(hT m hm).ok) hW
theorem Yx (G:Nat->aL (gV ls)->M (aL (gV rs)))(jt:Nat->List (gC (aL (gV rs))))(hc:cG body p=.loop (child (cG body p) 0))(h0:∀x,G 0 x=AS)
  (hs:∀n x,den P body ⟨rC (ct n) (dt n) mo,pU (lt n),p9 (jt n),dr,λ_=>AS⟩ (nt,some ws) (E9 ls rs (G n)) 400 false [.code (0::p)] (s7 ls (fq (gV ls) x))=G (n+1) x)
  (n:Nat) (hT:∀m,m<n->P3 P body (nt,some ws) (ct m) (dt m) mo (lt m) (jt m) dr (E9 ls rs (G m))) {W:Wr} (hW:B9 W nt ws=true):wW P body W ⟨p,ls,Ug ls rs ws (G n)⟩:=
 UG (T:=λn=>⟨rC (ct n) (dt n) mo,pU (lt n),p9 (jt n),dr,λ_=>AS⟩) hc h0 hs (λ_=>rfl) n (λm hm=>(hT m hm).ok) hW
theorem Yy (G:Nat->aL (gV ls)->M (aL (gV ms)⊕aL (gV rs)))(jt:Nat->List (gC (aL (gV ms)⊕aL (gV rs))))(hc:cG body p=.loop (child (cG body p) 0))(h0:∀x,G 0 x=AS)
  (hs:∀n x,den P body ⟨rC (ct n) (dt n) mo,pU (lt n),p9 (jt n),dr,λ_=>AS⟩ (nt,some ws) (Ht ls ms rs id e2 (G n)) 400 false [.code (0::p)] (s7 ls (fq (gV ls) x))=G (n+1) x)
  (n:Nat) (hT:∀m,m<n->P3 P body (nt,some ws) (ct m) (dt m) mo (lt m) (jt m) dr (Ht ls ms rs id e2 (G m))) {W:Wr} (hW:B9 W nt ws=true):wW P body W ⟨p,ls,Uh ls ms rs ws id e2 (G n)⟩:=
 UI (T:=λn=>⟨rC (ct n) (dt n) mo,pU (lt n),p9 (jt n),dr,λ_=>AS⟩) hc h0 hs (λ_=>rfl) n (λm hm=>(hT m hm).ok) hW
end
theorem ahe (e:bB)(fn:Func)(c:Code)(ps:List (Nat×Ty))(mo:List FuncId)(cl:List bB)(dl:List jM)(ll:List rj)(js:List (gC (aL e.rs)))(dr:Nat->Option (List (Nat×η)))
  (hf : P.funcs[e.id]? = some fn) (hb : fn.body = some c) (hn : (fn.name == "runtime.NumGoroutine") = false) (hps : ps.map (·.1) = List.range' 0 e.as.length) (hnt : Nat.ble e.as.length fn.ntmps = true)
  (hT:P3 P c (fn.ntmps,none) cl dl mo ll js dr (Np P fn e.rs))
  (hg:∀x,den P c ⟨rC cl dl mo,pU ll,p9 js,dr,λ_=>AS⟩ (fn.ntmps,none) (Np P fn e.rs) 400 false [.code []] (s7 ps (fq e.as x))=e.m x):aP P e:=
 ae8 hf hb hn hps hnt hT.ok rfl hg
abbrev acn {R:Type}:ξ->M (R⊕ξ):=λv=>AI (.inr v)
section
variable {body c:Code}{p:Path}{ls ms rs:List (Nat×Ty)}{nt id N:Nat}{ws:η}{e2:gF}
end
structure ae9 {X:Type} (P:Program) (body:Code) (W:Wr) (cl:List bB) (dl:List jM) (pl:List wL) (mo:List FuncId) (ll:List rj) (js:List (gC (X⊕ξ))) (dr:Nat->Option (List (Nat×η))) (fin:gF->Env->M (X⊕ξ)):Prop where
 hm:Ds cl mo
 c:aI P cl
 d:pI P dl
 p:GZ P pl
 x:NM cl pl=true
 l:Cm P body W ll
 j:DK P body cl dl mo ll dr W fin 400 pl acn js
theorem ae9.ok {X:Type}{body:Code}{W:Wr}{cl:List bB}{dl:List jM}{pl:List wL}{mo:List FuncId}{ll:List rj}{js:List (gC (X⊕ξ))}{dr:Nat->Option (List (Nat×η))}{fin:gF->Env->M (X⊕ξ)}(t:ae9 P body W cl dl pl mo ll js dr fin) :
  wV P body ⟨rC cl dl mo pl,pU ll,p9 js,dr,acn⟩ W fin:=ID (ps:=pl) (tM:=acn) t.hm t.c t.d t.l t.p t.x t.j
theorem GZ.cons {e:wL}{r:List wL}(h:aaw P e)(hr:GZ P r):GZ P (e::r):=⟨h,hr⟩
theorem GZ.nil:GZ P []:=trivial
section
variable (body:Code)(p:Path)(ls ms rs:List (Nat×Ty))(id:Nat)(e2:gF)(nt:Nat)(ws:η)(mo:List FuncId)(ct:Nat->List bB)(dt:Nat->List jM)(pt:Nat->List wL)(lt:Nat->List rj)(dr:Nat->Option (List (Nat×η)))
end
structure L1 where
 p:Path
 ls:List (Nat×Ty)
 ms:List (Nat×Ty)
 ws:η
 id:Nat
 g:Nat->aL (gV ls)->M (aL (gV ms))
structure Lr where
 p:Path
 ls:List (Nat×Ty)
 rs:List (Nat×Ty)
 ws:η
 g:Nat->aL (gV ls)->M (aL (gV rs))
structure L2 where
 p:Path
 ls:List (Nat×Ty)
 ms:List (Nat×Ty)
 rs:List (Nat×Ty)
 ws:η
 id:Nat
 e2:gF
 g:Nat->aL (gV ls)->M (aL (gV ms)⊕aL (gV rs))
def L1.e (s:L1)(n:Nat):rj:=⟨s.p,s.ls,Uf s.ls s.ms s.ws s.id (s.g n)⟩
def Lr.e (s:Lr)(n:Nat):rj:=⟨s.p,s.ls,Ug s.ls s.rs s.ws (s.g n)⟩
def L2.e (s:L2)(n:Nat):rj:=⟨s.p,s.ls,Uh s.ls s.ms s.rs s.ws s.id s.e2 (s.g n)⟩
def kZ (P:Program)(fn:Func)(l:rj)(ws:η):Prop:=∀(W:Wr),B9 W fn.ntmps ws=true->wW P (jR fn) W l
theorem Cm.cc {fn:Func}{W:Wr}{e:rj}{r:List rj}{ws:η}(h:kZ P fn e ws)(hr:Cm P (jR fn) W r)(hw:B9 W fn.ntmps ws=true:=by kernel_rfl):Cm P (jR fn) W (e::r):=⟨h W hw,hr⟩
theorem DK.cc {R:Type}{body:Code}{cl:List bB}{dl:List jM}{ms:List FuncId}{ll:List rj}{dr:Nat->Option (List (Nat×η))}{W:Wr}{fin:gF->Env->M R}{N:Nat}{ps:List wL}{tM:ξ->M R}{e:gC R}{r:List (gC R)}
  (hr:DK P body cl dl ms ll dr W fin N ps tM r) (h:∀x,den P body ⟨rC cl dl ms ps,pU ll,p9 r,dr,tM⟩ W fin N false (.code e.p::e.k) (s7 e.ls (fq (gV e.ls) x))=e.m x:=by intro x;kernel_rfl):DK P body cl dl ms ll dr W fin N ps tM (e::r):=⟨h,hr⟩
theorem L1.ok (fn:Func)(s:L1)(n:Nat)(ct:Nat->List bB)(mo:List FuncId:=[])(dt:Nat->List jM:=λ_=>[])(lt:Nat->List rj:=λ_=>[])(dr:Nat->Option (List (Nat×η)):=λ_=>none)(jt:Nat->List (gC (aL (gV s.ms))):=λ_=>[])
  (hT:∀m,m<n->P3 P (jR fn) (fn.ntmps,some s.ws) (ct m) (dt m) mo (lt m) (jt m) dr (Dj s.ls s.ms s.id (s.g m)))
  (hc:cG (jR fn) s.p=.loop (child (cG (jR fn) s.p) 0):=by kernel_rfl) (h0:∀x,s.g 0 x=AS:=by intro x;kernel_rfl)
  (hs:∀n x,den P (jR fn) ⟨rC (ct n) (dt n) mo,pU (lt n),p9 (jt n),dr,λ_=>AS⟩ (fn.ntmps,some s.ws) (Dj s.ls s.ms s.id (s.g n)) 400 false [.code (0::s.p)] (s7 s.ls (fq (gV s.ls) x))=s.g (n+1) x:=by intro n x;kernel_rfl) :
  kZ P fn (s.e n) s.ws:=λW hW=>Yw (jR fn) s.p s.ls s.ms s.id fn.ntmps s.ws mo ct dt lt dr s.g jt hc h0 hs n hT hW
theorem Lr.ok (fn:Func)(s:Lr)(n:Nat)(ct:Nat->List bB)(mo:List FuncId:=[])(dt:Nat->List jM:=λ_=>[])(lt:Nat->List rj:=λ_=>[])(dr:Nat->Option (List (Nat×η)):=λ_=>none)(jt:Nat->List (gC (aL (gV s.rs))):=λ_=>[])
  (hT:∀m,m<n->P3 P (jR fn) (fn.ntmps,some s.ws) (ct m) (dt m) mo (lt m) (jt m) dr (E9 s.ls s.rs (s.g m)))
  (hc:cG (jR fn) s.p=.loop (child (cG (jR fn) s.p) 0):=by kernel_rfl) (h0:∀x,s.g 0 x=AS:=by intro x;kernel_rfl)
  (hs:∀n x,den P (jR fn) ⟨rC (ct n) (dt n) mo,pU (lt n),p9 (jt n),dr,λ_=>AS⟩ (fn.ntmps,some s.ws) (E9 s.ls s.rs (s.g n)) 400 false [.code (0::s.p)] (s7 s.ls (fq (gV s.ls) x))=s.g (n+1) x:=by intro n x;kernel_rfl) :
  kZ P fn (s.e n) s.ws:=λW hW=>Yx (jR fn) s.p s.ls s.rs fn.ntmps s.ws mo ct dt lt dr s.g jt hc h0 hs n hT hW
theorem L2.ok (fn:Func)(s:L2)(n:Nat)(ct:Nat->List bB)(mo:List FuncId:=[])(dt:Nat->List jM:=λ_=>[])(lt:Nat->List rj:=λ_=>[])(dr:Nat->Option (List (Nat×η)):=λ_=>none)(jt:Nat->List (gC (aL (gV s.ms)⊕aL (gV s.rs))):=λ_=>[])
  (hT:∀m,m<n->P3 P (jR fn) (fn.ntmps,some s.ws) (ct m) (dt m) mo (lt m) (jt m) dr (Ht s.ls s.ms s.rs s.id s.e2 (s.g m)))
  (hc:cG (jR fn) s.p=.loop (child (cG (jR fn) s.p) 0):=by kernel_rfl) (h0:∀x,s.g 0 x=AS:=by intro x;kernel_rfl)
  (hs:∀n x,den P (jR fn) ⟨rC (ct n) (dt n) mo,pU (lt n),p9 (jt n),dr,λ_=>AS⟩ (fn.ntmps,some s.ws) (Ht s.ls s.ms s.rs s.id s.e2 (s.g n)) 400 false [.code (0::s.p)] (s7 s.ls (fq (gV s.ls) x))=s.g (n+1) x:=by intro n x;kernel_rfl) :
  kZ P fn (s.e n) s.ws:=λW hW=>Yy (jR fn) s.p s.ls s.ms s.rs s.id s.e2 fn.ntmps s.ws mo ct dt lt dr s.g jt hc h0 hs n hT hW
def UK:Nat->List Ty->List (Nat×Ty)
 |_,[]=>[]
 |i,t::ts=>(i,t)::UK (i+1) ts
theorem LZ:∀(i:Nat) (ts:List Ty),(UK i ts).map (·.1)=List.range' i ts.length
 |i,[]=>rfl
 |i,t::ts=>by rw[UK,acw,aas,ahM,LZ (i+1) ts]
theorem bG {e:bB}(fn:Func)(cl:List bB)(mo:List FuncId:=[])(dl:List jM:=[])(ll:List rj:=[])(js:List (gC (aL e.rs)):=[])(dr:Nat->Option (List (Nat×η)):=λ_=>none)
  (hT:P3 P (jR fn) (fn.ntmps,none) cl dl mo ll js dr (Np P fn e.rs))
  (hf : P.funcs[e.id]? = some fn := by kernel_rfl) (hb : fn.body = some (jR fn) := by kernel_rfl) (hn : (fn.name == "runtime.NumGoroutine") = false := by kernel_rfl) (hnt : Nat.ble e.as.length fn.ntmps = true := by kernel_rfl)
  (hg:∀x,den P (jR fn) ⟨rC cl dl mo,pU ll,p9 js,dr,λ_=>AS⟩ (fn.ntmps,none) (Np P fn e.rs) 400 false [.code []] (s7 (UK 0 e.as) (fq e.as x))=e.m x:=by intro x;kernel_rfl):aP P e:=
 ahe e fn (jR fn) (UK 0 e.as) mo cl dl ll js dr hf hb hn (LZ 0 e.as) hnt hT hg
theorem P3.m1 {R:Type}{body:Code}{W:Wr}{cl:List bB}{dr:Nat->Option (List (Nat×η))}{fin:gF->Env->M R}(c:aI P cl):P3 P body W cl [] [] [] ([]:List (gC R)) dr fin:=⟨.nil,c,.nil,.nil,.nil⟩
end Go.Ago
