
import Derived.Test.YtcdofopdlaebaaaGreatDoorAgoH
namespace Go.Ago
open Go
variable {P:Program}{ι ι':fM}{h h' h1:af}{w w':World}
theorem pj {c:Code}{Q Q':Exit->Go.Act->World->Prop}(hq:∀e a w,e≠.normal->Q e a w->Q' e a w):∀(n:Nat) (a:Go.Act) (w:World),Code.rounds P c Q n a w->Code.rounds P c Q' n a w
 |0,_,_,h=>h
 |n+1,a,w,h=>wp_mono h λe a w he=>by
  cases e with
  |normal=>exact pj hq n a w he
  |_=>exact hq _ _ _ (by simp) he
def AJ {R:Type}(ls:List (Nat×Ty))(g:aM (gD ls)->M R)(E:Env):M R:=
 match qv E ls with
 |some vs=>(match uO (gD ls) vs with|some x=>g x|none=>AS)
 |none=>AS
theorem EJ {R:Type}{ls:List (Nat×Ty)}{g:aM (gD ls)->M R}{E:Env}{r:R×af}(hx:AJ ls g E h=some r):∃x,qv E ls=some (fb (gD ls) x)/\g x h=some r:=by
 unfold AJ at hx;generalize hg:qv E ls=o at hx;cases o with
 |none=>simp[AS] at hx
 |some vs=>
  simp only at hx;generalize hu:uO (gD ls) vs=o at hx;cases o with
  |none=>simp[AS] at hx
  |some x=>exact⟨x,by rw[<-rI hu],hx⟩
theorem AK {R:Type}{body c:Code}{p:Path}{ls:List (Nat×Ty)}{nt:Nat}{ws:List Nat}{G:Nat->aM (gD ls)->M R}{fin:Nat->gh->Env->M R}{T:Nat->JY R}{N:Nat}
  (hc:cC body p=.loop c) (h0:∀x,G 0 x=AS)
  (hs:∀n x,den P body (T n) (nt,some ws) (fin n) N false [.code (0::p)] (sr ls (fb (gD ls) x))=G (n+1) x)
  (hn:∀n E,fin n .normal E=AJ ls (G n) E) :
  ∀(n:Nat),(∀m,m<n->vT P body (T m) (nt,some ws) (fin m))->∀(x:aM (gD ls)) (F:Fz) (h:af) (r:R×af),G n x h=some r->∀(ι:fM) (w:World) (a:Go.Act),Start P F ι (nt,some ws) (sr ls (fb (gD ls) x)) h a w ->
   Code.rounds P c (λe a' w'=>∃m,zE P F ι (nt,some ws) a.tmps (fin m) (T m).fj r e a' w') n a w
 |0,_,x,F,h,r,hx,ι,w,a,S=>by rw[h0] at hx;simp[AS] at hx
 |n+1,hT,x,F,h,r,hx,ι,w,a,S=>by
  rw[<-hs] at hx;have hd:=tx (hT n (aar n)) N false [.code (0::p)] _ F ι h r a w S hx;have hcc:cC body (0::p)=c:=by show child (cC body p) 0=c;rw[hc];rfl
  intro b k cs;obtain⟨e,a',w',hpost,harr⟩:=hd b k cs;refine⟨e,a',w',?_,by rw[show eG body [tD.code (0::p)]=[.code c] from by simp[eG,hcc]] at harr;exact harr⟩;cases e with
  |normal=>
   rcases hpost with⟨ae,heq,hnow⟩|⟨_,_,_,_,q,_⟩
   .cases ae with
    |normal=>
     obtain⟨ι2,E2,h2,hle,hk,S2,hfr⟩:=hnow.start;rw[hn] at hk;obtain⟨x2,hg,hk⟩:=EJ hk;have ih:=AK hc h0 hs hn n (λm hm=>hT m (abX hm)) x2 F h2 r hk ι2 w' a' ⟨S2.rel,vl hg S2.env,S2.defers,S2.size⟩;refine pj (λe a w _ hq=>?_) n a' w' ih;obtain⟨m,hq⟩:=hq;exact⟨m,zE.trans hle hfr e a w hq⟩
    |_=>exact heq.elim
   .cases q
  |_=>exact⟨n,hpost⟩
def vU (P:Program)(body:Code)(W:Wr)(e:qx):Prop:=∀E x,qv E e.ls=some (fb (gD e.ls) x)->MI P body W e.p E (e.act x)
def Bv (P:Program)(body:Code)(W:Wr):List qx->Prop
 |[]=>True
 |e::r=>vU P body W e/\Bv P body W r
theorem Bw:∀{p q:Path},tE p q=true->p=q
 |[],[],_=>rfl
 |[],_::_,h=>by cases h
 |_::_,[],h=>by cases h
 |a::p,b::q,h=>by
  simp only[tE,IT] at h;rw[BY h.1,Bw h.2]
theorem EK {body:Code}{W:Wr}:∀{l:List qx},Bv P body W l->∀p E,MI P body W p E (pg l p E)
 |[],_,p,E=>trivial
 |e::r,hl,p,E=>by
  simp only[pg];split
  .rename_i hp;have:=Bw hp;subst this;split
   .rename_i vs hg;split
    .rename_i x hu;exact hl.1 E x (by rw[hg,rI hu])
    .trivial
   .trivial
  .exact EK hl.2 p E
theorem AL {F:Fz}{W:Wr}{nt:Nat}{ws:List Nat}{ls ms:List (Nat×Ty)}{E E':Env}{x:aM (gD ls)}{y:aM (gD ms)}{a a':Go.Act}
  (hW:Bn W nt ws=true) (hg:qv E ls=some (fb (gD ls) x)) (S:Start P F ι W E h a w) (hg':qv E' ms=some (fb (gD ms) y))
  (hle:ι.le ι') (R':Rel P F ι' h1 w') (HE':iN P ι' E' a'.tmps) (hd:a'.defers=[]) (hs:a'.tmps.size=nt) (hfr:Bh (nt,some ws) a.tmps a'.tmps) :
  ∃ι',ι.le ι'/\Rel P F ι' h1 w'/\iN P ι' (Tl ls ms ws x y) a'.tmps/\a'.defers=[]/\a'.tmps.size=W.1/\Bh W a.tmps a'.tmps:=by
 unfold Bn at hW;rw[IT] at hW;have hnt:=BY hW.1;refine⟨ι',hle,R',?_,hd,by rw[hs,hnt],hfr.1,λl hl i hi=>?_⟩
 .intro j u hu;rcases GS hg' j u hu with h1|⟨h1,h2⟩
  .exact HE' j u h1
  .unfold adQ at h1;cases hb:ws.any (Nat.beq j) with
   |true=>rw[hb] at h1;cases h1
   |false=>
    rw[hb] at h1;obtain⟨u',h3,h4⟩:=vl hg S.env j u h1;exact⟨u',by rw[hfr.2 ws rfl _ hb];exact h3,h4.mono hle⟩
 .refine hfr.2 ws rfl i ?_;cases hc:ws.any (Nat.beq i)
  .rfl
  .exfalso;have h2:=hW.2;rw[hl] at h2;simp only[adx] at h2;obtain⟨y,hy,he⟩:=List.any_eq_true.1 hc;have:=BY he;subst this;rw[h2 _ hy] at hi;cases hi
theorem MP {R:Type}{F:Fz}{W:Wr}{t0:Array Value}{fin:gh->Env->M R}{fj:Value->M R}{r:R×af}{e:Exit}{a:Go.Act}(hp:fj=λ_=>AS)(h:zE P F ι W t0 fin fj r e a w) :
  ∃ae,eqv e ae/\SV P F ι W t0 (fin ae) r a w:=by
 rcases h with h|⟨ι2,v,v',h,q1,q2,q3,_⟩
 .exact h
 .rw[hp] at q3;simp[AS] at q3
theorem XF {ms:List (Nat×Ty)}{R:Type}{E:Env}{f:aM (gD ms)->R}{r:R×af}
  (hx:AJ ms (λx=>AI (f x)) E h=some r):∃y,qv E ms=some (fb (gD ms) y)/\r=(f y,h):=by
 obtain⟨y,h1,h2⟩:=EJ hx;simp only[AI,aaM] at h2;exact⟨y,h1,h2.symm⟩
variable {body c:Code}{p:Path}{ls ms rs:List (Nat×Ty)}{nt id N:Nat}{ws:List Nat}{e2:gh}
theorem TQ {G:Nat->aM (gD ls)->M (aM (gD ms))}{T:Nat->JY (aM (gD ms))}(hc:cC body p=.loop c)(h0:∀x,G 0 x=AS)
  (hs:∀n x,den P body (T n) (nt,some ws) (Cm ls ms id (G n)) N false [.code (0::p)] (sr ls (fb (gD ls) x))=G (n+1) x)
  (hp:∀m,(T m).fj=λ_=>AS)
  (n:Nat) (hT:∀m,m<n->vT P body (T m) (nt,some ws) (Cm ls ms id (G m))) {W:Wr} (hW:Bn W nt ws=true) :
  vU P body W ⟨p,ls,Tm ls ms ws id (G n)⟩:=by
 intro E x hg F h y h1 hx ι w a S;rw[hc];have hnt:W.1=nt:=by unfold Bn at hW;rw[IT] at hW;exact BY hW.1
 refine wp_loop_rounds n (pj (λe a' w' hne hq=>?_) n a w (AK hc h0 hs (λ_ _=>rfl) n hT x F h (y,h1) hx ι w a ⟨S.rel,vl hg S.env,S.defers,by rw[S.size,hnt]⟩));obtain⟨m,hq⟩:=hq;obtain⟨ae,heq,ι',E',h',hle,hfin,R',HE',hd,hs',hfr⟩:=MP (hp m) hq;cases ae with
 |normal=>cases e<;>first|exact absurd rfl hne|exact heq.elim
 |ret=>simp[Cm,AS] at hfin
 |exit id'=>
  have hfin':id=id'/\AJ ms (λx=>AI x) E' h'=some (y,h1):=by
   simp only[Cm] at hfin;generalize hb:Nat.beq id id'=b at hfin;generalize hgg:qv E' ms=o at hfin;cases b<;>cases o<;>simp only at hfin<;>try (simp[AS] at hfin;done)
   refine⟨BY hb,?_⟩;unfold AJ;rw[hgg];exact hfin
  obtain⟨rfl,hfin'⟩:=hfin';obtain⟨y',hg',e1⟩:=XF hfin';cases e1;exact⟨heq,AL hW hg S hg' hle R' HE' hd hs' hfr⟩
theorem TT {G:Nat->aM (gD ls)->M (aM (gD rs))}{T:Nat->JY (aM (gD rs))}(hc:cC body p=.loop c)(h0:∀x,G 0 x=AS)
  (hs:∀n x,den P body (T n) (nt,some ws) (Eg ls rs (G n)) N false [.code (0::p)] (sr ls (fb (gD ls) x))=G (n+1) x)
  (hp:∀m,(T m).fj=λ_=>AS)
  (n:Nat) (hT:∀m,m<n->vT P body (T m) (nt,some ws) (Eg ls rs (G m))) {W:Wr} (hW:Bn W nt ws=true) :
  vU P body W ⟨p,ls,Tn ls rs ws (G n)⟩:=by
 intro E x hg F h y h1 hx ι w a S;rw[hc];have hnt:W.1=nt:=by unfold Bn at hW;rw[IT] at hW;exact BY hW.1
 refine wp_loop_rounds n (pj (λe a' w' hne hq=>?_) n a w (AK hc h0 hs (λ_ _=>rfl) n hT x F h (y,h1) hx ι w a ⟨S.rel,vl hg S.env,S.defers,by rw[S.size,hnt]⟩));obtain⟨m,hq⟩:=hq;obtain⟨ae,heq,ι',E',h',hle,hfin,R',HE',hd,hs',hfr⟩:=MP (hp m) hq;cases ae with
 |normal=>cases e<;>first|exact absurd rfl hne|exact heq.elim
 |exit id'=>simp[Eg,AS] at hfin
 |ret=>
  obtain⟨y',hg',e1⟩:=XF (f:=λx=>x) (show AJ rs (λx=>AI x) E' h'=some (y,h1) from hfin);cases e1;exact⟨heq,AL hW hg S hg' hle R' HE' hd hs' hfr⟩
theorem TU {a b:gh}(h:Zw a b=true):a=b:=by
 cases a<;>cases b<;>simp only[Zw] at h<;>first|rfl|(cases h;done)|(rw[BY h])
theorem TV {G:Nat->aM (gD ls)->M (aM (gD ms)⊕aM (gD rs))}{T:Nat->JY (aM (gD ms)⊕aM (gD rs))}(hc:cC body p=.loop c)(h0:∀x,G 0 x=AS)
  (hs:∀n x,den P body (T n) (nt,some ws) (GF ls ms rs id e2 (G n)) N false [.code (0::p)] (sr ls (fb (gD ls) x))=G (n+1) x)
  (hp:∀m,(T m).fj=λ_=>AS)
  (n:Nat) (hT:∀m,m<n->vT P body (T m) (nt,some ws) (GF ls ms rs id e2 (G m))) {W:Wr} (hW:Bn W nt ws=true) :
  vU P body W ⟨p,ls,To ls ms rs ws id e2 (G n)⟩:=by
 intro E x hg;have hnt:W.1=nt:=by unfold Bn at hW;rw[IT] at hW;exact BY hW.1
 have key:∀{F:Fz} {h:af} {r h1},G n x h=some (r,h1)->∀ι w a,Start P F ι W E h a w ->
   Code.rounds P c (λe a' w'=>∃ι' E' h',ι.le ι'/\Rel P F ι' h' w'/\iN P ι' E' a'.tmps/\a'.defers=[]/\a'.tmps.size=nt/\Bh (nt,some ws) a.tmps a'.tmps /\
    ((eqv e (.exit id)/\∃y,qv E' ms=some (fb (gD ms) y)/\r=.inl y/\h1=h')\/(eqv e e2/\∃y,qv E' rs=some (fb (gD rs) y)/\r=.inr y/\h1=h'))) n a w:=by
  intro F h r h1 hx ι w a S;refine pj (λe a' w' hne hq=>?_) n a w (AK hc h0 hs (λ_ _=>rfl) n hT x F h (r,h1) hx ι w a ⟨S.rel,vl hg S.env,S.defers,by rw[S.size,hnt]⟩);obtain⟨m,hq⟩:=hq;obtain⟨ae,heq,ι',E',h',hle,hfin,R',HE',hd,hs',hfr⟩:=MP (hp m) hq;refine⟨ι',E',h',hle,R',HE',hd,hs',hfr,?_⟩;have tail:∀ae,ae≠.normal->eqv e ae->(match Zw ae (.exit id) with
    |true=>AJ ms (λx=>AI (Sum.inl x:aM (gD ms)⊕aM (gD rs))) E'
    |false=>(match Zw ae e2 with
     |true=>AJ rs (λx=>AI (Sum.inr x:aM (gD ms)⊕aM (gD rs))) E'
     |false=>AS)) h'=some (r,h1)->((eqv e (.exit id)/\∃y,qv E' ms=some (fb (gD ms) y)/\r=.inl y/\h1=h')\/(eqv e e2/\∃y,qv E' rs=some (fb (gD rs) y)/\r=.inr y/\h1=h')):=by
   intro ae _ he2 hf2;cases h2:Zw ae (.exit id)<;>rw[h2] at hf2
   .cases h3:Zw ae e2<;>rw[h3] at hf2
    .simp[AS] at hf2
    .have:=TU h3;subst this;obtain⟨y',hg',e1⟩:=XF (f:=λx=>(Sum.inr x:aM (gD ms)⊕aM (gD rs))) hf2;cases e1;exact .inr ⟨he2,y',hg',rfl,rfl⟩
   .have:=TU h2;subst this;obtain⟨y',hg',e1⟩:=XF (f:=λx=>(Sum.inl x:aM (gD ms)⊕aM (gD rs))) hf2;cases e1;exact .inl ⟨he2,y',hg',rfl,rfl⟩
  cases ae with
  |normal=>cases e<;>first|exact absurd rfl hne|exact heq.elim
  |ret=>exact tail .ret (by simp) heq hfin
  |exit id'=>exact tail (.exit id') (by simp) heq hfin
 refine⟨λF h y h1 hx ι w a S=>?_,λF h y h1 hx ι w a S=>?_⟩<;>rw[hc]<;>refine wp_loop_rounds n (pj (λe a' w' hne hq=>?_) n a w (key hx ι w a S))
 .obtain⟨ι',E',h',hle,R',HE',hd,hs',hfr,⟨q0,y',q1,q2,q3⟩|⟨q0,y',q1,q2,q3⟩⟩:=hq
  .cases q2;subst q3;exact⟨q0,AL hW hg S q1 hle R' HE' hd hs' hfr⟩
  .cases q2
 .obtain⟨ι',E',h',hle,R',HE',hd,hs',hfr,⟨q0,y',q1,q2,q3⟩|⟨q0,y',q1,q2,q3⟩⟩:=hq
  .cases q2
  .cases q2;subst q3;exact⟨q0,AL hW hg S q1 hle R' HE' hd hs' hfr⟩
def CL {R:Type}(P:Program)(body:Code)(cl:List bz)(dl:List jx)(ms:List FuncId)(ll:List qx)(dr:Nat->Option (List (Nat×List Nat)))(W:Wr)(fin:gh->Env->M R)(N:Nat)(ps:List vK)(fj:Value->M R):List (gj R)->Prop
 |[]=>True
 |e::r=>(∀x,den P body ⟨qJ cl dl ms ps,pg ll,pB r,dr,fj⟩ W fin N false (.code e.p::e.k) (sr e.ls (fb (gD e.ls) x))=e.m x)/\CL P body cl dl ms ll dr W fin N ps fj r
theorem TW (l:List bz):MO l []=true:=by unfold MO;simp
theorem HN {R:Type}{W:Wr}{cl:List bz}{dl:List jx}{ms:List FuncId}{ll:List qx}{dr:Nat->Option (List (Nat×List Nat))}{fin:gh->Env->M R}{N:Nat}{ps:List vK}{fj:Value->M R}(hmo:Cy cl ms)(h1:aJ P cl)(hd:oY P dl)(h2:Bv P body W ll)(h4:F5 P ps)(h5:MO cl ps=true) :
  ∀{js:List (gj R)},CL P body cl dl ms ll dr W fin N ps fj js->vT P body ⟨qJ cl dl ms ps,pg ll,pB js,dr,fj⟩ W fin
 |[],_=>⟨KV h1 hd hmo h4 h5,EK h2,λ_ _ _ h=>by cases h⟩
 |e::r,hj=>by
  have ih:=HN (fin:=fin) (N:=N) hmo h1 hd h2 h4 h5 hj.2;refine⟨KV h1 hd hmo h4 h5,EK h2,λp k J hp E m hJ F h r' hx ι w a S=>?_⟩;simp only[pB] at hp;split at hp
  .rename_i he;have:=Bw he;subst this;cases hp;unfold goJ at hJ;split at hJ
   .rename_i vs hg;split at hJ
    .rename_i x hu;cases hJ;have hgg:qv E e.ls=some (fb (gD e.ls) x):=(by rw[hg,rI hu]);rw[<-hj.1 x] at hx;exact tx ih N false _ _ F ι h r' a w ⟨S.rel,vl hgg S.env,S.defers,S.size⟩ hx
    .cases hJ
   .cases hJ
  .exact ih.join p k J hp E m hJ F h r' hx ι w a S
theorem CL.cons {R:Type}{body:Code}{cl:List bz}{dl:List jx}{ms:List FuncId}{ll:List qx}{dr:Nat->Option (List (Nat×List Nat))}{W:Wr}{fin:gh->Env->M R}{N:Nat}{ps:List vK}{fj:Value->M R}{e:gj R}{r:List (gj R)}
  (h:∀x,den P body ⟨qJ cl dl ms ps,pg ll,pB r,dr,fj⟩ W fin N false (.code e.p::e.k) (sr e.ls (fb (gD e.ls) x))=e.m x) (hr:CL P body cl dl ms ll dr W fin N ps fj r):CL P body cl dl ms ll dr W fin N ps fj (e::r):=⟨h,hr⟩
theorem CL.nil {R:Type}{body:Code}{cl:List bz}{dl:List jx}{ms:List FuncId}{ll:List qx}{dr:Nat->Option (List (Nat×List Nat))}{W:Wr}{fin:gh->Env->M R}{N:Nat}{ps:List vK}{fj:Value->M R}:CL P body cl dl ms ll dr W fin N ps fj ([]:List (gj R)):=trivial
theorem Bv.cons {body:Code}{W:Wr}{e:qx}{r:List qx}(h:vU P body W e)(hr:Bv P body W r):Bv P body W (e::r):=⟨h,hr⟩
theorem Bv.nil {body:Code}{W:Wr}:Bv P body W []:=trivial
theorem aJ.cons {e:bz}{r:List bz}(h:aP P e)(hr:aJ P r):aJ P (e::r):=⟨h,hr⟩
theorem oY.cons {e:jx}{r:List jx}(h:MN P e)(hr:oY P r):oY P (e::r):=⟨h,hr⟩
theorem oY.nil:oY P []:=trivial
theorem KQ.cons {as rs:List Ty}{e:Zy as rs}{r:List (Zy as rs)}(h:adZ P e)(hr:KQ P r):KQ P (e::r):=⟨h,hr⟩
theorem KQ.nil {as rs:List Ty}:KQ P ([]:List (Zy as rs)):=trivial
theorem aJ.nil:aJ P []:=trivial
theorem fX {e : bz} {fn : Func} (hf : P.funcs[e.id]? = some fn) (hb : fn.body.isNone = false) (hn : (fn.name == "runtime.NumGoroutine") = false) (h0 : ∀x, e.m x = AS) : aP P e :=by
 intro x;refine gF.of (λargs w=>iF hf hb hn args w) ?_;intro F h y h1 hx;simp[h0,AS] at hx
structure O5 {R:Type} (P:Program) (body:Code) (W:Wr) (cl:List bz) (dl:List jx) (mo:List FuncId) (ll:List qx) (js:List (gj R)) (dr:Nat->Option (List (Nat×List Nat))) (fin:gh->Env->M R):Prop where
 hm:Cy cl mo
 c:aJ P cl
 d:oY P dl
 l:Bv P body W ll
 j:CL P body cl dl mo ll dr W fin 400 [] (λ_=>AS) js
theorem O5.ok {R:Type}{body:Code}{W:Wr}{cl:List bz}{dl:List jx}{mo:List FuncId}{ll:List qx}{js:List (gj R)}{dr:Nat->Option (List (Nat×List Nat))}{fin:gh->Env->M R}(t:O5 P body W cl dl mo ll js dr fin) :
  vT P body ⟨qJ cl dl mo,pg ll,pB js,dr,λ_=>AS⟩ W fin:=HN (ps:=[]) (fj:=λ_=>AS) t.hm t.c t.d t.l trivial (TW _) t.j
section
variable (body:Code)(p:Path)(ls ms rs:List (Nat×Ty))(id:Nat)(e2:gh)(nt:Nat)(ws:List Nat)(mo:List FuncId)(ct:Nat->List bz)(dt:Nat->List jx)(lt:Nat->List qx)(dr:Nat->Option (List (Nat×List Nat)))
theorem XG (G:Nat->aM (gD ls)->M (aM (gD ms)))(jt:Nat->List (gj (aM (gD ms))))(hc:cC body p=.loop (child (cC body p) 0))(h0:∀x,G 0 x=AS)
  (hs:∀n x,den P body ⟨qJ (ct n) (dt n) mo,pg (lt n),pB (jt n),dr,λ_=>AS⟩ (nt,some ws) (Cm ls ms id (G n)) 400 false [.code (0::p)] (sr ls (fb (gD ls) x))=G (n+1) x)
  (n:Nat) (hT:∀m,m<n->O5 P body (nt,some ws) (ct m) (dt m) mo (lt m) (jt m) dr (Cm ls ms id (G m))) {W:Wr} (hW:Bn W nt ws=true):vU P body W ⟨p,ls,Tm ls ms ws id (G n)⟩:=
 TQ (T:=λn=>⟨qJ (ct n) (dt n) mo,pg (lt n),pB (jt n),dr,λ_=>AS⟩) hc h0 hs (λ_=>rfl) n (λm hm=>(hT m hm).ok) hW
theorem XH (G:Nat->aM (gD ls)->M (aM (gD rs)))(jt:Nat->List (gj (aM (gD rs))))(hc:cC body p=.loop (child (cC body p) 0))(h0:∀x,G 0 x=AS)
  (hs:∀n x,den P body ⟨qJ (ct n) (dt n) mo,pg (lt n),pB (jt n),dr,λ_=>AS⟩ (nt,some ws) (Eg ls rs (G n)) 400 false [.code (0::p)] (sr ls (fb (gD ls) x))=G (n+1) x)
  (n:Nat) (hT:∀m,m<n->O5 P body (nt,some ws) (ct m) (dt m) mo (lt m) (jt m) dr (Eg ls rs (G m))) {W:Wr} (hW:Bn W nt ws=true):vU P body W ⟨p,ls,Tn ls rs ws (G n)⟩:=
 TT (T:=λn=>⟨qJ (ct n) (dt n) mo,pg (lt n),pB (jt n),dr,λ_=>AS⟩) hc h0 hs (λ_=>rfl) n (λm hm=>(hT m hm).ok) hW
theorem XI (G:Nat->aM (gD ls)->M (aM (gD ms)⊕aM (gD rs)))(jt:Nat->List (gj (aM (gD ms)⊕aM (gD rs))))(hc:cC body p=.loop (child (cC body p) 0))(h0:∀x,G 0 x=AS)
  (hs:∀n x,den P body ⟨qJ (ct n) (dt n) mo,pg (lt n),pB (jt n),dr,λ_=>AS⟩ (nt,some ws) (GF ls ms rs id e2 (G n)) 400 false [.code (0::p)] (sr ls (fb (gD ls) x))=G (n+1) x)
  (n:Nat) (hT:∀m,m<n->O5 P body (nt,some ws) (ct m) (dt m) mo (lt m) (jt m) dr (GF ls ms rs id e2 (G m))) {W:Wr} (hW:Bn W nt ws=true):vU P body W ⟨p,ls,To ls ms rs ws id e2 (G n)⟩:=
 TV (T:=λn=>⟨qJ (ct n) (dt n) mo,pg (lt n),pB (jt n),dr,λ_=>AS⟩) hc h0 hs (λ_=>rfl) n (λm hm=>(hT m hm).ok) hW
end
theorem af1 (e:bz)(fn:Func)(c:Code)(ps:List (Nat×Ty))(mo:List FuncId)(cl:List bz)(dl:List jx)(ll:List qx)(js:List (gj (aM e.rs)))(dr:Nat->Option (List (Nat×List Nat)))
  (hf : P.funcs[e.id]? = some fn) (hb : fn.body = some c) (hn : (fn.name == "runtime.NumGoroutine") = false) (hps : ps.map (·.1) = List.range' 0 e.as.length) (hnt : Nat.ble e.as.length fn.ntmps = true)
  (hT:O5 P c (fn.ntmps,none) cl dl mo ll js dr (Mn P fn e.rs))
  (hg:∀x,den P c ⟨qJ cl dl mo,pg ll,pB js,dr,λ_=>AS⟩ (fn.ntmps,none) (Mn P fn e.rs) 400 false [.code []] (sr ps (fb e.as x))=e.m x):aP P e:=
 ad0 hf hb hn hps hnt hT.ok rfl hg
abbrev abf {R:Type}:Value->M (R⊕Value):=λv=>AI (.inr v)
section
variable {body c:Code}{p:Path}{ls ms rs:List (Nat×Ty)}{nt id N:Nat}{ws:List Nat}{e2:gh}
end
structure ad3 {X:Type} (P:Program) (body:Code) (W:Wr) (cl:List bz) (dl:List jx) (pl:List vK) (mo:List FuncId) (ll:List qx) (js:List (gj (X⊕Value))) (dr:Nat->Option (List (Nat×List Nat))) (fin:gh->Env->M (X⊕Value)):Prop where
 hm:Cy cl mo
 c:aJ P cl
 d:oY P dl
 p:F5 P pl
 x:MO cl pl=true
 l:Bv P body W ll
 j:CL P body cl dl mo ll dr W fin 400 pl abf js
theorem ad3.ok {X:Type}{body:Code}{W:Wr}{cl:List bz}{dl:List jx}{pl:List vK}{mo:List FuncId}{ll:List qx}{js:List (gj (X⊕Value))}{dr:Nat->Option (List (Nat×List Nat))}{fin:gh->Env->M (X⊕Value)}(t:ad3 P body W cl dl pl mo ll js dr fin) :
  vT P body ⟨qJ cl dl mo pl,pg ll,pB js,dr,abf⟩ W fin:=HN (ps:=pl) (fj:=abf) t.hm t.c t.d t.l t.p t.x t.j
theorem F5.cons {e:vK}{r:List vK}(h:ZA P e)(hr:F5 P r):F5 P (e::r):=⟨h,hr⟩
theorem F5.nil:F5 P []:=trivial
section
variable (body:Code)(p:Path)(ls ms rs:List (Nat×Ty))(id:Nat)(e2:gh)(nt:Nat)(ws:List Nat)(mo:List FuncId)(ct:Nat->List bz)(dt:Nat->List jx)(pt:Nat->List vK)(lt:Nat->List qx)(dr:Nat->Option (List (Nat×List Nat)))
end
structure L1 where
 p:Path
 ls:List (Nat×Ty)
 ms:List (Nat×Ty)
 ws:List Nat
 id:Nat
 g:Nat->aM (gD ls)->M (aM (gD ms))
structure Lr where
 p:Path
 ls:List (Nat×Ty)
 rs:List (Nat×Ty)
 ws:List Nat
 g:Nat->aM (gD ls)->M (aM (gD rs))
structure L2 where
 p:Path
 ls:List (Nat×Ty)
 ms:List (Nat×Ty)
 rs:List (Nat×Ty)
 ws:List Nat
 id:Nat
 e2:gh
 g:Nat->aM (gD ls)->M (aM (gD ms)⊕aM (gD rs))
def L1.e (s:L1)(n:Nat):qx:=⟨s.p,s.ls,Tm s.ls s.ms s.ws s.id (s.g n)⟩
def Lr.e (s:Lr)(n:Nat):qx:=⟨s.p,s.ls,Tn s.ls s.rs s.ws (s.g n)⟩
def L2.e (s:L2)(n:Nat):qx:=⟨s.p,s.ls,To s.ls s.ms s.rs s.ws s.id s.e2 (s.g n)⟩
def kE (P:Program)(fn:Func)(l:qx)(ws:List Nat):Prop:=∀(W:Wr),Bn W fn.ntmps ws=true->vU P (jE fn) W l
theorem Bv.cc {fn:Func}{W:Wr}{e:qx}{r:List qx}{ws:List Nat}(h:kE P fn e ws)(hr:Bv P (jE fn) W r)(hw:Bn W fn.ntmps ws=true:=by kernel_rfl):Bv P (jE fn) W (e::r):=⟨h W hw,hr⟩
theorem CL.cc {R:Type}{body:Code}{cl:List bz}{dl:List jx}{ms:List FuncId}{ll:List qx}{dr:Nat->Option (List (Nat×List Nat))}{W:Wr}{fin:gh->Env->M R}{N:Nat}{ps:List vK}{fj:Value->M R}{e:gj R}{r:List (gj R)}
  (hr:CL P body cl dl ms ll dr W fin N ps fj r) (h:∀x,den P body ⟨qJ cl dl ms ps,pg ll,pB r,dr,fj⟩ W fin N false (.code e.p::e.k) (sr e.ls (fb (gD e.ls) x))=e.m x:=by intro x;kernel_rfl):CL P body cl dl ms ll dr W fin N ps fj (e::r):=⟨h,hr⟩
theorem L1.ok (fn:Func)(s:L1)(n:Nat)(ct:Nat->List bz)(mo:List FuncId:=[])(dt:Nat->List jx:=λ_=>[])(lt:Nat->List qx:=λ_=>[])(dr:Nat->Option (List (Nat×List Nat)):=λ_=>none)(jt:Nat->List (gj (aM (gD s.ms))):=λ_=>[])
  (hT:∀m,m<n->O5 P (jE fn) (fn.ntmps,some s.ws) (ct m) (dt m) mo (lt m) (jt m) dr (Cm s.ls s.ms s.id (s.g m)))
  (hc:cC (jE fn) s.p=.loop (child (cC (jE fn) s.p) 0):=by kernel_rfl) (h0:∀x,s.g 0 x=AS:=by intro x;kernel_rfl)
  (hs:∀n x,den P (jE fn) ⟨qJ (ct n) (dt n) mo,pg (lt n),pB (jt n),dr,λ_=>AS⟩ (fn.ntmps,some s.ws) (Cm s.ls s.ms s.id (s.g n)) 400 false [.code (0::s.p)] (sr s.ls (fb (gD s.ls) x))=s.g (n+1) x:=by intro n x;kernel_rfl) :
  kE P fn (s.e n) s.ws:=λW hW=>XG (jE fn) s.p s.ls s.ms s.id fn.ntmps s.ws mo ct dt lt dr s.g jt hc h0 hs n hT hW
theorem Lr.ok (fn:Func)(s:Lr)(n:Nat)(ct:Nat->List bz)(mo:List FuncId:=[])(dt:Nat->List jx:=λ_=>[])(lt:Nat->List qx:=λ_=>[])(dr:Nat->Option (List (Nat×List Nat)):=λ_=>none)(jt:Nat->List (gj (aM (gD s.rs))):=λ_=>[])
  (hT:∀m,m<n->O5 P (jE fn) (fn.ntmps,some s.ws) (ct m) (dt m) mo (lt m) (jt m) dr (Eg s.ls s.rs (s.g m)))
  (hc:cC (jE fn) s.p=.loop (child (cC (jE fn) s.p) 0):=by kernel_rfl) (h0:∀x,s.g 0 x=AS:=by intro x;kernel_rfl)
  (hs:∀n x,den P (jE fn) ⟨qJ (ct n) (dt n) mo,pg (lt n),pB (jt n),dr,λ_=>AS⟩ (fn.ntmps,some s.ws) (Eg s.ls s.rs (s.g n)) 400 false [.code (0::s.p)] (sr s.ls (fb (gD s.ls) x))=s.g (n+1) x:=by intro n x;kernel_rfl) :
  kE P fn (s.e n) s.ws:=λW hW=>XH (jE fn) s.p s.ls s.rs fn.ntmps s.ws mo ct dt lt dr s.g jt hc h0 hs n hT hW
theorem L2.ok (fn:Func)(s:L2)(n:Nat)(ct:Nat->List bz)(mo:List FuncId:=[])(dt:Nat->List jx:=λ_=>[])(lt:Nat->List qx:=λ_=>[])(dr:Nat->Option (List (Nat×List Nat)):=λ_=>none)(jt:Nat->List (gj (aM (gD s.ms)⊕aM (gD s.rs))):=λ_=>[])
  (hT:∀m,m<n->O5 P (jE fn) (fn.ntmps,some s.ws) (ct m) (dt m) mo (lt m) (jt m) dr (GF s.ls s.ms s.rs s.id s.e2 (s.g m)))
  (hc:cC (jE fn) s.p=.loop (child (cC (jE fn) s.p) 0):=by kernel_rfl) (h0:∀x,s.g 0 x=AS:=by intro x;kernel_rfl)
  (hs:∀n x,den P (jE fn) ⟨qJ (ct n) (dt n) mo,pg (lt n),pB (jt n),dr,λ_=>AS⟩ (fn.ntmps,some s.ws) (GF s.ls s.ms s.rs s.id s.e2 (s.g n)) 400 false [.code (0::s.p)] (sr s.ls (fb (gD s.ls) x))=s.g (n+1) x:=by intro n x;kernel_rfl) :
  kE P fn (s.e n) s.ws:=λW hW=>XI (jE fn) s.p s.ls s.ms s.rs s.id s.e2 fn.ntmps s.ws mo ct dt lt dr s.g jt hc h0 hs n hT hW
def TX:Nat->List Ty->List (Nat×Ty)
 |_,[]=>[]
 |i,t::ts=>(i,t)::TX (i+1) ts
theorem KW:∀(i:Nat) (ts:List Ty),(TX i ts).map (·.1)=List.range' i ts.length
 |i,[]=>rfl
 |i,t::ts=>by rw[TX,adE,OF,agB,KW (i+1) ts]
theorem bE {e:bz}(fn:Func)(cl:List bz)(mo:List FuncId:=[])(dl:List jx:=[])(ll:List qx:=[])(js:List (gj (aM e.rs)):=[])(dr:Nat->Option (List (Nat×List Nat)):=λ_=>none)
  (hT:O5 P (jE fn) (fn.ntmps,none) cl dl mo ll js dr (Mn P fn e.rs))
  (hf : P.funcs[e.id]? = some fn := by kernel_rfl) (hb : fn.body = some (jE fn) := by kernel_rfl) (hn : (fn.name == "runtime.NumGoroutine") = false := by kernel_rfl) (hnt : Nat.ble e.as.length fn.ntmps = true := by kernel_rfl)
  (hg:∀x,den P (jE fn) ⟨qJ cl dl mo,pg ll,pB js,dr,λ_=>AS⟩ (fn.ntmps,none) (Mn P fn e.rs) 400 false [.code []] (sr (TX 0 e.as) (fb e.as x))=e.m x:=by intro x;kernel_rfl):aP P e:=
 af1 e fn (jE fn) (TX 0 e.as) mo cl dl ll js dr hf hb hn (KW 0 e.as) hnt hT hg
theorem O5.m1 {R:Type}{body:Code}{W:Wr}{cl:List bz}{dr:Nat->Option (List (Nat×List Nat))}{fin:gh->Env->M R}(c:aJ P cl):O5 P body W cl [] [] [] ([]:List (gj R)) dr fin:=⟨.nil,c,.nil,.nil,.nil⟩
end Go.Ago
