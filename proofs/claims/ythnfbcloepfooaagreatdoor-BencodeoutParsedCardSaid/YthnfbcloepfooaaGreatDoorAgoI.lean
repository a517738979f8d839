
import Derived.Test.YthnfbcloepfooaaGreatDoorAgoH
set_option linter.all false
namespace Go.Ago
open Go
variable {P:Program}{ι ι':gy}{h h' h1:af}{w w':World}
theorem nI {c:Code}{Q Q':Exit->Go.Act->World->Prop}(hq:∀e a w,e≠.normal->Q e a w->Q' e a w):∀(n:Nat) (a:Go.Act) (w:World),Code.rounds P c Q n a w->Code.rounds P c Q' n a w
 |0,_,_,h=>h
 |n+1,a,w,h=>wp_mono h λe a w he=>by
  cases e with
  |normal=>exact nI hq n a w he
  |_=>exact hq _ _ _ (by simp) he
def zf {R:Type}(ls:List (Nat×Ty))(g:aO (fN ls)->M R)(E:Env):M R:=
 match oT E ls with
 |some vs=>(match sE (fN ls) vs with|some x=>g x|none=>AT)
 |none=>AT
theorem CF {R:Type}{ls:List (Nat×Ty)}{g:aO (fN ls)->M R}{E:Env}{r:R×af}(hx:zf ls g E h=some r):∃x,oT E ls=some (ee (fN ls) x)/\g x h=some r:=by
 unfold zf at hx;generalize hg:oT E ls=o at hx;cases o with
 |none=>simp[AT] at hx
 |some vs=>
  simp only at hx;generalize hu:sE (fN ls) vs=o at hx;cases o with
  |none=>simp[AT] at hx
  |some x=>exact⟨x,by rw[<-pZ hu],hx⟩
theorem zg {R:Type}{body c:Code}{p:Path}{ls:List (Nat×Ty)}{nt:Nat}{ws:η}{G:Nat->aO (fN ls)->M R}{fin:Nat->fw->Env->M R}{T:Nat->Hp R}{N:Nat}
  (hc:cB body p=.loop c) (h0:∀x,G 0 x=AT)
  (hs:∀n x,den P body (T n) (nt,some ws) (fin n) N false [.code (0::p)] (qq ls (ee (fN ls) x))=G (n+1) x)
  (hn:∀n E,fin n .normal E=zf ls (G n) E) :
  ∀(n:Nat),(∀m,m<n->uY P body (T m) (nt,some ws) (fin m))->∀(x:aO (fN ls)) (F:Fz) (h:af) (r:R×af),G n x h=some r->∀(ι:gy) (w:World) (a:Go.Act),Start P F ι (nt,some ws) (qq ls (ee (fN ls) x)) h a w ->
   Code.rounds P c (λe a' w'=>∃m,ym P F ι (nt,some ws) a.tmps (fin m) (T m).eA r e a' w') n a w
 |0,_,x,F,h,r,hx,ι,w,a,S=>by rw[h0] at hx;simp[AT] at hx
 |n+1,hT,x,F,h,r,hx,ι,w,a,S=>by
  rw[<-hs] at hx;have hd:=rG (hT n (aad n)) N false [.code (0::p)] _ F ι h r a w S hx;have hcc:cB body (0::p)=c:=by show child (cB body p) 0=c;rw[hc];rfl
  intro b k cs;obtain⟨e,a',w',hpost,harr⟩:=hd b k cs;refine⟨e,a',w',?_,by grind [ep]⟩;cases e with
  |normal=>
   rcases hpost with⟨ae,heq,hnow⟩|⟨_,_,_,_,q,_⟩
   .cases ae with
    |normal=>
     obtain⟨ι2,E2,h2,hle,hk,S2,hfr⟩:=hnow.start;rw[hn] at hk;obtain⟨x2,hg,hk⟩:=CF hk;have ih:=zg hc h0 hs hn n (λm hm=>hT m (aal hm)) x2 F h2 r hk ι2 w' a' ⟨S2.rel,ue hg S2.env,S2.defers,S2.size⟩;refine nI (λe a w _ hq=>?_) n a' w' ih
     grind [ym.trans]
    |_=>exact heq.elim
   .cases q
  |_=>exact⟨n,hpost⟩
def uZ (P:Program)(body:Code)(W:Wr)(e:oU):Prop:=∀E x,oT E e.ls=some (ee (fN e.ls) x)->JS P body W e.p E (e.act x)
def z7 (P:Program)(body:Code)(W:Wr):List oU->Prop
 |[]=>True
 |e::r=>uZ P body W e/\z7 P body W r
theorem z8:∀{p q:Path},rO p q=true->p=q
 |[],[],_=>rfl
 |[],_::_,h=>by cases h
 |_::_,[],h=>by cases h
 |a::p,b::q,h=>by
  simp only[rO,aaf] at h;rw[IS h.1,z8 h.2]
theorem CG {body:Code}{W:Wr}:∀{l:List oU},z7 P body W l->∀p E,JS P body W p E (nF l p E)
 |[],_,p,E=>trivial
 |e::r,hl,p,E=>by
  simp only[nF];split
  .rename_i hp;have:=z8 hp;subst this;split
   .rename_i vs hg;split
    .rename_i x hu;exact hl.1 E x (by rw[hg,pZ hu])
    .trivial
   .trivial
  .exact CG hl.2 p E
theorem zh {F:Fz}{W:Wr}{nt:Nat}{ws:η}{ls ms:List (Nat×Ty)}{E E':Env}{x:aO (fN ls)}{y:aO (fN ms)}{a a':Go.Act}
  (hW:zQ W nt ws=true) (hg:oT E ls=some (ee (fN ls) x)) (S:Start P F ι W E h a w) (hg':oT E' ms=some (ee (fN ms) y))
  (hle:ι.le ι') (R':Rel P F ι' h1 w') (HE':iu P ι' E' a'.tmps) (hd:a'.defers=F.DH) (hs:a'.tmps.size=nt) (hfr:zN (nt,some ws) a.tmps a'.tmps) :
  ∃ι',ι.le ι'/\Rel P F ι' h1 w'/\iu P ι' (Pr ls ms ws x y) a'.tmps/\a'.defers=F.DH/\a'.tmps.size=W.1/\zN W a.tmps a'.tmps:=by
 unfold zQ at hW;rw[aaf] at hW;have hnt:=IS hW.1;refine⟨ι',hle,R',?_,hd,by rw[hs,hnt],hfr.1,λl hl i hi=>?_⟩
 .intro j u hu;rcases En hg' j u hu with h1|⟨h1,h2⟩
  .exact HE' j u h1
  .unfold Xz at h1;cases hb:ws.any (Nat.beq j) with
   |true=>rw[hb] at h1;cases h1
   |false=>
    rw[hb] at h1;obtain⟨u',h3,h4⟩:=ue hg S.env j u h1;exact⟨u',by rw[hfr.2 ws rfl _ hb];exact h3,h4.mono hle⟩
 .refine hfr.2 ws rfl i ?_
  simp_all
theorem JW {R:Type}{F:Fz}{W:Wr}{t0:ν}{fin:fw->Env->M R}{eA:ξ->M R}{r:R×af}{e:Exit}{a:Go.Act}(hp:eA=λ_=>AT)(h:ym P F ι W t0 fin eA r e a w) :
  ∃ae,eqv e ae/\Pd P F ι W t0 (fin ae) r a w:=by
 rcases h with h|⟨ι2,v,v',h,q1,q2,q3,_⟩
 .exact h
 .rw[hp] at q3;simp[AT] at q3
theorem Ta {ms:List (Nat×Ty)}{R:Type}{E:Env}{f:aO (fN ms)->R}{r:R×af}
  (hx:zf ms (λx=>AS (f x)) E h=some r):∃y,oT E ms=some (ee (fN ms) y)/\r=(f y,h):=by
 obtain⟨y,h1,h2⟩:=CF hx;simp only[AS,IN] at h2;exact⟨y,h1,h2.symm⟩
variable {body c:Code}{p:Path}{ls ms rs:List (Nat×Ty)}{nt id N:Nat}{ws:η}{e2:fw}
theorem P1 {G:Nat->aO (fN ls)->M (aO (fN ms))}{T:Nat->Hp (aO (fN ms))}(hc:cB body p=.loop c)(h0:∀x,G 0 x=AT)
  (hs:∀n x,den P body (T n) (nt,some ws) (AP ls ms id (G n)) N false [.code (0::p)] (qq ls (ee (fN ls) x))=G (n+1) x)
  (hp:∀m,(T m).eA=λ_=>AT)
  (n:Nat) (hT:∀m,m<n->uY P body (T m) (nt,some ws) (AP ls ms id (G m))) {W:Wr} (hW:zQ W nt ws=true) :
  uZ P body W ⟨p,ls,Ps ls ms ws id (G n)⟩:=by
 intro E x hg F h y h1 hx ι w a S;rw[hc];have hnt:W.1=nt:=by unfold zQ at hW;simp_all
 refine wp_loop_rounds n (nI (λe a' w' hne hq=>?_) n a w (zg hc h0 hs (λ_ _=>rfl) n hT x F h (y,h1) hx ι w a ⟨S.rel,ue hg S.env,S.defers,by rw[S.size,hnt]⟩));obtain⟨m,hq⟩:=hq;obtain⟨ae,heq,ι',E',h',hle,hfin,R',HE',hd,hs',hfr⟩:=JW (hp m) hq;cases ae with
 |normal=>cases e<;>first|exact absurd rfl hne|exact heq.elim
 |ret=>simp[AP,AT] at hfin
 |exit id'=>
  have hfin':id=id'/\zf ms (λx=>AS x) E' h'=some (y,h1):=by
   simp only[AP] at hfin;generalize hb:Nat.beq id id'=b at hfin;generalize hgg:oT E' ms=o at hfin;cases b<;>cases o<;>simp only at hfin<;>try (simp[AT] at hfin;done)
   refine⟨IS hb,?_⟩;unfold zf;rw[hgg];exact hfin
  obtain⟨rfl,hfin'⟩:=hfin';obtain⟨y',hg',e1⟩:=Ta hfin';cases e1;exact⟨heq,zh hW hg S hg' hle R' HE' hd hs' hfr⟩
theorem P2 {G:Nat->aO (fN ls)->M (aO (fN rs))}{T:Nat->Hp (aO (fN rs))}(hc:cB body p=.loop c)(h0:∀x,G 0 x=AT)
  (hs:∀n x,den P body (T n) (nt,some ws) (Cb ls rs (G n)) N false [.code (0::p)] (qq ls (ee (fN ls) x))=G (n+1) x)
  (hp:∀m,(T m).eA=λ_=>AT)
  (n:Nat) (hT:∀m,m<n->uY P body (T m) (nt,some ws) (Cb ls rs (G m))) {W:Wr} (hW:zQ W nt ws=true) :
  uZ P body W ⟨p,ls,Pv ls rs ws (G n)⟩:=by
 intro E x hg F h y h1 hx ι w a S;rw[hc];have hnt:W.1=nt:=by unfold zQ at hW;simp_all
 refine wp_loop_rounds n (nI (λe a' w' hne hq=>?_) n a w (zg hc h0 hs (λ_ _=>rfl) n hT x F h (y,h1) hx ι w a ⟨S.rel,ue hg S.env,S.defers,by rw[S.size,hnt]⟩));obtain⟨m,hq⟩:=hq;obtain⟨ae,heq,ι',E',h',hle,hfin,R',HE',hd,hs',hfr⟩:=JW (hp m) hq;cases ae with
 |normal=>cases e<;>first|exact absurd rfl hne|exact heq.elim
 |exit id'=>simp[Cb,AT] at hfin
 |ret=>
  obtain⟨y',hg',e1⟩:=Ta (f:=λx=>x) (show zf rs (λx=>AS x) E' h'=some (y,h1) from hfin);cases e1;exact⟨heq,zh hW hg S hg' hle R' HE' hd hs' hfr⟩
theorem P4 {a b:fw}(h:Ul a b=true):a=b:=by
 cases a<;>cases b<;>simp only[Ul] at h<;>first|rfl|(cases h;done)|(rw[IS h])
theorem P5 {G:Nat->aO (fN ls)->M (aO (fN ms)⊕aO (fN rs))}{T:Nat->Hp (aO (fN ms)⊕aO (fN rs))}(hc:cB body p=.loop c)(h0:∀x,G 0 x=AT)
  (hs:∀n x,den P body (T n) (nt,some ws) (Ea ls ms rs id e2 (G n)) N false [.code (0::p)] (qq ls (ee (fN ls) x))=G (n+1) x)
  (hp:∀m,(T m).eA=λ_=>AT)
  (n:Nat) (hT:∀m,m<n->uY P body (T m) (nt,some ws) (Ea ls ms rs id e2 (G m))) {W:Wr} (hW:zQ W nt ws=true) :
  uZ P body W ⟨p,ls,Pw ls ms rs ws id e2 (G n)⟩:=by
 intro E x hg;have hnt:W.1=nt:=by unfold zQ at hW;simp_all
 have key:∀{F:Fz} {h:af} {r h1},G n x h=some (r,h1)->∀ι w a,Start P F ι W E h a w ->
   Code.rounds P c (λe a' w'=>∃ι' E' h',ι.le ι'/\Rel P F ι' h' w'/\iu P ι' E' a'.tmps/\a'.defers=F.DH/\a'.tmps.size=nt/\zN (nt,some ws) a.tmps a'.tmps /\
    ((eqv e (.exit id)/\∃y,oT E' ms=some (ee (fN ms) y)/\r=.inl y/\h1=h')\/(eqv e e2/\∃y,oT E' rs=some (ee (fN rs) y)/\r=.inr y/\h1=h'))) n a w:=by
  intro F h r h1 hx ι w a S;refine nI (λe a' w' hne hq=>?_) n a w (zg hc h0 hs (λ_ _=>rfl) n hT x F h (r,h1) hx ι w a ⟨S.rel,ue hg S.env,S.defers,by rw[S.size,hnt]⟩);obtain⟨m,hq⟩:=hq;obtain⟨ae,heq,ι',E',h',hle,hfin,R',HE',hd,hs',hfr⟩:=JW (hp m) hq;refine⟨ι',E',h',hle,R',HE',hd,hs',hfr,?_⟩;have tail:∀ae,ae≠.normal->eqv e ae->(match Ul ae (.exit id) with
    |true=>zf ms (λx=>AS (Sum.inl x:aO (fN ms)⊕aO (fN rs))) E'
    |false=>(match Ul ae e2 with
     |true=>zf rs (λx=>AS (Sum.inr x:aO (fN ms)⊕aO (fN rs))) E'
     |false=>AT)) h'=some (r,h1)->((eqv e (.exit id)/\∃y,oT E' ms=some (ee (fN ms) y)/\r=.inl y/\h1=h')\/(eqv e e2/\∃y,oT E' rs=some (ee (fN rs) y)/\r=.inr y/\h1=h')):=by
   intro ae _ he2 hf2;cases h2:Ul ae (.exit id)<;>rw[h2] at hf2
   .cases h3:Ul ae e2<;>rw[h3] at hf2
    .simp[AT] at hf2
    .have:=P4 h3;subst this;obtain⟨y',hg',e1⟩:=Ta (f:=λx=>(Sum.inr x:aO (fN ms)⊕aO (fN rs))) hf2;cases e1;exact .inr ⟨he2,y',hg',rfl,rfl⟩
   .have:=P4 h2;subst this;obtain⟨y',hg',e1⟩:=Ta (f:=λx=>(Sum.inl x:aO (fN ms)⊕aO (fN rs))) hf2;cases e1;exact .inl ⟨he2,y',hg',rfl,rfl⟩
  cases ae with
  |normal=>cases e<;>first|exact absurd rfl hne|exact heq.elim
  |ret=>exact tail .ret (by simp) heq hfin
  |exit id'=>exact tail (.exit id') (by simp) heq hfin
 refine⟨λF h y h1 hx ι w a S=>?_,λF h y h1 hx ι w a S=>?_⟩<;>rw[hc]<;>refine wp_loop_rounds n (nI (λe a' w' hne hq=>?_) n a w (key hx ι w a S))
 .obtain⟨ι',E',h',hle,R',HE',hd,hs',hfr,⟨q0,y',q1,q2,q3⟩|⟨q0,y',q1,q2,q3⟩⟩:=hq
  .cases q2;subst q3;exact⟨q0,zh hW hg S q1 hle R' HE' hd hs' hfr⟩
  .cases q2
 .obtain⟨ι',E',h',hle,R',HE',hd,hs',hfr,⟨q0,y',q1,q2,q3⟩|⟨q0,y',q1,q2,q3⟩⟩:=hq
  .cases q2
  .cases q2;subst q3;exact⟨q0,zh hW hg S q1 hle R' HE' hd hs' hfr⟩
def A9 {R:Type}(P:Program)(body:Code)(cl:List cr)(dl:List jk)(ms:List FuncId)(ll:List oU)(dr:Nat->Option (List (Nat×η)))(W:Wr)(fin:fw->Env->M R)(N:Nat)(ps:List uO)(eA:ξ->M R):List (jd R)->Prop
 |[]=>True
 |e::r=>(∀x,den P body ⟨po cl dl ms ps,nF ll,n0 r,dr,eA⟩ W fin N false (.code e.p::e.k) (qq e.ls (ee (fN e.ls) x))=e.m x)/\A9 P body cl dl ms ll dr W fin N ps eA r
theorem P6 (l:List cr):JV l []=true:=by unfold JV;simp
theorem Fk {R:Type}{W:Wr}{cl:List cr}{dl:List jk}{ms:List FuncId}{ll:List oU}{dr:Nat->Option (List (Nat×η))}{fin:fw->Env->M R}{N:Nat}{ps:List uO}{eA:ξ->M R}(hmo:xV cl ms)(h1:bA P cl)(hd:nP P dl)(h2:z7 P body W ll)(h4:DQ P ps)(h5:JV cl ps=true) :
  ∀{js:List (jd R)},A9 P body cl dl ms ll dr W fin N ps eA js->uY P body ⟨po cl dl ms ps,nF ll,n0 js,dr,eA⟩ W fin
 |[],_=>⟨Il h1 hd hmo h4 h5,CG h2,λ_ _ _ h=>by cases h⟩
 |e::r,hj=>by
  have ih:=Fk (fin:=fin) (N:=N) hmo h1 hd h2 h4 h5 hj.2;refine⟨Il h1 hd hmo h4 h5,CG h2,λp k J hp E m hJ F h r' hx ι w a S=>?_⟩;simp only[n0] at hp;split at hp
  .rename_i he;have:=z8 he;subst this;cases hp;unfold ZT at hJ;split at hJ
   .rename_i vs hg;split at hJ
    .rename_i x hu;cases hJ;have hgg:oT E e.ls=some (ee (fN e.ls) x):=(by rw[hg,pZ hu]);rw[<-hj.1 x] at hx;exact rG ih N false _ _ F ι h r' a w ⟨S.rel,ue hgg S.env,S.defers,S.size⟩ hx
    .cases hJ
   .cases hJ
  .exact ih.join p k J hp E m hJ F h r' hx ι w a S
theorem A9.cons {R:Type}{body:Code}{cl:List cr}{dl:List jk}{ms:List FuncId}{ll:List oU}{dr:Nat->Option (List (Nat×η))}{W:Wr}{fin:fw->Env->M R}{N:Nat}{ps:List uO}{eA:ξ->M R}{e:jd R}{r:List (jd R)}
  (h:∀x,den P body ⟨po cl dl ms ps,nF ll,n0 r,dr,eA⟩ W fin N false (.code e.p::e.k) (qq e.ls (ee (fN e.ls) x))=e.m x) (hr:A9 P body cl dl ms ll dr W fin N ps eA r):A9 P body cl dl ms ll dr W fin N ps eA (e::r):=⟨h,hr⟩
theorem A9.nil {R:Type}{body:Code}{cl:List cr}{dl:List jk}{ms:List FuncId}{ll:List oU}{dr:Nat->Option (List (Nat×η))}{W:Wr}{fin:fw->Env->M R}{N:Nat}{ps:List uO}{eA:ξ->M R}:A9 P body cl dl ms ll dr W fin N ps eA ([]:List (jd R)):=trivial
theorem z7.cons {body:Code}{W:Wr}{e:oU}{r:List oU}(h:uZ P body W e)(hr:z7 P body W r):z7 P body W (e::r):=⟨h,hr⟩
theorem z7.nil {body:Code}{W:Wr}:z7 P body W []:=trivial
theorem bA.cons {e:cr}{r:List cr}(h:bz P e)(hr:bA P r):bA P (e::r):=⟨h,hr⟩
theorem nP.cons {e:jk}{r:List jk}(h:JU P e)(hr:nP P r):nP P (e::r):=⟨h,hr⟩
theorem nP.nil:nP P []:=trivial
theorem Ih.cons {as rs:List Ty}{e:Un as rs}{r:List (Un as rs)}(h:XJ P e)(hr:Ih P r):Ih P (e::r):=⟨h,hr⟩
theorem Ih.nil {as rs:List Ty}:Ih P ([]:List (Un as rs)):=trivial
theorem bA.nil:bA P []:=trivial
theorem eg {e : cr} {fn : Func} (hf : P.funcs[e.id]? = some fn) (hb : fn.body.isNone = false) (hn : (fn.name == "runtime.NumGoroutine") = false) (h0 : ∀x, e.m x = AT) : bz P e :=by
 intro x;refine iS.of (λargs w=>lM hf hb hn args w) ?_;intro F h y h1 hx;simp[h0,AT] at hx
structure Lt {R:Type} (P:Program) (body:Code) (W:Wr) (cl:List cr) (dl:List jk) (mo:List FuncId) (ll:List oU) (js:List (jd R)) (dr:Nat->Option (List (Nat×η))) (fin:fw->Env->M R):Prop where
 hm:xV cl mo
 c:bA P cl
 d:nP P dl
 l:z7 P body W ll
 j:A9 P body cl dl mo ll dr W fin 400 [] (λ_=>AT) js
theorem Lt.ok {R:Type}{body:Code}{W:Wr}{cl:List cr}{dl:List jk}{mo:List FuncId}{ll:List oU}{js:List (jd R)}{dr:Nat->Option (List (Nat×η))}{fin:fw->Env->M R}(t:Lt P body W cl dl mo ll js dr fin) :
  uY P body ⟨po cl dl mo,nF ll,n0 js,dr,λ_=>AT⟩ W fin:=Fk (ps:=[]) (eA:=λ_=>AT) t.hm t.c t.d t.l trivial (P6 _) t.j
section
variable (body:Code)(p:Path)(ls ms rs:List (Nat×Ty))(id:Nat)(e2:fw)(nt:Nat)(ws:η)(mo:List FuncId)(ct:Nat->List cr)(dt:Nat->List jk)(lt:Nat->List oU)(dr:Nat->Option (List (Nat×η)))
theorem Tb (G:Nat->aO (fN ls)->M (aO (fN ms)))(jt:Nat->List (jd (aO (fN ms))))(hc:cB body p=.loop (child (cB body p) 0))(h0:∀x,G 0 x=AT)
  (hs:∀n x,den P body ⟨po (ct n) (dt n) mo,nF (lt n),n0 (jt n),dr,λ_=>AT⟩ (nt,some ws) (AP ls ms id (G n)) 400 false [.code (0::p)] (qq ls (ee (fN ls) x))=G (n+1) x)
  (n:Nat) (hT:∀m,m<n->Lt P body (nt,some ws) (ct m) (dt m) mo (lt m) (jt m) dr (AP ls ms id (G m))) {W:Wr} (hW:zQ W nt ws=true):uZ P body W ⟨p,ls,Ps ls ms ws id (G n)⟩:=
 P1 (T:=λn=>⟨po (ct n) (dt n) mo,nF (lt n),n0 (jt n),dr,λ_=>AT⟩) hc h0 hs (λ_=>rfl) n (λm hm=>(hT m hm).ok) hW
theorem Tc (G:Nat->aO (fN ls)->M (aO (fN rs)))(jt:Nat->List (jd (aO (fN rs))))(hc:cB body p=.loop (child (cB body p) 0))(h0:∀x,G 0 x=AT)
  (hs:∀n x,den P body ⟨po (ct n) (dt n) mo,nF (lt n),n0 (jt n),dr,λ_=>AT⟩ (nt,some ws) (Cb ls rs (G n)) 400 false [.code (0::p)] (qq ls (ee (fN ls) x))=G (n+1) x)
  (n:Nat) (hT:∀m,m<n->Lt P body (nt,some ws) (ct m) (dt m) mo (lt m) (jt m) dr (Cb ls rs (G m))) {W:Wr} (hW:zQ W nt ws=true):uZ P body W ⟨p,ls,Pv ls rs ws (G n)⟩:=
 P2 (T:=λn=>⟨po (ct n) (dt n) mo,nF (lt n),n0 (jt n),dr,λ_=>AT⟩) hc h0 hs (λ_=>rfl) n (λm hm=>(hT m hm).ok) hW
theorem Td (G:Nat->aO (fN ls)->M (aO (fN ms)⊕aO (fN rs)))(jt:Nat->List (jd (aO (fN ms)⊕aO (fN rs))))(hc:cB body p=.loop (child (cB body p) 0))(h0:∀x,G 0 x=AT)
  (hs:∀n x,den P body ⟨po (ct n) (dt n) mo,nF (lt n),n0 (jt n),dr,λ_=>AT⟩ (nt,some ws) (Ea ls ms rs id e2 (G n)) 400 false [.code (0::p)] (qq ls (ee (fN ls) x))=G (n+1) x)
  (n:Nat) (hT:∀m,m<n->Lt P body (nt,some ws) (ct m) (dt m) mo (lt m) (jt m) dr (Ea ls ms rs id e2 (G m))) {W:Wr} (hW:zQ W nt ws=true):uZ P body W ⟨p,ls,Pw ls ms rs ws id e2 (G n)⟩:=
 P5 (T:=λn=>⟨po (ct n) (dt n) mo,nF (lt n),n0 (jt n),dr,λ_=>AT⟩) hc h0 hs (λ_=>rfl) n (λm hm=>(hT m hm).ok) hW
end
theorem YZ (e:cr)(fn:Func)(c:Code)(ps:List (Nat×Ty))(mo:List FuncId)(cl:List cr)(dl:List jk)(ll:List oU)(js:List (jd (aO e.rs)))(dr:Nat->Option (List (Nat×η)))
  (hf : P.funcs[e.id]? = some fn) (hb : fn.body = some c) (hn : (fn.name == "runtime.NumGoroutine") = false) (hps : ps.map (·.1) = List.range' 0 e.as.length) (hnt : Nat.ble e.as.length fn.ntmps = true)
  (hT:Lt P c (fn.ntmps,none) cl dl mo ll js dr (Jy P fn e.rs))
  (hg:∀x,den P c ⟨po cl dl mo,nF ll,n0 js,dr,λ_=>AT⟩ (fn.ntmps,none) (Jy P fn e.rs) 400 false [.code []] (qq ps (ee e.as x))=e.m x):bz P e:=
 XK hf hb hn hps hnt hT.ok rfl hg
abbrev VN {R:Type}:ξ->M (R⊕ξ):=λv=>AS (.inr v)
section
variable {body c:Code}{p:Path}{ls ms rs:List (Nat×Ty)}{nt id N:Nat}{ws:η}{e2:fw}
end
structure XL {X:Type} (P:Program) (body:Code) (W:Wr) (cl:List cr) (dl:List jk) (pl:List uO) (mo:List FuncId) (ll:List oU) (js:List (jd (X⊕ξ))) (dr:Nat->Option (List (Nat×η))) (fin:fw->Env->M (X⊕ξ)):Prop where
 hm:xV cl mo
 c:bA P cl
 d:nP P dl
 p:DQ P pl
 x:JV cl pl=true
 l:z7 P body W ll
 j:A9 P body cl dl mo ll dr W fin 400 pl VN js
theorem XL.ok {X:Type}{body:Code}{W:Wr}{cl:List cr}{dl:List jk}{pl:List uO}{mo:List FuncId}{ll:List oU}{js:List (jd (X⊕ξ))}{dr:Nat->Option (List (Nat×η))}{fin:fw->Env->M (X⊕ξ)}(t:XL P body W cl dl pl mo ll js dr fin) :
  uY P body ⟨po cl dl mo pl,nF ll,n0 js,dr,VN⟩ W fin:=Fk (ps:=pl) (eA:=VN) t.hm t.c t.d t.l t.p t.x t.j
theorem DQ.cons {e:uO}{r:List uO}(h:Up P e)(hr:DQ P r):DQ P (e::r):=⟨h,hr⟩
theorem DQ.nil:DQ P []:=trivial
section
variable (body:Code)(p:Path)(ls ms rs:List (Nat×Ty))(id:Nat)(e2:fw)(nt:Nat)(ws:η)(mo:List FuncId)(ct:Nat->List cr)(dt:Nat->List jk)(pt:Nat->List uO)(lt:Nat->List oU)(dr:Nat->Option (List (Nat×η)))
end
structure L1 where
 p:Path
 ls:List (Nat×Ty)
 ms:List (Nat×Ty)
 ws:η
 id:Nat
 g:Nat->aO (fN ls)->M (aO (fN ms))
structure Lr where
 p:Path
 ls:List (Nat×Ty)
 rs:List (Nat×Ty)
 ws:η
 g:Nat->aO (fN ls)->M (aO (fN rs))
structure L2 where
 p:Path
 ls:List (Nat×Ty)
 ms:List (Nat×Ty)
 rs:List (Nat×Ty)
 ws:η
 id:Nat
 e2:fw
 g:Nat->aO (fN ls)->M (aO (fN ms)⊕aO (fN rs))
def L1.e (s:L1)(n:Nat):oU:=⟨s.p,s.ls,Ps s.ls s.ms s.ws s.id (s.g n)⟩
def Lr.e (s:Lr)(n:Nat):oU:=⟨s.p,s.ls,Pv s.ls s.rs s.ws (s.g n)⟩
def L2.e (s:L2)(n:Nat):oU:=⟨s.p,s.ls,Pw s.ls s.ms s.rs s.ws s.id s.e2 (s.g n)⟩
def kE (P:Program)(fn:Func)(l:oU)(ws:η):Prop:=∀(W:Wr),zQ W fn.ntmps ws=true->uZ P (jj fn) W l
theorem z7.cc {fn:Func}{W:Wr}{e:oU}{r:List oU}{ws:η}(h:kE P fn e ws)(hr:z7 P (jj fn) W r)(hw:zQ W fn.ntmps ws=true:=by kernel_rfl):z7 P (jj fn) W (e::r):=⟨h W hw,hr⟩
theorem A9.cc {R:Type}{body:Code}{cl:List cr}{dl:List jk}{ms:List FuncId}{ll:List oU}{dr:Nat->Option (List (Nat×η))}{W:Wr}{fin:fw->Env->M R}{N:Nat}{ps:List uO}{eA:ξ->M R}{e:jd R}{r:List (jd R)}
  (hr:A9 P body cl dl ms ll dr W fin N ps eA r) (h:∀x,den P body ⟨po cl dl ms ps,nF ll,n0 r,dr,eA⟩ W fin N false (.code e.p::e.k) (qq e.ls (ee (fN e.ls) x))=e.m x:=by intro x;kernel_rfl):A9 P body cl dl ms ll dr W fin N ps eA (e::r):=⟨h,hr⟩
theorem L1.ok (fn:Func)(s:L1)(n:Nat)(ct:Nat->List cr)(mo:List FuncId:=[])(dt:Nat->List jk:=λ_=>[])(lt:Nat->List oU:=λ_=>[])(dr:Nat->Option (List (Nat×η)):=λ_=>none)(jt:Nat->List (jd (aO (fN s.ms))):=λ_=>[])
  (hT:∀m,m<n->Lt P (jj fn) (fn.ntmps,some s.ws) (ct m) (dt m) mo (lt m) (jt m) dr (AP s.ls s.ms s.id (s.g m)))
  (hc:cB (jj fn) s.p=.loop (child (cB (jj fn) s.p) 0):=by kernel_rfl) (h0:∀x,s.g 0 x=AT:=by intro x;kernel_rfl)
  (hs:∀n x,den P (jj fn) ⟨po (ct n) (dt n) mo,nF (lt n),n0 (jt n),dr,λ_=>AT⟩ (fn.ntmps,some s.ws) (AP s.ls s.ms s.id (s.g n)) 400 false [.code (0::s.p)] (qq s.ls (ee (fN s.ls) x))=s.g (n+1) x:=by intro n x;kernel_rfl) :
  kE P fn (s.e n) s.ws:=λW hW=>Tb (jj fn) s.p s.ls s.ms s.id fn.ntmps s.ws mo ct dt lt dr s.g jt hc h0 hs n hT hW
theorem Lr.ok (fn:Func)(s:Lr)(n:Nat)(ct:Nat->List cr)(mo:List FuncId:=[])(dt:Nat->List jk:=λ_=>[])(lt:Nat->List oU:=λ_=>[])(dr:Nat->Option (List (Nat×η)):=λ_=>none)(jt:Nat->List (jd (aO (fN s.rs))):=λ_=>[])
  (hT:∀m,m<n->Lt P (jj fn) (fn.ntmps,some s.ws) (ct m) (dt m) mo (lt m) (jt m) dr (Cb s.ls s.rs (s.g m)))
  (hc:cB (jj fn) s.p=.loop (child (cB (jj fn) s.p) 0):=by kernel_rfl) (h0:∀x,s.g 0 x=AT:=by intro x;kernel_rfl)
  (hs:∀n x,den P (jj fn) ⟨po (ct n) (dt n) mo,nF (lt n),n0 (jt n),dr,λ_=>AT⟩ (fn.ntmps,some s.ws) (Cb s.ls s.rs (s.g n)) 400 false [.code (0::s.p)] (qq s.ls (ee (fN s.ls) x))=s.g (n+1) x:=by intro n x;kernel_rfl) :
  kE P fn (s.e n) s.ws:=λW hW=>Tc (jj fn) s.p s.ls s.rs fn.ntmps s.ws mo ct dt lt dr s.g jt hc h0 hs n hT hW
theorem L2.ok (fn:Func)(s:L2)(n:Nat)(ct:Nat->List cr)(mo:List FuncId:=[])(dt:Nat->List jk:=λ_=>[])(lt:Nat->List oU:=λ_=>[])(dr:Nat->Option (List (Nat×η)):=λ_=>none)(jt:Nat->List (jd (aO (fN s.ms)⊕aO (fN s.rs))):=λ_=>[])
  (hT:∀m,m<n->Lt P (jj fn) (fn.ntmps,some s.ws) (ct m) (dt m) mo (lt m) (jt m) dr (Ea s.ls s.ms s.rs s.id s.e2 (s.g m)))
  (hc:cB (jj fn) s.p=.loop (child (cB (jj fn) s.p) 0):=by kernel_rfl) (h0:∀x,s.g 0 x=AT:=by intro x;kernel_rfl)
  (hs:∀n x,den P (jj fn) ⟨po (ct n) (dt n) mo,nF (lt n),n0 (jt n),dr,λ_=>AT⟩ (fn.ntmps,some s.ws) (Ea s.ls s.ms s.rs s.id s.e2 (s.g n)) 400 false [.code (0::s.p)] (qq s.ls (ee (fN s.ls) x))=s.g (n+1) x:=by intro n x;kernel_rfl) :
  kE P fn (s.e n) s.ws:=λW hW=>Td (jj fn) s.p s.ls s.ms s.rs s.id s.e2 fn.ntmps s.ws mo ct dt lt dr s.g jt hc h0 hs n hT hW
def P7:Nat->List Ty->List (Nat×Ty)
 |_,[]=>[]
 |i,t::ts=>(i,t)::P7 (i+1) ts
theorem Im:∀(i:Nat) (ts:List Ty),(P7 i ts).map (·.1)=List.range' i ts.length
 |i,[]=>rfl
 |i,t::ts=>by rw[P7,aaK,aae,abU,Im (i+1) ts]
theorem cQ {e:cr}(fn:Func)(cl:List cr)(mo:List FuncId:=[])(dl:List jk:=[])(ll:List oU:=[])(js:List (jd (aO e.rs)):=[])(dr:Nat->Option (List (Nat×η)):=λ_=>none)
  (hT:Lt P (jj fn) (fn.ntmps,none) cl dl mo ll js dr (Jy P fn e.rs))
  (hf : P.funcs[e.id]? = some fn := by kernel_rfl) (hb : fn.body = some (jj fn) := by kernel_rfl) (hn : (fn.name == "runtime.NumGoroutine") = false := by kernel_rfl) (hnt : Nat.ble e.as.length fn.ntmps = true := by kernel_rfl)
  (hg:∀x,den P (jj fn) ⟨po cl dl mo,nF ll,n0 js,dr,λ_=>AT⟩ (fn.ntmps,none) (Jy P fn e.rs) 400 false [.code []] (qq (P7 0 e.as) (ee e.as x))=e.m x:=by intro x;kernel_rfl):bz P e:=
 YZ e fn (jj fn) (P7 0 e.as) mo cl dl ll js dr hf hb hn (Im 0 e.as) hnt hT hg
theorem Lt.m1 {R:Type}{body:Code}{W:Wr}{cl:List cr}{dr:Nat->Option (List (Nat×η))}{fin:fw->Env->M R}(c:bA P cl):Lt P body W cl [] [] [] ([]:List (jd R)) dr fin:=⟨.nil,c,.nil,.nil,.nil⟩
end Go.Ago
