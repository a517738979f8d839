
import Derived.Test.YtajnpfnomgjlaaaGreatDoorAgoG
import Derived.LoopN
set_option linter.all false
namespace Go.Ago
open Go
variable {P:Program}{ι ι':ja}{h h' h1:ai}{w w':World}
theorem ud:∀{ts} {vs} {x},wv ts vs=some x->vs=fE ts x
 |[],[],_,_=>rfl
 |[],_::_,_,hx=>by cases hx
 |[t],[],_,hx=>by cases hx
 |[t],[v],x,hx=>by rw[fE,<-Oz hx]
 |[t],_::_::_,_,hx=>by cases hx
 |t::t'::ts,[],_,hx=>by cases hx
 |t::t'::ts,v::vs,x,hx=>by
  simp[wv] at hx;split at hx
  .rename_i a b ha hb;cases hx;rw[fE,<-Oz ha,<-ud hb]
  .cases hx
theorem aem {ts v x}(hx:unR ts v=some x):v=ga (fE ts x):=by
 match ts,x,hx with
 |[],x,hx=>
  simp[unR] at hx;cases v<;>simp only at hx<;>try cases hx
  rename_i vs _;rw[<-ud hx];cases hv:vs.toList with
  |nil=>simp[ga,<-hv]
  |cons a l=>rw[hv] at hx;cases hx
 |[t],x,hx=>rw[fE];exact Oz hx
 |t::t'::ts,x,hx=>
  simp[unR] at hx;split at hx
  .rename_i vs;have:=ud hx;rw[fE,ga]
   .rw[fE] at this;rw[<-this]
   .intro v e;have h2:(fE (t'::ts) x.2)=[]:=(by grind);cases ts<;>simp[fE] at h2
  .cases hx
theorem MQ:∀{E} {ls} {vs},sS E ls=some vs->∀j u,uG ls vs j=some u->E j=some u
 |E,[],vs,_,j,u,hu=>by cases vs<;>cases hu
 |E,(i,t)::ls,vs,hg,j,u,hu=>by
  simp[sS] at hg;split at hg
  .rename_i v vs' hv hvs;cases hg;simp[uG,Env.set,aN] at hu;split at hu
   .grind
   .exact MQ hvs j u hu
  .cases hg
theorem xk {E ls vs t}(hg:sS E ls=some vs)(hE:lW P ι E t):lW P ι (uG ls vs) t:=
 λj u hu=>hE j u (MQ hg j u hu)
theorem Iu:∀{E E0} {ms} {vs},sS E ms=some vs->∀j u,ZI E0 ms vs j=some u ->
  E j=some u\/(E0 j=some u/\ms.any (λx=>Nat.beq j x.1)=false)
 |E,E0,[],vs,_,j,u,hu=>.inr ⟨by cases vs<;>exact hu,rfl⟩
 |E,E0,(i,t)::ms,vs,hg,j,u,hu=>by
  simp[sS] at hg;split at hg
  .rename_i v vs' hv hvs;cases hg;simp[ZI,Env.set,aN] at hu;split at hu
   .grind
   .rename_i e;rcases Iu hvs j u hu with h1|⟨h1,h2⟩
    .exact .inl h1
    .refine .inr ⟨h1,?_⟩;rw[ake,h2,akd]
     grind [absurd,Nat.eq_of_beq_eq_true]
  .cases hg
def aK (P:Program)(e:dv):Prop:=∀x,iw P e.id (fE e.as x) ⟨aY e.rs,e.m x,λy=>ga (fE e.rs y)⟩
def eE (P:Program):List dv->Prop
 |[]=>True
 |e::r=>aK P e/\eE P r
theorem MR:∀{l},eE P l->∀f vs ca,AZ l f vs=some ca->iw P f vs ca
 |[],_,f,vs,ca,hx=>by cases hx
 |e::r,hl,f,vs,ca,hx=>by
  simp[AZ] at hx;split at hx
  .rename_i hb;have:=IS hb;subst this;split at hx
   .rename_i x hu;cases hx;rw[ud hu];exact hl.1 x
   .cases hx
  .exact MR hl.2 f vs ca hx
theorem aD {f vs vs' ca}(e:vs=vs')(hc:iw P f vs ca):iw P f vs' ca:=e▸hc
def agV (P:Program){as rs}(e:DTg as rs):Prop:=∀a c,iw P e.id (fE as a++fE e.cs c) ⟨aY rs,e.m a c,λy=>ga (fE rs y)⟩
def MS (P:Program){as rs}:List (DTg as rs)->Prop
 |[]=>True
 |e::r=>agV P e/\MS P r
theorem Sq {g x}(h:qo g x=true):∃caps,x=.func (.func g) #[] caps:=by
 unfold qo at h;split at h
 .simp_all
 .cases h
theorem Sr {cs x c}(hx:k7 cs x h=some (c,h1)):h1=h/\FO x=fE cs c:=by
 unfold k7 at hx;split at hx
 .rename_i c' hc;cases hx;exact⟨rfl,ud hc⟩
 .cases hx
theorem VE {as rs}:∀{l},MS P l->∀x a,QC P x (fE as a) ⟨aY rs,dsp l x a,λy=>ga (fE rs y)⟩
 |[],_,x,a=>λh y h1 hx=>by simp[dsp,AS] at hx
 |e::r,hl,x,a=>by
  have one:∀(rest:M (aY rs)),(∀h y h1,rest h=some (y,h1)->∃g caps ca' y',x=.func (.func g) #[] caps/\iw P g (fE as a++caps.toList) ca'/\ca'.m h=some (y',h1)/\ca'.pk y'=ga (fE rs y)) ->
    ∀h y h1,(wR (qo e.id x) (sh (k7 e.cs x) λc=>e.m a c) rest) h=some (y,h1) ->
    ∃g caps ca' y',x=.func (.func g) #[] caps/\iw P g (fE as a++caps.toList) ca'/\ca'.m h=some (y',h1)/\ca'.pk y'=ga (fE rs y):=by
   intro rest hrest h y h1 hx;unfold wR at hx;split at hx
   .rename_i hf;obtain⟨caps,rfl⟩:=Sq hf;simp[sh] at hx;split at hx
    .rename_i c h2 hc;obtain⟨e2,hcap⟩:=Sr hc;have hok:=hl.1 a c;rw[<-hcap] at hok;rw[e2] at hx;exact⟨_,caps,_,y,rfl,hok,hx,rfl⟩
    .cases hx
   .exact hrest h y h1 hx
  have ih:=VE hl.2 x a;cases r with
  |nil=>exact one _ λh y h1 hx=>by simp[AS] at hx
  |cons f r=>exact one _ ih
def OU (P:Program)(e:oZ):Prop:=∀x a,QC P x (fE e.as a) ⟨aY e.rs,e.m x a,λy=>ga (fE e.rs y)⟩
def pK (P:Program):List oZ->Prop
 |[]=>True
 |e::r=>OU P e/\pK P r
theorem cS {e l}(hl:MS P l)(he:∀x a,dsp l x a=e.m x a):OU P e:=λx a=>by
 grind [VE]
theorem MT:∀{l},pK P l->∀t x vs ca,Qr l t x vs=some ca->QC P x vs ca
 |[],_,t,x,vs,ca,hx=>by cases hx
 |e::r,hl,t,x,vs,ca,hx=>by
  simp[Qr] at hx;split at hx
  .split at hx
   .rename_i a hu;cases hx;rw[ud hu];exact hl.1 x a
   .cases hx
  .exact MT hl.2 t x vs ca hx
def A5 (l:List dv)(ms:List FuncId):Prop:=∀f vs ca,ms.any (Nat.beq f)=true->AZ l f vs=some ca->B4 ca.m
theorem A5.nil {l}:A5 l []:=λf vs ca h=>by cases h
theorem A5.one {e:dv}(h:∀x,B4 (e.m x)){l g}(hg:∀vs ca,AZ l g vs=some ca->∃x,ca=⟨aY e.rs,e.m x,λy=>ga (fE e.rs y)⟩):A5 l [g]:=λf vs ca h1 h2=>by
 simp only[ake,List.any_nil,akd] at h1
 grind [Nat.eq_of_beq_eq_true]
theorem Gp {g e}:∀{l},l.find? (λe=>Nat.beq g e.id)=some e->∀vs ca,AZ l g vs=some ca->∃x,ca=⟨aY e.rs,e.m x,λy=>ga (fE e.rs y)⟩
 |[],h,vs,ca,hx=>by cases h
 |a::l,h,vs,ca,hx=>by
  rw[List.find?_cons] at h;unfold AZ at hx;cases hb:Nat.beq g a.id with
  |true=>
   rw[hb] at h hx;simp at h;subst h
   grind
  |false=>
   rw[hb] at h hx;exact Gp h vs ca hx
def ack (P:Program)(e:Ma):Prop:=∀x,Ja P e.id (fE e.as x) ⟨aY e.rs,e.m x,λy=>ga (fE e.rs y)⟩
def HG (P:Program):List Ma->Prop
 |[]=>True
 |e::r=>ack P e/\HG P r
theorem MU:∀{l},HG P l->∀f vs ca,Ig l f vs=some ca->Ja P f vs ca
 |[],_,f,vs,ca,hx=>by cases hx
 |e::r,hl,f,vs,ca,hx=>by
  simp[Ig] at hx;split at hx
  .rename_i hb;have:=IS hb;subst this;split at hx
   .rename_i x hu;cases hx;rw[ud hu];exact hl.1 x
   .cases hx
  .exact MU hl.2 f vs ca hx
theorem MV:∀{l} {f vs ca},Ig l f vs=some ca->(l.any λe=>Nat.beq f e.id)=true
 |[],f,vs,ca,hx=>by cases hx
 |e::r,f,vs,ca,hx=>by
  simp[Ig] at hx;rw[ake];split at hx
  .rename_i hb;rw[hb];rfl
  .rw[MV hx];simp
def OW (l:List dv)(ps:List Ma):Bool:=l.all λe=>!(ps.any λp=>Nat.beq e.id p.id)
theorem QG {ps}{f:FuncId}{vs}:∀{l},OW l ps=true->(ps.any λp=>Nat.beq f p.id)=true->AZ l f vs=none
 |[],_,_=>rfl
 |e::l,h,hf=>by
  unfold OW at h;rw[ajF,ach] at h;simp[AZ];split
  .grind [Nat.eq_of_beq_eq_true]
  .exact QG h.2 hf
theorem MW {l d ms ps}(h1:eE P l)(h2:pK P d)(h3:A5 l ms)(h4:HG P ps)(h5:OW l ps=true):Bh P (tf l d ms ps):=⟨MR h1,MT h2,h3,MU h4,λ_ _ _ h=>MV h,λ_ _ h=>QG h5 h⟩
theorem Eh:∀(as:List Ty) i ls vs (vs':ν) t ,ls.map (·.1)=List.range' i as.length->vs.length=as.length ->
  (∀k v,vs[k]?=some v->∃v',t[i+k]?=some v'/\aW P ι v v')->lW P ι (uG ls vs) t
 |as,i,[],vs,vs',t,_,_,_=>by intro j u hu;cases vs<;>cases hu
 |[],i,(a,b)::ls,vs,vs',t,hl,_,_=>by simp at hl
 |ty::as,i,(a,b)::ls,[],vs',t,_,hv,_=>by simp at hv
 |ty::as,i,(a,b)::ls,v::vs,vs',t,hl,hv,hr=>by
  rw[adR,acp,ajl,ajS] at hl;obtain⟨rfl,hl⟩:=hl;have ih:=Eh as (a+1) ls vs vs' t hl (by simpa using hv) λk u hu=>by
   have:=hr (k+1) u (by simpa using hu)
   grind
  intro j u hu;simp[uG,Env.set,aN] at hu;split at hu
  .rename_i e;subst e;cases hu;exact hr 0 v rfl
  .exact ih j u hu
theorem Dg (R:∀t a a',qN ι a a'->∀v h1,(LR P t a).exec h=some (v,h1)->h1=h/\∃v',(loadVar t a').run P w=.ok v' w/\aW P ι v v'){E tm}(hE:lW P ι E tm)
  {X}{K:ξ->M X}{r fin} :
  ∀rs acc ,(nP P rs E acc fin).run K h=some r->∃vs vs',bz P ι vs vs'/\(fin (acc.reverse++vs)).run K h=some r /\
   (rs.mapM (λx:ResultVar=>(match x with
    |.tmp t=>Pure.pure (tm.getD t undef)
    |.cell a t=>do loadVar t (<-asAddr (tm.getD a undef)):Sem ξ))).run P w=.ok vs' w
 |[],acc,hx=>⟨[],[],.nil,by simpa[nP] using hx,by simp⟩
 |.tmp t::rs,acc,hx=>by
  simp[nP] at hx;split at hx
  .rename_i v hv;obtain⟨vs,vs',h1,h2,h3⟩:=Dg R hE rs _ hx;obtain⟨v',e1,e2⟩:=hE t v hv;refine⟨v::vs,v'::vs',.cons e2 h1,by simpa using h2,?_⟩
   simp_all
  .simp[Act.run,AS] at hx
 |.cell s t::rs,acc,hx=>by
  simp[nP] at hx;split at hx
  .rename_i a ha;obtain⟨p',e1,e2⟩:=hE s _ ha;cases e2 with
   |flat _ hf=>simp[dW] at hf
   |ptr _ a' har=>
   have go:∀A:Act,(∀v h1,A.exec h=some (v,h1)->h1=h/\∃v',(loadVar t a').run P w=.ok v' w/\aW P ι v v') ->
     (nP.resBind A λv=>nP P rs E (v::acc) fin).run K h=some r->∃v v',(loadVar t a').run P w=.ok v' w/\aW P ι v v'/\(nP P rs E (v::acc) fin).run K h=some r:=by
    intro A;have gen:∀(A:Act) (h2:ai),(nP.resBind A λv=>nP P rs E (v::acc) fin).run K h2=some r->∃v h3,A.exec h2=some (v,h3)/\(nP P rs E (v::acc) fin).run K h3=some r:=by
     intro A
     induction A with
     |val v=>intro h2 hx;exact⟨v,h2,rfl,hx⟩
     |none=>intro h2 hx;simp[nP.resBind,Act.run,AS] at hx
     |ask α m k ih=>
      intro h2 hx;simp[nP.resBind,Act.run,sh] at hx
      grind [Act.exec]
    grind
   have hx':(nP.resBind (LR P t a) λv=>nP P rs E (v::acc) fin).run K h=some r:=by
    split at hx
    .rename_i v hv;rw[hv];exact hx
    .rename_i α m k hv;rw[hv];exact hx
    .rename_i hv;rw[hv];exact hx
   obtain⟨v,v',q1,q2,q3⟩:=go _ (R t a a' har) hx';obtain⟨vs,vs',h1,h2,h3⟩:=Dg R hE rs _ q3;refine⟨v::vs,v'::vs',.cons q2 h1,by simpa using h2,?_⟩;have:tm.getD s undef=.pointer (some a'):=by simp[ah2,e1]
   have ha':asAddr (Value.pointer (some a'))=Pure.pure a':=rfl
   grind [Sem.run_bind,Sem.run_pure,Result.andThen_ok]
  .simp[Act.run,AS] at hx
theorem jc {f fn}(hf : P.funcs[f]? = some fn)(hb : fn.body.isNone = false)(hn : (fn.name == "runtime.NumGoroutine") = false) args w :
  (callFunc f args).run P w=.ok (.enter f args) w:=by
 simp at hn;simp[callFunc,hf,hb,hn]
 grind
theorem zl:∀ts x ,(fE ts x).length=ts.length
 |[],_=>rfl
 |[_],_=>rfl
 |t::t'::ts,x=>by simp[fE,zl (t'::ts) x.2]
theorem bz.get? {vs vs'}(hl:bz P ι vs vs'){k:Nat}{v}(hk:vs[k]?=some v):∃v',vs'[k]?=some v'/\aW P ι v v':=by
 have hlt:k<vs'.length:=by rw[<-hl.1];grind
 exact⟨vs'[k],ace hlt,hl.2 k v _ hk (ace hlt)⟩
theorem Ss {vs vs'}(hl:bz P ι vs vs'):aW P ι (ga vs) (if h:vs'.toArray.size=1 then vs'.toArray[0] else .tuple vs'.toArray):=by
 have hlen:vs.length=vs'.length:=hl.1
 match vs,vs',hl,hlen with
 |[v],[v'],hl,_=>
  obtain⟨v2,h1,h2⟩:=hl.get? (k:=0) rfl;cases h1;exact h2
 |[],[],hl,_=>exact .tuple _ _ rfl (by simp)
 |a::b::r,a'::b'::r',hl,hlen=>
  simp only[ga];rw[dif_neg (by simp)];refine .tuple _ _ (by simpa using hlen) λi v v' h1 h2=>?_;obtain⟨u,h3,h4⟩:=hl.get? (by simpa using h1)
  grind
theorem VF {F ts fn E' h' y}{a':Go.Act}(R':Rel P F ι' h' w')(HE':lW P ι' E' a'.tmps)
  (hx:(nP P fn.results.toList E' [] λvs=>.val (ga vs)).run (ZQ ts) h'=some (y,h1)) :
  ∃v,(results fn a'.tmps).run P w'=.ok v w'/\aW P ι' (ga (fE ts y)) v/\Rel P F ι' h1 w':=by
 obtain⟨vs,vs2,q1,q2,q3⟩:=Dg (λt a a' ha v h1 he=>Ii R' ha he) HE' fn.results.toList [] hx;simp[List.reverse_nil,ahI,Act.run,ZQ] at q2;generalize hu:unR ts (ga vs)=u at q2;cases u with
 |none=>simp[AS] at q2
 |some r=>
  simp only[AI] at q2;cases q2;refine⟨(if h:vs2.toArray.size=1 then vs2.toArray[0] else .tuple vs2.toArray),?_,?_,R'⟩
  .unfold results;rw[Sem.run_bind,<-ajq (xs:=fn.results),List.mapM_toArray,Sem.run_map]
   erw [q3]
   rfl
  grind [aem,Ss]
theorem VG {as}{nt:Nat}{ps F} x vs' (hps:ps.map (·.1)=List.range' 0 as.length)(hnt:Nat.ble as.length nt=true)(R:Rel P F ι h w)(hl:bz P ι (fE as x) vs'.toList) :
  Start P { F with Mb:=[] } ι (nt,none) (uG ps (fE as x)) h { tmps:=vs'++Array.replicate (nt-vs'.size) undef,defers:=[] } w:=by
 have hlen:=hl.1;rw[zl] at hlen;have hsz:vs'.size=as.length:=by simpa using hlen.symm
 have hle:=afM hnt;refine⟨R.df [],?_,rfl,?_⟩
 .refine Eh as 0 ps _ vs' _ hps (zl _ _) λk v hk=>?_;obtain⟨v',h1,h2⟩:=hl.get? hk
  grind
 .simp;omega
theorem agW {e fn c T N ps}(hf : P.funcs[e.id]? = some fn)(hb : fn.body = some c)(hn : (fn.name == "runtime.NumGoroutine") = false)
  (hps:ps.map (·.1)=List.range' 0 e.as.length)(hnt:Nat.ble e.as.length fn.ntmps=true)(HT:xU P c T (fn.ntmps,none) (On P fn e.rs))(hp:T.uU=λ_=>AS)
  (hg:∀x,den P c T (fn.ntmps,none) (On P fn e.rs) N false [.code []] (uG ps (fE e.as x))=e.m x):aK P e:=by
 intro x;refine iw.of (λargs w=>jc hf (by rw[hb];rfl) hn args w) ?_;intro F h y h1 hx ι w vs' R hl;refine calls_of_wp hf hb ?_;have S:=VG x vs' hps hnt R hl;rw[<-hg x] at hx;intro b k cs;obtain⟨e2,a',w',hpost,harr⟩:=vu HT N false [.code []] _ _ ι h (y,h1) _ w S hx b k cs;refine⟨e2,a',w',?_,harr⟩;rcases hpost with hpost|hpan
 .obtain⟨ae,heq,ι',E',h',hle',hfin,R',HE',hd,hs,hfr⟩:=hpost;have done:(nP P fn.results.toList E' [] λvs=>.val (ga vs)).run (ZQ e.rs) h'=some (y,h1) ->
    a'.defers=[]/\∃v,(results fn a'.tmps).run P w'=.ok v w'/\∃v' ι',Ending.returned v=.returned v'/\aW P ι' (ga (fE e.rs y)) v'/\Rel P F ι' h1 w'/\ι.le ι':=λhx=>
   let ⟨v,q1,q2,q3⟩:=VF R' HE' hx
   ⟨hd,v,q1,v,ι',rfl,q2,q3.df F.Mb,hle'⟩
  unfold On at hfin;cases ae with
  |exit id=>simp[AS] at hfin
  |normal=>
   cases e2 with
   |normal=>exact done hfin
   |_=>exact heq.elim
  |ret=>
   cases e2 with
   |ret=>exact done hfin
   |_=>exact heq.elim
 .obtain⟨ι2,v,v',h,q1,q2,q3,_⟩:=hpan;rw[hp] at q3;simp[AS] at q3
end Go.Ago
