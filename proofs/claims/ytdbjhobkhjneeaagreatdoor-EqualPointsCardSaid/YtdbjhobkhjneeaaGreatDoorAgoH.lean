
import Derived.Test.YtdbjhobkhjneeaaGreatDoorAgoG
import Derived.LoopN
set_option linter.all false
namespace Go.Ago
open Go
variable {P:Program}{ι ι':gX}{h h' h1:aj}{w w':World}
theorem vB:∀{ts} {vs} {x},xX ts vs=some x->vs=fS ts x
 |[],[],_,_=>rfl
 |[],_::_,_,hx=>by cases hx
 |[t],[],_,hx=>by cases hx
 |[t],[v],x,hx=>by rw[fS,<-Qb hx]
 |[t],_::_::_,_,hx=>by cases hx
 |t::t'::ts,[],_,hx=>by cases hx
 |t::t'::ts,v::vs,x,hx=>by
  simp[xX] at hx;split at hx
  .rename_i a b ha hb;cases hx;rw[fS,<-Qb ha,<-vB hb]
  .cases hx
theorem agI {ts}{v}{x}(hx:unR ts v=some x):v=iK (fS ts x):=by
 match ts,x,hx with
 |[],x,hx=>
  simp[unR] at hx;cases v<;>simp only at hx<;>try cases hx
  rename_i vs _;rw[<-vB hx];cases hv:vs.toList with
  |nil=>simp[iK,<-hv]
  |cons a l=>rw[hv] at hx;cases hx
 |[t],x,hx=>rw[fS];exact Qb hx
 |t::t'::ts,x,hx=>
  simp[unR] at hx;split at hx
  .rename_i vs;have:=vB hx;rw[fS,iK]
   .rw[fS] at this;rw[<-this]
   .intro v e;have h2:(fS (t'::ts) x.2)=[]:=(by grind);cases ts<;>simp[fS] at h2
  .cases hx
theorem N4:∀{E} {ls} {vs},s6 E ls=some vs->∀j u,yG ls vs j=some u->E j=some u
 |E,[],vs,_,j,u,hu=>by cases vs<;>cases hu
 |E,(i,t)::ls,vs,hg,j,u,hu=>by
  simp[s6] at hg;split at hg
  .rename_i v vs' hv hvs;cases hg;simp[yG,Env.set,bj] at hu;split at hu
   .grind
   .exact N4 hvs j u hu
  .cases hg
def yf {E}{ls}{vs}{t}(hg:s6 E ls=some vs)(hE:kZ P ι E t):kZ P ι (yG ls vs) t:=
 λj u hu=>hE j u (N4 hg j u hu)
theorem J8:∀{E E0} {ms} {vs},s6 E ms=some vs->∀j u,abN E0 ms vs j=some u ->
  E j=some u\/(E0 j=some u/\ms.any (λx=>Nat.beq j x.1)=false)
 |E,E0,[],vs,_,j,u,hu=>.inr ⟨by cases vs<;>exact hu,rfl⟩
 |E,E0,(i,t)::ms,vs,hg,j,u,hu=>by
  simp[s6] at hg;split at hg
  .rename_i v vs' hv hvs;cases hg;simp[abN,Env.set,bj] at hu;split at hu
   .grind
   .rename_i e;rcases J8 hvs j u hu with h1|⟨h1,h2⟩
    .exact .inl h1
    .refine .inr ⟨h1,?_⟩;rw[List.any_cons,h2,Bool.or_false]
     grind [absurd,Nat.eq_of_beq_eq_true]
  .cases hg
def aH (P:Program)(e:dV):Prop:=∀x,iH P e.id (fS e.as x) ⟨aY e.rs,e.m x,λy=>iK (fS e.rs y)⟩
def eY (P:Program):List dV->Prop
 |[]=>True
 |e::r=>aH P e/\eY P r
def N5:∀{l},eY P l->∀f vs ca,Nl l f vs=some ca->iH P f vs ca
 |[],_,f,vs,ca,hx=>by cases hx
 |e::r,hl,f,vs,ca,hx=>by
  simp[Nl] at hx;split at hx
  .rename_i hb;have:=IT hb;subst this;split at hx
   .rename_i x hu;cases hx;rw[vB hu];exact hl.1 x
   .cases hx
  .exact N5 hl.2 f vs ca hx
def N6 {f}{vs vs'}{ca}(e:vs=vs')(hc:iH P f vs ca):iH P f vs' ca:=e▸hc
def agJ (P:Program){as rs}(e:DTg as rs):Prop:=∀a c,iH P e.id (fS as a++fS e.cs c) ⟨aY rs,e.m a c,λy=>iK (fS rs y)⟩
def N7 (P:Program){as rs}:List (DTg as rs)->Prop
 |[]=>True
 |e::r=>agJ P e/\N7 P r
def Uz {g}{x}(h:rN g x=true):∃caps,x=.func (.func g) #[] caps:=by
 unfold rN at h;split at h
 .simp_all
 .cases h
def UA {cs}{x}{c}(hx:qq cs x h=some (c,h1)):h1=h/\KZ x=fS cs c:=by
 unfold qq at hx;split at hx
 .rename_i c' hc;cases hx;exact⟨rfl,vB hc⟩
 .cases hx
theorem XQ {as rs}:∀{l},N7 P l->∀x a,R8 P x (fS as a) ⟨aY rs,dsp l x a,λy=>iK (fS rs y)⟩
 |[],_,x,a=>λh y h1 hx=>by simp[dsp,AS] at hx
 |e::r,hl,x,a=>by
  have one:∀(rest:M (aY rs)),(∀h y h1,rest h=some (y,h1)->∃g caps ca' y',x=.func (.func g) #[] caps/\iH P g (fS as a++caps.toList) ca'/\ca'.m h=some (y',h1)/\ca'.pk y'=iK (fS rs y)) ->
    ∀h y h1,(xz (rN e.id x) (sh (qq e.cs x) λc=>e.m a c) rest) h=some (y,h1) ->
    ∃g caps ca' y',x=.func (.func g) #[] caps/\iH P g (fS as a++caps.toList) ca'/\ca'.m h=some (y',h1)/\ca'.pk y'=iK (fS rs y):=by
   intro rest hrest h y h1 hx;unfold xz at hx;split at hx
   .rename_i hf;obtain⟨caps,rfl⟩:=Uz hf;simp[sh] at hx;split at hx
    .rename_i c h2 hc;obtain⟨e2,hcap⟩:=UA hc;have hok:=hl.1 a c;rw[<-hcap] at hok;rw[e2] at hx;exact⟨_,caps,_,y,rfl,hok,hx,rfl⟩
    .cases hx
   .exact hrest h y h1 hx
  have ih:=XQ hl.2 x a;cases r with
  |nil=>exact one _ λh y h1 hx=>by simp[AS] at hx
  |cons f r=>exact one _ ih
def Qq (P:Program)(e:rF):Prop:=∀x a,R8 P x (fS e.as a) ⟨aY e.rs,e.m x a,λy=>iK (fS e.rs y)⟩
def qU (P:Program):List rF->Prop
 |[]=>True
 |e::r=>Qq P e/\qU P r
theorem di {e}{l}(hl:N7 P l)(he:∀x a,dsp l x a=e.m x a:=by intro x a;kernel_rfl):Qq P e:=λx a=>by
 grind [XQ]
def N8:∀{l},qU P l->∀t x vs ca,RR l t x vs=some ca->R8 P x vs ca
 |[],_,t,x,vs,ca,hx=>by cases hx
 |e::r,hl,t,x,vs,ca,hx=>by
  simp[RR] at hx;split at hx
  .split at hx
   .rename_i a hu;cases hx;rw[vB hu];exact hl.1 x a
   .cases hx
  .exact N8 hl.2 t x vs ca hx
def N9 (l:List dV)(ms:List FuncId):Prop:=∀f vs ca,ms.any (Nat.beq f)=true->Nl l f vs=some ca->MoM ca.m
theorem N9.nil {l}:N9 l []:=λf vs ca h=>by cases h
def Oa {l}{d}{ms}(h1:eY P l)(h2:qU P d)(h3:N9 l ms):Az P (Nn l d ms):=⟨N5 h1,N8 h2,h3⟩
theorem FZ:∀(as:List Ty) i ls vs (vs':ξ) t ,ls.map (·.1)=List.range' i as.length->vs.length=as.length ->
  (∀k v,vs[k]?=some v->∃v',t[i+k]?=some v'/\aM P ι v v')->kZ P ι (yG ls vs) t
 |as,i,[],vs,vs',t,_,_,_=>by intro j u hu;cases vs<;>cases hu
 |[],i,(a,b)::ls,vs,vs',t,hl,_,_=>by simp at hl
 |ty::as,i,(a,b)::ls,[],vs',t,_,hv,_=>by simp at hv
 |ty::as,i,(a,b)::ls,v::vs,vs',t,hl,hv,hr=>by
  rw[ab4,abv,anp,adS] at hl;obtain⟨rfl,hl⟩:=hl;have ih:=FZ as (a+1) ls vs vs' t hl (by simpa using hv) λk u hu=>by
   have:=hr (k+1) u (by simpa using hu)
   grind
  intro j u hu;simp[yG,Env.set,bj] at hu;split at hu
  .rename_i e;subst e;cases hu;exact hr 0 v rfl
  .exact ih j u hu
theorem EU (R:∀t a a',qS ι a a'->∀v h1,(Jd P t a).exec h=some (v,h1)->h1=h/\∃v',(loadVar t a').run P w=.ok v' w/\aM P ι v v'){E}{tm}(hE:kZ P ι E tm)
  {X} {K:ο->M X} {r} {fin} :
  ∀rs acc ,(mg P rs E acc fin).run K h=some r->∃vs vs',aX P ι vs vs'/\(fin (acc.reverse++vs)).run K h=some r /\
   (rs.mapM (λx:ResultVar=>(match x with
    |.tmp t=>Pure.pure (tm.getD t undef)
    |.cell a t=>do loadVar t (<-asAddr (tm.getD a undef)):Sem ο))).run P w=.ok vs' w
 |[],acc,hx=>⟨[],[],.nil,by simpa[mg] using hx,by simp⟩
 |.tmp t::rs,acc,hx=>by
  simp[mg] at hx;split at hx
  .rename_i v hv;obtain⟨vs,vs',h1,h2,h3⟩:=EU R hE rs _ hx;obtain⟨v',e1,e2⟩:=hE t v hv;refine⟨v::vs,v'::vs',.cons e2 h1,by simpa using h2,?_⟩
   simp_all
  .simp[Act.run,AS] at hx
 |.cell s t::rs,acc,hx=>by
  simp[mg] at hx;split at hx
  .rename_i a ha;obtain⟨p',e1,e2⟩:=hE s _ ha;cases e2 with
   |flat _ hf=>simp[dL] at hf
   |ptr _ a' har=>
   have go:∀A:Act,(∀v h1,A.exec h=some (v,h1)->h1=h/\∃v',(loadVar t a').run P w=.ok v' w/\aM P ι v v') ->
     (mg.resBind A λv=>mg P rs E (v::acc) fin).run K h=some r->∃v v',(loadVar t a').run P w=.ok v' w/\aM P ι v v'/\(mg P rs E (v::acc) fin).run K h=some r:=by
    intro A;have gen:∀(A:Act) (h2:aj),(mg.resBind A λv=>mg P rs E (v::acc) fin).run K h2=some r->∃v h3,A.exec h2=some (v,h3)/\(mg P rs E (v::acc) fin).run K h3=some r:=by
     intro A
     induction A with
     |val v=>intro h2 hx;exact⟨v,h2,rfl,hx⟩
     |none=>intro h2 hx;simp[mg.resBind,Act.run,AS] at hx
     |ask α m k ih=>
      intro h2 hx;simp[mg.resBind,Act.run,sh] at hx
      grind [Act.exec]
    grind
   have hx':(mg.resBind (Jd P t a) λv=>mg P rs E (v::acc) fin).run K h=some r:=by
    split at hx
    .rename_i v hv;rw[hv];exact hx
    .rename_i α m k hv;rw[hv];exact hx
    .rename_i hv;rw[hv];exact hx
   obtain⟨v,v',q1,q2,q3⟩:=go _ (R t a a' har) hx';obtain⟨vs,vs',h1,h2,h3⟩:=EU R hE rs _ q3;refine⟨v::vs,v'::vs',.cons q2 h1,by simpa using h2,?_⟩;have:tm.getD s undef=.pointer (some a'):=by simp[akY,e1]
   have ha':asAddr (Value.pointer (some a'))=Pure.pure a':=rfl
   grind [Sem.run_bind,Sem.run_pure,Result.andThen_ok]
  .simp[Act.run,AS] at hx
theorem iV {f} {fn} (hf : P.funcs[f]? = some fn) (hb : fn.body.isNone = false) (hn : (fn.name == "runtime.NumGoroutine") = false) args w :
  (callFunc f args).run P w=.ok (.enter f args) w:=by
 simp at hn;simp[callFunc,hf,hb,hn]
 grind
def AD:∀ts x ,(fS ts x).length=ts.length
 |[],_=>rfl
 |[_],_=>rfl
 |t::t'::ts,x=>by simp[fS,AD (t'::ts) x.2]
theorem aX.get? {vs vs'}(hl:aX P ι vs vs'){k:Nat}{v}(hk:vs[k]?=some v):∃v',vs'[k]?=some v'/\aM P ι v v':=by
 have hlt:k<vs'.length:=by rw[<-hl.1];grind
 exact⟨vs'[k],abt hlt,hl.2 k v _ hk (abt hlt)⟩
theorem UB {vs vs'}(hl:aX P ι vs vs'):aM P ι (iK vs) (if h:vs'.toArray.size=1 then vs'.toArray[0] else .tuple vs'.toArray):=by
 have hlen:vs.length=vs'.length:=hl.1
 match vs,vs',hl,hlen with
 |[v],[v'],hl,_=>
  obtain⟨v2,h1,h2⟩:=hl.get? (k:=0) rfl;cases h1;exact h2
 |[],[],hl,_=>exact .tuple _ _ rfl (by simp)
 |a::b::r,a'::b'::r',hl,hlen=>
  simp only[iK];rw[dif_neg (by simp)];refine .tuple _ _ (by simpa using hlen) λi v v' h1 h2=>?_;obtain⟨u,h3,h4⟩:=hl.get? (by simpa using h1)
  grind
theorem XR {F}{ts}{fn}{E'}{h'}{y}{a':Go.Act}(R':Rel P F ι' h' w')(HE':kZ P ι' E' a'.tmps)
  (hx:(mg P fn.results.toList E' [] λvs=>.val (iK vs)).run (abS ts) h'=some (y,h1)) :
  ∃v,(results fn a'.tmps).run P w'=.ok v w'/\aM P ι' (iK (fS ts y)) v/\Rel P F ι' h1 w':=by
 obtain⟨vs,vs2,q1,q2,q3⟩:=EU (λt a a' ha v h1 he=>JW R' ha he) HE' fn.results.toList [] hx;simp[List.reverse_nil,abJ,Act.run,abS] at q2;generalize hu:unR ts (iK vs)=u at q2;cases u with
 |none=>simp[AS] at q2
 |some r=>
  simp only[AI] at q2;cases q2;refine⟨(if h:vs2.toArray.size=1 then vs2.toArray[0] else .tuple vs2.toArray),?_,?_,R'⟩
  .unfold results;rw[Sem.run_bind,<-anv (xs:=fn.results),List.mapM_toArray,Sem.run_map]
   erw [q3]
   rfl
  grind [agI,UB]
theorem XS {as}{nt:Nat}{ps}{F} x vs' (hps:ps.map (·.1)=List.range' 0 as.length)(hnt:Nat.ble as.length nt=true)(R:Rel P F ι h w)(hl:aX P ι (fS as x) vs'.toList) :
  Start P { F with PR:=[] } ι (nt,none) (yG ps (fS as x)) h { tmps:=vs'++Array.replicate (nt-vs'.size) undef,defers:=[] } w:=by
 have hlen:=hl.1;rw[AD] at hlen;have hsz:vs'.size=as.length:=by simpa using hlen.symm
 have hle:=agh hnt;refine⟨R.df [],?_,rfl,?_⟩
 .refine FZ as 0 ps _ vs' _ hps (AD _ _) λk v hk=>?_;obtain⟨v',h1,h2⟩:=hl.get? hk
  grind
 .simp;omega
theorem akU {e} {fn} {c} {T} {N} {ps} (hf : P.funcs[e.id]? = some fn) (hb : fn.body = some c) (hn : (fn.name == "runtime.NumGoroutine") = false)
  (hps:ps.map (·.1)=List.range' 0 e.as.length) (hnt:Nat.ble e.as.length fn.ntmps=true) (HT:yU P c T (fn.ntmps,none) (Xq P fn e.rs))
  (hg:∀x,den P c T (fn.ntmps,none) (Xq P fn e.rs) N false [.code []] (yG ps (fS e.as x))=e.m x):aH P e:=by
 intro x;refine iH.of (λargs w=>iV hf (by rw[hb];rfl) hn args w) ?_;intro F h y h1 hx ι w vs' R hl;refine calls_of_wp hf hb ?_;have S:=XS x vs' hps hnt R hl;rw[<-hg x] at hx;intro b k cs;obtain⟨e2,a',w',hpost,harr⟩:=vV HT N false [.code []] _ _ ι h (y,h1) _ w S hx b k cs;refine⟨e2,a',w',?_,harr⟩;obtain⟨ae,heq,ι',E',h',hle',hfin,R',HE',hd,hs,hfr⟩:=hpost;have done:(mg P fn.results.toList E' [] λvs=>.val (iK vs)).run (abS e.rs) h'=some (y,h1) ->
   a'.defers=[]/\∃v,(results fn a'.tmps).run P w'=.ok v w'/\∃v' ι',Ending.returned v=.returned v'/\aM P ι' (iK (fS e.rs y)) v'/\Rel P F ι' h1 w'/\ι.le ι':=λhx=>
  let ⟨v,q1,q2,q3⟩:=XR R' HE' hx
  ⟨hd,v,q1,v,ι',rfl,q2,q3.df F.PR,hle'⟩
 unfold Xq at hfin;cases ae with
 |exit id=>simp[AS] at hfin
 |normal=>
  cases e2 with
  |normal=>exact done hfin
  |_=>exact heq.elim
 |ret=>
  cases e2 with
  |ret=>exact done hfin
  |_=>exact heq.elim
end Go.Ago
