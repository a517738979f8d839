
import Derived.Test.YtpojbnjkkkiccaaGreatDoorAgoG
import Derived.LoopN
set_option linter.all false
namespace Go.Ago
open Go
variable {P:Program}{ι ι':gO}{h h' h1:ai}{w w':World}
theorem wD:∀{ts} {vs} {x},yX ts vs=some x->vs=fC ts x
 |[],[],_,_=>rfl
 |[],_::_,_,hx=>by cases hx
 |[t],[],_,hx=>by cases hx
 |[t],[v],x,hx=>by rw[fC,<-Ro hx]
 |[t],_::_::_,_,hx=>by cases hx
 |t::t'::ts,[],_,hx=>by cases hx
 |t::t'::ts,v::vs,x,hx=>by
  simp[yX] at hx;split at hx
  .rename_i a b ha hb;cases hx;rw[fC,<-Ro ha,<-wD hb]
  .cases hx
theorem aii {ts}{v}{x}(hx:unR ts v=some x):v=gE (fC ts x):=by
 match ts,x,hx with
 |[],x,hx=>
  simp[unR] at hx;cases v<;>simp only at hx<;>try cases hx
  rename_i vs _;rw[<-wD hx];cases hv:vs.toList with
  |nil=>simp[gE,<-hv]
  |cons a l=>rw[hv] at hx;cases hx
 |[t],x,hx=>rw[fC];exact Ro hx
 |t::t'::ts,x,hx=>
  simp[unR] at hx;split at hx
  .rename_i vs;have:=wD hx;rw[fC,gE]
   .rw[fC] at this;rw[<-this]
   .intro v e;have h2:(fC (t'::ts) x.2)=[]:=(by grind);cases ts<;>simp[fC] at h2
  .cases hx
theorem Py:∀{E} {ls} {vs},tY E ls=some vs->∀j u,zJ ls vs j=some u->E j=some u
 |E,[],vs,_,j,u,hu=>by cases vs<;>cases hu
 |E,(i,t)::ls,vs,hg,j,u,hu=>by
  simp[tY] at hg;split at hg
  .rename_i v vs' hv hvs;cases hg;simp[zJ,Env.set,bf] at hu;split at hu
   .grind
   .exact Py hvs j u hu
  .cases hg
def za {E}{ls}{vs}{t}(hg:tY E ls=some vs)(hE:lv P ι E t):lv P ι (zJ ls vs) t:=
 λj u hu=>hE j u (Py hg j u hu)
theorem Me:∀{E E0} {ms} {vs},tY E ms=some vs->∀j u,ac0 E0 ms vs j=some u ->
  E j=some u\/(E0 j=some u/\ms.any (λx=>Nat.beq j x.1)=false)
 |E,E0,[],vs,_,j,u,hu=>.inr ⟨by cases vs<;>exact hu,rfl⟩
 |E,E0,(i,t)::ms,vs,hg,j,u,hu=>by
  simp[tY] at hg;split at hg
  .rename_i v vs' hv hvs;cases hg;simp[ac0,Env.set,bf] at hu;split at hu
   .grind
   .rename_i e;rcases Me hvs j u hu with h1|⟨h1,h2⟩
    .exact .inl h1
    .refine .inr ⟨h1,?_⟩;rw[List.any_cons,h2,ap3]
     grind [absurd,Nat.eq_of_beq_eq_true]
  .cases hg
def aC (P:Program)(e:dh):Prop:=∀x,iw P e.id (fC e.as x) ⟨aV e.rs,e.m x,λy=>gE (fC e.rs y)⟩
def cV (P:Program):List dh->Prop
 |[]=>True
 |e::r=>aC P e/\cV P r
def Pz:∀{l},cV P l->∀f vs ca,HI l f vs=some ca->iw P f vs ca
 |[],_,f,vs,ca,hx=>by cases hx
 |e::r,hl,f,vs,ca,hx=>by
  simp[HI] at hx;split at hx
  .rename_i hb;have:=IT hb;subst this;split at hx
   .rename_i x hu;cases hx;rw[wD hu];exact hl.1 x
   .cases hx
  .exact Pz hl.2 f vs ca hx
def PA {f}{vs vs'}{ca}(e:vs=vs')(hc:iw P f vs ca):iw P f vs' ca:=e▸hc
def aij (P:Program){as rs}(e:DTg as rs):Prop:=∀a c,iw P e.id (fC as a++fC e.cs c) ⟨aV rs,e.m a c,λy=>gE (fC rs y)⟩
def PB (P:Program){as rs}:List (DTg as rs)->Prop
 |[]=>True
 |e::r=>aij P e/\PB P r
def V4 {g}{x}(h:nG g x=true):∃caps,x=.func (.func g) #[] caps:=by
 unfold nG at h;split at h
 .simp_all
 .cases h
def V5 {cs}{x}{c}(hx:mr cs x h=some (c,h1)):h1=h/\MX x=fC cs c:=by
 unfold mr at hx;split at hx
 .rename_i c' hc;cases hx;exact⟨rfl,wD hc⟩
 .cases hx
theorem Y7 {as rs}:∀{l},PB P l->∀x a,T5 P x (fC as a) ⟨aV rs,dsp l x a,λy=>gE (fC rs y)⟩
 |[],_,x,a=>λh y h1 hx=>by simp[dsp,AS] at hx
 |e::r,hl,x,a=>by
  have one:∀(rest:M (aV rs)),(∀h y h1,rest h=some (y,h1)->∃g caps ca' y',x=.func (.func g) #[] caps/\iw P g (fC as a++caps.toList) ca'/\ca'.m h=some (y',h1)/\ca'.pk y'=gE (fC rs y)) ->
    ∀h y h1,(yC (nG e.id x) (sh (mr e.cs x) λc=>e.m a c) rest) h=some (y,h1) ->
    ∃g caps ca' y',x=.func (.func g) #[] caps/\iw P g (fC as a++caps.toList) ca'/\ca'.m h=some (y',h1)/\ca'.pk y'=gE (fC rs y):=by
   intro rest hrest h y h1 hx;unfold yC at hx;split at hx
   .rename_i hf;obtain⟨caps,rfl⟩:=V4 hf;simp[sh] at hx;split at hx
    .rename_i c h2 hc;obtain⟨e2,hcap⟩:=V5 hc;have hok:=hl.1 a c;rw[<-hcap] at hok;rw[e2] at hx;exact⟨_,caps,_,y,rfl,hok,hx,rfl⟩
    .cases hx
   .exact hrest h y h1 hx
  have ih:=Y7 hl.2 x a;cases r with
  |nil=>exact one _ λh y h1 hx=>by simp[AS] at hx
  |cons f r=>exact one _ ih
def RE (P:Program)(e:nH):Prop:=∀x a,T5 P x (fC e.as a) ⟨aV e.rs,e.m x a,λy=>gE (fC e.rs y)⟩
def ni (P:Program):List nH->Prop
 |[]=>True
 |e::r=>RE P e/\ni P r
theorem bB {e}{l}(hl:PB P l)(he:∀x a,dsp l x a=e.m x a:=by intro x a;kernel_rfl):RE P e:=λx a=>by
 grind [Y7]
def PC:∀{l},ni P l->∀t x vs ca,TK l t x vs=some ca->T5 P x vs ca
 |[],_,t,x,vs,ca,hx=>by cases hx
 |e::r,hl,t,x,vs,ca,hx=>by
  simp[TK] at hx;split at hx
  .split at hx
   .rename_i a hu;cases hx;rw[wD hu];exact hl.1 x a
   .cases hx
  .exact PC hl.2 t x vs ca hx
def FB (l:List dh)(ms:List FuncId):Prop:=∀f vs ca,ms.any (Nat.beq f)=true->HI l f vs=some ca->GA ca.m
theorem FB.nil {l}:FB l []:=λf vs ca h=>by cases h
theorem FB.one {e:dh}(h:∀x,GA (e.m x)){l}{g}(hg:∀vs ca,HI l g vs=some ca->∃x,ca=⟨aV e.rs,e.m x,λy=>gE (fC e.rs y)⟩):FB l [g]:=λf vs ca h1 h2=>by
 simp only[List.any_cons,List.any_nil,ap3] at h1
 grind [Nat.eq_of_beq_eq_true]
theorem JM {g}{e}:∀{l},l.find? (λe=>Nat.beq g e.id)=some e->∀vs ca,HI l g vs=some ca->∃x,ca=⟨aV e.rs,e.m x,λy=>gE (fC e.rs y)⟩
 |[],h,vs,ca,hx=>by cases h
 |a::l,h,vs,ca,hx=>by
  rw[List.find?_cons] at h;unfold HI at hx;cases hb:Nat.beq g a.id with
  |true=>
   rw[hb] at h hx;simp at h;subst h
   grind
  |false=>
   rw[hb] at h hx;exact JM h vs ca hx
def PD {l}{d}{ms}(h1:cV P l)(h2:ni P d)(h3:FB l ms):BC P (OQ l d ms):=⟨Pz h1,PC h2,h3⟩
theorem HS:∀(as:List Ty) i ls vs (vs':ν) t ,ls.map (·.1)=List.range' i as.length->vs.length=as.length ->
  (∀k v,vs[k]?=some v->∃v',t[i+k]?=some v'/\aN P ι v v')->lv P ι (zJ ls vs) t
 |as,i,[],vs,vs',t,_,_,_=>by intro j u hu;cases vs<;>cases hu
 |[],i,(a,b)::ls,vs,vs',t,hl,_,_=>by simp at hl
 |ty::as,i,(a,b)::ls,[],vs',t,_,hv,_=>by simp at hv
 |ty::as,i,(a,b)::ls,v::vs,vs',t,hl,hv,hr=>by
  rw[acW,abK,aoP,apN] at hl;obtain⟨rfl,hl⟩:=hl;have ih:=HS as (a+1) ls vs vs' t hl (by simpa using hv) λk u hu=>by
   have:=hr (k+1) u (by simpa using hu)
   grind
  intro j u hu;simp[zJ,Env.set,bf] at hu;split at hu
  .rename_i e;subst e;cases hu;exact hr 0 v rfl
  .exact ih j u hu
theorem GW (R:∀t a a',rO ι a a'->∀v h1,(Q8 P t a).exec h=some (v,h1)->h1=h/\∃v',(loadVar t a').run P w=.ok v' w/\aN P ι v v'){E}{tm}(hE:lv P ι E tm)
  {X} {K:ξ->M X} {r} {fin} :
  ∀rs acc ,(mB P rs E acc fin).run K h=some r->∃vs vs',aW P ι vs vs'/\(fin (acc.reverse++vs)).run K h=some r /\
   (rs.mapM (λx:ResultVar=>(match x with
    |.tmp t=>Pure.pure (tm.getD t undef)
    |.cell a t=>do loadVar t (<-asAddr (tm.getD a undef)):Sem ξ))).run P w=.ok vs' w
 |[],acc,hx=>⟨[],[],.nil,by simpa[mB] using hx,by simp⟩
 |.tmp t::rs,acc,hx=>by
  simp[mB] at hx;split at hx
  .rename_i v hv;obtain⟨vs,vs',h1,h2,h3⟩:=GW R hE rs _ hx;obtain⟨v',e1,e2⟩:=hE t v hv;refine⟨v::vs,v'::vs',.cons e2 h1,by simpa using h2,?_⟩
   simp_all
  .simp[Act.run,AS] at hx
 |.cell s t::rs,acc,hx=>by
  simp[mB] at hx;split at hx
  .rename_i a ha;obtain⟨p',e1,e2⟩:=hE s _ ha;cases e2 with
   |flat _ hf=>simp[dO] at hf
   |ptr _ a' har=>
   have go:∀A:Act,(∀v h1,A.exec h=some (v,h1)->h1=h/\∃v',(loadVar t a').run P w=.ok v' w/\aN P ι v v') ->
     (mB.resBind A λv=>mB P rs E (v::acc) fin).run K h=some r->∃v v',(loadVar t a').run P w=.ok v' w/\aN P ι v v'/\(mB P rs E (v::acc) fin).run K h=some r:=by
    intro A;have gen:∀(A:Act) (h2:ai),(mB.resBind A λv=>mB P rs E (v::acc) fin).run K h2=some r->∃v h3,A.exec h2=some (v,h3)/\(mB P rs E (v::acc) fin).run K h3=some r:=by
     intro A
     induction A with
     |val v=>intro h2 hx;exact⟨v,h2,rfl,hx⟩
     |none=>intro h2 hx;simp[mB.resBind,Act.run,AS] at hx
     |ask α m k ih=>
      intro h2 hx;simp[mB.resBind,Act.run,sh] at hx
      grind [Act.exec]
    grind
   have hx':(mB.resBind (Q8 P t a) λv=>mB P rs E (v::acc) fin).run K h=some r:=by
    split at hx
    .rename_i v hv;rw[hv];exact hx
    .rename_i α m k hv;rw[hv];exact hx
    .rename_i hv;rw[hv];exact hx
   obtain⟨v,v',q1,q2,q3⟩:=go _ (R t a a' har) hx';obtain⟨vs,vs',h1,h2,h3⟩:=GW R hE rs _ q3;refine⟨v::vs,v'::vs',.cons q2 h1,by simpa using h2,?_⟩;have:tm.getD s undef=.pointer (some a'):=by simp[amK,e1]
   have ha':asAddr (Value.pointer (some a'))=Pure.pure a':=rfl
   grind [Sem.run_bind,Sem.run_pure,Result.andThen_ok]
  .simp[Act.run,AS] at hx
theorem iN {f} {fn} (hf : P.funcs[f]? = some fn) (hb : fn.body.isNone = false) (hn : (fn.name == "runtime.NumGoroutine") = false) args w :
  (callFunc f args).run P w=.ok (.enter f args) w:=by
 simp at hn;simp[callFunc,hf,hb,hn]
 grind
def BF:∀ts x ,(fC ts x).length=ts.length
 |[],_=>rfl
 |[_],_=>rfl
 |t::t'::ts,x=>by simp[fC,BF (t'::ts) x.2]
theorem aW.get? {vs vs'}(hl:aW P ι vs vs'){k:Nat}{v}(hk:vs[k]?=some v):∃v',vs'[k]?=some v'/\aN P ι v v':=by
 have hlt:k<vs'.length:=by rw[<-hl.1];grind
 exact⟨vs'[k],aci hlt,hl.2 k v _ hk (aci hlt)⟩
theorem V6 {vs vs'}(hl:aW P ι vs vs'):aN P ι (gE vs) (if h:vs'.toArray.size=1 then vs'.toArray[0] else .tuple vs'.toArray):=by
 have hlen:vs.length=vs'.length:=hl.1
 match vs,vs',hl,hlen with
 |[v],[v'],hl,_=>
  obtain⟨v2,h1,h2⟩:=hl.get? (k:=0) rfl;cases h1;exact h2
 |[],[],hl,_=>exact .tuple _ _ rfl (by simp)
 |a::b::r,a'::b'::r',hl,hlen=>
  simp only[gE];rw[dif_neg (by simp)];refine .tuple _ _ (by simpa using hlen) λi v v' h1 h2=>?_;obtain⟨u,h3,h4⟩:=hl.get? (by simpa using h1)
  grind
theorem Y8 {F}{ts}{fn}{E'}{h'}{y}{a':Go.Act}(R':Rel P F ι' h' w')(HE':lv P ι' E' a'.tmps)
  (hx:(mB P fn.results.toList E' [] λvs=>.val (gE vs)).run (ac5 ts) h'=some (y,h1)) :
  ∃v,(results fn a'.tmps).run P w'=.ok v w'/\aN P ι' (gE (fC ts y)) v/\Rel P F ι' h1 w':=by
 obtain⟨vs,vs2,q1,q2,q3⟩:=GW (λt a a' ha v h1 he=>L5 R' ha he) HE' fn.results.toList [] hx;simp[List.reverse_nil,afk,Act.run,ac5] at q2;generalize hu:unR ts (gE vs)=u at q2;cases u with
 |none=>simp[AS] at q2
 |some r=>
  simp only[AI] at q2;cases q2;refine⟨(if h:vs2.toArray.size=1 then vs2.toArray[0] else .tuple vs2.toArray),?_,?_,R'⟩
  .unfold results;rw[Sem.run_bind,<-ao4 (xs:=fn.results),List.mapM_toArray,Sem.run_map]
   erw [q3]
   rfl
  grind [aii,V6]
theorem Y9 {as}{nt:Nat}{ps}{F} x vs' (hps:ps.map (·.1)=List.range' 0 as.length)(hnt:Nat.ble as.length nt=true)(R:Rel P F ι h w)(hl:aW P ι (fC as x) vs'.toList) :
  Start P { F with QZ:=[] } ι (nt,none) (zJ ps (fC as x)) h { tmps:=vs'++Array.replicate (nt-vs'.size) undef,defers:=[] } w:=by
 have hlen:=hl.1;rw[BF] at hlen;have hsz:vs'.size=as.length:=by simpa using hlen.symm
 have hle:=ah5 hnt;refine⟨R.df [],?_,rfl,?_⟩
 .refine HS as 0 ps _ vs' _ hps (BF _ _) λk v hk=>?_;obtain⟨v',h1,h2⟩:=hl.get? hk
  grind
 .simp;omega
theorem amp {e} {fn} {c} {T} {N} {ps} (hf : P.funcs[e.id]? = some fn) (hb : fn.body = some c) (hn : (fn.name == "runtime.NumGoroutine") = false)
  (hps:ps.map (·.1)=List.range' 0 e.as.length) (hnt:Nat.ble e.as.length fn.ntmps=true) (HT:zX P c T (fn.ntmps,none) (YH P fn e.rs))
  (hg:∀x,den P c T (fn.ntmps,none) (YH P fn e.rs) N false [.code []] (zJ ps (fC e.as x))=e.m x):aC P e:=by
 intro x;refine iw.of (λargs w=>iN hf (by rw[hb];rfl) hn args w) ?_;intro F h y h1 hx ι w vs' R hl;refine calls_of_wp hf hb ?_;have S:=Y9 x vs' hps hnt R hl;rw[<-hg x] at hx;intro b k cs;obtain⟨e2,a',w',hpost,harr⟩:=wU HT N false [.code []] _ _ ι h (y,h1) _ w S hx b k cs;refine⟨e2,a',w',?_,harr⟩;obtain⟨ae,heq,ι',E',h',hle',hfin,R',HE',hd,hs,hfr⟩:=hpost;have done:(mB P fn.results.toList E' [] λvs=>.val (gE vs)).run (ac5 e.rs) h'=some (y,h1) ->
   a'.defers=[]/\∃v,(results fn a'.tmps).run P w'=.ok v w'/\∃v' ι',Ending.returned v=.returned v'/\aN P ι' (gE (fC e.rs y)) v'/\Rel P F ι' h1 w'/\ι.le ι':=λhx=>
  let ⟨v,q1,q2,q3⟩:=Y8 R' HE' hx
  ⟨hd,v,q1,v,ι',rfl,q2,q3.df F.QZ,hle'⟩
 unfold YH at hfin;cases ae with
 |exit id=>simp[AS] at hfin
 |normal=>
  cases e2 with
  |normal=>exact done hfin
  |_=>exact heq.elim
 |ret=>
  cases e2 with
  |ret=>exact done hfin
  |_=>exact heq.elim
end Go.Ago
