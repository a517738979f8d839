
import Derived.Test.YthcljaholofonaaGreatDoorAgoG
import Derived.LoopN
set_option linter.all false
namespace Go.Ago
open Go
variable {P:Program}{ι ι':iE}{h h' h1:aj}{w w':World}
theorem xA:∀{ts} {vs} {x},An ts vs=some x->vs=gp ts x
 |[],[],_,_=>rfl
 |[],_::_,_,hx=>by cases hx
 |[t],[],_,hx=>by cases hx
 |[t],[v],x,hx=>by rw[gp,<-Rz hx]
 |[t],_::_::_,_,hx=>by cases hx
 |t::t'::ts,[],_,hx=>by cases hx
 |t::t'::ts,v::vs,x,hx=>by
  simp[An] at hx;split at hx
  .rename_i a b ha hb;cases hx;rw[gp,<-Rz ha,<-xA hb]
  .cases hx
theorem ajd {ts}{v}{x}(hx:unR ts v=some x):v=im (gp ts x):=by
 match ts,x,hx with
 |[],x,hx=>
  simp[unR] at hx;cases v<;>simp only at hx<;>try cases hx
  rename_i vs _;rw[<-xA hx];cases hv:vs.toList with
  |nil=>simp[im,<-hv]
  |cons a l=>rw[hv] at hx;cases hx
 |[t],x,hx=>rw[gp];exact Rz hx
 |t::t'::ts,x,hx=>
  simp[unR] at hx;split at hx
  .rename_i vs;have:=xA hx;rw[gp,im]
   .rw[gp] at this;rw[<-this]
   .intro v e;have h2:(gp (t'::ts) x.2)=[]:=(by grind);cases ts<;>simp[gp] at h2
  .cases hx
def P0:∀{E} {ls} {vs},ve E ls=some vs->∀j u,AP ls vs j=some u->E j=some u
 |E,[],vs,_,j,u,hu=>by cases vs<;>cases hu
 |E,(i,t)::ls,vs,hg,j,u,hu=>by
  simp[ve] at hg;split at hg
  .rename_i v vs' hv hvs;cases hg;simp[AP,Env.set,bu] at hu;split at hu
   .grind
   .exact P0 hvs j u hu
  .cases hg
def Av {E}{ls}{vs}{t}(hg:ve E ls=some vs)(hE:np P ι E t):np P ι (AP ls vs) t:=
 λj u hu=>hE j u (P0 hg j u hu)
def MG:∀{E E0} {ms} {vs},ve E ms=some vs->∀j u,ad7 E0 ms vs j=some u ->
  E j=some u\/(E0 j=some u/\ms.any (λx=>Nat.beq j x.1)=false)
 |E,E0,[],vs,_,j,u,hu=>.inr ⟨by cases vs<;>exact hu,rfl⟩
 |E,E0,(i,t)::ms,vs,hg,j,u,hu=>by
  simp[ve] at hg;split at hg
  .rename_i v vs' hv hvs;cases hg;simp[ad7,Env.set,bu] at hu;split at hu
   .grind
   .rename_i e;rcases MG hvs j u hu with h1|⟨h1,h2⟩
    .exact .inl h1
    .refine .inr ⟨h1,?_⟩;rw[List.any_cons,h2,aru]
     grind [absurd,Nat.eq_of_beq_eq_true]
  .cases hg
def aC (P:Program)(e:cA):Prop:=∀x,iG P e.id (gp e.as x) ⟨aY e.rs,e.m x,λy=>im (gp e.rs y)⟩
def cS (P:Program):List cA->Prop
 |[]=>True
 |e::r=>aC P e/\cS P r
def P3:∀{l},cS P l->∀f vs ca,H4 l f vs=some ca->iG P f vs ca
 |[],_,f,vs,ca,hx=>by cases hx
 |e::r,hl,f,vs,ca,hx=>by
  simp[H4] at hx;split at hx
  .rename_i hb;have:=abi hb;subst this;split at hx
   .rename_i x hu;cases hx;rw[xA hu];exact hl.1 x
   .cases hx
  .exact P3 hl.2 f vs ca hx
def P4 {f}{vs vs'}{ca}(e:vs=vs')(hc:iG P f vs ca):iG P f vs' ca:=e▸hc
def aje (P:Program){as rs}(e:DTg as rs):Prop:=∀a c,iG P e.id (gp as a++gp e.cs c) ⟨aY rs,e.m a c,λy=>im (gp rs y)⟩
def P5 (P:Program){as rs}:List (DTg as rs)->Prop
 |[]=>True
 |e::r=>aje P e/\P5 P r
def V7 {g}{x}(h:tU g x=true):∃caps,x=.func (.func g) #[] caps:=by
 unfold tU at h;split at h
 .simp_all
 .cases h
def V8 {cs}{x}{c}(hx:sB cs x h=some (c,h1)):h1=h/\Ng x=gp cs c:=by
 unfold sB at hx;split at hx
 .rename_i c' hc;cases hx;exact⟨rfl,xA hc⟩
 .cases hx
theorem ZI {as rs}:∀{l},P5 P l->∀x a,Ul P x (gp as a) ⟨aY rs,dsp l x a,λy=>im (gp rs y)⟩
 |[],_,x,a=>λh y h1 hx=>by simp[dsp,AS] at hx
 |e::r,hl,x,a=>by
  have one:∀(rest:M (aY rs)),(∀h y h1,rest h=some (y,h1)->∃g caps ca' y',x=.func (.func g) #[] caps/\iG P g (gp as a++caps.toList) ca'/\ca'.m h=some (y',h1)/\ca'.pk y'=im (gp rs y)) ->
    ∀h y h1,(zP (tU e.id x) (sh (sB e.cs x) λc=>e.m a c) rest) h=some (y,h1) ->
    ∃g caps ca' y',x=.func (.func g) #[] caps/\iG P g (gp as a++caps.toList) ca'/\ca'.m h=some (y',h1)/\ca'.pk y'=im (gp rs y):=by
   intro rest hrest h y h1 hx;unfold zP at hx;split at hx
   .rename_i hf;obtain⟨caps,rfl⟩:=V7 hf;simp[sh] at hx;split at hx
    .rename_i c h2 hc;obtain⟨e2,hcap⟩:=V8 hc;have hok:=hl.1 a c;rw[<-hcap] at hok;rw[e2] at hx;exact⟨_,caps,_,y,rfl,hok,hx,rfl⟩
    .cases hx
   .exact hrest h y h1 hx
  have ih:=ZI hl.2 x a;cases r with
  |nil=>exact one _ λh y h1 hx=>by simp[AS] at hx
  |cons f r=>exact one _ ih
def RX (P:Program)(e:tB):Prop:=∀x a,Ul P x (gp e.as a) ⟨aY e.rs,e.m x a,λy=>im (gp e.rs y)⟩
def sP (P:Program):List tB->Prop
 |[]=>True
 |e::r=>RX P e/\sP P r
def dA {e}{l}(hl:P5 P l)(he:∀x a,dsp l x a=e.m x a:=by intro x a;kernel_rfl):RX P e:=λx a=>by
 grind [ZI]
def P6:∀{l},sP P l->∀t x vs ca,T9 l t x vs=some ca->Ul P x vs ca
 |[],_,t,x,vs,ca,hx=>by cases hx
 |e::r,hl,t,x,vs,ca,hx=>by
  simp[T9] at hx;split at hx
  .split at hx
   .rename_i a hu;cases hx;rw[xA hu];exact hl.1 x a
   .cases hx
  .exact P6 hl.2 t x vs ca hx
def F9 (l:List cA)(ms:List FuncId):Prop:=∀f vs ca,ms.any (Nat.beq f)=true->H4 l f vs=some ca->GO ca.m
def F9.nil {l}:F9 l []:=λf vs ca h=>by cases h
def F9.one {e:cA}(h:∀x,GO (e.m x)){l}{g}(hg:∀vs ca,H4 l g vs=some ca->∃x,ca=⟨aY e.rs,e.m x,λy=>im (gp e.rs y)⟩):F9 l [g]:=λf vs ca h1 h2=>by
 simp only[List.any_cons,List.any_nil,aru] at h1
 grind [Nat.eq_of_beq_eq_true]
def JZ {g}{e}:∀{l},l.find? (λe=>Nat.beq g e.id)=some e->∀vs ca,H4 l g vs=some ca->∃x,ca=⟨aY e.rs,e.m x,λy=>im (gp e.rs y)⟩
 |[],h,vs,ca,hx=>by cases h
 |a::l,h,vs,ca,hx=>by
  rw[List.find?_cons] at h;unfold H4 at hx;cases hb:Nat.beq g a.id with
  |true=>
   rw[hb] at h hx;simp at h;subst h
   grind
  |false=>
   rw[hb] at h hx;exact JZ h vs ca hx
def P7 {l}{d}{ms}(h1:cS P l)(h2:sP P d)(h3:F9 l ms):E8 P (Pg l d ms):=⟨P3 h1,P6 h2,h3⟩
def Ic:∀(as:List Ty) i ls vs (vs':ν) t ,ls.map (·.1)=List.range' i as.length->vs.length=as.length ->
  (∀k v,vs[k]?=some v->∃v',t[i+k]?=some v'/\aO P ι v v')->np P ι (AP ls vs) t
 |as,i,[],vs,vs',t,_,_,_=>by intro j u hu;cases vs<;>cases hu
 |[],i,(a,b)::ls,vs,vs',t,hl,_,_=>by simp at hl
 |ty::as,i,(a,b)::ls,[],vs',t,_,hv,_=>by simp at hv
 |ty::as,i,(a,b)::ls,v::vs,vs',t,hl,hv,hr=>by
  rw[adZ,acg,aqn,List.cons.injEq] at hl;obtain⟨rfl,hl⟩:=hl;have ih:=Ic as (a+1) ls vs vs' t hl (by simpa using hv) λk u hu=>by
   have:=hr (k+1) u (by simpa using hu)
   grind
  intro j u hu;simp[AP,Env.set,bu] at hu;split at hu
  .rename_i e;subst e;cases hu;exact hr 0 v rfl
  .exact ih j u hu
def Ha (R:∀t a a',tC ι a a'->∀v h1,(O0 P t a).exec h=some (v,h1)->h1=h/\∃v',(loadVar t a').run P w=.ok v' w/\aO P ι v v'){E}{tm}(hE:np P ι E tm)
  {X} {K:ξ->M X} {r} {fin} :
  ∀rs acc ,(oI P rs E acc fin).run K h=some r->∃vs vs',aZ P ι vs vs'/\(fin (acc.reverse++vs)).run K h=some r /\
   (rs.mapM (λx:ResultVar=>(match x with
    |.tmp t=>Pure.pure (tm.getD t undef)
    |.cell a t=>do loadVar t (<-asAddr (tm.getD a undef)):Sem ξ))).run P w=.ok vs' w
 |[],acc,hx=>⟨[],[],.nil,by simpa[oI] using hx,by simp⟩
 |.tmp t::rs,acc,hx=>by
  simp[oI] at hx;split at hx
  .rename_i v hv;obtain⟨vs,vs',h1,h2,h3⟩:=Ha R hE rs _ hx;obtain⟨v',e1,e2⟩:=hE t v hv;refine⟨v::vs,v'::vs',.cons e2 h1,by simpa using h2,?_⟩
   simp_all
  .simp[Act.run,AS] at hx
 |.cell s t::rs,acc,hx=>by
  simp[oI] at hx;split at hx
  .rename_i a ha;obtain⟨p',e1,e2⟩:=hE s _ ha;cases e2 with
   |flat _ hf=>simp[dX] at hf
   |ptr _ a' har=>
   have go:∀A:Act,(∀v h1,A.exec h=some (v,h1)->h1=h/\∃v',(loadVar t a').run P w=.ok v' w/\aO P ι v v') ->
     (oI.resBind A λv=>oI P rs E (v::acc) fin).run K h=some r->∃v v',(loadVar t a').run P w=.ok v' w/\aO P ι v v'/\(oI P rs E (v::acc) fin).run K h=some r:=by
    intro A;have gen:∀(A:Act) (h2:aj),(oI.resBind A λv=>oI P rs E (v::acc) fin).run K h2=some r->∃v h3,A.exec h2=some (v,h3)/\(oI P rs E (v::acc) fin).run K h3=some r:=by
     intro A
     induction A with
     |val v=>intro h2 hx;exact⟨v,h2,rfl,hx⟩
     |none=>intro h2 hx;simp[oI.resBind,Act.run,AS] at hx
     |ask α m k ih=>
      intro h2 hx;simp[oI.resBind,Act.run,sh] at hx
      grind [Act.exec]
    grind
   have hx':(oI.resBind (O0 P t a) λv=>oI P rs E (v::acc) fin).run K h=some r:=by
    split at hx
    .rename_i v hv;rw[hv];exact hx
    .rename_i α m k hv;rw[hv];exact hx
    .rename_i hv;rw[hv];exact hx
   obtain⟨v,v',q1,q2,q3⟩:=go _ (R t a a' har) hx';obtain⟨vs,vs',h1,h2,h3⟩:=Ha R hE rs _ q3;refine⟨v::vs,v'::vs',.cons q2 h1,by simpa using h2,?_⟩;have:tm.getD s undef=.pointer (some a'):=by simp[anO,e1]
   have ha':asAddr (Value.pointer (some a'))=Pure.pure a':=rfl
   grind [Sem.run_bind,Sem.run_pure,Result.andThen_ok]
  .simp[Act.run,AS] at hx
def jl {f} {fn} (hf : P.funcs[f]? = some fn) (hb : fn.body.isNone = false) (hn : (fn.name == "runtime.NumGoroutine") = false) args w :
  (callFunc f args).run P w=.ok (.enter f args) w:=by
 simp at hn;simp[callFunc,hf,hb,hn]
 grind
def CS:∀ts x ,(gp ts x).length=ts.length
 |[],_=>rfl
 |[_],_=>rfl
 |t::t'::ts,x=>by simp[gp,CS (t'::ts) x.2]
def aZ.get? {vs vs'}(hl:aZ P ι vs vs'){k:Nat}{v}(hk:vs[k]?=some v):∃v',vs'[k]?=some v'/\aO P ι v v':=by
 have hlt:k<vs'.length:=by rw[<-hl.1];grind
 exact⟨vs'[k],adg hlt,hl.2 k v _ hk (adg hlt)⟩
theorem V9 {vs vs'}(hl:aZ P ι vs vs'):aO P ι (im vs) (if h:vs'.toArray.size=1 then vs'.toArray[0] else .tuple vs'.toArray):=by
 have hlen:vs.length=vs'.length:=hl.1
 match vs,vs',hl,hlen with
 |[v],[v'],hl,_=>
  obtain⟨v2,h1,h2⟩:=hl.get? (k:=0) rfl;cases h1;exact h2
 |[],[],hl,_=>exact .tuple _ _ rfl (by simp)
 |a::b::r,a'::b'::r',hl,hlen=>
  simp only[im];rw[dif_neg (by simp)];refine .tuple _ _ (by simpa using hlen) λi v v' h1 h2=>?_;obtain⟨u,h3,h4⟩:=hl.get? (by simpa using h1)
  grind
def ZJ {F}{ts}{fn}{E'}{h'}{y}{a':Go.Act}(R':Rel P F ι' h' w')(HE':np P ι' E' a'.tmps)
  (hx:(oI P fn.results.toList E' [] λvs=>.val (im vs)).run (aec ts) h'=some (y,h1)) :
  ∃v,(results fn a'.tmps).run P w'=.ok v w'/\aO P ι' (im (gp ts y)) v/\Rel P F ι' h1 w':=by
 obtain⟨vs,vs2,q1,q2,q3⟩:=Ha (λt a a' ha v h1 he=>Mt R' ha he) HE' fn.results.toList [] hx;simp[List.reverse_nil,aiO,Act.run,aec] at q2;generalize hu:unR ts (im vs)=u at q2;cases u with
 |none=>simp[AS] at q2
 |some r=>
  simp only[AI] at q2;cases q2;refine⟨(if h:vs2.toArray.size=1 then vs2.toArray[0] else .tuple vs2.toArray),?_,?_,R'⟩
  .unfold results;rw[Sem.run_bind,<-aqr (xs:=fn.results),List.mapM_toArray,Sem.run_map]
   erw [q3]
   rfl
  grind [ajd,V9]
def ZK {as}{nt:Nat}{ps}{F} x vs' (hps:ps.map (·.1)=List.range' 0 as.length)(hnt:Nat.ble as.length nt=true)(R:Rel P F ι h w)(hl:aZ P ι (gp as x) vs'.toList) :
  Start P { F with Rj:=[] } ι (nt,none) (AP ps (gp as x)) h { tmps:=vs'++Array.replicate (nt-vs'.size) undef,defers:=[] } w:=by
 have hlen:=hl.1;rw[CS] at hlen;have hsz:vs'.size=as.length:=by simpa using hlen.symm
 have hle:=ai1 hnt;refine⟨R.df [],?_,rfl,?_⟩
 .refine Ic as 0 ps _ vs' _ hps (CS _ _) λk v hk=>?_;obtain⟨v',h1,h2⟩:=hl.get? hk
  grind
 .simp;omega
def an6 {e} {fn} {c} {T} {N} {ps} (hf : P.funcs[e.id]? = some fn) (hb : fn.body = some c) (hn : (fn.name == "runtime.NumGoroutine") = false)
  (hps:ps.map (·.1)=List.range' 0 e.as.length) (hnt:Nat.ble e.as.length fn.ntmps=true) (HT:A7 P c T (fn.ntmps,none) (Zh P fn e.rs))
  (hg:∀x,den P c T (fn.ntmps,none) (Zh P fn e.rs) N false [.code []] (AP ps (gp e.as x))=e.m x):aC P e:=by
 intro x;refine iG.of (λargs w=>jl hf (by rw[hb];rfl) hn args w) ?_;intro F h y h1 hx ι w vs' R hl;refine calls_of_wp hf hb ?_;have S:=ZK x vs' hps hnt R hl;rw[<-hg x] at hx;intro b k cs;obtain⟨e2,a',w',hpost,harr⟩:=yc HT N false [.code []] _ _ ι h (y,h1) _ w S hx b k cs;refine⟨e2,a',w',?_,harr⟩;obtain⟨ae,heq,ι',E',h',hle',hfin,R',HE',hd,hs,hfr⟩:=hpost;have done:(oI P fn.results.toList E' [] λvs=>.val (im vs)).run (aec e.rs) h'=some (y,h1) ->
   a'.defers=[]/\∃v,(results fn a'.tmps).run P w'=.ok v w'/\∃v' ι',Ending.returned v=.returned v'/\aO P ι' (im (gp e.rs y)) v'/\Rel P F ι' h1 w'/\ι.le ι':=λhx=>
  let ⟨v,q1,q2,q3⟩:=ZJ R' HE' hx
  ⟨hd,v,q1,v,ι',rfl,q2,q3.df F.Rj,hle'⟩
 unfold Zh at hfin;cases ae with
 |exit id=>simp[AS] at hfin
 |normal=>
  cases e2 with
  |normal=>exact done hfin
  |_=>exact heq.elim
 |ret=>
  cases e2 with
  |ret=>exact done hfin
  |_=>exact heq.elim
end Go.Ago
