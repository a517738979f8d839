
import Derived.Test.YtengdffgmpghgaaGreatDoorAgoG
import Derived.LoopN
set_option linter.all false
namespace Go.Ago
open Go
variable {P:Program}{ι ι':eg}{h h' h1:ab}{w w':World}
theorem sN:∀{ts:List Ty} {vs:δ} {x:aH ts},wa ts vs=some x->vs=eE ts x
 |[],[],_,_=>rfl
 |[],_::_,_,hx=>by cases hx
 |[t],[],_,hx=>by cases hx
 |[t],[v],x,hx=>by rw[eE,<-Pc (t:=t) (x:=x) hx]
 |[t],_::_::_,_,hx=>by cases hx
 |t::t'::ts,[],_,hx=>by cases hx
 |t::t'::ts,v::vs,x,hx=>by
  simp only[wa] at hx;split at hx
  .rename_i a b ha hb;cases hx;rw[eE,<-Pc ha,<-sN hb]
  .cases hx
theorem afn {ts:List Ty}{v:ξ}{x:aH ts}(hx:unR ts v=some x):v=fO (eE ts x):=by
 match ts,x,hx with
 |[],x,hx=>
  simp only[unR] at hx;cases v<;>simp only at hx<;>try cases hx
  rename_i vs _;rw[<-sN hx];cases hv:vs.toList with
  |nil=>simp[fO,<-hv]
  |cons a l=>rw[hv] at hx;cases hx
 |[t],x,hx=>rw[eE];exact Pc hx
 |t::t'::ts,x,hx=>
  simp only[unR] at hx;split at hx
  .rename_i vs;have:=sN hx;rw[eE,fO]
   .rw[eE] at this;rw[<-this]
   .intro v e;have h2:(eE (t'::ts) x.2)=[]:=(by simpa using ahv List.tail e);cases ts<;>simp[eE] at h2
  .cases hx
theorem Np:∀{E:Env} {ls:List (Nat×Ty)} {vs:δ},rv E ls=some vs->∀j u,tB ls vs j=some u->E j=some u
 |E,[],vs,_,j,u,hu=>by cases vs<;>cases hu
 |E,(i,t)::ls,vs,hg,j,u,hu=>by
  simp only[rv] at hg;split at hg
  .rename_i v vs' hv hvs;cases hg;simp only[tB,Env.set,cK] at hu;split at hu
   .rename_i e;subst e;cases hu;exact hv
   .exact Np hvs j u hu
  .cases hg
theorem wS {E:Env}{ls:List (Nat×Ty)}{vs:δ}{t:ν}(hg:rv E ls=some vs)(hE:jW P ι E t):jW P ι (tB ls vs) t:=
 λj u hu=>hE j u (Np hg j u hu)
theorem IM:∀{E E0:Env} {ms:List (Nat×Ty)} {vs:δ},rv E ms=some vs->∀j u,aak E0 ms vs j=some u ->
  E j=some u\/(E0 j=some u/\ms.any (λx=>Nat.beq j x.1)=false)
 |E,E0,[],vs,_,j,u,hu=>.inr ⟨by cases vs<;>exact hu,rfl⟩
 |E,E0,(i,t)::ms,vs,hg,j,u,hu=>by
  simp only[rv] at hg;split at hg
  .rename_i v vs' hv hvs;cases hg;simp only[aak,Env.set,cK] at hu;split at hu
   .rename_i e;subst e;cases hu;exact .inl hv
   .rename_i e;rcases IM hvs j u hu with h1|⟨h1,h2⟩
    .exact .inl h1
    .refine .inr ⟨h1,?_⟩;rw[ak5,h2,aky]
     grind [absurd,Nat.eq_of_beq_eq_true]
  .cases hg
def aF (P:Program)(e:aS):Prop:=∀x,gM P e.id (eE e.as x) ⟨aH e.rs,e.m x,λy=>fO (eE e.rs y)⟩
def aC (P:Program):List aS->Prop
 |[]=>True
 |e::r=>aF P e/\aC P r
theorem Nq:∀{l:List aS},aC P l->∀f vs ca,Eh l f vs=some ca->gM P f vs ca
 |[],_,f,vs,ca,hx=>by cases hx
 |e::r,hl,f,vs,ca,hx=>by
  simp only[Eh] at hx;split at hx
  .rename_i hb;have:=IS hb;subst this;split at hx
   .rename_i x hu;cases hx;rw[sN hu];exact hl.1 x
   .cases hx
  .exact Nq hl.2 f vs ca hx
theorem aL {f:FuncId}{vs vs':δ}{ca:uf}(e:vs=vs')(hc:gM P f vs ca):gM P f vs' ca:=e▸hc
def ah9 (P:Program){as rs:List Ty}(e:DTg as rs):Prop:=∀a c,gM P e.id (eE as a++eE e.cs c) ⟨aH rs,e.m a c,λy=>fO (eE rs y)⟩
def Nr (P:Program){as rs:List Ty}:List (DTg as rs)->Prop
 |[]=>True
 |e::r=>ah9 P e/\Nr P r
theorem TG {g:FuncId}{x:ξ}(h:pG g x=true):∃caps,x=.func (.func g) #[] caps:=by
 unfold pG at h;split at h
 .simp_all
 .cases h
theorem TH {cs:List Ty}{x:ξ}{c:aH cs}(hx:nU cs x h=some (c,h1)):h1=h/\Jd x=eE cs c:=by
 unfold nU at hx;split at hx
 .rename_i c' hc;cases hx;exact⟨rfl,sN hc⟩
 .cases hx
theorem WI {as rs:List Ty}:∀{l:List (DTg as rs)},Nr P l->∀x a,RA P x (eE as a) ⟨aH rs,dsp l x a,λy=>fO (eE rs y)⟩
 |[],_,x,a=>λh y h1 hx=>by simp[dsp,AS] at hx
 |e::r,hl,x,a=>by
  have one:∀(rest:M (aH rs)),(∀h y h1,rest h=some (y,h1)->∃g caps ca' y',x=.func (.func g) #[] caps/\gM P g (eE as a++caps.toList) ca'/\ca'.m h=some (y',h1)/\ca'.pk y'=fO (eE rs y)) ->
    ∀h y h1,(wc (pG e.id x) (sh (nU e.cs x) λc=>e.m a c) rest) h=some (y,h1) ->
    ∃g caps ca' y',x=.func (.func g) #[] caps/\gM P g (eE as a++caps.toList) ca'/\ca'.m h=some (y',h1)/\ca'.pk y'=fO (eE rs y):=by
   intro rest hrest h y h1 hx;unfold wc at hx;split at hx
   .rename_i hf;obtain⟨caps,rfl⟩:=TG hf;simp only[sh] at hx;split at hx
    .rename_i c h2 hc;obtain⟨e2,hcap⟩:=TH hc;have hok:=hl.1 a c;rw[<-hcap] at hok;rw[e2] at hx;exact⟨_,caps,_,y,rfl,hok,hx,rfl⟩
    .cases hx
   .exact hrest h y h1 hx
  have ih:=WI hl.2 x a;cases r with
  |nil=>exact one _ λh y h1 hx=>by simp[AS] at hx
  |cons f r=>exact one _ ih
def Pv (P:Program)(e:jV):Prop:=∀x a,RA P x (eE e.as a) ⟨aH e.rs,e.m x a,λy=>fO (eE e.rs y)⟩
def qc (P:Program):List jV->Prop
 |[]=>True
 |e::r=>Pv P e/\qc P r
theorem dB {e:jV}{l:List (DTg e.as e.rs)}(hl:Nr P l)(he:∀x a,dsp l x a=e.m x a):Pv P e:=λx a=>by
 rw[<-he];exact WI hl x a
theorem Ns:∀{l:List jV},qc P l->∀t x vs ca,Ro l t x vs=some ca->RA P x vs ca
 |[],_,t,x,vs,ca,hx=>by cases hx
 |e::r,hl,t,x,vs,ca,hx=>by
  simp only[Ro] at hx;split at hx
  .split at hx
   .rename_i a hu;cases hx;rw[sN hu];exact hl.1 x a
   .cases hx
  .exact Ns hl.2 t x vs ca hx
def Ep (l:List aS)(ms:List FuncId):Prop:=∀f vs ca,ms.any (Nat.beq f)=true->Eh l f vs=some ca->MoM ca.m
theorem Ep.nil {l:List aS}:Ep l []:=λf vs ca h=>by cases h
theorem Ep.one {e:aS}(h:∀x,MoM (e.m x)){l:List aS}{g:FuncId}(hg:∀vs ca,Eh l g vs=some ca->∃x,ca=⟨aH e.rs,e.m x,λy=>fO (eE e.rs y)⟩):Ep l [g]:=λf vs ca h1 h2=>by
 simp only[ak5,List.any_nil,aky] at h1
 grind [Nat.eq_of_beq_eq_true]
def adl (P:Program)(e:xp):Prop:=∀x,Js P e.id (eE e.as x) ⟨aH e.rs,e.m x,λy=>fO (eE e.rs y)⟩
def H5 (P:Program):List xp->Prop
 |[]=>True
 |e::r=>adl P e/\H5 P r
theorem Nt:∀{l:List xp},H5 P l->∀f vs ca,IA l f vs=some ca->Js P f vs ca
 |[],_,f,vs,ca,hx=>by cases hx
 |e::r,hl,f,vs,ca,hx=>by
  simp only[IA] at hx;split at hx
  .rename_i hb;have:=IS hb;subst this;split at hx
   .rename_i x hu;cases hx;rw[sN hu];exact hl.1 x
   .cases hx
  .exact Nt hl.2 f vs ca hx
theorem Nu:∀{l:List xp} {f vs ca},IA l f vs=some ca->(l.any λe=>Nat.beq f e.id)=true
 |[],f,vs,ca,hx=>by cases hx
 |e::r,f,vs,ca,hx=>by
  simp only[IA] at hx;rw[ak5];split at hx
  .rename_i hb;rw[hb];rfl
  .rw[Nu hx];simp
def Pw (l:List aS)(ps:List xp):Bool:=l.all λe=>!(ps.any λp=>Nat.beq e.id p.id)
theorem RD {ps:List xp}{f:FuncId}{vs:δ}:∀{l:List aS},Pw l ps=true->(ps.any λp=>Nat.beq f p.id)=true->Eh l f vs=none
 |[],_,_=>rfl
 |e::l,h,hf=>by
  unfold Pw at h;rw[akA,aag] at h;simp only[Eh];split
  .grind [Nat.eq_of_beq_eq_true]
  .exact RD (l:=l) h.2 hf
theorem Nv {l:List aS}{d:List jV}{ms:List FuncId}{ps:List xp}(h1:aC P l)(h2:qc P d)(h3:Ep l ms)(h4:H5 P ps)(h5:Pw l ps=true):Bf P (rM l d ms ps):=⟨Nq h1,Ns h2,h3,Nt h4,λ_ _ _ h=>Nu h,λ_ _ h=>RD h5 h⟩
theorem Er:∀(as:List Ty) (i:Nat) (ls:List (Nat×Ty)) (vs:δ) (vs':ν) (t:ν),ls.map (·.1)=List.range' i as.length->vs.length=as.length ->
  (∀k v,vs[k]?=some v->∃v',t[i+k]?=some v'/\aN P ι v v')->jW P ι (tB ls vs) t
 |as,i,[],vs,vs',t,_,_,_=>by intro j u hu;cases vs<;>cases hu
 |[],i,(a,b)::ls,vs,vs',t,hl,_,_=>by simp at hl
 |ty::as,i,(a,b)::ls,[],vs',t,_,hv,_=>by simp at hv
 |ty::as,i,(a,b)::ls,v::vs,vs',t,hl,hv,hr=>by
  rw[adq,aac,aj7,acY] at hl;obtain⟨rfl,hl⟩:=hl;have ih:=Er as (a+1) ls vs vs' t hl (by simpa using hv) λk u hu=>by
   have:=hr (k+1) u (by simpa using hu);rw[show a+1+k=a+(k+1) by omega];exact this
  intro j u hu;simp only[tB,Env.set,cK] at hu;split at hu
  .rename_i e;subst e;cases hu;exact hr 0 v rfl
  .exact ih j u hu
theorem Dn (R:∀t a a',pH ι a a'->∀v h1,(HS P t a).exec h=some (v,h1)->h1=h/\∃v',(loadVar t a').run P w=.ok v' w/\aN P ι v v'){E:Env}{tm:ν}(hE:jW P ι E tm)
  {X:Type} {K:ξ->M X} {r:X×ab} {fin:δ->Act} :
  ∀(rs:List ResultVar) (acc:δ),(lu P rs E acc fin).run K h=some r->∃vs vs',bg P ι vs vs'/\(fin (acc.reverse++vs)).run K h=some r /\
   (rs.mapM (λx:ResultVar=>(match x with
    |.tmp t=>Pure.pure (tm.getD t undef)
    |.cell a t=>do loadVar t (<-asAddr (tm.getD a undef)):Sem ξ))).run P w=.ok vs' w
 |[],acc,hx=>⟨[],[],.nil,by simpa[lu] using hx,by simp⟩
 |.tmp t::rs,acc,hx=>by
  simp only[lu] at hx;split at hx
  .rename_i v hv;obtain⟨vs,vs',h1,h2,h3⟩:=Dn R hE rs _ hx;obtain⟨v',e1,e2⟩:=hE t v hv;refine⟨v::vs,v'::vs',.cons e2 h1,by simpa using h2,?_⟩
   simp_all
  .simp[Act.run,AS] at hx
 |.cell s t::rs,acc,hx=>by
  simp only[lu] at hx;split at hx
  .rename_i a ha;obtain⟨p',e1,e2⟩:=hE s _ ha;cases e2 with
   |flat _ hf=>simp[dz] at hf
   |ptr _ a' har=>
   have go:∀A:Act,(∀v h1,A.exec h=some (v,h1)->h1=h/\∃v',(loadVar t a').run P w=.ok v' w/\aN P ι v v') ->
     (lu.resBind A λv=>lu P rs E (v::acc) fin).run K h=some r->∃v v',(loadVar t a').run P w=.ok v' w/\aN P ι v v'/\(lu P rs E (v::acc) fin).run K h=some r:=by
    intro A;have gen:∀(A:Act) (h2:ab),(lu.resBind A λv=>lu P rs E (v::acc) fin).run K h2=some r->∃v h3,A.exec h2=some (v,h3)/\(lu P rs E (v::acc) fin).run K h3=some r:=by
     intro A
     induction A with
     |val v=>intro h2 hx;exact⟨v,h2,rfl,hx⟩
     |none=>intro h2 hx;simp[lu.resBind,Act.run,AS] at hx
     |ask α m k ih=>
      intro h2 hx;simp only[lu.resBind,Act.run,sh] at hx
      grind [Act.exec]
    grind
   have hx':(lu.resBind (HS P t a) λv=>lu P rs E (v::acc) fin).run K h=some r:=by
    split at hx
    .rename_i v hv;rw[hv];exact hx
    .rename_i α m k hv;rw[hv];exact hx
    .rename_i hv;rw[hv];exact hx
   obtain⟨v,v',q1,q2,q3⟩:=go _ (R t a a' har) hx';obtain⟨vs,vs',h1,h2,h3⟩:=Dn R hE rs _ q3;refine⟨v::vs,v'::vs',.cons q2 h1,by simpa using h2,?_⟩;have:tm.getD s undef=.pointer (some a'):=by simp[ahH,e1]
   have ha':asAddr (Value.pointer (some a'))=Pure.pure a':=rfl
   grind [Sem.run_bind,Sem.run_pure,Result.andThen_ok]
  .simp[Act.run,AS] at hx
theorem ia {f : FuncId} {fn : Func} (hf : P.funcs[f]? = some fn) (hb : fn.body.isNone = false) (hn : (fn.name == "runtime.NumGoroutine") = false) (args : ν) (w : World) :
  (callFunc f args).run P w=.ok (.enter f args) w:=by
 simp only[beq_eq_false_iff_ne,ne_eq] at hn;simp[callFunc,hf,hb,hn];intro h;rw[h] at hb;cases hb
theorem ze:∀(ts:List Ty) (x:aH ts),(eE ts x).length=ts.length
 |[],_=>rfl
 |[_],_=>rfl
 |t::t'::ts,x=>by simp[eE,ze (t'::ts) x.2]
theorem bg.get? {vs vs':δ}(hl:bg P ι vs vs'){k:Nat}{v:ξ}(hk:vs[k]?=some v):∃v',vs'[k]?=some v'/\aN P ι v v':=by
 have hlt:k<vs'.length:=by rw[<-hl.1];exact (List.getElem?_eq_some_iff.1 hk).1
 exact⟨vs'[k],aah hlt,hl.2 k v _ hk (aah hlt)⟩
theorem TK {vs vs':δ}(hl:bg P ι vs vs'):aN P ι (fO vs) (if h:vs'.toArray.size=1 then vs'.toArray[0] else .tuple vs'.toArray):=by
 have hlen:vs.length=vs'.length:=hl.1
 match vs,vs',hl,hlen with
 |[v],[v'],hl,_=>
  obtain⟨v2,h1,h2⟩:=hl.get? (k:=0) (v:=v) rfl;cases h1;exact h2
 |[],[],hl,_=>exact .tuple _ _ rfl (by simp)
 |a::b::r,a'::b'::r',hl,hlen=>
  simp only[fO];rw[dif_neg (by simp)];refine .tuple _ _ (by simpa using hlen) λi v v' h1 h2=>?_;obtain⟨u,h3,h4⟩:=hl.get? (k:=i) (v:=v) (by simpa using h1)
  grind
theorem WJ {F:Fz}{ts:List Ty}{fn:Func}{E':Env}{h':ab}{y:aH ts}{a':Go.Act}(R':Rel P F ι' h' w')(HE':jW P ι' E' a'.tmps)
  (hx:(lu P fn.results.toList E' [] λvs=>.val (fO vs)).run (aar ts) h'=some (y,h1)) :
  ∃v,(results fn a'.tmps).run P w'=.ok v w'/\aN P ι' (fO (eE ts y)) v/\Rel P F ι' h1 w':=by
 obtain⟨vs,vs2,q1,q2,q3⟩:=Dn (λt a a' ha v h1 he=>IC R' ha he) HE' fn.results.toList [] hx;simp only[List.reverse_nil,acB,Act.run,aar] at q2;generalize hu:unR ts (fO vs)=u at q2;cases u with
 |none=>simp[AS] at q2
 |some r=>
  simp only[AI] at q2;cases q2;refine⟨(if h:vs2.toArray.size=1 then vs2.toArray[0] else .tuple vs2.toArray),?_,?_,R'⟩
  .unfold results;rw[Sem.run_bind,<-ajt (xs:=fn.results),List.mapM_toArray,Sem.run_map]
   erw [q3]
   rfl
  grind [afn,TK]
theorem WK {as:List Ty}{nt:Nat}{ps:List (Nat×Ty)}{F:Fz}(x:aH as)(vs':ν)(hps:ps.map (·.1)=List.range' 0 as.length)(hnt:Nat.ble as.length nt=true)(R:Rel P F ι h w)(hl:bg P ι (eE as x) vs'.toList) :
  Start P { F with MI:=[] } ι (nt,none) (tB ps (eE as x)) h { tmps:=vs'++Array.replicate (nt-vs'.size) undef,defers:=[] } w:=by
 have hlen:=hl.1;rw[ze] at hlen;have hsz:vs'.size=as.length:=by simpa using hlen.symm
 have hle:=ae6 hnt;refine⟨R.df [],?_,rfl,?_⟩
 .refine Er as 0 ps _ vs' _ hps (ze _ _) λk v hk=>?_;obtain⟨v',h1,h2⟩:=hl.get? hk
  grind
 .simp;omega
theorem aia {e : aS} {fn : Func} {c : Code} {T : MG (aH e.rs)} {N : Nat} {ps : List (Nat × Ty)} (hf : P.funcs[e.id]? = some fn) (hb : fn.body = some c) (hn : (fn.name == "runtime.NumGoroutine") = false)
  (hps:ps.map (·.1)=List.range' 0 e.as.length) (hnt:Nat.ble e.as.length fn.ntmps=true) (HT:xB P c T (fn.ntmps,none) (O2 P fn e.rs)) (hp:T.tY=λ_=>AS)
  (hg:∀x,den P c T (fn.ntmps,none) (O2 P fn e.rs) N false [.code []] (tB ps (eE e.as x))=e.m x):aF P e:=by
 intro x;refine gM.of (λargs w=>ia hf (by rw[hb];rfl) hn args w) ?_;intro F h y h1 hx ι w vs' R hl;refine calls_of_wp hf hb ?_;have S:=WK (nt:=fn.ntmps) x vs' hps hnt R hl;rw[<-hg x] at hx;intro b k cs;obtain⟨e2,a',w',hpost,harr⟩:=uG HT N false [.code []] _ _ ι h (y,h1) _ w S hx b k cs;refine⟨e2,a',w',?_,harr⟩;rcases hpost with hpost|hpan
 .obtain⟨ae,heq,ι',E',h',hle',hfin,R',HE',hd,hs,hfr⟩:=hpost;have done:(lu P fn.results.toList E' [] λvs=>.val (fO vs)).run (aar e.rs) h'=some (y,h1) ->
    a'.defers=[]/\∃v,(results fn a'.tmps).run P w'=.ok v w'/\∃v' ι',Ending.returned v=.returned v'/\aN P ι' (fO (eE e.rs y)) v'/\Rel P F ι' h1 w'/\ι.le ι':=λhx=>
   let ⟨v,q1,q2,q3⟩:=WJ R' HE' hx
   ⟨hd,v,q1,v,ι',rfl,q2,q3.df F.MI,hle'⟩
  unfold O2 at hfin;cases ae with
  |exit id=>simp[AS] at hfin
  |normal=>
   cases e2 with
   |normal=>exact done hfin
   |_=>exact heq.elim
  |ret=>
   cases e2 with
   |ret=>exact done hfin
   |_=>exact heq.elim
 .obtain⟨ι2,v,v',h,q1,q2,q3,_⟩:=hpan;rw[hp] at q3;simp[AS] at q3
end Go.Ago
