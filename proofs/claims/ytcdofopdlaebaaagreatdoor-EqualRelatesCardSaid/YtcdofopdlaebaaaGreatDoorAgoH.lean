
import Derived.Test.YtcdofopdlaebaaaGreatDoorAgoG
import Derived.LoopN
namespace Go.Ago
open Go
variable {P:Program}{ι ι':fM}{h h' h1:af}{w w':World}
theorem MK:∀{l:eF} {v:Value} {x:l.den},yI l v=some x->v=FP l x:=by
 intro l v x hx;cases l with
 |int k=>cases k<;>cases v<;>simp only[yI] at hx<;>first|cases hx|(rename_i k n;cases k<;>simp only at hx<;>cases hx<;>rfl)
 |raw=>simp only[yI] at hx;cases hx;rfl
 |ak=>exact pC hx
 |f64=>exact pC hx
 |_=>cases v<;>simp only[yI] at hx<;>first|(cases hx;rfl)|cases hx
theorem O3:∀{ls:List eF} {vs:List Value} {x:bN ls},vF ls vs=some x->vs=FQ ls x
 |[],[],_,_=>rfl
 |[],_::_,_,hx=>by cases hx
 |[l],[],_,hx=>by cases hx
 |[l],[v],x,hx=>by rw[FQ,<-MK (l:=l) (x:=x) hx]
 |[l],_::_::_,_,hx=>by cases hx
 |l::l'::ls,[],_,hx=>by cases hx
 |l::l'::ls,v::vs,x,hx=>by
  simp only[vF] at hx;split at hx
  .rename_i a b ha hb;cases hx;rw[FQ,<-MK ha,<-O3 hb]
  .cases hx
theorem MM {t:Ty}{v:Value}{x:t.den}(hx:JQ t v=some x):v=Cg t x:=by
 cases t with
 |one l=>exact MK hx
 |agg ls=>
  cases v<;>simp only[JQ] at hx<;>try cases hx
  rename_i cs;rw[Cg,<-O3 hx]
theorem rI:∀{ts:List Ty} {vs:List Value} {x:aM ts},uO ts vs=some x->vs=fb ts x
 |[],[],_,_=>rfl
 |[],_::_,_,hx=>by cases hx
 |[t],[],_,hx=>by cases hx
 |[t],[v],x,hx=>by rw[fb,<-MM (t:=t) (x:=x) hx]
 |[t],_::_::_,_,hx=>by cases hx
 |t::t'::ts,[],_,hx=>by cases hx
 |t::t'::ts,v::vs,x,hx=>by
  simp only[uO] at hx;split at hx
  .rename_i a b ha hb;cases hx;rw[fb,<-MM ha,<-rI hb]
  .cases hx
theorem abe {ts:List Ty}{v:Value}{x:aM ts}(hx:unR ts v=some x):v=fW (fb ts x):=by
 match ts,x,hx with
 |[],x,hx=>
  simp only[unR] at hx;cases v<;>simp only at hx<;>try cases hx
  rename_i vs _;rw[<-rI hx];cases hv:vs.toList with
  |nil=>simp[fW,<-hv]
  |cons a l=>rw[hv] at hx;cases hx
 |[t],x,hx=>rw[fb];exact MM hx
 |t::t'::ts,x,hx=>
  simp only[unR] at hx;split at hx
  .rename_i vs;have:=rI hx;rw[fb,fW]
   .rw[fb] at this;rw[<-this]
   .intro v e;have h2:(fb (t'::ts) x.2)=[]:=(by simpa using congrArg List.tail e);cases ts<;>simp[fb] at h2
  .cases hx
theorem KM:∀{E:Env} {ls:List (Nat×Ty)} {vs:List Value},qv E ls=some vs->∀j u,sr ls vs j=some u->E j=some u
 |E,[],vs,_,j,u,hu=>by cases vs<;>cases hu
 |E,(i,t)::ls,vs,hg,j,u,hu=>by
  simp only[qv] at hg;split at hg
  .rename_i v vs' hv hvs;cases hg;simp only[sr,Env.set,cQ] at hu;split at hu
   .rename_i e;subst e;cases hu;exact hv
   .exact KM hvs j u hu
  .cases hg
theorem vl {E:Env}{ls:List (Nat×Ty)}{vs:List Value}{t:Array Value}(hg:qv E ls=some vs)(hE:iN P ι E t):iN P ι (sr ls vs) t:=
 λj u hu=>hE j u (KM hg j u hu)
theorem GS:∀{E E0:Env} {ms:List (Nat×Ty)} {vs:List Value},qv E ms=some vs->∀j u,Xi E0 ms vs j=some u ->
  E j=some u\/(E0 j=some u/\ms.any (λx=>Nat.beq j x.1)=false)
 |E,E0,[],vs,_,j,u,hu=>.inr ⟨by cases vs<;>exact hu,rfl⟩
 |E,E0,(i,t)::ms,vs,hg,j,u,hu=>by
  simp only[qv] at hg;split at hg
  .rename_i v vs' hv hvs;cases hg;simp only[Xi,Env.set,cQ] at hu;split at hu
   .rename_i e;subst e;cases hu;exact .inl hv
   .rename_i e;rcases GS hvs j u hu with h1|⟨h1,h2⟩
    .exact .inl h1
    .refine .inr ⟨h1,?_⟩;rw[ahd,h2,agQ];cases hb:Nat.beq j i with
     |true=>exact absurd (BY hb) e
     |false=>rfl
  .cases hg
def aP (P:Program)(e:bz):Prop:=∀x,gF P e.id (fb e.as x) ⟨aM e.rs,e.m x,λy=>fW (fb e.rs y)⟩
def aJ (P:Program):List bz->Prop
 |[]=>True
 |e::r=>aP P e/\aJ P r
theorem KP:∀{l:List bz},aJ P l->∀f vs ca,Cn l f vs=some ca->gF P f vs ca
 |[],_,f,vs,ca,hx=>by cases hx
 |e::r,hl,f,vs,ca,hx=>by
  simp only[Cn] at hx;split at hx
  .rename_i hb;have:=BY hb;subst this;split at hx
   .rename_i x hu;cases hx;rw[rI hu];exact hl.1 x
   .cases hx
  .exact KP hl.2 f vs ca hx
theorem aT {f:FuncId}{vs vs':List Value}{ca:oK}(e:vs=vs')(hc:gF P f vs ca):gF P f vs' ca:=e▸hc
def adZ (P:Program){as rs:List Ty}(e:Zy as rs):Prop:=∀a c,gF P e.id (fb as a++fb e.cs c) ⟨aM rs,e.m a c,λy=>fW (fb rs y)⟩
def KQ (P:Program){as rs:List Ty}:List (Zy as rs)->Prop
 |[]=>True
 |e::r=>adZ P e/\KQ P r
theorem QX {g:FuncId}{x:Value}(h:qw g x=true):∃caps,x=.func (.func g) #[] caps:=by
 unfold qw at h;split at h
 .rename_i f first caps
  rw[IT] at h;have h1:=BY h.1;have h2:first=#[]:=by simpa using h.2
  subst h1;subst h2;exact⟨caps,rfl⟩
 .cases h
theorem QY {cs:List Ty}{x:Value}{c:aM cs}(hx:oX cs x h=some (c,h1)):h1=h/\Hh x=fb cs c:=by
 unfold oX at hx;split at hx
 .rename_i c' hc;cases hx;exact⟨rfl,rI hc⟩
 .cases hx
theorem TM {as rs:List Ty}:∀{l:List (Zy as rs)},KQ P l->∀x a,OY P x (fb as a) ⟨aM rs,dsp l x a,λy=>fW (fb rs y)⟩
 |[],_,x,a=>λh y h1 hx=>by simp[dsp,AS] at hx
 |e::r,hl,x,a=>by
  have one:∀(rest:M (aM rs)),(∀h y h1,rest h=some (y,h1)->∃g caps ca' y',x=.func (.func g) #[] caps/\gF P g (fb as a++caps.toList) ca'/\ca'.m h=some (y',h1)/\ca'.pk y'=fW (fb rs y)) ->
    ∀h y h1,(lG (qw e.id x) (sh (oX e.cs x) λc=>e.m a c) rest) h=some (y,h1) ->
    ∃g caps ca' y',x=.func (.func g) #[] caps/\gF P g (fb as a++caps.toList) ca'/\ca'.m h=some (y',h1)/\ca'.pk y'=fW (fb rs y):=by
   intro rest hrest h y h1 hx;unfold lG at hx;split at hx
   .rename_i hf;obtain⟨caps,rfl⟩:=QX hf;simp only[sh] at hx;split at hx
    .rename_i c h2 hc;obtain⟨e2,hcap⟩:=QY hc;have hok:=hl.1 a c;rw[<-hcap] at hok;rw[e2] at hx;exact⟨_,caps,_,y,rfl,hok,hx,rfl⟩
    .cases hx
   .exact hrest h y h1 hx
  have ih:=TM hl.2 x a;cases r with
  |nil=>exact one _ λh y h1 hx=>by simp[AS] at hx
  |cons f r=>exact one _ ih
def MN (P:Program)(e:jx):Prop:=∀x a,OY P x (fb e.as a) ⟨aM e.rs,e.m x a,λy=>fW (fb e.rs y)⟩
def oY (P:Program):List jx->Prop
 |[]=>True
 |e::r=>MN P e/\oY P r
theorem dq {e:jx}{l:List (Zy e.as e.rs)}(hl:KQ P l)(he:∀x a,dsp l x a=e.m x a):MN P e:=λx a=>by
 rw[<-he];exact TM hl x a
theorem KS:∀{l:List jx},oY P l->∀t x vs ca,ON l t x vs=some ca->OY P x vs ca
 |[],_,t,x,vs,ca,hx=>by cases hx
 |e::r,hl,t,x,vs,ca,hx=>by
  simp only[ON] at hx;split at hx
  .split at hx
   .rename_i a hu;cases hx;rw[rI hu];exact hl.1 x a
   .cases hx
  .exact KS hl.2 t x vs ca hx
def Cy (l:List bz)(ms:List FuncId):Prop:=∀f vs ca,ms.any (Nat.beq f)=true->Cn l f vs=some ca->FT ca.m
theorem Cy.nil {l:List bz}:Cy l []:=λf vs ca h=>by cases h
theorem Cy.one {e:bz}(h:∀x,FT (e.m x)){l:List bz}{g:FuncId}(hg:∀vs ca,Cn l g vs=some ca->∃x,ca=⟨aM e.rs,e.m x,λy=>fW (fb e.rs y)⟩):Cy l [g]:=λf vs ca h1 h2=>by
 simp only[ahd,List.any_nil,agQ] at h1;rw[BY h1] at h2;obtain⟨x,rfl⟩:=hg vs ca h2;exact h x
def ZA (P:Program)(e:vK):Prop:=∀x,HC P e.id (fb e.as x) ⟨aM e.rs,e.m x,λy=>fW (fb e.rs y)⟩
def F5 (P:Program):List vK->Prop
 |[]=>True
 |e::r=>ZA P e/\F5 P r
theorem KT:∀{l:List vK},F5 P l->∀f vs ca,GG l f vs=some ca->HC P f vs ca
 |[],_,f,vs,ca,hx=>by cases hx
 |e::r,hl,f,vs,ca,hx=>by
  simp only[GG] at hx;split at hx
  .rename_i hb;have:=BY hb;subst this;split at hx
   .rename_i x hu;cases hx;rw[rI hu];exact hl.1 x
   .cases hx
  .exact KT hl.2 f vs ca hx
theorem KU:∀{l:List vK} {f vs ca},GG l f vs=some ca->(l.any λe=>Nat.beq f e.id)=true
 |[],f,vs,ca,hx=>by cases hx
 |e::r,f,vs,ca,hx=>by
  simp only[GG] at hx;rw[ahd];split at hx
  .rename_i hb;rw[hb];rfl
  .rw[KU hx];simp
def MO (l:List bz)(ps:List vK):Bool:=l.all λe=>!(ps.any λp=>Nat.beq e.id p.id)
theorem O4 {ps:List vK}{f:FuncId}{vs:List Value}:∀{l:List bz},MO l ps=true->(ps.any λp=>Nat.beq f p.id)=true->Cn l f vs=none
 |[],_,_=>rfl
 |e::l,h,hf=>by
  unfold MO at h;rw[agi,IT] at h;simp only[Cn];split
  .rename_i hb;have:=BY hb;subst this;rw[hf] at h;simp at h
  .exact O4 (l:=l) h.2 hf
theorem KV {l:List bz}{d:List jx}{ms:List FuncId}{ps:List vK}(h1:aJ P l)(h2:oY P d)(h3:Cy l ms)(h4:F5 P ps)(h5:MO l ps=true):sw P (qJ l d ms ps):=⟨KP h1,KS h2,h3,KT h4,λ_ _ _ h=>KU h,λ_ _ h=>O4 h5 h⟩
theorem Cz:∀(as:List Ty) (i:Nat) (ls:List (Nat×Ty)) (vs:List Value) (vs':Array Value) (t:Array Value),ls.map (·.1)=List.range' i as.length->vs.length=as.length ->
  (∀k v,vs[k]?=some v->∃v',t[i+k]?=some v'/\aS P ι v v')->iN P ι (sr ls vs) t
 |as,i,[],vs,vs',t,_,_,_=>by intro j u hu;cases vs<;>cases hu
 |[],i,(a,b)::ls,vs,vs',t,hl,_,_=>by simp at hl
 |ty::as,i,(a,b)::ls,[],vs',t,_,hv,_=>by simp at hv
 |ty::as,i,(a,b)::ls,v::vs,vs',t,hl,hv,hr=>by
  rw[adE,OF,agB,List.cons.injEq] at hl;obtain⟨rfl,hl⟩:=hl;have ih:=Cz as (a+1) ls vs vs' t hl (by simpa using hv) λk u hu=>by
   have:=hr (k+1) u (by simpa using hu);rw[show a+1+k=a+(k+1) by omega];exact this
  intro j u hu;simp only[sr,Env.set,cQ] at hu;split at hu
  .rename_i e;subst e;cases hu;exact hr 0 v rfl
  .exact ih j u hu
theorem Bu (R:∀t a a',oA ι a a'->∀v h1,(FM P t a).exec h=some (v,h1)->h1=h/\∃v',(loadVar t a').run P w=.ok v' w/\aS P ι v v'){E:Env}{tm:Array Value}(hE:iN P ι E tm)
  {X:Type} {K:Value->M X} {r:X×af} {fin:List Value->Act} :
  ∀(rs:List ResultVar) (acc:List Value),(kK P rs E acc fin).run K h=some r->∃vs vs',bA P ι vs vs'/\(fin (acc.reverse++vs)).run K h=some r /\
   (rs.mapM (λx:ResultVar=>(match x with
    |.tmp t=>Pure.pure (tm.getD t undef)
    |.cell a t=>do loadVar t (<-asAddr (tm.getD a undef)):Sem Value))).run P w=.ok vs' w
 |[],acc,hx=>⟨[],[],.nil,by simpa[kK] using hx,by simp⟩
 |.tmp t::rs,acc,hx=>by
  simp only[kK] at hx;split at hx
  .rename_i v hv;obtain⟨vs,vs',h1,h2,h3⟩:=Bu R hE rs _ hx;obtain⟨v',e1,e2⟩:=hE t v hv;refine⟨v::vs,v'::vs',.cons e2 h1,by simpa using h2,?_⟩;have:tm.getD t undef=v':=by simp[adK,e1]
   simp only[ag4,Sem.run_bind,Sem.run_pure,Result.andThen_ok,this,h3]
  .simp[Act.run,AS] at hx
 |.cell s t::rs,acc,hx=>by
  simp only[kK] at hx;split at hx
  .rename_i a ha;obtain⟨p',e1,e2⟩:=hE s _ ha;cases e2 with
   |flat _ hf=>simp[cX] at hf
   |ptr _ a' har=>
   have go:∀A:Act,(∀v h1,A.exec h=some (v,h1)->h1=h/\∃v',(loadVar t a').run P w=.ok v' w/\aS P ι v v') ->
     (kK.resBind A λv=>kK P rs E (v::acc) fin).run K h=some r->∃v v',(loadVar t a').run P w=.ok v' w/\aS P ι v v'/\(kK P rs E (v::acc) fin).run K h=some r:=by
    intro A;have gen:∀(A:Act) (h2:af),(kK.resBind A λv=>kK P rs E (v::acc) fin).run K h2=some r->∃v h3,A.exec h2=some (v,h3)/\(kK P rs E (v::acc) fin).run K h3=some r:=by
     intro A
     induction A with
     |val v=>intro h2 hx;exact⟨v,h2,rfl,hx⟩
     |none=>intro h2 hx;simp[kK.resBind,Act.run,AS] at hx
     |ask α m k ih=>
      intro h2 hx;simp only[kK.resBind,Act.run,sh] at hx;split at hx
      .rename_i y h4 hm;obtain⟨v,h3,q1,q2⟩:=ih y h4 hx;exact⟨v,h3,by simp only[Act.exec,hm];exact q1,q2⟩
      .cases hx
    intro hA hx;obtain⟨v,h3,q1,q2⟩:=gen A h hx;obtain⟨rfl,v',q3,q4⟩:=hA v h3 q1;exact⟨v,v',q3,q4,q2⟩
   have hx':(kK.resBind (FM P t a) λv=>kK P rs E (v::acc) fin).run K h=some r:=by
    split at hx
    .rename_i v hv;rw[hv];exact hx
    .rename_i α m k hv;rw[hv];exact hx
    .rename_i hv;rw[hv];exact hx
   obtain⟨v,v',q1,q2,q3⟩:=go _ (R t a a' har) hx';obtain⟨vs,vs',h1,h2,h3⟩:=Bu R hE rs _ q3;refine⟨v::vs,v'::vs',.cons q2 h1,by simpa using h2,?_⟩;have:tm.getD s undef=.pointer (some a'):=by simp[adK,e1]
   have ha':asAddr (Value.pointer (some a'))=Pure.pure a':=rfl;simp only[ag4,Sem.run_bind,Sem.run_pure,Result.andThen_ok,this,ha',q1,h3]
  .simp[Act.run,AS] at hx
theorem iF {f : FuncId} {fn : Func} (hf : P.funcs[f]? = some fn) (hb : fn.body.isNone = false) (hn : (fn.name == "runtime.NumGoroutine") = false) (args : Array Value) (w : World) :
  (callFunc f args).run P w=.ok (.enter f args) w:=by
 simp only[beq_eq_false_iff_ne,ne_eq] at hn;simp[callFunc,hf,hb,hn];intro h;rw[h] at hb;cases hb
theorem xw:∀(ts:List Ty) (x:aM ts),(fb ts x).length=ts.length
 |[],_=>rfl
 |[_],_=>rfl
 |t::t'::ts,x=>by simp[fb,xw (t'::ts) x.2]
theorem bA.get? {vs vs':List Value}(hl:bA P ι vs vs'){k:Nat}{v:Value}(hk:vs[k]?=some v):∃v',vs'[k]?=some v'/\aS P ι v v':=by
 have hlt:k<vs'.length:=by rw[<-hl.1];exact (List.getElem?_eq_some_iff.1 hk).1
 exact⟨vs'[k],aaJ hlt,hl.2 k v _ hk (aaJ hlt)⟩
theorem QZ {vs vs':List Value}(hl:bA P ι vs vs'):aS P ι (fW vs) (if h:vs'.toArray.size=1 then vs'.toArray[0] else .tuple vs'.toArray):=by
 have hlen:vs.length=vs'.length:=hl.1
 match vs,vs',hl,hlen with
 |[v],[v'],hl,_=>
  obtain⟨v2,h1,h2⟩:=hl.get? (k:=0) (v:=v) rfl;cases h1;exact h2
 |[],[],hl,_=>exact .tuple _ _ rfl (by simp)
 |a::b::r,a'::b'::r',hl,hlen=>
  simp only[fW];rw[dif_neg (by simp)];refine .tuple _ _ (by simpa using hlen) λi v v' h1 h2=>?_;obtain⟨u,h3,h4⟩:=hl.get? (k:=i) (v:=v) (by simpa using h1);have:v'=u:=by
   have h2':(a'::b'::r')[i]?=some v':=by simpa using h2
   rw[h3] at h2';exact (abi h2').symm
  subst this;exact h4
theorem TN {F:Fz}{ts:List Ty}{fn:Func}{E':Env}{h':af}{y:aM ts}{a':Go.Act}(R':Rel P F ι' h' w')(HE':iN P ι' E' a'.tmps)
  (hx:(kK P fn.results.toList E' [] λvs=>.val (fW vs)).run (Xm ts) h'=some (y,h1)) :
  ∃v,(results fn a'.tmps).run P w'=.ok v w'/\aS P ι' (fW (fb ts y)) v/\Rel P F ι' h1 w':=by
 obtain⟨vs,vs2,q1,q2,q3⟩:=Bu (λt a a' ha v h1 he=>GI R' ha he) HE' fn.results.toList [] hx;simp only[List.reverse_nil,ad6,Act.run,Xm] at q2;generalize hu:unR ts (fW vs)=u at q2;cases u with
 |none=>simp[AS] at q2
 |some r=>
  simp only[AI] at q2;cases q2;refine⟨(if h:vs2.toArray.size=1 then vs2.toArray[0] else .tuple vs2.toArray),?_,?_,R'⟩
  .unfold results;rw[Sem.run_bind,<-afI (xs:=fn.results),List.mapM_toArray,Sem.run_map]
   erw [q3]
   rfl
  .have:=abe hu;rw[<-this];exact QZ q1
theorem TO {as:List Ty}{nt:Nat}{ps:List (Nat×Ty)}{F:Fz}(x:aM as)(vs':Array Value)(hps:ps.map (·.1)=List.range' 0 as.length)(hnt:Nat.ble as.length nt=true)(R:Rel P F ι h w)(hl:bA P ι (fb as x) vs'.toList) :
  Start P F ι (nt,none) (sr ps (fb as x)) h { tmps:=vs'++Array.replicate (nt-vs'.size) undef,defers:=[] } w:=by
 have hlen:=hl.1;rw[xw] at hlen;have hsz:vs'.size=as.length:=by simpa using hlen.symm
 have hle:=adA hnt;refine⟨R,?_,rfl,?_⟩
 .refine Cz as 0 ps _ vs' _ hps (xw _ _) λk v hk=>?_;obtain⟨v',h1,h2⟩:=hl.get? hk;have h1:vs'[k]?=some v':=by simpa using h1
  refine⟨v',?_,h2⟩;rw[adr,Array.getElem?_append_left (Array.getElem?_eq_some_iff.1 h1).1];exact h1
 .simp;omega
theorem ad0 {e : bz} {fn : Func} {c : Code} {T : JY (aM e.rs)} {N : Nat} {ps : List (Nat × Ty)} (hf : P.funcs[e.id]? = some fn) (hb : fn.body = some c) (hn : (fn.name == "runtime.NumGoroutine") = false)
  (hps:ps.map (·.1)=List.range' 0 e.as.length) (hnt:Nat.ble e.as.length fn.ntmps=true) (HT:vT P c T (fn.ntmps,none) (Mn P fn e.rs)) (hp:T.fj=λ_=>AS)
  (hg:∀x,den P c T (fn.ntmps,none) (Mn P fn e.rs) N false [.code []] (sr ps (fb e.as x))=e.m x):aP P e:=by
 intro x;refine gF.of (λargs w=>iF hf (by rw[hb];rfl) hn args w) ?_;intro F h y h1 hx ι w vs' R hl;refine calls_of_wp hf hb ?_;have S:=TO (nt:=fn.ntmps) x vs' hps hnt R hl;rw[<-hg x] at hx;intro b k cs;obtain⟨e2,a',w',hpost,harr⟩:=tx HT N false [.code []] _ F ι h (y,h1) _ w S hx b k cs;refine⟨e2,a',w',?_,harr⟩;rcases hpost with hpost|hpan
 .obtain⟨ae,heq,ι',E',h',hle',hfin,R',HE',hd,hs,hfr⟩:=hpost;have done:(kK P fn.results.toList E' [] λvs=>.val (fW vs)).run (Xm e.rs) h'=some (y,h1) ->
    a'.defers=[]/\∃v,(results fn a'.tmps).run P w'=.ok v w'/\∃v' ι',Ending.returned v=.returned v'/\aS P ι' (fW (fb e.rs y)) v'/\Rel P F ι' h1 w'/\ι.le ι':=λhx=>
   let ⟨v,q1,q2,q3⟩:=TN R' HE' hx
   ⟨hd,v,q1,v,ι',rfl,q2,q3,hle'⟩
  unfold Mn at hfin;cases ae with
  |exit id=>simp[AS] at hfin
  |normal=>
   cases e2 with
   |normal=>exact done hfin
   |_=>exact heq.elim
  |ret=>
   cases e2 with
   |ret=>exact done hfin
   |_=>exact heq.elim
 .obtain⟨ι2,v,v',h,q1,q2,q3,_⟩:=hpan;rw[hp] at q3;simp[AS] at q3
end Go.Ago
