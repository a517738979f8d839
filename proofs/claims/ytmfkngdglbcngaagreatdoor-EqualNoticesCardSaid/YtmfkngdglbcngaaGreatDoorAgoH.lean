
import Derived.Test.YtmfkngdglbcngaaGreatDoorAgoG
import Derived.LoopN
set_option linter.all false
namespace Go.Ago
open Go
variable {P:Program}{ι ι':gD}{h h' h1:af}{w w':World}
theorem NJ:∀{l:eN} {v:ξ} {x:l.den},Al l v=some x->v=Nf l x:=by
 grind [Al,sL]
theorem P1:∀{ls:List eN} {vs:δ} {x:bS ls},zG ls vs=some x->vs=GO ls x
 |[],[],_,_=>rfl
 |[],_::_,_,hx=>by cases hx
 |[l],[],_,hx=>by cases hx
 |[l],[v],x,hx=>by rw[GO,<-NJ (l:=l) (x:=x) hx]
 |[l],_::_::_,_,hx=>by cases hx
 |l::l'::ls,[],_,hx=>by cases hx
 |l::l'::ls,v::vs,x,hx=>by
  simp only[zG] at hx;split at hx
  .rename_i a b ha hb;cases hx;rw[GO,<-NJ ha,<-P1 hb]
  .cases hx
theorem NK {t:Ty}{v:ξ}{x:t.den}(hx:KM t v=some x):v=De t x:=by
 cases t with
 |one l=>exact NJ hx
 |agg ls=>
  cases v<;>simp only[KM] at hx<;>try cases hx
  rename_i cs;rw[De,<-P1 hx]
theorem sx:∀{ts:List Ty} {vs:δ} {x:aL ts},vy ts vs=some x->vs=fq ts x
 |[],[],_,_=>rfl
 |[],_::_,_,hx=>by cases hx
 |[t],[],_,hx=>by cases hx
 |[t],[v],x,hx=>by rw[fq,<-NK (t:=t) (x:=x) hx]
 |[t],_::_::_,_,hx=>by cases hx
 |t::t'::ts,[],_,hx=>by cases hx
 |t::t'::ts,v::vs,x,hx=>by
  simp only[vy] at hx;split at hx
  .rename_i a b ha hb;cases hx;rw[fq,<-NK ha,<-sx hb]
  .cases hx
theorem acm {ts:List Ty}{v:ξ}{x:aL ts}(hx:unR ts v=some x):v=gq (fq ts x):=by
 match ts,x,hx with
 |[],x,hx=>
  simp only[unR] at hx;cases v<;>simp only at hx<;>try cases hx
  rename_i vs _;rw[<-sx hx];cases hv:vs.toList with
  |nil=>simp[gq,<-hv]
  |cons a l=>rw[hv] at hx;cases hx
 |[t],x,hx=>rw[fq];exact NK hx
 |t::t'::ts,x,hx=>
  simp only[unR] at hx;split at hx
  .rename_i vs;have:=sx hx;rw[fq,gq]
   .rw[fq] at this;rw[<-this]
   .intro v e;have h2:(fq (t'::ts) x.2)=[]:=(by simpa using agw List.tail e);cases ts<;>simp[fq] at h2
  .cases hx
theorem LR:∀{E:Env} {ls:List (Nat×Ty)} {vs:δ},rf E ls=some vs->∀j u,s7 ls vs j=some u->E j=some u
 |E,[],vs,_,j,u,hu=>by cases vs<;>cases hu
 |E,(i,t)::ls,vs,hg,j,u,hu=>by
  simp only[rf] at hg;split at hg
  .rename_i v vs' hv hvs;cases hg;simp only[s7,Env.set,cS] at hu;split at hu
   .rename_i e;subst e;cases hu;exact hv
   .exact LR hvs j u hu
  .cases hg
theorem wa {E:Env}{ls:List (Nat×Ty)}{vs:δ}{t:ν}(hg:rf E ls=some vs)(hE:jS P ι E t):jS P ι (s7 ls vs) t:=
 λj u hu=>hE j u (LR hg j u hu)
theorem HK:∀{E E0:Env} {ms:List (Nat×Ty)} {vs:δ},rf E ms=some vs->∀j u,X4 E0 ms vs j=some u ->
  E j=some u\/(E0 j=some u/\ms.any (λx=>Nat.beq j x.1)=false)
 |E,E0,[],vs,_,j,u,hu=>.inr ⟨by cases vs<;>exact hu,rfl⟩
 |E,E0,(i,t)::ms,vs,hg,j,u,hu=>by
  simp only[rf] at hg;split at hg
  .rename_i v vs' hv hvs;cases hg;simp only[X4,Env.set,cS] at hu;split at hu
   .rename_i e;subst e;cases hu;exact .inl hv
   .rename_i e;rcases HK hvs j u hu with h1|⟨h1,h2⟩
    .exact .inl h1
    .refine .inr ⟨h1,?_⟩;rw[aiz,h2,ah5]
     grind [absurd,Nat.eq_of_beq_eq_true]
  .cases hg
def aP (P:Program)(e:bB):Prop:=∀x,hZ P e.id (fq e.as x) ⟨aL e.rs,e.m x,λy=>gq (fq e.rs y)⟩
def aI (P:Program):List bB->Prop
 |[]=>True
 |e::r=>aP P e/\aI P r
theorem LS:∀{l:List bB},aI P l->∀f vs ca,Dk l f vs=some ca->hZ P f vs ca
 |[],_,f,vs,ca,hx=>by cases hx
 |e::r,hl,f,vs,ca,hx=>by
  simp only[Dk] at hx;split at hx
  .rename_i hb;have:=aab hb;subst this;split at hx
   .rename_i x hu;cases hx;rw[sx hu];exact hl.1 x
   .cases hx
  .exact LS hl.2 f vs ca hx
theorem aV {f:FuncId}{vs vs':δ}{ca:tQ}(e:vs=vs')(hc:hZ P f vs ca):hZ P f vs' ca:=e▸hc
def ae7 (P:Program){as rs:List Ty}(e:DTg as rs):Prop:=∀a c,hZ P e.id (fq as a++fq e.cs c) ⟨aL rs,e.m a c,λy=>gq (fq rs y)⟩
def LU (P:Program){as rs:List Ty}:List (DTg as rs)->Prop
 |[]=>True
 |e::r=>ae7 P e/\LU P r
theorem RN {g:FuncId}{x:ξ}(h:rh g x=true):∃caps,x=.func (.func g) #[] caps:=by
 unfold rh at h;split at h
 .simp_all
 .cases h
theorem RP {cs:List Ty}{x:ξ}{c:aL cs}(hx:pG cs x h=some (c,h1)):h1=h/\Ib x=fq cs c:=by
 unfold pG at hx;split at hx
 .rename_i c' hc;cases hx;exact⟨rfl,sx hc⟩
 .cases hx
theorem UC {as rs:List Ty}:∀{l:List (DTg as rs)},LU P l->∀x a,PX P x (fq as a) ⟨aL rs,dsp l x a,λy=>gq (fq rs y)⟩
 |[],_,x,a=>λh y h1 hx=>by simp[dsp,AS] at hx
 |e::r,hl,x,a=>by
  have one:∀(rest:M (aL rs)),(∀h y h1,rest h=some (y,h1)->∃g caps ca' y',x=.func (.func g) #[] caps/\hZ P g (fq as a++caps.toList) ca'/\ca'.m h=some (y',h1)/\ca'.pk y'=gq (fq rs y)) ->
    ∀h y h1,(vz (rh e.id x) (sh (pG e.cs x) λc=>e.m a c) rest) h=some (y,h1) ->
    ∃g caps ca' y',x=.func (.func g) #[] caps/\hZ P g (fq as a++caps.toList) ca'/\ca'.m h=some (y',h1)/\ca'.pk y'=gq (fq rs y):=by
   intro rest hrest h y h1 hx;unfold vz at hx;split at hx
   .rename_i hf;obtain⟨caps,rfl⟩:=RN hf;simp only[sh] at hx;split at hx
    .rename_i c h2 hc;obtain⟨e2,hcap⟩:=RP hc;have hok:=hl.1 a c;rw[<-hcap] at hok;rw[e2] at hx;exact⟨_,caps,_,y,rfl,hok,hx,rfl⟩
    .cases hx
   .exact hrest h y h1 hx
  have ih:=UC hl.2 x a;cases r with
  |nil=>exact one _ λh y h1 hx=>by simp[AS] at hx
  |cons f r=>exact one _ ih
def NL (P:Program)(e:jM):Prop:=∀x a,PX P x (fq e.as a) ⟨aL e.rs,e.m x a,λy=>gq (fq e.rs y)⟩
def pI (P:Program):List jM->Prop
 |[]=>True
 |e::r=>NL P e/\pI P r
theorem dw {e:jM}{l:List (DTg e.as e.rs)}(hl:LU P l)(he:∀x a,dsp l x a=e.m x a):NL P e:=λx a=>by
 rw[<-he];exact UC hl x a
theorem LV:∀{l:List jM},pI P l->∀t x vs ca,PK l t x vs=some ca->PX P x vs ca
 |[],_,t,x,vs,ca,hx=>by cases hx
 |e::r,hl,t,x,vs,ca,hx=>by
  simp only[PK] at hx;split at hx
  .split at hx
   .rename_i a hu;cases hx;rw[sx hu];exact hl.1 x a
   .cases hx
  .exact LV hl.2 t x vs ca hx
def Ds (l:List bB)(ms:List FuncId):Prop:=∀f vs ca,ms.any (Nat.beq f)=true->Dk l f vs=some ca->Nj ca.m
theorem Ds.nil {l:List bB}:Ds l []:=λf vs ca h=>by cases h
theorem Ds.one {e:bB}(h:∀x,Nj (e.m x)){l:List bB}{g:FuncId}(hg:∀vs ca,Dk l g vs=some ca->∃x,ca=⟨aL e.rs,e.m x,λy=>gq (fq e.rs y)⟩):Ds l [g]:=λf vs ca h1 h2=>by
 simp only[aiz,List.any_nil,ah5] at h1
 grind [Nat.eq_of_beq_eq_true]
def aaw (P:Program)(e:wL):Prop:=∀x,Iy P e.id (fq e.as x) ⟨aL e.rs,e.m x,λy=>gq (fq e.rs y)⟩
def GZ (P:Program):List wL->Prop
 |[]=>True
 |e::r=>aaw P e/\GZ P r
theorem LW:∀{l:List wL},GZ P l->∀f vs ca,Hu l f vs=some ca->Iy P f vs ca
 |[],_,f,vs,ca,hx=>by cases hx
 |e::r,hl,f,vs,ca,hx=>by
  simp only[Hu] at hx;split at hx
  .rename_i hb;have:=aab hb;subst this;split at hx
   .rename_i x hu;cases hx;rw[sx hu];exact hl.1 x
   .cases hx
  .exact LW hl.2 f vs ca hx
theorem LX:∀{l:List wL} {f vs ca},Hu l f vs=some ca->(l.any λe=>Nat.beq f e.id)=true
 |[],f,vs,ca,hx=>by cases hx
 |e::r,f,vs,ca,hx=>by
  simp only[Hu] at hx;rw[aiz];split at hx
  .rename_i hb;rw[hb];rfl
  .rw[LX hx];simp
def NM (l:List bB)(ps:List wL):Bool:=l.all λe=>!(ps.any λp=>Nat.beq e.id p.id)
theorem P2 {ps:List wL}{f:FuncId}{vs:δ}:∀{l:List bB},NM l ps=true->(ps.any λp=>Nat.beq f p.id)=true->Dk l f vs=none
 |[],_,_=>rfl
 |e::l,h,hf=>by
  unfold NM at h;rw[ah7,aau] at h;simp only[Dk];split
  .grind [Nat.eq_of_beq_eq_true]
  .exact P2 (l:=l) h.2 hf
theorem LY {l:List bB}{d:List jM}{ms:List FuncId}{ps:List wL}(h1:aI P l)(h2:pI P d)(h3:Ds l ms)(h4:GZ P ps)(h5:NM l ps=true):Ar P (rC l d ms ps):=⟨LS h1,LV h2,h3,LW h4,λ_ _ _ h=>LX h,λ_ _ h=>P2 h5 h⟩
theorem Dt:∀(as:List Ty) (i:Nat) (ls:List (Nat×Ty)) (vs:δ) (vs':ν) (t:ν),ls.map (·.1)=List.range' i as.length->vs.length=as.length ->
  (∀k v,vs[k]?=some v->∃v',t[i+k]?=some v'/\aR P ι v v')->jS P ι (s7 ls vs) t
 |as,i,[],vs,vs',t,_,_,_=>by intro j u hu;cases vs<;>cases hu
 |[],i,(a,b)::ls,vs,vs',t,hl,_,_=>by simp at hl
 |ty::as,i,(a,b)::ls,[],vs',t,_,hv,_=>by simp at hv
 |ty::as,i,(a,b)::ls,v::vs,vs',t,hl,hv,hr=>by
  rw[acw,aas,ahM,List.cons.injEq] at hl;obtain⟨rfl,hl⟩:=hl;have ih:=Dt as (a+1) ls vs vs' t hl (by simpa using hv) λk u hu=>by
   have:=hr (k+1) u (by simpa using hu);rw[show a+1+k=a+(k+1) by omega];exact this
  intro j u hu;simp only[s7,Env.set,cS] at hu;split at hu
  .rename_i e;subst e;cases hu;exact hr 0 v rfl
  .exact ih j u hu
theorem Cj (R:∀t a a',o8 ι a a'->∀v h1,(GJ P t a).exec h=some (v,h1)->h1=h/\∃v',(loadVar t a').run P w=.ok v' w/\aR P ι v v'){E:Env}{tm:ν}(hE:jS P ι E tm)
  {X:Type} {K:ξ->M X} {r:X×af} {fin:δ->Act} :
  ∀(rs:List ResultVar) (acc:δ),(lB P rs E acc fin).run K h=some r->∃vs vs',bC P ι vs vs'/\(fin (acc.reverse++vs)).run K h=some r /\
   (rs.mapM (λx:ResultVar=>(match x with
    |.tmp t=>Pure.pure (tm.getD t undef)
    |.cell a t=>do loadVar t (<-asAddr (tm.getD a undef)):Sem ξ))).run P w=.ok vs' w
 |[],acc,hx=>⟨[],[],.nil,by simpa[lB] using hx,by simp⟩
 |.tmp t::rs,acc,hx=>by
  simp only[lB] at hx;split at hx
  .rename_i v hv;obtain⟨vs,vs',h1,h2,h3⟩:=Cj R hE rs _ hx;obtain⟨v',e1,e2⟩:=hE t v hv;refine⟨v::vs,v'::vs',.cons e2 h1,by simpa using h2,?_⟩
   simp_all
  .simp[Act.run,AS] at hx
 |.cell s t::rs,acc,hx=>by
  simp only[lB] at hx;split at hx
  .rename_i a ha;obtain⟨p',e1,e2⟩:=hE s _ ha;cases e2 with
   |flat _ hf=>simp[dz] at hf
   |ptr _ a' har=>
   have go:∀A:Act,(∀v h1,A.exec h=some (v,h1)->h1=h/\∃v',(loadVar t a').run P w=.ok v' w/\aR P ι v v') ->
     (lB.resBind A λv=>lB P rs E (v::acc) fin).run K h=some r->∃v v',(loadVar t a').run P w=.ok v' w/\aR P ι v v'/\(lB P rs E (v::acc) fin).run K h=some r:=by
    intro A;have gen:∀(A:Act) (h2:af),(lB.resBind A λv=>lB P rs E (v::acc) fin).run K h2=some r->∃v h3,A.exec h2=some (v,h3)/\(lB P rs E (v::acc) fin).run K h3=some r:=by
     intro A
     induction A with
     |val v=>intro h2 hx;exact⟨v,h2,rfl,hx⟩
     |none=>intro h2 hx;simp[lB.resBind,Act.run,AS] at hx
     |ask α m k ih=>
      intro h2 hx;simp only[lB.resBind,Act.run,sh] at hx
      grind [Act.exec]
    grind
   have hx':(lB.resBind (GJ P t a) λv=>lB P rs E (v::acc) fin).run K h=some r:=by
    split at hx
    .rename_i v hv;rw[hv];exact hx
    .rename_i α m k hv;rw[hv];exact hx
    .rename_i hv;rw[hv];exact hx
   obtain⟨v,v',q1,q2,q3⟩:=go _ (R t a a' har) hx';obtain⟨vs,vs',h1,h2,h3⟩:=Cj R hE rs _ q3;refine⟨v::vs,v'::vs',.cons q2 h1,by simpa using h2,?_⟩;have:tm.getD s undef=.pointer (some a'):=by simp[afm,e1]
   have ha':asAddr (Value.pointer (some a'))=Pure.pure a':=rfl
   grind [Sem.run_bind,Sem.run_pure,Result.andThen_ok]
  .simp[Act.run,AS] at hx
theorem iZ {f : FuncId} {fn : Func} (hf : P.funcs[f]? = some fn) (hb : fn.body.isNone = false) (hn : (fn.name == "runtime.NumGoroutine") = false) (args : ν) (w : World) :
  (callFunc f args).run P w=.ok (.enter f args) w:=by
 simp only[beq_eq_false_iff_ne,ne_eq] at hn;simp[callFunc,hf,hb,hn];intro h;rw[h] at hb;cases hb
theorem yo:∀(ts:List Ty) (x:aL ts),(fq ts x).length=ts.length
 |[],_=>rfl
 |[_],_=>rfl
 |t::t'::ts,x=>by simp[fq,yo (t'::ts) x.2]
theorem bC.get? {vs vs':δ}(hl:bC P ι vs vs'){k:Nat}{v:ξ}(hk:vs[k]?=some v):∃v',vs'[k]?=some v'/\aR P ι v v':=by
 have hlt:k<vs'.length:=by rw[<-hl.1];exact (List.getElem?_eq_some_iff.1 hk).1
 exact⟨vs'[k],abi hlt,hl.2 k v _ hk (abi hlt)⟩
theorem RQ {vs vs':δ}(hl:bC P ι vs vs'):aR P ι (gq vs) (if h:vs'.toArray.size=1 then vs'.toArray[0] else .tuple vs'.toArray):=by
 have hlen:vs.length=vs'.length:=hl.1
 match vs,vs',hl,hlen with
 |[v],[v'],hl,_=>
  obtain⟨v2,h1,h2⟩:=hl.get? (k:=0) (v:=v) rfl;cases h1;exact h2
 |[],[],hl,_=>exact .tuple _ _ rfl (by simp)
 |a::b::r,a'::b'::r',hl,hlen=>
  simp only[gq];rw[dif_neg (by simp)];refine .tuple _ _ (by simpa using hlen) λi v v' h1 h2=>?_;obtain⟨u,h3,h4⟩:=hl.get? (k:=i) (v:=v) (by simpa using h1)
  grind
theorem UD {F:Fz}{ts:List Ty}{fn:Func}{E':Env}{h':af}{y:aL ts}{a':Go.Act}(R':Rel P F ι' h' w')(HE':jS P ι' E' a'.tmps)
  (hx:(lB P fn.results.toList E' [] λvs=>.val (gq vs)).run (X9 ts) h'=some (y,h1)) :
  ∃v,(results fn a'.tmps).run P w'=.ok v w'/\aR P ι' (gq (fq ts y)) v/\Rel P F ι' h1 w':=by
 obtain⟨vs,vs2,q1,q2,q3⟩:=Cj (λt a a' ha v h1 he=>Hw R' ha he) HE' fn.results.toList [] hx;simp only[List.reverse_nil,aeQ,Act.run,X9] at q2;generalize hu:unR ts (gq vs)=u at q2;cases u with
 |none=>simp[AS] at q2
 |some r=>
  simp only[AI] at q2;cases q2;refine⟨(if h:vs2.toArray.size=1 then vs2.toArray[0] else .tuple vs2.toArray),?_,?_,R'⟩
  .unfold results;rw[Sem.run_bind,<-agZ (xs:=fn.results),List.mapM_toArray,Sem.run_map]
   erw [q3]
   rfl
  grind [acm,RQ]
theorem UE {as:List Ty}{nt:Nat}{ps:List (Nat×Ty)}{F:Fz}(x:aL as)(vs':ν)(hps:ps.map (·.1)=List.range' 0 as.length)(hnt:Nat.ble as.length nt=true)(R:Rel P F ι h w)(hl:bC P ι (fq as x) vs'.toList) :
  Start P F ι (nt,none) (s7 ps (fq as x)) h { tmps:=vs'++Array.replicate (nt-vs'.size) undef,defers:=[] } w:=by
 have hlen:=hl.1;rw[yo] at hlen;have hsz:vs'.size=as.length:=by simpa using hlen.symm
 have hle:=aeC hnt;refine⟨R,?_,rfl,?_⟩
 .refine Dt as 0 ps _ vs' _ hps (yo _ _) λk v hk=>?_;obtain⟨v',h1,h2⟩:=hl.get? hk
  grind
 .simp;omega
theorem ae8 {e : bB} {fn : Func} {c : Code} {T : KX (aL e.rs)} {N : Nat} {ps : List (Nat × Ty)} (hf : P.funcs[e.id]? = some fn) (hb : fn.body = some c) (hn : (fn.name == "runtime.NumGoroutine") = false)
  (hps:ps.map (·.1)=List.range' 0 e.as.length) (hnt:Nat.ble e.as.length fn.ntmps=true) (HT:wV P c T (fn.ntmps,none) (Np P fn e.rs)) (hp:T.tM=λ_=>AS)
  (hg:∀x,den P c T (fn.ntmps,none) (Np P fn e.rs) N false [.code []] (s7 ps (fq e.as x))=e.m x):aP P e:=by
 intro x;refine hZ.of (λargs w=>iZ hf (by rw[hb];rfl) hn args w) ?_;intro F h y h1 hx ι w vs' R hl;refine calls_of_wp hf hb ?_;have S:=UE (nt:=fn.ntmps) x vs' hps hnt R hl;rw[<-hg x] at hx;intro b k cs;obtain⟨e2,a',w',hpost,harr⟩:=um HT N false [.code []] _ F ι h (y,h1) _ w S hx b k cs;refine⟨e2,a',w',?_,harr⟩;rcases hpost with hpost|hpan
 .obtain⟨ae,heq,ι',E',h',hle',hfin,R',HE',hd,hs,hfr⟩:=hpost;have done:(lB P fn.results.toList E' [] λvs=>.val (gq vs)).run (X9 e.rs) h'=some (y,h1) ->
    a'.defers=[]/\∃v,(results fn a'.tmps).run P w'=.ok v w'/\∃v' ι',Ending.returned v=.returned v'/\aR P ι' (gq (fq e.rs y)) v'/\Rel P F ι' h1 w'/\ι.le ι':=λhx=>
   let ⟨v,q1,q2,q3⟩:=UD R' HE' hx
   ⟨hd,v,q1,v,ι',rfl,q2,q3,hle'⟩
  unfold Np at hfin;cases ae with
  |exit id=>simp[AS] at hfin
  |normal=>
   cases e2 with
   |normal=>exact done hfin
   |_=>exact heq.elim
  |ret=>
   cases e2 with
   |ret=>exact done hfin
   |_=>exact heq.elim
 .obtain⟨ι2,v,v',h,q1,q2,q3,_⟩:=hpan;rw[hp] at q3;simp[AS] at q3
end Go.Ago
