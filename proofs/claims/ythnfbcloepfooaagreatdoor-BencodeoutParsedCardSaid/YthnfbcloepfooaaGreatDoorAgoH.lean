
import Derived.Test.YthnfbcloepfooaaGreatDoorAgoG
import Derived.LoopN
set_option linter.all false
namespace Go.Ago
open Go
variable {P:Program}{ι ι':gy}{h h' h1:af}{w w':World}
theorem pZ:∀{ts:List Ty} {vs:δ} {x:aO ts},sE ts vs=some x->vs=ee ts x
 |[],[],_,_=>rfl
 |[],_::_,_,hx=>by cases hx
 |[t],[],_,hx=>by cases hx
 |[t],[v],x,hx=>by rw[ee,<-E8 (t:=t) (x:=x) hx]
 |[t],_::_::_,_,hx=>by cases hx
 |t::t'::ts,[],_,hx=>by cases hx
 |t::t'::ts,v::vs,x,hx=>by
  simp only[sE] at hx;split at hx
  .rename_i a b ha hb;cases hx;rw[ee,<-E8 ha,<-pZ hb]
  .cases hx
theorem VM {ts:List Ty}{v:ξ}{x:aO ts}(hx:Xo ts v=some x):v=eE (ee ts x):=by
 match ts,x,hx with
 |[],x,hx=>
  simp only[Xo] at hx;cases v<;>simp only at hx<;>try cases hx
  rename_i vs _;rw[<-pZ hx];cases hv:vs.toList with
  |nil=>simp[eE,<-hv]
  |cons a l=>rw[hv] at hx;cases hx
 |[t],x,hx=>rw[ee];exact E8 hx
 |t::t'::ts,x,hx=>
  simp only[Xo] at hx;split at hx
  .rename_i vs;have:=pZ hx;rw[ee,eE]
   .rw[ee] at this;rw[<-this]
   .intro v e;have h2:(ee (t'::ts) x.2)=[]:=(by simpa using aaL List.tail e);cases ts<;>simp[ee] at h2
  .cases hx
theorem Ie:∀{E:Env} {ls:List (Nat×Ty)} {vs:δ},oT E ls=some vs->∀j u,qq ls vs j=some u->E j=some u
 |E,[],vs,_,j,u,hu=>by cases vs<;>cases hu
 |E,(i,t)::ls,vs,hg,j,u,hu=>by
  simp only[oT] at hg;split at hg
  .rename_i v vs' hv hvs;cases hg;simp only[qq,Env.set,aQ] at hu;split at hu
   .rename_i e;subst e;cases hu;exact hv
   .exact Ie hvs j u hu
  .cases hg
theorem ue {E:Env}{ls:List (Nat×Ty)}{vs:δ}{t:ν}(hg:oT E ls=some vs)(hE:iu P ι E t):iu P ι (qq ls vs) t:=
 λj u hu=>hE j u (Ie hg j u hu)
theorem En:∀{E E0:Env} {ms:List (Nat×Ty)} {vs:δ},oT E ms=some vs->∀j u,Sz E0 ms vs j=some u ->
  E j=some u\/(E0 j=some u/\ms.any (λx=>Nat.beq j x.1)=false)
 |E,E0,[],vs,_,j,u,hu=>.inr ⟨by cases vs<;>exact hu,rfl⟩
 |E,E0,(i,t)::ms,vs,hg,j,u,hu=>by
  simp only[oT] at hg;split at hg
  .rename_i v vs' hv hvs;cases hg;simp only[Sz,Env.set,aQ] at hu;split at hu
   .rename_i e;subst e;cases hu;exact .inl hv
   .rename_i e;rcases En hvs j u hu with h1|⟨h1,h2⟩
    .exact .inl h1
    .refine .inr ⟨h1,?_⟩;rw[acZ,h2,abL]
     grind [absurd,Nat.eq_of_beq_eq_true]
  .cases hg
def bz (P:Program)(e:cr):Prop:=∀x,iS P e.id (ee e.as x) ⟨aO e.rs,e.m x,λy=>eE (ee e.rs y)⟩
def bA (P:Program):List cr->Prop
 |[]=>True
 |e::r=>bz P e/\bA P r
theorem Ig:∀{l:List cr},bA P l->∀f vs ca,xN l f vs=some ca->iS P f vs ca
 |[],_,f,vs,ca,hx=>by cases hx
 |e::r,hl,f,vs,ca,hx=>by
  simp only[xN] at hx;split at hx
  .rename_i hb;have:=IS hb;subst this;split at hx
   .rename_i x hu;cases hx;rw[pZ hu];exact hl.1 x
   .cases hx
  .exact Ig hl.2 f vs ca hx
theorem aI {f:FuncId}{vs vs':δ}{ca:nf}(e:vs=vs')(hc:iS P f vs ca):iS P f vs' ca:=e▸hc
def XJ (P:Program){as rs:List Ty}(e:Un as rs):Prop:=∀a c,iS P e.id (ee as a++ee e.cs c) ⟨aO rs,e.m a c,λy=>eE (ee rs y)⟩
def Ih (P:Program){as rs:List Ty}:List (Un as rs)->Prop
 |[]=>True
 |e::r=>XJ P e/\Ih P r
theorem M0 {g:FuncId}{x:ξ}(h:uL g x=true):∃caps,x=.func (.func g) #[] caps:=by
 unfold uL at h;split at h
 .simp_all
 .cases h
theorem M3 {cs:List Ty}{x:ξ}{c:aO cs}(hx:nr cs x h=some (c,h1)):h1=h/\B5 x=ee cs c:=by
 unfold nr at hx;split at hx
 .rename_i c' hc;cases hx;exact⟨rfl,pZ hc⟩
 .cases hx
theorem PX {as rs:List Ty}:∀{l:List (Un as rs)},Ih P l->∀x a,Lm P x (ee as a) ⟨aO rs,Yu l x a,λy=>eE (ee rs y)⟩
 |[],_,x,a=>λh y h1 hx=>by simp[Yu,AT] at hx
 |e::r,hl,x,a=>by
  have one:∀(rest:M (aO rs)),(∀h y h1,rest h=some (y,h1)->∃g caps ca' y',x=.func (.func g) #[] caps/\iS P g (ee as a++caps.toList) ca'/\ca'.m h=some (y',h1)/\ca'.pk y'=eE (ee rs y)) ->
    ∀h y h1,(kG (uL e.id x) (AI (nr e.cs x) λc=>e.m a c) rest) h=some (y,h1) ->
    ∃g caps ca' y',x=.func (.func g) #[] caps/\iS P g (ee as a++caps.toList) ca'/\ca'.m h=some (y',h1)/\ca'.pk y'=eE (ee rs y):=by
   intro rest hrest h y h1 hx;unfold kG at hx;split at hx
   .rename_i hf;obtain⟨caps,rfl⟩:=M0 hf;simp only[AI] at hx;split at hx
    .rename_i c h2 hc;obtain⟨e2,hcap⟩:=M3 hc;have hok:=hl.1 a c;rw[<-hcap] at hok;rw[e2] at hx;exact⟨_,caps,_,y,rfl,hok,hx,rfl⟩
    .cases hx
   .exact hrest h y h1 hx
  have ih:=PX hl.2 x a;cases r with
  |nil=>exact one _ λh y h1 hx=>by simp[AT] at hx
  |cons f r=>exact one _ ih
def JU (P:Program)(e:jk):Prop:=∀x a,Lm P x (ee e.as a) ⟨aO e.rs,e.m x a,λy=>eE (ee e.rs y)⟩
def nP (P:Program):List jk->Prop
 |[]=>True
 |e::r=>JU P e/\nP P r
theorem eb {e:jk}{l:List (Un e.as e.rs)}(hl:Ih P l)(he:∀x a,Yu l x a=e.m x a):JU P e:=λx a=>by
 rw[<-he];exact PX hl x a
theorem Ii:∀{l:List jk},nP P l->∀t x vs ca,Lb l t x vs=some ca->Lm P x vs ca
 |[],_,t,x,vs,ca,hx=>by cases hx
 |e::r,hl,t,x,vs,ca,hx=>by
  simp only[Lb] at hx;split at hx
  .split at hx
   .rename_i a hu;cases hx;rw[pZ hu];exact hl.1 x a
   .cases hx
  .exact Ii hl.2 t x vs ca hx
def xV (l:List cr)(ms:List FuncId):Prop:=∀f vs ca,ms.any (Nat.beq f)=true->xN l f vs=some ca->xK ca.m
theorem xV.nil {l:List cr}:xV l []:=λf vs ca h=>by cases h
theorem xV.one {e:cr}(h:∀x,xK (e.m x)){l:List cr}{g:FuncId}(hg:∀vs ca,xN l g vs=some ca->∃x,ca=⟨aO e.rs,e.m x,λy=>eE (ee e.rs y)⟩):xV l [g]:=λf vs ca h1 h2=>by
 simp only[acZ,List.any_nil,abL] at h1
 grind [Nat.eq_of_beq_eq_true]
theorem CE {g:FuncId}{e:cr}:∀{l:List cr},l.find? (λe=>Nat.beq g e.id)=some e->∀vs ca,xN l g vs=some ca->∃x,ca=⟨aO e.rs,e.m x,λy=>eE (ee e.rs y)⟩
 |[],h,vs,ca,hx=>by cases h
 |a::l,h,vs,ca,hx=>by
  rw[List.find?_cons] at h;unfold xN at hx;cases hb:Nat.beq g a.id with
  |true=>
   rw[hb] at h hx;simp only[IN] at h;subst h
   grind
  |false=>
   rw[hb] at h hx;exact CE h vs ca hx
def Up (P:Program)(e:uO):Prop:=∀x,Fe P e.id (ee e.as x) ⟨aO e.rs,e.m x,λy=>eE (ee e.rs y)⟩
def DQ (P:Program):List uO->Prop
 |[]=>True
 |e::r=>Up P e/\DQ P r
theorem Ij:∀{l:List uO},DQ P l->∀f vs ca,Eb l f vs=some ca->Fe P f vs ca
 |[],_,f,vs,ca,hx=>by cases hx
 |e::r,hl,f,vs,ca,hx=>by
  simp only[Eb] at hx;split at hx
  .rename_i hb;have:=IS hb;subst this;split at hx
   .rename_i x hu;cases hx;rw[pZ hu];exact hl.1 x
   .cases hx
  .exact Ij hl.2 f vs ca hx
theorem Ik:∀{l:List uO} {f vs ca},Eb l f vs=some ca->(l.any λe=>Nat.beq f e.id)=true
 |[],f,vs,ca,hx=>by cases hx
 |e::r,f,vs,ca,hx=>by
  simp only[Eb] at hx;rw[acZ];split at hx
  .rename_i hb;rw[hb];rfl
  .rw[Ik hx];simp
def JV (l:List cr)(ps:List uO):Bool:=l.all λe=>!(ps.any λp=>Nat.beq e.id p.id)
theorem Ls {ps:List uO}{f:FuncId}{vs:δ}:∀{l:List cr},JV l ps=true->(ps.any λp=>Nat.beq f p.id)=true->xN l f vs=none
 |[],_,_=>rfl
 |e::l,h,hf=>by
  unfold JV at h;rw[abA,aaf] at h;simp only[xN];split
  .grind [Nat.eq_of_beq_eq_true]
  .exact Ls (l:=l) h.2 hf
theorem Il {l:List cr}{d:List jk}{ms:List FuncId}{ps:List uO}(h1:bA P l)(h2:nP P d)(h3:xV l ms)(h4:DQ P ps)(h5:JV l ps=true):qu P (po l d ms ps):=⟨Ig h1,Ii h2,h3,Ij h4,λ_ _ _ h=>Ik h,λ_ _ h=>Ls h5 h⟩
theorem A1:∀(as:List Ty) (i:Nat) (ls:List (Nat×Ty)) (vs:δ) (vs':ν) (t:ν),ls.map (·.1)=List.range' i as.length->vs.length=as.length ->
  (∀k v,vs[k]?=some v->∃v',t[i+k]?=some v'/\bg P ι v v')->iu P ι (qq ls vs) t
 |as,i,[],vs,vs',t,_,_,_=>by intro j u hu;cases vs<;>cases hu
 |[],i,(a,b)::ls,vs,vs',t,hl,_,_=>by simp at hl
 |ty::as,i,(a,b)::ls,[],vs',t,_,hv,_=>by simp at hv
 |ty::as,i,(a,b)::ls,v::vs,vs',t,hl,hv,hr=>by
  rw[aaK,aae,abU,ab0] at hl;obtain⟨rfl,hl⟩:=hl;have ih:=A1 as (a+1) ls vs vs' t hl (by simpa using hv) λk u hu=>by
   have:=hr (k+1) u (by simpa using hu);rw[show a+1+k=a+(k+1) by omega];exact this
  intro j u hu;simp only[qq,Env.set,aQ] at hu;split at hu
  .rename_i e;subst e;cases hu;exact hr 0 v rfl
  .exact ih j u hu
theorem z6 (R:∀t a a',mH ι a a'->∀v h1,(Jv P t a).exec h=some (v,h1)->h1=h/\∃v',(loadVar t a').run P w=.ok v' w/\bg P ι v v'){E:Env}{tm:ν}(hE:iu P ι E tm)
  {X:Type} {K:ξ->M X} {r:X×af} {fin:δ->Act} :
  ∀(rs:List ResultVar) (acc:δ),(j6 P rs E acc fin).run K h=some r->∃vs vs',bN P ι vs vs'/\(fin (acc.reverse++vs)).run K h=some r /\
   (rs.mapM (λx:ResultVar=>(match x with
    |.tmp t=>Pure.pure (tm.getD t undef)
    |.cell a t=>do loadVar t (<-asAddr (tm.getD a undef)):Sem ξ))).run P w=.ok vs' w
 |[],acc,hx=>⟨[],[],.nil,by simpa[j6] using hx,by simp⟩
 |.tmp t::rs,acc,hx=>by
  simp only[j6] at hx;split at hx
  .rename_i v hv;obtain⟨vs,vs',h1,h2,h3⟩:=z6 R hE rs _ hx;obtain⟨v',e1,e2⟩:=hE t v hv;refine⟨v::vs,v'::vs',.cons e2 h1,by simpa using h2,?_⟩
   simp_all
  .simp[Act.run,AT] at hx
 |.cell s t::rs,acc,hx=>by
  simp only[j6] at hx;split at hx
  .rename_i a ha;obtain⟨p',e1,e2⟩:=hE s _ ha;cases e2 with
   |flat _ hf=>simp[cV] at hf
   |ptr _ a' har=>
   have go:∀A:Act,(∀v h1,A.exec h=some (v,h1)->h1=h/\∃v',(loadVar t a').run P w=.ok v' w/\bg P ι v v') ->
     (j6.resBind A λv=>j6 P rs E (v::acc) fin).run K h=some r->∃v v',(loadVar t a').run P w=.ok v' w/\bg P ι v v'/\(j6 P rs E (v::acc) fin).run K h=some r:=by
    intro A;have gen:∀(A:Act) (h2:af),(j6.resBind A λv=>j6 P rs E (v::acc) fin).run K h2=some r->∃v h3,A.exec h2=some (v,h3)/\(j6 P rs E (v::acc) fin).run K h3=some r:=by
     intro A
     induction A with
     |val v=>intro h2 hx;exact⟨v,h2,rfl,hx⟩
     |none=>intro h2 hx;simp[j6.resBind,Act.run,AT] at hx
     |ask α m k ih=>
      intro h2 hx;simp only[j6.resBind,Act.run,AI] at hx
      grind [Act.exec]
    grind
   have hx':(j6.resBind (Jv P t a) λv=>j6 P rs E (v::acc) fin).run K h=some r:=by
    split at hx
    .rename_i v hv;rw[hv];exact hx
    .rename_i α m k hv;rw[hv];exact hx
    .rename_i hv;rw[hv];exact hx
   obtain⟨v,v',q1,q2,q3⟩:=go _ (R t a a' har) hx';obtain⟨vs,vs',h1,h2,h3⟩:=z6 R hE rs _ q3;refine⟨v::vs,v'::vs',.cons q2 h1,by simpa using h2,?_⟩;have:tm.getD s undef=.pointer (some a'):=by simp[aa8,e1]
   have ha':asAddr (Value.pointer (some a'))=Pure.pure a':=rfl
   grind [Sem.run_bind,Sem.run_pure,Result.andThen_ok]
  .simp[Act.run,AT] at hx
theorem lM {f : FuncId} {fn : Func} (hf : P.funcs[f]? = some fn) (hb : fn.body.isNone = false) (hn : (fn.name == "runtime.NumGoroutine") = false) (args : ν) (w : World) :
  (callFunc f args).run P w=.ok (.enter f args) w:=by
 simp only[beq_eq_false_iff_ne,ne_eq] at hn;simp[callFunc,hf,hb,hn];intro h;rw[h] at hb;cases hb
theorem wm:∀(ts:List Ty) (x:aO ts),(ee ts x).length=ts.length
 |[],_=>rfl
 |[_],_=>rfl
 |t::t'::ts,x=>by simp[ee,wm (t'::ts) x.2]
theorem bN.get? {vs vs':δ}(hl:bN P ι vs vs'){k:Nat}{v:ξ}(hk:vs[k]?=some v):∃v',vs'[k]?=some v'/\bg P ι v v':=by
 have hlt:k<vs'.length:=by rw[<-hl.1];exact (List.getElem?_eq_some_iff.1 hk).1
 exact⟨vs'[k],aak hlt,hl.2 k v _ hk (aak hlt)⟩
theorem M4 {vs vs':δ}(hl:bN P ι vs vs'):bg P ι (eE vs) (if h:vs'.toArray.size=1 then vs'.toArray[0] else .tuple vs'.toArray):=by
 have hlen:vs.length=vs'.length:=hl.1
 match vs,vs',hl,hlen with
 |[v],[v'],hl,_=>
  obtain⟨v2,h1,h2⟩:=hl.get? (k:=0) (v:=v) rfl;cases h1;exact h2
 |[],[],hl,_=>exact .tuple _ _ rfl (by simp)
 |a::b::r,a'::b'::r',hl,hlen=>
  simp only[eE];rw[dif_neg (by simp)];refine .tuple _ _ (by simpa using hlen) λi v v' h1 h2=>?_;obtain⟨u,h3,h4⟩:=hl.get? (k:=i) (v:=v) (by simpa using h1)
  grind
theorem PZ {F:Fz}{ts:List Ty}{fn:Func}{E':Env}{h':af}{y:aO ts}{a':Go.Act}(R':Rel P F ι' h' w')(HE':iu P ι' E' a'.tmps)
  (hx:(j6 P fn.results.toList E' [] λvs=>.val (eE vs)).run (SE ts) h'=some (y,h1)) :
  ∃v,(results fn a'.tmps).run P w'=.ok v w'/\bg P ι' (eE (ee ts y)) v/\Rel P F ι' h1 w':=by
 obtain⟨vs,vs2,q1,q2,q3⟩:=z6 (λt a a' ha v h1 he=>Ed R' ha he) HE' fn.results.toList [] hx;simp only[List.reverse_nil,aaP,Act.run,SE] at q2;generalize hu:Xo ts (eE vs)=u at q2;cases u with
 |none=>simp[AT] at q2
 |some r=>
  simp only[AS] at q2;cases q2;refine⟨(if h:vs2.toArray.size=1 then vs2.toArray[0] else .tuple vs2.toArray),?_,?_,R'⟩
  .unfold results;rw[Sem.run_bind,<-abE (xs:=fn.results),List.mapM_toArray,Sem.run_map]
   erw [q3]
   rfl
  grind [VM,M4]
theorem P0 {as:List Ty}{nt:Nat}{ps:List (Nat×Ty)}{F:Fz}(x:aO as)(vs':ν)(hps:ps.map (·.1)=List.range' 0 as.length)(hnt:Nat.ble as.length nt=true)(R:Rel P F ι h w)(hl:bN P ι (ee as x) vs'.toList) :
  Start P { F with DH:=[] } ι (nt,none) (qq ps (ee as x)) h { tmps:=vs'++Array.replicate (nt-vs'.size) undef,defers:=[] } w:=by
 have hlen:=hl.1;rw[wm] at hlen;have hsz:vs'.size=as.length:=by simpa using hlen.symm
 have hle:=aaB hnt;refine⟨R.df [],?_,rfl,?_⟩
 .refine A1 as 0 ps _ vs' _ hps (wm _ _) λk v hk=>?_;obtain⟨v',h1,h2⟩:=hl.get? hk
  grind
 .simp;omega
theorem XK {e : cr} {fn : Func} {c : Code} {T : Hp (aO e.rs)} {N : Nat} {ps : List (Nat × Ty)} (hf : P.funcs[e.id]? = some fn) (hb : fn.body = some c) (hn : (fn.name == "runtime.NumGoroutine") = false)
  (hps:ps.map (·.1)=List.range' 0 e.as.length) (hnt:Nat.ble e.as.length fn.ntmps=true) (HT:uY P c T (fn.ntmps,none) (Jy P fn e.rs)) (hp:T.eA=λ_=>AT)
  (hg:∀x,den P c T (fn.ntmps,none) (Jy P fn e.rs) N false [.code []] (qq ps (ee e.as x))=e.m x):bz P e:=by
 intro x;refine iS.of (λargs w=>lM hf (by rw[hb];rfl) hn args w) ?_;intro F h y h1 hx ι w vs' R hl;refine calls_of_wp hf hb ?_;have S:=P0 (nt:=fn.ntmps) x vs' hps hnt R hl;rw[<-hg x] at hx;intro b k cs;obtain⟨e2,a',w',hpost,harr⟩:=rG HT N false [.code []] _ _ ι h (y,h1) _ w S hx b k cs;refine⟨e2,a',w',?_,harr⟩;rcases hpost with hpost|hpan
 .obtain⟨ae,heq,ι',E',h',hle',hfin,R',HE',hd,hs,hfr⟩:=hpost;have done:(j6 P fn.results.toList E' [] λvs=>.val (eE vs)).run (SE e.rs) h'=some (y,h1) ->
    a'.defers=[]/\∃v,(results fn a'.tmps).run P w'=.ok v w'/\∃v' ι',Ending.returned v=.returned v'/\bg P ι' (eE (ee e.rs y)) v'/\Rel P F ι' h1 w'/\ι.le ι':=λhx=>
   let ⟨v,q1,q2,q3⟩:=PZ R' HE' hx
   ⟨hd,v,q1,v,ι',rfl,q2,q3.df F.DH,hle'⟩
  unfold Jy at hfin;cases ae with
  |exit id=>simp[AT] at hfin
  |normal=>
   cases e2 with
   |normal=>exact done hfin
   |_=>exact heq.elim
  |ret=>
   cases e2 with
   |ret=>exact done hfin
   |_=>exact heq.elim
 .obtain⟨ι2,v,v',h,q1,q2,q3,_⟩:=hpan;rw[hp] at q3;simp[AT] at q3
end Go.Ago
