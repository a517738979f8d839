
import Derived.Test.YthnfbcloepfooaaGreatDoorAgoE
set_option linter.all false
namespace Go.Ago
open Go
variable {P:Program}{W0:Fz}{ι ι':gy}{h h' h1:af}{w w':World}
def zN (W:Wr)(t t':ν):Prop:=t'.size=t.size/\∀l,W.2=some l->∀i,l.any (Nat.beq i)=false->t'[i]?=t[i]?
theorem zN.refl (W:Wr)(t:ν):zN W t t:=⟨rfl,λ_ _ _ _=>rfl⟩
theorem zN.trans {W:Wr}{a b c:ν}(x:zN W a b)(y:zN W b c):zN W a c:=⟨y.1.trans x.1,λl hl i hi=>(y.2 l hl i hi).trans (x.2 l hl i hi)⟩
theorem PL {W:Wr}{i:Nat}(hw:xk W (some i)=true):i<W.1:=by
 simp only[xk,aaf] at hw;have:=aaB hw.1;omega
theorem SW {W:Wr}{i:Nat}(hw:xk W (some i)=true){l:η}(hl:W.2=some l):l.any (Nat.beq i)=true:=by
 simp only[xk,aaf,hl] at hw;exact hw.2
theorem zN.put {W:Wr}{a:Go.Act}{d:μ}(hw:xk W d=true)(v:ξ):zN W a.tmps (a.put d v).tmps:=by
 cases d with
 |none=>exact .refl _ _
 |some i=>
  refine⟨by simp[Act.put],λl hl j hj=>?_⟩
  grind [SW,Act.put]
theorem iu.set {E:Env}{t:ν}(hE:iu P ι E t){i:Nat}(hi:i<t.size){v v':ξ}(hv:bg P ι v v'):iu P ι (E.set i v) (t.setIfInBounds i v'):=by
 intro j u hj;simp only[Env.set,aQ] at hj;split at hj
 .grind
 .rename_i e;obtain⟨u',a,b⟩:=hE j u hj
  grind
theorem iu.put {W:Wr}{E:Env}{a:Go.Act}(hE:iu P ι E a.tmps)(hs:a.tmps.size=W.1){d:μ}(hw:xk W d=true){v v':ξ}(hv:bg P ι v v') :
  iu P ι (E.put d v) (a.put d v').tmps:=by
 cases d with
 |none=>exact hE
 |some i=>exact hE.set (by rw[hs];exact PL hw) hv
theorem iu.Fc {E:Env}{t:ν}(hE:iu P ι E t){i:Nat}{b:Bool}(hi:E i=some (.bool b)):iu P ι (E.set i (.bool b)) t:=by
 intro j u hj;simp only[Env.set,aQ] at hj;split at hj
 .rename_i e;subst e;cases hj;exact hE _ _ hi
 .exact hE j u hj
theorem iu.nY {E:Env}{a:Go.Act}(hE:iu P ι E a.tmps){c:Operand}{b:Bool}(hc:E.ev c=some (.bool b)):iu P ι (E.nY c b) a.tmps:=by
 cases c with
 |tmp t=>exact hE.Fc hc
 |_=>exact hE
theorem Act.HZ {R:Type}{K:ξ->M R}:∀{A:Act} {h:af} {r:R×af},A.run K h=some r->∃v h1,A.exec h=some (v,h1)/\K v h1=some r
 |.val v,h,r,hx=>⟨v,h,rfl,hx⟩
 |.ask α m k,h,r,hx=>by
  simp only[Act.run,AI] at hx;split at hx
  .rename_i x h1 hm;obtain⟨v,h2,e1,e2⟩:=Act.HZ hx;exact⟨v,h2,by simp only[Act.exec,hm,e1],e2⟩
  .cases hx
 |.none,h,r,hx=>by simp[Act.run,AT] at hx
theorem wi:∀{as:List θ},sameAt h h1 as=true->∀a∈as,∀b,a=some b->eL h h1 b
 |[],_,a,ha=>by cases ha
 |none::r,hs,a,ha=>by
  rcases List.mem_cons.1 ha with rfl|ha
  .intro b hb;cases hb
  .exact wi (as:=r) hs a ha
 |some c::r,hs,a,ha=>by
  simp only[sameAt] at hs;split at hs
  .rename_i heq _;rcases List.mem_cons.1 ha with rfl|ha
   .intro b hb;cases hb;exact heq
   .exact wi (as:=r) hs a ha
  .cases hs
theorem rD:∀{as:List θ},(∀a∈as,∀b,a=some b->eL h h1 b)->sameAt h h1 as=true
 |[],_=>rfl
 |none::r,hs=>by simp only[sameAt];exact rD (as:=r) λa ha=>hs a (aan _ ha)
 |some c::r,hs=>by
  have h0:=hs (some c) (aaz ..) c rfl;simp only[sameAt];split
  .exact rD (as:=r) λa ha=>hs a (aan _ ha)
  .rename_i hne _;exact absurd h0 hne
theorem H0 {α:Type}{as:List θ}{m:M α}{r:α×af}(hx:kO as m h=some r):m h=some r/\sameAt h r.2 as=true:=by
 grind [kO]
theorem yh {α:Type}{as:List θ}{m:M α}{r:α×af}(hx:wrapM as m h=some r):m h=some r/\sameAt h r.2 as=true:=by
 unfold wrapM at hx;split at hx
 .exact⟨hx,rfl⟩
 .exact H0 hx
theorem JG {as:List θ}{A:Act}{r:ξ×af}(hx:(pn as A).exec h=some r):A.exec h=some r:=by
 cases A with
 |val v=>exact hx
 |none=>exact hx
 |ask α m k=>
  cases as with
  |nil=>exact hx
  |cons a as=>
   simp only[pn,Act.exec] at hx⊢;split at hx
   .rename_i x h2 hm;rw[(H0 hm).1];exact hx
   .cases hx
theorem Ei {α:Type}{ks:η}{a:Addr}{m:M α}{r:α×af}(hx:wb ks a m h=some r):m h=some r/\SD h a ks=true:=by
 grind [wb]
theorem Cq {ks:η}{a:Addr}{A:Act}{R:Type}{K:ξ->M R}{r:R×af}(hx:(Hq ks a A).run K h=some r):A.run K h=some r:=by
 cases A with
 |val v=>exact hx
 |none=>exact hx
 |ask α m k=>
  simp only[Hq,Act.run,AI] at hx⊢;split at hx
  .rename_i x h2 hm;rw[(Ei hm).1];exact hx
  .cases hx
def Enters (P:Program)(f:FuncId):Prop:=∀args w,(callFunc f args).run P w=.ok (.enter f args) w
structure iS (P:Program) (f:FuncId) (vs:δ) (ca:nf):Prop where
 enter:Enters P f\/∀(F:Fz) h x h1,ca.m h=some (x,h1)->∀ι w (vs':ν),Rel P F ι h w->bN P ι vs vs'.toList ->
  ∃v' w' ι',(callFunc f vs').run P w=.ok (.value v') w'/\bg P ι' (ca.pk x) v'/\Rel P F ι' h1 w'/\ι.le ι'
 calls:Enters P f->∀(F:Fz) h x h1,ca.m h=some (x,h1)->∀ι w (vs':ν),Rel P F ι h w->bN P ι vs vs'.toList ->
  Calls P f vs' w λe w'=>∃v' ι',e=.returned v'/\bg P ι' (ca.pk x) v'/\Rel P F ι' h1 w'/\ι.le ι'
theorem iS.of {P:Program}{f:FuncId}{vs:δ}{ca:nf}(he:Enters P f)(hc:∀(F:Fz) h x h1,ca.m h=some (x,h1)->∀ι w (vs':ν),Rel P F ι h w->bN P ι vs vs'.toList ->
  Calls P f vs' w λe w'=>∃v' ι',e=.returned v'/\bg P ι' (ca.pk x) v'/\Rel P F ι' h1 w'/\ι.le ι'):iS P f vs ca:=⟨.inl he,λ_=>hc⟩
def Lm (P:Program)(x:ξ)(vs:δ)(ca:nf):Prop:=
 ∀h y h1,ca.m h=some (y,h1)->∃g caps ca' y',x=.func (.func g) #[] caps/\iS P g (vs++caps.toList) ca'/\ca'.m h=some (y',h1)/\ca'.pk y'=ca.pk y
def one (v:ξ):List PanicEntry:=[{ v,recovered:=false }]
structure Fe (P:Program) (f:FuncId) (vs:δ) (ca:Po):Prop where
 enter:∀args w,(callFunc f args).run P w=.ok (.enter f args) w
 ret:∀(F:Fz) h x h1,ca.m h=some (.inl x,h1)->∀ι w (vs':ν),Rel P F ι h w->bN P ι vs vs'.toList ->
  Calls P f vs' w λe w'=>∃v' ι',e=.returned v'/\bg P ι' (ca.pk x) v'/\Rel P F ι' h1 w'/\ι.le ι'
 eA:∀(F:Fz) h v h1,ca.m h=some (.inr v,h1)->∀ι w (vs':ν),Rel P F ι h w->bN P ι vs vs'.toList ->
  Calls P f vs' w λe w'=>∃v' ι',e=.panicked (one v')/\bg P ι' v v'/\Rel P F ι' h1 w'/\ι.le ι'
structure qu (P:Program) (C:eI):Prop where
 st:∀f vs ca,C.st f vs=some ca->iS P f vs ca
 dy:∀t x vs ca,C.dy t x vs=some ca->Lm P x vs ca
 mo:∀f vs ca,C.mo f=true->C.st f vs=some ca->xK ca.m
 sp:∀f vs ca,C.sp f vs=some ca->Fe P f vs ca
 Hh:∀f vs ca,C.sp f vs=some ca->C.Hh f=true
 ZU:∀f vs,C.Hh f=true->C.st f vs=none
theorem zW {α:Type}{k:Nat}{m:M α}{h:af}{r:α×af}(hx:vY k m h=some r):m h=some r:=by
 unfold vY at hx;split at hx
 .split at hx
  .rename_i hm _ _ _;cases hx;exact hm
  .cases hx
 .cases hx
theorem JH {a b:af}{k:Nat}{kt:κ}(e:a.sD k kt=b.sD k kt)(ha:a.fresh k)(hb:b.fresh k):a=b:=by
 obtain⟨mg,g,nx,tp,us,dc⟩:=a;obtain⟨mg',g',nx',tp',us',dc'⟩:=b;simp only[af.sD,af.iP,af.mk.injEq] at e;obtain⟨e1,rfl,rfl,rfl,e5,rfl⟩:=e;simp only[af.mk.injEq,aaY,and_true];refine⟨funext λj=>?_,funext λj=>?_⟩
 .have:=congrFun e1 j;cases hj:Nat.beq j k
  .simpa[hj] using this
  .have hj:=IS hj;subst hj;exact ha.2.2.1.trans hb.2.2.1.symm
 .have:=congrFun e5 j;cases hj:Nat.beq j k
  .simpa[hj] using this
  .have hj:=IS hj;subst hj;exact ha.1.trans hb.1.symm
theorem SX {α:Type}{k:Nat}{m:M α}(hm:Vw m):Vw (vY k m):=by
 intro h j kt x h2 hf hx;have hb:m (h.sD j kt)=some (x,h2)/\BP k m (h.sD j kt) x h2:=by
  unfold vY at hx;split at hx
  .split at hx
   .rename_i hm _ hb _;cases hx;exact⟨hm,hb⟩
   .cases hx
  .cases hx
 obtain⟨hm1,hb⟩:=hb;obtain⟨h1,q1,q2,q3⟩:=hm h j kt x h2 hf hm1;refine⟨h1,?_,q2,q3⟩;have hbp:BP k m h x h1:=by
  intro h0 t cs f1 f2 f3 e;have hjk:j≠k:=λejk=>by
   subst ejk;have:=hf.2.2.2;rw[e] at this;simp[af.bt,abe] at this
  have b1:Nat.beq k j=false:=by cases q:Nat.beq k j<;>grind [Nat.eq_of_beq_eq_true]
  have b2:Nat.beq j k=false:=by cases q:Nat.beq j k<;>grind [Nat.eq_of_beq_eq_true]
  have comm:∀(g:af) (nx:Nat),(g.sD j kt).bt k nx t cs=(g.bt k nx t cs).sD j kt:=by
   intro g nx;unfold af.bt af.sD af.iP;simp only[af.mk.injEq,aaY,and_true];funext i;cases q1:Nat.beq i j<;>cases q2:Nat.beq i k<;>simp
  have hf0:h0.fresh j:=by
   obtain⟨a,b,c,d⟩:=hf;rw[e] at a b c d;exact⟨by simpa[af.bt,b2] using a,b,c,by simpa[af.bt,b2] using d⟩
  obtain⟨h3',p1,p2,p3,p4,p5⟩:=hb (h0.sD j kt) t cs (by simp[af.sD,b1,f1]) f2 f3 (by rw[e];exact (comm _ _).symm);obtain⟨h3,r1,r2,r3⟩:=hm h0 j kt x h3' hf0 p1;subst r3;refine⟨h3,r1,by simpa[af.sD,b1] using p2,p3,p4,JH (k:=j) (kt:=kt) ?_ q2 ?_⟩
  .rw[<-q3,p5];exact comm _ _
  .obtain⟨a,b,c,d⟩:=r2;exact⟨by simp[af.bt,b2,a],b,c,by simp[af.bt,b2,d]⟩
 unfold vY;rw[q1];simp only;split
 .rfl
 .rename_i hn _;exact absurd hbp hn
theorem qu.kO {C:eI}(H:qu P C)(nb:Nat)(ops:Array Oper)(l:List (Nat×η)):qu P (C.kO P nb ops l):=by
 refine⟨λf vs ca h1=>?_,H.dy,λf vs ca h1 h2=>?_,H.sp,H.Hh,λf vs h1=>?_⟩
 .simp only[eI.kO] at h1;split at h1
  .exact H.st f vs ca h1
  .split at h1
   .rename_i ca' hca;cases h1;obtain⟨q1,q2⟩:=H.st f vs ca' hca;exact⟨q1.imp (λx=>x) λq F h x h1 hx=>q F h x h1 (zW hx),λhe F h x h1 hx=>q2 he F h x h1 (zW hx)⟩
   .cases h1
 .simp only[eI.kO] at h1 h2;split at h2
  .exact H.mo f vs ca h1 h2
  .split at h2
   .rename_i ca' hca;cases h2;exact⟨SX (H.mo f vs ca' h1 hca).1,λh x h3 hx=>(H.mo f vs ca' h1 hca).2 h x h3 (zW hx)⟩
   .cases h2
 .simp only[eI.kO];have h2:C.st f vs=none:=H.ZU f vs h1;split
  .exact h2
  .rw[h2]
def y7 (P:Program)(F:Fz)(ι:gy)(L:cK)(t:ν):Prop:=
 ∀(i:Nat) n cs,L i=some (n,cs)->∃b cs' e,t[i]?=some (.slice (some ⟨b,0,none⟩) n n)/\F b=some (.cells cs' e (0,0))/\bN P ι cs cs'.toList/\(∀v∈cs,fi v=true)
theorem y7.emp {F:Fz}{t:ν}:y7 P F ι cK.emp t:=λi n cs hl=>by simp[cK.emp] at hl
theorem y7.mono {F F':Fz}{L:cK}{t:ν}(hl:y7 P F ι L t)(hF:Js F F')(hle:ι.le ι'):y7 P F' ι' L t:=λi n cs hi=>
 let ⟨b,cs',e,q1,q2,q3,q4⟩:=hl i n cs hi
 ⟨b,cs',e,q1,hF.1 _ _ q2,q3.mono hle,q4⟩
theorem y7.del {F:Fz}{L:cK}{a:Go.Act}(hl:y7 P F ι L a.tmps)(d:μ)(v:ξ):y7 P F ι (L.del d) (a.put d v).tmps:=by
 intro i n cs hi;cases d with
 |none=>exact hl i n cs hi
 |some j=>
  simp only[cK.del,aQ] at hi;split at hi
  .cases hi
  .rename_i hne;obtain⟨b,cs',e,q1,q2⟩:=hl i n cs hi;exact⟨b,cs',e,by simp only[Act.put];grind,q2⟩
def VF {R:Type}(P:Program)(F:Fz)(ι:gy)(W:Wr)(t0:ν)(K:Env->cK->M R)(r:R×af)(a:Go.Act)(w:World):Prop:=
 ∃F' ι' E L h,Js F F'/\ι.le ι'/\K E L h=some r/\Rel P F' ι' h w/\iu P ι' E a.tmps/\y7 P F' ι' L a.tmps/\a.defers=F'.DH/\a.tmps.size=W.1/\zN W t0 a.tmps
def Pd {R:Type}(P:Program)(F:Fz)(ι:gy)(W:Wr)(t0:ν)(K:Env->M R)(r:R×af)(a:Go.Act)(w:World):Prop:=
 ∃ι' E h,ι.le ι'/\K E h=some r/\Rel P F ι' h w/\iu P ι' E a.tmps/\a.defers=F.DH/\a.tmps.size=W.1/\zN W t0 a.tmps
theorem y8 {E:Env}{a:Go.Act}(HE:iu P ι E a.tmps){c:Call}{f:FuncId}{vs:δ}(hc:callee E c=some (f,vs))(t:κ)(w:World) :
  ∃vs':ν,bN P ι vs vs'.toList/\(do let d <-resolve a.eval c t;invoke d.target d.args).run P w=(callFunc f vs').run P w:=by
 unfold callee at hc;split at hc
 .rename_i fo vs0 hcal hvs;split at hc
  .rename_i g first captured hf
   cases hc;have hr:=aU HE hf;generalize hq:a.eval fo=q at hr;cases hr with
   |flat _ hf=>simp[cV] at hf
   |func _ _ fs' _ cs' e1 e2 e3 e4=>
    have r0:=y5 HE hvs;refine⟨fs'++c.args.map a.eval++cs',?_,?_⟩
    .simp only[abY];exact (bN.append ⟨by simpa using e1,λi u u' x y=>e2 i u u' (by simpa using x) (by simpa using y)⟩ r0).append ⟨by simpa using e3,λi u u' x y=>e4 i u u' (by simpa using x) (by simpa using y)⟩
    .simp[resolve,hcal,hq,Deferred.ofValue,invoke]
  .cases hc
 .cases hc
theorem DM {E:Env}{a:Go.Act}(HE:iu P ι E a.tmps){C:eI}{c:Call}{t:Nat}{g:FuncId}{caps:ν}{vs:δ}(hd:iQ C c=some t)
  (hc:pU E t c=some (.func (.func g) #[] caps,vs)) (ty:κ) (w:World) :
  ∃vs':ν,bN P ι (vs++caps.toList) vs'.toList/\(do let d <-resolve a.eval c ty;invoke d.target d.args).run P w=(callFunc g vs').run P w:=by
 unfold pU at hc;split at hc
 .rename_i x vs0 hx hvs;cases hc;have hcal:c.callee=.value (.tmp t):=by
   grind [iQ]
  have hr:=aU (x:=.tmp t) HE hx;generalize hq:a.eval (.tmp t)=q at hr;cases hr with
  |flat _ hf=>simp[cV] at hf
  |func _ _ fs' _ cs' e1 e2 e3 e4=>
   have r0:=y5 HE hvs;have hfs:fs'=#[]:=Array.eq_empty_of_size_eq_zero (by simpa using e1.symm);subst hfs;refine⟨c.args.map a.eval++cs',?_,?_⟩
   .simp only[abY];exact r0.append ⟨by simpa using e3,λi u u' x y=>e4 i u u' (by simpa using x) (by simpa using y)⟩
   .simp[resolve,hcal,hq,Deferred.ofValue,invoke]
 .cases hc
theorem Ff {F:Fz}(R:Rel P F ι h w){strict:Bool}{E:Env}{L:cK}{a:Go.Act}(HE:iu P ι E a.tmps)(HL:y7 P F ι L a.tmps){o:Oper}{c:Call}(ho:o.op=.call c){n:Nat}{cs:δ}
  (hl:qt L c=some (n,cs)) {v:ξ} (hx:(nZ P strict E c n cs).exec h=some (v,h1)):Jz P F ι w (execOp a.eval o) v h1:=by
 unfold qt at hl;split at hl
 .rename_i s0 t0 hcal hargs;obtain⟨b,cs',e0,q1,q2,q3,q4⟩:=HL _ _ _ hl;unfold nZ at hx;split at hx
  .rename_i t t' s x hts hargs';rw[hargs] at hargs';simp at hargs';obtain⟨rfl,rfl⟩:=hargs';split at hx
   .rename_i sa sn sc e e' hs ht ht';split at hx
    .rename_i z zz hsz hzz;split at hx
     .rename_i hb;have hb:=aaB hb;obtain⟨i,hi,rfl⟩:=uS hsz;rw[hi] at hb;simp only[Act.exec] at hx;split at hx
      .rename_i r h3 hap;cases hx;have hlen:=SV hap;have hblk:=R.j7 _ _ q2;have S:Src P ι h w i.size n (.slice (some ⟨b,0,none⟩) n n) cs cs'.toList:=by
        refine⟨λw'=>by simp[Builtin.lenOf],λw' he=>?_,q3,q4⟩;have hl':cs'.toList.length=n*i.size:=(by rw[<-q3.1,hlen]);have:=rQ (P:=P) (w:=w) (a':=⟨b,0,none⟩) (cs':=cs'.toList) hl' (λj v' hj=>by
         rw[add_eq rfl];simp[World.cell?,hblk];simpa using hj) he
        simpa[Builtin.firstCells] using this
       have hsv:=aU HE hs;have htv:a.eval (.tmp t0)=.slice (some ⟨b,0,none⟩) n n:=(by simp[Act.eval,aa8,q1]);have hga:c.args.map a.eval=#[a.eval s0,.slice (some ⟨b,0,none⟩) n n]:=by
        apply aaS;simp[hargs,htv]
       have hgt:c.argTypes=#[t,t']:=aaS (by simpa using hts);have:=zU (s:=⟨sa,sn,sc⟩) (ty:=o.type) R ht (.inl ⟨_,ht'⟩) hi hzz hb hsv S hap
       grind [execOp,resolve,invoke,builtin,this.o]
      .cases hx
     .simp[Act.exec] at hx
    .simp[Act.exec] at hx
   .simp[Act.exec] at hx
  .simp[Act.exec] at hx
 .cases hl
theorem H2 {F:Fz}(R:Rel P F ι h w){ops:Array Oper}{E:Env}{a:Go.Act}(HE:iu P ι E a.tmps){o:Oper}{n:Nat}{cs:δ}(hl:tX P ops E o=some (n,cs)) :
  ∃e r',bN P ι cs r'/\(∀v∈cs,fi v=true)/\(execOp a.eval o).run P w=.ok (.value (.slice (some ⟨w.heap.size,0,none⟩) n n)) { w with heap:=w.heap.push (.cells r'.toArray e) } /\
   F w.heap.size=none/\Rel P (SI F w.heap.size (.cells r'.toArray e)) ι h { w with heap:=w.heap.push (.cells r'.toArray e) }:=by
 unfold tX at hl;split at hl
 .rename_i t len parts d ho hd;split at hl
  .split at hl
   .rename_i vs hvs;split at hl
    .rename_i cs0 hcs;cases hl;have hp:HW P ι vs (parts.map λ(i,x)=>(i,a.eval x)).toList:=(by simpa using pX HE hvs);obtain⟨q1,e,r',q2,q3⟩:=Co hp hcs;refine⟨e,r',q2,q1,?_,?_,?_⟩
     .simp only[execOp,ho];rw[Sem.run_bind,q3];rfl
     .cases hq:F w.heap.size with
      |none=>rfl
      |some ob=>have:=(Array.getElem?_eq_some_iff.1 (R.j7 _ ob hq)).1;omega
     .refine (R.SG _).SJ (by simp) (λn l hl=>?_) λm r hm=>?_
      .have:=hold R n l hl;omega
      .obtain⟨_,es,c,q⟩:=R.mp.loc m r hm
       grind
    .cases hl
   .cases hl
  .cases hl
 .cases hl
theorem AX {R:Type}{C:eI}(HT:qu P C){F:Fz}{W:Wr}{nm:μ}{cks:List θ}{ks:η}{ops:Array Oper}{E:Env}{L:cK}{o:Oper}{K:Env->cK->M R}{r:R×af}
  (R0:Rel P F ι h w) {a:Go.Act} {t0:ν} (HE:iu P ι E a.tmps) (HL:y7 P F ι L a.tmps) (hd:a.defers=F.DH) (hs:a.tmps.size=W.1) (hfr:zN W t0 a.tmps)
  (hx:jU P C W nm cks ks ops E L o K h=some r) {next:Go.Act->World->Prop} {Q:Exit->Go.Act->World->Prop} (hnext:∀a w,VF P F ι W t0 K r a w->next a w):o.wp P a w next Q:=by
 generalize hm:jU P C W nm cks ks ops E L o K=m at hx;unfold jU at hm;split at hm
 .subst hm;simp[AT] at hx
 .rename_i hw;have hdef:∀v,(a.put o.dst v).defers=F.DH:=λv=>by cases o.dst<;>exact hd
  have hsz:∀v,(a.put o.dst v).tmps.size=W.1:=λv=>by rw[(zN.put (W:=W) hw v).1,hs]
  have fin:∀(A:Act) (E':Env),iu P ι E' a.tmps->(∀v h1,A.exec h=some (v,h1)->Jz P F ι w (execOp a.eval o) v h1) ->
    (pn cks A).run (λv=>K (E'.put o.dst v) (L.del o.dst)) h=some r->o.wp P a w next Q:=by
   intro A E' HE' hA hx;obtain⟨v,h1,e1,e2⟩:=Act.HZ hx;obtain⟨v',w',ι',hr,hv,R1,hle⟩:=hA v h1 (JG e1);have hnow:VF P F ι W t0 K r (a.put o.dst v') w':=
    ⟨F,ι',_,_,h1,.refl _,hle,e2,R1,(HE'.mono hle).put hs hw hv,(HL.mono (.refl _) hle).del _ _,hdef _,hsz _,hfr.trans (.put hw v')⟩
   unfold Oper.wp;rcases hr with hr|⟨hr,rfl⟩
   .rw[hr];exact hnext _ _ hnow
   .rw[hr];exact hnext _ _ hnow
  split at hm
  ·-- pick
   rename_i c x y ho;split at hm
   .rename_i t hc;have hb:=(aU HE hc).bool;have fin2:∀v z,iu P ι (E.nY c t) a.tmps->(E.nY c t).ev z=some v->K ((E.nY c t).put o.dst v) (L.del o.dst) h=some r->(a.eval (if t=true then x else y)=a.eval z)->o.wp P a w next Q:=by
     intro v z HE' hz hk hez;have hv:=aU HE' hz;unfold Oper.wp;have hrun:(execOp a.eval o).run P w=.ok (.value (a.eval z)) w:=by
      unfold execOp;rw[ho];dsimp only;rw[hb];cases t<;>simp_all[asBool]
     rw[hrun];exact hnext _ _ ⟨F,ι,_,_,h,.refl _,.refl _,hk,R0,HE'.put hs hw hv,HL.del _ _,hdef _,hsz _,hfr.trans (.put hw _)⟩
    unfold kG at hm;split at hm
    .rename_i ht;subst ht;split at hm
     .rename_i v hv;subst hm;exact fin2 v x (HE.nY hc) hv hx rfl
     .subst hm;simp[AT] at hx
    .rename_i ht;have ht:t=false:=(by cases t<;>simp_all);subst ht;split at hm
     .rename_i v hv;subst hm;exact fin2 v y (HE.nY hc) hv hx rfl
     .subst hm;simp[AT] at hx
   .subst hm;simp[AT] at hx
  ·-- calls
   rename_i c ho;split at hm
   .split at hm
    .rename_i n cs hla;subst hm;rw[Jx] at hx;exact fin _ E HE (λv h1 hx=>Ff R0 HE HL ho hla (by rw[zP hx] at hx;exact hx)) hx
    .split at hm
     .subst hm;simp[AT] at hx
     .subst hm;exact fin _ E HE (λv h1 hx=>uc R0 HE (by rw[zP hx] at hx;exact hx)) hx
   .have call:∀(ca ca':nf) (f:FuncId) (vs:δ) (vs':ν) (x:ca.α) (x':ca'.α) (h2:af),iS P f vs ca'->bN P ι vs vs'.toList ->
      (do let d <-resolve a.eval c o.type;invoke d.target d.args).run P w=(callFunc f vs').run P w->ca'.m h=some (x',h2)->ca'.pk x'=ca.pk x ->
      K (E.put o.dst (ca.pk x)) (L.del o.dst) h2=some r->o.wp P a w next Q:=by
     intro ca ca' f vs vs' x x' h2 hok r1 r2 hm hpk hx;obtain⟨hen,hcalls⟩:=hok;rcases hen with hen|hval
     rotate_left
     .obtain⟨v',w',ι',hrun,hv,R1,hle⟩:=hval F h x' h2 hm ι w vs' R0 r1;unfold Oper.wp;have hrun:(execOp a.eval o).run P w=.ok (.value v') w':=by
       grind [execOp]
      rw[hrun];rw[hpk] at hv;exact hnext _ _ ⟨F,ι',_,_,h2,.refl _,hle,hx,R1,(HE.mono hle).put hs hw hv,(HL.mono (.refl _) hle).del _ _,hdef _,hsz _,hfr.trans (.put hw v')⟩
     have hcalls:=hcalls hen;unfold Oper.wp;have hrun:(execOp a.eval o).run P w=.ok (.enter f vs') w:=by
      unfold execOp;rw[ho];dsimp only;rw[r2,hen]
     rw[hrun];refine (hcalls F h x' h2 hm ι w vs' R0 r1).mono ?_;rintro e w'' ⟨v',ι',rfl,hv,R1,hle⟩;rw[hpk] at hv;exact hnext _ _ ⟨F,ι',_,_,h2,.refl _,hle,hx,R1,(HE.mono hle).put hs hw hv,(HL.mono (.refl _) hle).del _ _,hdef _,hsz _,hfr.trans (.put hw v')⟩
    split at hm
    .rename_i t hds;split at hm
     .rename_i xv vs hcd;split at hm
      .rename_i ca hca;subst hm;simp only[AI] at hx;split at hx
       .rename_i x h2 hm;obtain⟨g,caps,ca',y',rfl,q2,q3,q4⟩:=HT.dy _ _ _ _ hca h x h2 (yh hm).1;obtain⟨vs',r1,r2⟩:=DM HE hds hcd o.type w;exact call ca ca' _ _ vs' x y' h2 q2 r1 r2 q3 q4 hx
       .cases hx
      .subst hm;simp[AT] at hx
     .subst hm;simp[AT] at hx
    .split at hm
     .rename_i f vs hcal;split at hm
      .rename_i ca hca;subst hm;simp only[AI] at hx;split at hx
       .rename_i x h2 hm;obtain⟨vs',r1,r2⟩:=y8 HE hcal o.type w;exact call ca ca _ _ vs' x x h2 (HT.st f vs ca hca) r1 r2 (yh hm).1 rfl hx
       .cases hx
      .subst hm;simp[AT] at hx
     .subst hm;simp[AT] at hx
  ·-- stores
   split at hm
   .subst hm;exact fin _ E HE (λv h1 hx=>uc R0 HE hx) hx
   .split at hm
    .subst hm;grind [uc,Cq]
    .subst hm;simp[AT] at hx
  ·-- slices that are written out
   rename_i t len parts ho;split at hm
   .rename_i x hlo;obtain⟨n,cs⟩:=x;subst hm;obtain⟨e,r',q1,q2,q3,q4,q5⟩:=H2 R0 HE hlo;have hdst:∃d,o.dst=some d:=by
     grind [tX]
    obtain⟨d,hd'⟩:=hdst;unfold Oper.wp;rw[q3];refine hnext _ _ ⟨_,ι,_,_,h,Js.add q4,.refl _,hx,q5,?_,?_,hdef _,hsz _,hfr.trans (.put hw _)⟩
    .rw[hd'];intro j u hj;simp only[Env.del,aQ] at hj;split at hj
     .cases hj
     .rename_i hne;obtain⟨u',x1,x2⟩:=HE j u hj;exact⟨u',by simp only[Act.put];grind,x2⟩
    .rw[hd'];intro j m cs2 hj;simp only[cK.put,aQ] at hj;split at hj
     .rename_i hne;subst hne;cases hj;have hlt:j<a.tmps.size:=(by rw[hs];rw[hd'] at hw;exact PL hw);refine⟨w.heap.size,r'.toArray,e,by simp[Act.put,hlt],by simp[SI],by simpa using q1,q2⟩
     .rename_i hne;obtain⟨b,cs',e',x1,x2,x3,x4⟩:=HL j m cs2 hj;exact⟨b,cs',e',by simp only[Act.put];grind,(Js.add q4).1 _ _ x2,x3,x4⟩
   .subst hm;exact fin _ E HE (λv h1 hx=>uc R0 HE hx) hx
  .subst hm;exact fin _ E HE (λv h1 hx=>uc R0 HE hx) hx
theorem y9 {R:Type}{C:eI}(HT:qu P C){F:Fz}{W:Wr}{nb:μ}{ops:Array Oper}{K:Env->M R}{r:R×af}{t0:ν}(hlib:Ld F){Q:Exit->Go.Act->World->Prop}(hQ:∀a w,Pd P F ι W t0 K r a w->Q .normal a w) :
  ∀(l:List (Nat×η)) (E:Env) (L:cK) (A:Hr) (F0:Fz) (ι0:gy) (h:af) (a:Go.Act) (w:World),
   Rel P F0 ι0 h w->iu P ι0 E a.tmps->y7 P F0 ι0 L a.tmps->a.defers=F0.DH->a.tmps.size=W.1->zN W t0 a.tmps->ι.le ι0->Js F F0->dP P C W nb ops l E L A K h=some r ->
   wpOps P ops Q (l.map (·.1)) a w
 |[],E,L,A,F0,ι0,h,a,w,R0,HE,HL,hd,hs,hfr,hle,hF,hx=>hQ _ _ ⟨ι0,E,h,hle,hx,R0.shrink hF hlib,HE,hd.trans hF.2.2.2,hs,hfr⟩
 |(i,cs)::rest,E,L,A,F0,ι0,h,a,w,R0,HE,HL,hd,hs,hfr,hle,hF,hx=>by
  have ih:=y9 HT (F:=F) (W:=W) (nb:=nb) (ops:=ops) (K:=K) (r:=r) (t0:=t0) hlib hQ rest;generalize hm:dP P C W nb ops ((i,cs)::rest) E L A K=m at hx;unfold dP at hm;split at hm
  .subst hm;simp[AT] at hx
  .rename_i o ho;have run:∀E',iu P ι0 E' a.tmps->Region.wanted o (yielded ops a.tmps)=true ->
     jU P C W (nb.map (·+i)) (cs.map A) (vI P ops nb cs) ops E' L o (λE' L'=>dP P C W nb ops rest E' L' (λj=>cond (Nat.beq j i) (iR E o) (A j)) K) h=some r ->
     wpOps P ops Q ((i::rest.map (·.1))) a w:=by
    intro E' HE' hwant hx;simp only[wpOps,ho];rw[BY hwant];refine .inl (AX (ι:=ι0) (t0:=t0) HT R0 HE' HL hd hs hfr hx ?_);rintro a2 w2 ⟨F2,ι2,E2,L2,h2,hF2,hle2,hk,R2,HE2,HL2,hd2,hs2,hfr2⟩;exact ih E2 L2 _ F2 ι2 h2 a2 w2 R2 HE2 HL2 hd2 hs2 hfr2 (hle.trans hle2) (hF.trans hF2) hk
   have skip:∀E',iu P ι0 E' a.tmps->Region.wanted o (yielded ops a.tmps)=false->xk W o.dst=true ->
     dP P C W nb ops rest (E'.put o.dst undef) (L.del o.dst) A K h=some r ->
     wpOps P ops Q ((i::rest.map (·.1))) a w:=by
    intro E' HE' hwant hw hx;simp only[wpOps,ho];rw[By (by rw[hwant];simp)];refine ih _ _ A F0 ι0 h _ w R0 (HE'.put hs hw (.tuple _ _ rfl (by simp))) (HL.del _ _) ?_ ?_ (hfr.trans (.put hw _)) hle hF hx
    .cases o.dst<;>exact hd
    .rw[(zN.put (W:=W) hw _).1,hs]
   split at hm
   .rename_i hg;subst hm;exact run E HE (by simp[Region.wanted,hg]) hx
   .rename_i j want hg;split at hm
    .rename_i t ht;split at hm
     .rename_i b hb;obtain⟨v',hv1,hv2⟩:=HE t _ hb;obtain rfl:=hv2.bool;have hy:yielded ops a.tmps j=some b:=(by simp[yielded,ht,hv1]);have hwant:Region.wanted o (yielded ops a.tmps)=(b==want):=(by simp[Region.wanted,hg,hy]);cases want with
      |true=>
       simp only at hm;unfold kG at hm;split at hm
       .rename_i e;subst e;subst hm;exact run _ (HE.Fc hb) (by rw[hwant];rfl) hx
       .rename_i e;have:b=false:=(by cases b<;>simp_all);subst this;split at hm
        .rename_i hw;subst hm;exact skip _ (HE.Fc hb) (by rw[hwant];rfl) hw hx
        .subst hm;simp[AT] at hx
      |false=>
       simp only at hm;unfold kG at hm;split at hm
       .rename_i e;subst e;split at hm
        .rename_i hw;subst hm;exact skip _ (HE.Fc hb) (by rw[hwant];rfl) hw hx
        .subst hm;simp[AT] at hx
       .rename_i e;have:b=false:=(by cases b<;>simp_all);subst this;subst hm;exact run _ (HE.Fc hb) (by rw[hwant];rfl) hx
     .rename_i vs hb;obtain⟨v',hv1,hv2⟩:=HE t _ hb;have hy:yielded ops a.tmps j=none:=by
       cases hv2 with
       |flat _ hf=>simp[cV] at hf
       |tuple=>simp[yielded,ht,hv1]
      split at hm
      .rename_i hw;subst hm;exact skip E HE (by simp[Region.wanted,hg,hy]) hw hx
      .subst hm;simp[AT] at hx
     .subst hm;simp[AT] at hx
    .subst hm;simp[AT] at hx
def YX {R:Type}(P:Program)(F:Fz)(ι:gy)(W:Wr)(t0:ν)(eA:ξ->M R)(r:R×af)(e:Exit)(a:Go.Act)(w:World):Prop:=
 ∃F' ι' v v' h,e=.panic (one v')/\Js F F'/\ι.le ι'/\eA v h=some r/\bg P ι' v v'/\Rel P F' ι' h w/\a.defers=F'.DH/\a.tmps.size=W.1/\zN W t0 a.tmps
theorem JI {a:Go.Act}{o:Oper}{x:Operand}(hp:yb o=some x){t:κ}{v:ξ}(hx:a.eval x=.iface t v)(w:World):(execOp a.eval o).run P w=.halt (.panic (.iface t v)) w:=by
 unfold yb at hp;split at hp
 .rename_i y ho;cases hp;unfold execOp;rw[ho];dsimp only;rw[hx];rfl
 .rename_i c ho;split at hp
  .rename_i y hc ha;cases hp;have hm:c.args.map a.eval=#[.iface t v]:=by apply aaS;simp[ha,hx]
   unfold execOp;rw[ho];dsimp only;simp only[resolve,hc,pure_bind,invoke,builtin,hm];rfl
  .cases hp
 .cases hp
theorem Fg {R:Type}{C:eI}(HT:qu P C){F:Fz}{W:Wr}{nm:μ}{ops:Array Oper}{E:Env}{L:cK}{o:Oper}{eA:ξ->M R}{K:Env->cK->M R}{r:R×af}
  (R0:Rel P F ι h w) {a:Go.Act} {t0:ν} (HE:iu P ι E a.tmps) (HL:y7 P F ι L a.tmps) (hd:a.defers=F.DH) (hs:a.tmps.size=W.1) (hfr:zN W t0 a.tmps)
  (hx:rP P C W nm ops E L o eA K h=some r) {next:Go.Act->World->Prop} {Q:Exit->Go.Act->World->Prop} (hnext:∀a w,VF P F ι W t0 K r a w->next a w)
  (hpan:∀e a w,YX P F ι W t0 eA r e a w->Q e a w):o.wp P a w next Q:=by
 generalize hm:rP P C W nm ops E L o eA K=m at hx;unfold rP at hm;split at hm
 .rename_i x hp;split at hm
  .rename_i t v hv;subst hm;have hr:=aU HE hv;generalize hq:a.eval x=q at hr;have:∃v',q=.iface t v':=by cases hr<;>exact⟨_,rfl⟩
   obtain⟨v',rfl⟩:=this;unfold Oper.wp;rw[JI hp hq];exact hpan _ _ _ ⟨F,ι,_,_,h,rfl,.refl _,.refl _,hx,hr,R0,hd,hs,hfr⟩
  .subst hm;simp[AT] at hx
 .split at hm
  .rename_i ca hca;split at hm
   .rename_i hw;subst hm;have hdef:∀v,(a.put o.dst v).defers=F.DH:=λv=>(by cases o.dst<;>exact hd);have hsz:∀v,(a.put o.dst v).tmps.size=W.1:=λv=>(by rw[(zN.put (W:=W) hw v).1,hs]);unfold pV at hca;split at hca
    rotate_left
    .cases hca
    split at hca
    .rename_i c ho;split at hca
     .rename_i f vs hcal;obtain⟨hen,hret,hpn⟩:=HT.sp f vs ca hca;obtain⟨vs',r1,r2⟩:=y8 HE hcal o.type w;have hrun:(execOp a.eval o).run P w=.ok (.enter f vs') w:=by
       grind [execOp]
      unfold Oper.wp;rw[hrun];simp only[AI] at hx;split at hx
      .rename_i x h2 hm;cases x with
       |inl y=>
        refine (hret F h y h2 hm ι w vs' R0 r1).mono ?_;rintro e w'' ⟨v',ι',rfl,hv,R1,hle⟩;exact hnext _ _ ⟨F,ι',_,_,h2,.refl _,hle,hx,R1,(HE.mono hle).put hs hw hv,(HL.mono (.refl _) hle).del _ _,hdef _,hsz _,hfr.trans (.put hw v')⟩
       |inr v=>
        refine (hpn F h v h2 hm ι w vs' R0 r1).mono ?_;rintro e w'' ⟨v',ι',rfl,hv,R1,hle⟩;exact hpan _ _ _ ⟨F,ι',v,v',h2,rfl,.refl _,hle,hx,hv,R1,hd,hs,hfr⟩
      .cases hx
     .cases hca
    .cases hca
   .subst hm;simp[AT] at hx
  .subst hm;exact AX HT R0 HE HL hd hs hfr hx hnext
def DN {R:Type}(P:Program)(F:Fz)(ι:gy)(W:Wr)(t0:ν)(eA:ξ->M R)(r:R×af)(e:Exit)(a:Go.Act)(w:World):Prop:=
 ∃ι' v v' h,e=.panic (one v')/\ι.le ι'/\eA v h=some r/\bg P ι' v v'/\Rel P F ι' h w/\a.defers=F.DH/\a.tmps.size=W.1/\zN W t0 a.tmps
theorem DN.trans {R:Type}{F:Fz}{W:Wr}{t0 t1:ν}{eA:ξ->M R}{r:R×af}(hle:ι.le ι')(hf:zN W t0 t1){e:Exit}{a:Go.Act}{w:World}
  (hp:DN P F ι' W t1 eA r e a w):DN P F ι W t0 eA r e a w:=by
 obtain⟨ι2,v,v',h,q1,q2,q3,q4,q5,q6,q7,q8⟩:=hp;exact⟨ι2,v,v',h,q1,hle.trans q2,q3,q4,q5,q6,q7,hf.trans q8⟩
theorem tH {R:Type}{C:eI}(HT:qu P C){F:Fz}{W:Wr}{nb:μ}{ops:Array Oper}{eA:ξ->M R}{K:Env->M R}{r:R×af}{t0:ν}(hlib:Ld F) :
  ∀(l:η) (E:Env) (L:cK) (F0:Fz) (ι0:gy) (h:af) (a:Go.Act) (w:World),
   Rel P F0 ι0 h w->iu P ι0 E a.tmps->y7 P F0 ι0 L a.tmps->a.defers=F0.DH->a.tmps.size=W.1->zN W t0 a.tmps->ι.le ι0->Js F F0->fZ P C W nb ops eA l E L K h=some r ->
   wpOps P ops (λe a w=>(e=.normal/\Pd P F ι W t0 K r a w)\/DN P F ι W t0 eA r e a w) l a w
 |[],E,L,F0,ι0,h,a,w,R0,HE,HL,hd,hs,hfr,hle,hF,hx=>.inl ⟨rfl,ι0,E,h,hle,hx,R0.shrink hF hlib,HE,hd.trans hF.2.2.2,hs,hfr⟩
 |i::rest,E,L,F0,ι0,h,a,w,R0,HE,HL,hd,hs,hfr,hle,hF,hx=>by
  have ih:=tH HT (F:=F) (W:=W) (nb:=nb) (ops:=ops) (eA:=eA) (K:=K) (r:=r) (t0:=t0) hlib rest;generalize hm:fZ P C W nb ops eA (i::rest) E L K=m at hx;unfold fZ at hm;split at hm
  .subst hm;simp[AT] at hx
  .rename_i o ho;have run:∀E',iu P ι0 E' a.tmps->Region.wanted o (yielded ops a.tmps)=true ->
     rP P C W (nb.map (·+i)) ops E' L o eA (λE' L'=>fZ P C W nb ops eA rest E' L' K) h=some r ->
     wpOps P ops (λe a w=>(e=.normal/\Pd P F ι W t0 K r a w)\/DN P F ι W t0 eA r e a w) (i::rest) a w:=by
    intro E' HE' hwant hx;simp only[wpOps,ho];rw[BY hwant];refine .inl (Fg (ι:=ι0) (t0:=t0) HT R0 HE' HL hd hs hfr hx ?_ ?_)
    .rintro a2 w2 ⟨F2,ι2,E2,L2,h2,hF2,hle2,hk,R2,HE2,HL2,hd2,hs2,hfr2⟩;exact ih E2 L2 F2 ι2 h2 a2 w2 R2 HE2 HL2 hd2 hs2 hfr2 (hle.trans hle2) (hF.trans hF2) hk
    .rintro e a2 w2 ⟨F2,ι2,v,v',h2,rfl,hF2,hle2,hk,hv,R2,hd2,hs2,hfr2⟩;exact .inr ⟨ι2,v,v',h2,rfl,hle.trans hle2,hk,hv,R2.shrink (hF.trans hF2) hlib,hd2.trans (hF.trans hF2).2.2.2,hs2,hfr2⟩
   have skip:∀E',iu P ι0 E' a.tmps->Region.wanted o (yielded ops a.tmps)=false->xk W o.dst=true ->
     fZ P C W nb ops eA rest (E'.put o.dst undef) (L.del o.dst) K h=some r ->
     wpOps P ops (λe a w=>(e=.normal/\Pd P F ι W t0 K r a w)\/DN P F ι W t0 eA r e a w) (i::rest) a w:=by
    intro E' HE' hwant hw hx;simp only[wpOps,ho];rw[By (by rw[hwant];simp)];refine ih _ _ F0 ι0 h _ w R0 (HE'.put hs hw (.tuple _ _ rfl (by simp))) (HL.del _ _) ?_ ?_ (hfr.trans (.put hw _)) hle hF hx
    .cases o.dst<;>exact hd
    .rw[(zN.put (W:=W) hw _).1,hs]
   split at hm
   .rename_i hg;subst hm;exact run E HE (by simp[Region.wanted,hg]) hx
   .rename_i j want hg;split at hm
    .rename_i t ht;split at hm
     .rename_i b hb;obtain⟨v',hv1,hv2⟩:=HE t _ hb;obtain rfl:=hv2.bool;have hy:yielded ops a.tmps j=some b:=(by simp[yielded,ht,hv1]);have hwant:Region.wanted o (yielded ops a.tmps)=(b==want):=(by simp[Region.wanted,hg,hy]);cases want with
      |true=>
       simp only at hm;unfold kG at hm;split at hm
       .rename_i e;subst e;subst hm;exact run _ (HE.Fc hb) (by rw[hwant];rfl) hx
       .rename_i e;have:b=false:=(by cases b<;>simp_all);subst this;split at hm
        .rename_i hw;subst hm;exact skip _ (HE.Fc hb) (by rw[hwant];rfl) hw hx
        .subst hm;simp[AT] at hx
      |false=>
       simp only at hm;unfold kG at hm;split at hm
       .rename_i e;subst e;split at hm
        .rename_i hw;subst hm;exact skip _ (HE.Fc hb) (by rw[hwant];rfl) hw hx
        .subst hm;simp[AT] at hx
       .rename_i e;have:b=false:=(by cases b<;>simp_all);subst this;subst hm;exact run _ (HE.Fc hb) (by rw[hwant];rfl) hx
     .rename_i vs hb;obtain⟨v',hv1,hv2⟩:=HE t _ hb;have hy:yielded ops a.tmps j=none:=by
       cases hv2 with
       |flat _ hf=>simp[cV] at hf
       |tuple=>simp[yielded,ht,hv1]
      split at hm
      .rename_i hw;subst hm;exact skip E HE (by simp[Region.wanted,hg,hy]) hw hx
      .subst hm;simp[AT] at hx
     .subst hm;simp[AT] at hx
    .subst hm;simp[AT] at hx
end Go.Ago
