
import Derived.Test.YtengdffgmpghgaaGreatDoorAgoE
set_option linter.all false
namespace Go.Ago
open Go
variable {P:Program}{W0:Fz}{ι ι':eg}{h h' h1:ab}{w w':World}
def Gt (W:Wr)(t t':ν):Prop:=t'.size=t.size/\∀l,W.2=some l->∀i,l.any (Nat.beq i)=false->t'[i]?=t[i]?
theorem Gt.refl (W:Wr)(t:ν):Gt W t t:=⟨rfl,λ_ _ _ _=>rfl⟩
theorem Gt.trans {W:Wr}{a b c:ν}(x:Gt W a b)(y:Gt W b c):Gt W a c:=⟨y.1.trans x.1,λl hl i hi=>(y.2 l hl i hi).trans (x.2 l hl i hi)⟩
theorem WB {W:Wr}{i:Nat}(hw:Mr W (some i)=true):i<W.1:=by
 simp only[Mr,aag] at hw;have:=ae6 hw.1;omega
theorem aaG {W:Wr}{i:Nat}(hw:Mr W (some i)=true){l:η}(hl:W.2=some l):l.any (Nat.beq i)=true:=by
 simp only[Mr,aag,hl] at hw;exact hw.2
theorem Gt.put {W:Wr}{a:Go.Act}{d:μ}(hw:Mr W d=true)(v:ξ):Gt W a.tmps (a.put d v).tmps:=by
 cases d with
 |none=>exact .refl _ _
 |some i=>
  refine⟨by simp[Act.put],λl hl j hj=>?_⟩
  grind [aaG,Act.put]
theorem jW.set {E:Env}{t:ν}(hE:jW P ι E t){i:Nat}(hi:i<t.size){v v':ξ}(hv:aN P ι v v'):jW P ι (E.set i v) (t.setIfInBounds i v'):=by
 intro j u hj;simp only[Env.set,cK] at hj;split at hj
 .grind
 .rename_i e;obtain⟨u',a,b⟩:=hE j u hj
  grind
theorem jW.put {W:Wr}{E:Env}{a:Go.Act}(hE:jW P ι E a.tmps)(hs:a.tmps.size=W.1){d:μ}(hw:Mr W d=true){v v':ξ}(hv:aN P ι v v') :
  jW P ι (E.put d v) (a.put d v').tmps:=by
 cases d with
 |none=>exact hE
 |some i=>exact hE.set (by rw[hs];exact WB hw) hv
theorem jW.WC {E:Env}{t:ν}(hE:jW P ι E t){i:Nat}{b:Bool}(hi:E i=some (.bool b)):jW P ι (E.set i (.bool b)) t:=by
 intro j u hj;simp only[Env.set,cK] at hj;split at hj
 .rename_i e;subst e;cases hj;exact hE _ _ hi
 .exact hE j u hj
theorem jW.sY {E:Env}{a:Go.Act}(hE:jW P ι E a.tmps){c:Operand}{b:Bool}(hc:E.ev c=some (.bool b)):jW P ι (E.sY c b) a.tmps:=by
 cases c with
 |tmp t=>exact hE.WC hc
 |_=>exact hE
theorem Act.Nc {R:Type}{K:ξ->M R}:∀{A:Act} {h:ab} {r:R×ab},A.run K h=some r->∃v h1,A.exec h=some (v,h1)/\K v h1=some r
 |.val v,h,r,hx=>⟨v,h,rfl,hx⟩
 |.ask α m k,h,r,hx=>by
  simp only[Act.run,sh] at hx;split at hx
  .rename_i x h1 hm;obtain⟨v,h2,e1,e2⟩:=Act.Nc hx;exact⟨v,h2,by simp only[Act.exec,hm,e1],e2⟩
  .cases hx
 |.none,h,r,hx=>by simp[Act.run,AS] at hx
theorem Aa:∀{as:List θ},(∀a∈as,∀b,a=some b->gq h h1 b)->sameAt h h1 as=true
 |[],_=>rfl
 |none::r,hs=>by simp only[sameAt];exact Aa (as:=r) λa ha=>hs a (IN _ ha)
 |some c::r,hs=>by
  have h0:=hs (some c) (IT ..) c rfl;simp only[sameAt];split
  .exact Aa (as:=r) λa ha=>hs a (IN _ ha)
  .rename_i hne _;exact absurd h0 hne
theorem Nd {α:Type}{as:List θ}{m:M α}{r:α×ab}(hx:oo as m h=some r):m h=some r/\sameAt h r.2 as=true:=by
 grind [oo]
theorem Gu {α:Type}{as:List θ}{m:M α}{r:α×ab}(hx:wrapM as m h=some r):m h=some r/\sameAt h r.2 as=true:=by
 unfold wrapM at hx;split at hx
 .exact⟨hx,rfl⟩
 .exact Nd hx
theorem Pe {as:List θ}{A:Act}{r:ξ×ab}(hx:(rL as A).exec h=some r):A.exec h=some r:=by
 cases A with
 |val v=>exact hx
 |none=>exact hx
 |ask α m k=>
  cases as with
  |nil=>exact hx
  |cons a as=>
   simp only[rL,Act.exec] at hx⊢;split at hx
   .rename_i x h2 hm;rw[(Nd hm).1];exact hx
   .cases hx
theorem IG {α:Type}{ks:η}{a:Addr}{m:M α}{r:α×ab}(hx:Gd ks a m h=some r):m h=some r/\okK h a ks=true:=by
 grind [Gd]
theorem Gv {ks:η}{a:Addr}{A:Act}{R:Type}{K:ξ->M R}{r:R×ab}(hx:(MH ks a A).run K h=some r):A.run K h=some r:=by
 cases A with
 |val v=>exact hx
 |none=>exact hx
 |ask α m k=>
  simp only[MH,Act.run,sh] at hx⊢;split at hx
  .rename_i x h2 hm;rw[(IG hm).1];exact hx
  .cases hx
def Enters (P:Program)(f:FuncId):Prop:=∀args w,(callFunc f args).run P w=.ok (.enter f args) w
structure gM (P:Program) (f:FuncId) (vs:δ) (ca:uf):Prop where
 enter:Enters P f\/∀(F:Fz) h x h1,ca.m h=some (x,h1)->∀ι w (vs':ν),Rel P F ι h w->bg P ι vs vs'.toList ->
  ∃v' w' ι',(callFunc f vs').run P w=.ok (.value v') w'/\aN P ι' (ca.pk x) v'/\Rel P F ι' h1 w'/\ι.le ι'
 calls:Enters P f->∀(F:Fz) h x h1,ca.m h=some (x,h1)->∀ι w (vs':ν),Rel P F ι h w->bg P ι vs vs'.toList ->
  Calls P f vs' w λe w'=>∃v' ι',e=.returned v'/\aN P ι' (ca.pk x) v'/\Rel P F ι' h1 w'/\ι.le ι'
theorem gM.of {P:Program}{f:FuncId}{vs:δ}{ca:uf}(he:Enters P f)(hc:∀(F:Fz) h x h1,ca.m h=some (x,h1)->∀ι w (vs':ν),Rel P F ι h w->bg P ι vs vs'.toList ->
  Calls P f vs' w λe w'=>∃v' ι',e=.returned v'/\aN P ι' (ca.pk x) v'/\Rel P F ι' h1 w'/\ι.le ι'):gM P f vs ca:=⟨.inl he,λ_=>hc⟩
def RA (P:Program)(x:ξ)(vs:δ)(ca:uf):Prop:=
 ∀h y h1,ca.m h=some (y,h1)->∃g caps ca' y',x=.func (.func g) #[] caps/\gM P g (vs++caps.toList) ca'/\ca'.m h=some (y',h1)/\ca'.pk y'=ca.pk y
def one (v:ξ):List PanicEntry:=[{ v,recovered:=false }]
structure Js (P:Program) (f:FuncId) (vs:δ) (ca:afc):Prop where
 enter:∀args w,(callFunc f args).run P w=.ok (.enter f args) w
 ret:∀(F:Fz) h x h1,ca.m h=some (.inl x,h1)->∀ι w (vs':ν),Rel P F ι h w->bg P ι vs vs'.toList ->
  Calls P f vs' w λe w'=>∃v' ι',e=.returned v'/\aN P ι' (ca.pk x) v'/\Rel P F ι' h1 w'/\ι.le ι'
 tY:∀(F:Fz) h v h1,ca.m h=some (.inr v,h1)->∀ι w (vs':ν),Rel P F ι h w->bg P ι vs vs'.toList ->
  Calls P f vs' w λe w'=>∃v' ι',e=.panicked (one v')/\aN P ι' v v'/\Rel P F ι' h1 w'/\ι.le ι'
structure Bf (P:Program) (C:mR):Prop where
 st:∀f vs ca,C.st f vs=some ca->gM P f vs ca
 dy:∀t x vs ca,C.dy t x vs=some ca->RA P x vs ca
 mo:∀f vs ca,C.mo f=true->C.st f vs=some ca->MoM ca.m
 sp:∀f vs ca,C.sp f vs=some ca->Js P f vs ca
 isP:∀f vs ca,C.sp f vs=some ca->C.isP f=true
 dis:∀f vs,C.isP f=true->C.st f vs=none
theorem Dj {α:Type}{k:Nat}{m:M α}{h:ab}{r:α×ab}(hx:Aq k m h=some r):m h=some r:=by
 unfold Aq at hx;split at hx
 .split at hx
  .rename_i hm _ _ _;cases hx;exact hm
  .cases hx
 .cases hx
theorem Pf {a b:ab}{k:Nat}{kt:κ}(e:a.OW k kt=b.OW k kt)(ha:a.fresh k)(hb:b.fresh k):a=b:=by
 obtain⟨mg,g,nx,tp,us,dc⟩:=a;obtain⟨mg',g',nx',tp',us',dc'⟩:=b;simp only[ab.OW,ab.nu,ab.mk.injEq] at e;obtain⟨e1,rfl,rfl,rfl,e5,rfl⟩:=e;simp only[ab.mk.injEq,ahP,and_true];refine⟨funext λj=>?_,funext λj=>?_⟩
 .have:=congrFun e1 j;cases hj:Nat.beq j k
  .simpa[hj] using this
  .have hj:=IS hj;subst hj;exact ha.2.2.1.trans hb.2.2.1.symm
 .have:=congrFun e5 j;cases hj:Nat.beq j k
  .simpa[hj] using this
  .have hj:=IS hj;subst hj;exact ha.1.trans hb.1.symm
theorem aaH {α:Type}{k:Nat}{m:M α}(hm:ae8 m):ae8 (Aq k m):=by
 intro h j kt x h2 hf hx;have hb:m (h.OW j kt)=some (x,h2)/\BP k m (h.OW j kt) x h2:=by
  unfold Aq at hx;split at hx
  .split at hx
   .rename_i hm _ hb _;cases hx;exact⟨hm,hb⟩
   .cases hx
  .cases hx
 obtain⟨hm1,hb⟩:=hb;obtain⟨h1,q1,q2,q3⟩:=hm h j kt x h2 hf hm1;refine⟨h1,?_,q2,q3⟩;have hbp:BP k m h x h1:=by
  intro h0 t cs f1 f2 f3 e;have hjk:j≠k:=λejk=>by
   subst ejk;have:=hf.2.2.2;rw[e] at this;simp[ab.cS,ahN] at this
  have b1:Nat.beq k j=false:=by cases q:Nat.beq k j<;>grind [Nat.eq_of_beq_eq_true]
  have b2:Nat.beq j k=false:=by cases q:Nat.beq j k<;>grind [Nat.eq_of_beq_eq_true]
  have comm:∀(g:ab) (nx:Nat),(g.OW j kt).cS k nx t cs=(g.cS k nx t cs).OW j kt:=by
   intro g nx;unfold ab.cS ab.OW ab.nu;simp only[ab.mk.injEq,ahP,and_true];funext i;cases q1:Nat.beq i j<;>cases q2:Nat.beq i k<;>simp
  have hf0:h0.fresh j:=by
   obtain⟨a,b,c,d⟩:=hf;rw[e] at a b c d;exact⟨by simpa[ab.cS,b2] using a,b,c,by simpa[ab.cS,b2] using d⟩
  obtain⟨h3',p1,p2,p3,p4,p5⟩:=hb (h0.OW j kt) t cs (by simp[ab.OW,b1,f1]) f2 f3 (by rw[e];exact (comm _ _).symm);obtain⟨h3,r1,r2,r3⟩:=hm h0 j kt x h3' hf0 p1;subst r3;refine⟨h3,r1,by simpa[ab.OW,b1] using p2,p3,p4,Pf (k:=j) (kt:=kt) ?_ q2 ?_⟩
  .rw[<-q3,p5];exact comm _ _
  .obtain⟨a,b,c,d⟩:=r2;exact⟨by simp[ab.cS,b2,a],b,c,by simp[ab.cS,b2,d]⟩
 unfold Aq;rw[q1];simp only;split
 .rfl
 .rename_i hn _;exact absurd hbp hn
theorem Bf.oo {C:mR}(H:Bf P C)(nb:Nat)(ops:Array Oper)(l:List (Nat×η)):Bf P (C.oo P nb ops l):=by
 refine⟨λf vs ca h1=>?_,H.dy,λf vs ca h1 h2=>?_,H.sp,H.isP,λf vs h1=>?_⟩
 .simp only[mR.oo] at h1;split at h1
  .exact H.st f vs ca h1
  .split at h1
   .rename_i ca' hca;cases h1;obtain⟨q1,q2⟩:=H.st f vs ca' hca;exact⟨q1.imp (λx=>x) λq F h x h1 hx=>q F h x h1 (Dj hx),λhe F h x h1 hx=>q2 he F h x h1 (Dj hx)⟩
   .cases h1
 .simp only[mR.oo] at h1 h2;split at h2
  .exact H.mo f vs ca h1 h2
  .split at h2
   .rename_i ca' hca;cases h2;exact⟨aaH (H.mo f vs ca' h1 hca).1,λh x h3 hx=>(H.mo f vs ca' h1 hca).2 h x h3 (Dj hx)⟩
   .cases h2
 .simp only[mR.oo];have h2:C.st f vs=none:=H.dis f vs h1;split
  .exact h2
  .rw[h2]
def EH (P:Program)(F:Fz)(ι:eg)(L:fS)(t:ν):Prop:=
 ∀(i:Nat) n cs,L i=some (n,cs)->∃b cs' e,t[i]?=some (.slice (some ⟨b,0,none⟩) n n)/\F b=some (.cells cs' e (0,0))/\bg P ι cs cs'.toList/\(∀v∈cs,eB v=true)
theorem EH.emp {F:Fz}{t:ν}:EH P F ι fS.emp t:=λi n cs hl=>by simp[fS.emp] at hl
theorem EH.mono {F F':Fz}{L:fS}{t:ν}(hl:EH P F ι L t)(hF:Rq F F')(hle:ι.le ι'):EH P F' ι' L t:=λi n cs hi=>
 let ⟨b,cs',e,q1,q2,q3,q4⟩:=hl i n cs hi
 ⟨b,cs',e,q1,hF.1 _ _ q2,q3.mono hle,q4⟩
theorem EH.del {F:Fz}{L:fS}{a:Go.Act}(hl:EH P F ι L a.tmps)(d:μ)(v:ξ):EH P F ι (L.del d) (a.put d v).tmps:=by
 intro i n cs hi;cases d with
 |none=>exact hl i n cs hi
 |some j=>
  simp only[fS.del,cK] at hi;split at hi
  .cases hi
  .rename_i hne;obtain⟨b,cs',e,q1,q2⟩:=hl i n cs hi;exact⟨b,cs',e,by simp only[Act.put];grind,q2⟩
def ah4 {R:Type}(P:Program)(F:Fz)(ι:eg)(W:Wr)(t0:ν)(K:Env->fS->M R)(r:R×ab)(a:Go.Act)(w:World):Prop:=
 ∃F' ι' E L h,Rq F F'/\ι.le ι'/\K E L h=some r/\Rel P F' ι' h w/\jW P ι' E a.tmps/\EH P F' ι' L a.tmps/\a.defers=F'.MI/\a.tmps.size=W.1/\Gt W t0 a.tmps
def Now {R:Type}(P:Program)(F:Fz)(ι:eg)(W:Wr)(t0:ν)(K:Env->M R)(r:R×ab)(a:Go.Act)(w:World):Prop:=
 ∃ι' E h,ι.le ι'/\K E h=some r/\Rel P F ι' h w/\jW P ι' E a.tmps/\a.defers=F.MI/\a.tmps.size=W.1/\Gt W t0 a.tmps
theorem Jt {E:Env}{a:Go.Act}(HE:jW P ι E a.tmps){c:Call}{f:FuncId}{vs:δ}(hc:callee E c=some (f,vs))(t:κ)(w:World) :
  ∃vs':ν,bg P ι vs vs'.toList/\(do let d <-resolve a.eval c t;invoke d.target d.args).run P w=(callFunc f vs').run P w:=by
 unfold callee at hc;split at hc
 .rename_i fo vs0 hcal hvs;split at hc
  .rename_i g first captured hf
   cases hc;have hr:=aO HE hf;generalize hq:a.eval fo=q at hr;cases hr with
   |flat _ hf=>simp[dz] at hf
   |func _ _ fs' _ cs' e1 e2 e3 e4=>
    have r0:=Cc HE hvs;refine⟨fs'++c.args.map a.eval++cs',?_,?_⟩
    .simp only[ajy];exact (bg.append ⟨by simpa using e1,λi u u' x y=>e2 i u u' (by simpa using x) (by simpa using y)⟩ r0).append ⟨by simpa using e3,λi u u' x y=>e4 i u u' (by simpa using x) (by simpa using y)⟩
    .simp[resolve,hcal,hq,Deferred.ofValue,invoke]
  .cases hc
 .cases hc
theorem H4 {E:Env}{a:Go.Act}(HE:jW P ι E a.tmps){C:mR}{c:Call}{t:Nat}{g:FuncId}{caps:ν}{vs:δ}(hd:wb C c=some t)
  (hc:ug E t c=some (.func (.func g) #[] caps,vs)) (ty:κ) (w:World) :
  ∃vs':ν,bg P ι (vs++caps.toList) vs'.toList/\(do let d <-resolve a.eval c ty;invoke d.target d.args).run P w=(callFunc g vs').run P w:=by
 unfold ug at hc;split at hc
 .rename_i x vs0 hx hvs;cases hc;have hcal:c.callee=.value (.tmp t):=by
   grind [wb]
  have hr:=aO (x:=.tmp t) HE hx;generalize hq:a.eval (.tmp t)=q at hr;cases hr with
  |flat _ hf=>simp[dz] at hf
  |func _ _ fs' _ cs' e1 e2 e3 e4=>
   have r0:=Cc HE hvs;have hfs:fs'=#[]:=Array.eq_empty_of_size_eq_zero (by simpa using e1.symm);subst hfs;refine⟨c.args.map a.eval++cs',?_,?_⟩
   .simp only[ajy];exact r0.append ⟨by simpa using e3,λi u u' x y=>e4 i u u' (by simpa using x) (by simpa using y)⟩
   .simp[resolve,hcal,hq,Deferred.ofValue,invoke]
 .cases hc
theorem Ju {F:Fz}(R:Rel P F ι h w){strict:Bool}{E:Env}{L:fS}{a:Go.Act}(HE:jW P ι E a.tmps)(HL:EH P F ι L a.tmps){o:Oper}{c:Call}(ho:o.op=.call c){n:Nat}{cs:δ}
  (hl:uL L c=some (n,cs)) {v:ξ} (hx:(uM P strict E c n cs).exec h=some (v,h1)):O3 P F ι w (execOp a.eval o) v h1:=by
 unfold uL at hl;split at hl
 .rename_i s0 t0 hcal hargs;obtain⟨b,cs',e0,q1,q2,q3,q4⟩:=HL _ _ _ hl;unfold uM at hx;split at hx
  .rename_i t t' s x hts hargs';rw[hargs] at hargs';simp at hargs';obtain⟨rfl,rfl⟩:=hargs';split at hx
   .rename_i sa sn sc e e' hs ht ht';split at hx
    .rename_i z zz hsz hzz;split at hx
     .rename_i hb;have hb:=ae6 hb;obtain⟨i,hi,rfl⟩:=xt hsz;rw[hi] at hb;simp only[Act.exec] at hx;split at hx
      .rename_i r h3 hap;cases hx;have hlen:=aaF hap;have hblk:=R.na _ _ q2;have S:Src P ι h w i.size n (.slice (some ⟨b,0,none⟩) n n) cs cs'.toList:=by
        refine⟨λw'=>by simp[Builtin.lenOf],λw' he=>?_,q3,q4⟩;have hl':cs'.toList.length=n*i.size:=(by rw[<-q3.1,hlen]);have:=uN (P:=P) (w:=w) (a':=⟨b,0,none⟩) (cs':=cs'.toList) hl' (λj v' hj=>by
         rw[add_eq rfl];simp[World.cell?,hblk];simpa using hj) he
        simpa[Builtin.firstCells] using this
       have hsv:=aO HE hs;have htv:a.eval (.tmp t0)=.slice (some ⟨b,0,none⟩) n n:=(by simp[Act.eval,ahH,q1]);have hga:c.args.map a.eval=#[a.eval s0,.slice (some ⟨b,0,none⟩) n n]:=by
        apply agh;simp[hargs,htv]
       have hgt:c.argTypes=#[t,t']:=agh (by simpa using hts);have:=Dg (s:=⟨sa,sn,sc⟩) (ty:=o.type) R ht (.inl ⟨_,ht'⟩) hi hzz hb hsv S hap
       grind [execOp,resolve,invoke,builtin,this.o]
      .cases hx
     .simp[Act.exec] at hx
    .simp[Act.exec] at hx
   .simp[Act.exec] at hx
  .simp[Act.exec] at hx
 .cases hl
theorem Nf {F:Fz}(R:Rel P F ι h w){ops:Array Oper}{E:Env}{a:Go.Act}(HE:jW P ι E a.tmps){o:Oper}{n:Nat}{cs:δ}(hl:yo P ops E o=some (n,cs)) :
  ∃e r',bg P ι cs r'/\(∀v∈cs,eB v=true)/\(execOp a.eval o).run P w=.ok (.value (.slice (some ⟨w.heap.size,0,none⟩) n n)) { w with heap:=w.heap.push (.cells r'.toArray e) } /\
   F w.heap.size=none/\Rel P (aaw F w.heap.size (.cells r'.toArray e)) ι h { w with heap:=w.heap.push (.cells r'.toArray e) }:=by
 unfold yo at hl;split at hl
 .rename_i t len parts d ho hd;split at hl
  .split at hl
   .rename_i vs hvs;split at hl
    .rename_i cs0 hcs;cases hl;have hp:M7 P ι vs (parts.map λ(i,x)=>(i,a.eval x)).toList:=(by simpa using sL HE hvs);obtain⟨q1,e,r',q2,q3⟩:=Gq hp hcs;refine⟨e,r',q2,q1,?_,?_,?_⟩
     .simp only[execOp,ho];rw[Sem.run_bind,q3];rfl
     .cases hq:F w.heap.size with
      |none=>rfl
      |some ob=>have:=(Array.getElem?_eq_some_iff.1 (R.na _ ob hq)).1;omega
     .refine (R.aau _).aax (by simp) (λn l hl=>?_) λm r hm=>?_
      .have:=hold R n l hl;omega
      .obtain⟨_,es,c,q⟩:=R.mp.loc m r hm
       grind
    .cases hl
   .cases hl
  .cases hl
 .cases hl
theorem Ng {R:Type}{C:mR}(HT:Bf P C){F:Fz}{W:Wr}{nm:μ}{cks:List θ}{ks:η}{ops:Array Oper}{E:Env}{L:fS}{o:Oper}{K:Env->fS->M R}{r:R×ab}
  (R0:Rel P F ι h w) {a:Go.Act} {t0:ν} (HE:jW P ι E a.tmps) (HL:EH P F ι L a.tmps) (hd:a.defers=F.MI) (hs:a.tmps.size=W.1) (hfr:Gt W t0 a.tmps)
  (hx:wL P C W nm cks ks ops E L o K h=some r) {next:Go.Act->World->Prop} {Q:Exit->Go.Act->World->Prop} (hnext:∀a w,ah4 P F ι W t0 K r a w->next a w):o.wp P a w next Q:=by
 generalize hm:wL P C W nm cks ks ops E L o K=m at hx;unfold wL at hm;split at hm
 .subst hm;simp[AS] at hx
 .rename_i hw;have hdef:∀v,(a.put o.dst v).defers=F.MI:=λv=>by cases o.dst<;>exact hd
  have hsz:∀v,(a.put o.dst v).tmps.size=W.1:=λv=>by rw[(Gt.put (W:=W) hw v).1,hs]
  have fin:∀(A:Act) (E':Env),jW P ι E' a.tmps->(∀v h1,A.exec h=some (v,h1)->O3 P F ι w (execOp a.eval o) v h1) ->
    (rL cks A).run (λv=>K (E'.put o.dst v) (L.del o.dst)) h=some r->o.wp P a w next Q:=by
   intro A E' HE' hA hx;obtain⟨v,h1,e1,e2⟩:=Act.Nc hx;obtain⟨v',w',ι',hr,hv,R1,hle⟩:=hA v h1 (Pe e1);have hnow:ah4 P F ι W t0 K r (a.put o.dst v') w':=
    ⟨F,ι',_,_,h1,.refl _,hle,e2,R1,(HE'.mono hle).put hs hw hv,(HL.mono (.refl _) hle).del _ _,hdef _,hsz _,hfr.trans (.put hw v')⟩
   unfold Oper.wp;rcases hr with hr|⟨hr,rfl⟩
   .rw[hr];exact hnext _ _ hnow
   .rw[hr];exact hnext _ _ hnow
  split at hm
  ·-- pick
   rename_i c x y ho;split at hm
   .rename_i t hc;have hb:=(aO HE hc).bool;have Hl:∀v z,jW P ι (E.sY c t) a.tmps->(E.sY c t).ev z=some v->K ((E.sY c t).put o.dst v) (L.del o.dst) h=some r->(a.eval (if t=true then x else y)=a.eval z)->o.wp P a w next Q:=by
     intro v z HE' hz hk hez;have hv:=aO HE' hz;unfold Oper.wp;have hrun:(execOp a.eval o).run P w=.ok (.value (a.eval z)) w:=by
      unfold execOp;rw[ho];dsimp only;rw[hb];cases t<;>simp_all[asBool]
     rw[hrun];exact hnext _ _ ⟨F,ι,_,_,h,.refl _,.refl _,hk,R0,HE'.put hs hw hv,HL.del _ _,hdef _,hsz _,hfr.trans (.put hw _)⟩
    unfold wc at hm;split at hm
    .rename_i ht;subst ht;split at hm
     .rename_i v hv;subst hm;exact Hl v x (HE.sY hc) hv hx rfl
     .subst hm;simp[AS] at hx
    .rename_i ht;have ht:t=false:=(by cases t<;>simp_all);subst ht;split at hm
     .rename_i v hv;subst hm;exact Hl v y (HE.sY hc) hv hx rfl
     .subst hm;simp[AS] at hx
   .subst hm;simp[AS] at hx
  ·-- calls
   rename_i c ho;split at hm
   .split at hm
    .rename_i n cs hla;subst hm;rw[O0] at hx;exact fin _ E HE (λv h1 hx=>Ju R0 HE HL ho hla (by rw[Db hx] at hx;exact hx)) hx
    .split at hm
     .subst hm;simp[AS] at hx
     .subst hm;exact fin _ E HE (λv h1 hx=>wP R0 HE (by rw[Db hx] at hx;exact hx)) hx
   .have call:∀(ca ca':uf) (f:FuncId) (vs:δ) (vs':ν) (x:ca.α) (x':ca'.α) (h2:ab),gM P f vs ca'->bg P ι vs vs'.toList ->
      (do let d <-resolve a.eval c o.type;invoke d.target d.args).run P w=(callFunc f vs').run P w->ca'.m h=some (x',h2)->ca'.pk x'=ca.pk x ->
      K (E.put o.dst (ca.pk x)) (L.del o.dst) h2=some r->o.wp P a w next Q:=by
     intro ca ca' f vs vs' x x' h2 hok r1 r2 hm hpk hx;obtain⟨hen,hcalls⟩:=hok;rcases hen with hen|hval
     rotate_left
     .obtain⟨v',w',ι',hrun,hv,R1,hle⟩:=hval F h x' h2 hm ι w vs' R0 r1;unfold Oper.wp;have hrun:(execOp a.eval o).run P w=.ok (.value v') w':=by
       grind [execOp]
      rw[hrun];rw[hpk] at hv;exact hnext _ _ ⟨F,ι',_,_,h2,.refl _,hle,hx,R1,(HE.mono hle).put hs hw hv,(HL.mono (.refl _) hle).del _ _,hdef _,hsz _,hfr.trans (.put hw v')⟩
     have hcalls:=hcalls hen;unfold Oper.wp;have hrun:(execOp a.eval o).run P w=.ok (.enter f vs') w:=by
      unfold execOp;rw[ho];dsimp only;rw[r2,hen]
     rw[hrun];refine (hcalls F h x' h2 hm ι w vs' R0 r1).mono ?_;rintro e w'' ⟨v',ι',rfl,hv,R1,hle⟩;rw[hpk] at hv;exact hnext _ _ ⟨F,ι',_,_,h2,.refl _,hle,hx,R1,(HE.mono hle).put hs hw hv,(HL.mono (.refl _) hle).del _ _,hdef _,hsz _,hfr.trans (.put hw v')⟩
    split at hm
    .rename_i t hds;split at hm
     .rename_i xv vs hcd;split at hm
      .rename_i ca hca;subst hm;simp only[sh] at hx;split at hx
       .rename_i x h2 hm;obtain⟨g,caps,ca',y',rfl,q2,q3,q4⟩:=HT.dy _ _ _ _ hca h x h2 (Gu hm).1;obtain⟨vs',r1,r2⟩:=H4 HE hds hcd o.type w;exact call ca ca' _ _ vs' x y' h2 q2 r1 r2 q3 q4 hx
       .cases hx
      .subst hm;simp[AS] at hx
     .subst hm;simp[AS] at hx
    .split at hm
     .rename_i f vs hcal;split at hm
      .rename_i ca hca;subst hm;simp only[sh] at hx;split at hx
       .rename_i x h2 hm;obtain⟨vs',r1,r2⟩:=Jt HE hcal o.type w;exact call ca ca _ _ vs' x x h2 (HT.st f vs ca hca) r1 r2 (Gu hm).1 rfl hx
       .cases hx
      .subst hm;simp[AS] at hx
     .subst hm;simp[AS] at hx
  ·-- stores
   split at hm
   .subst hm;exact fin _ E HE (λv h1 hx=>wP R0 HE hx) hx
   .split at hm
    .subst hm;grind [wP,Gv]
    .subst hm;simp[AS] at hx
  ·-- slices that are written out
   rename_i t len parts ho;split at hm
   .rename_i x hlo;obtain⟨n,cs⟩:=x;subst hm;obtain⟨e,r',q1,q2,q3,q4,q5⟩:=Nf R0 HE hlo;have hdst:∃d,o.dst=some d:=by
     grind [yo]
    obtain⟨d,hd'⟩:=hdst;unfold Oper.wp;rw[q3];refine hnext _ _ ⟨_,ι,_,_,h,Rq.add q4,.refl _,hx,q5,?_,?_,hdef _,hsz _,hfr.trans (.put hw _)⟩
    .rw[hd'];intro j u hj;simp only[Env.del,cK] at hj;split at hj
     .cases hj
     .rename_i hne;obtain⟨u',x1,x2⟩:=HE j u hj;exact⟨u',by simp only[Act.put];grind,x2⟩
    .rw[hd'];intro j m cs2 hj;simp only[fS.put,cK] at hj;split at hj
     .rename_i hne;subst hne;cases hj;have hlt:j<a.tmps.size:=(by rw[hs];rw[hd'] at hw;exact WB hw);refine⟨w.heap.size,r'.toArray,e,by simp[Act.put,hlt],by simp[aaw],by simpa using q1,q2⟩
     .rename_i hne;obtain⟨b,cs',e',x1,x2,x3,x4⟩:=HL j m cs2 hj;exact⟨b,cs',e',by simp only[Act.put];grind,(Rq.add q4).1 _ _ x2,x3,x4⟩
   .subst hm;exact fin _ E HE (λv h1 hx=>wP R0 HE hx) hx
  .subst hm;exact fin _ E HE (λv h1 hx=>wP R0 HE hx) hx
theorem xu {R:Type}{C:mR}(HT:Bf P C){F:Fz}{W:Wr}{nb:μ}{ops:Array Oper}{K:Env->M R}{r:R×ab}{t0:ν}(hlib:Wj F){Q:Exit->Go.Act->World->Prop}(hQ:∀a w,Now P F ι W t0 K r a w->Q .normal a w) :
  ∀(l:List (Nat×η)) (E:Env) (L:fS) (A:Wc) (F0:Fz) (ι0:eg) (h:ab) (a:Go.Act) (w:World),
   Rel P F0 ι0 h w->jW P ι0 E a.tmps->EH P F0 ι0 L a.tmps->a.defers=F0.MI->a.tmps.size=W.1->Gt W t0 a.tmps->ι.le ι0->Rq F F0->iI P C W nb ops l E L A K h=some r ->
   wpOps P ops Q (l.map (·.1)) a w
 |[],E,L,A,F0,ι0,h,a,w,R0,HE,HL,hd,hs,hfr,hle,hF,hx=>hQ _ _ ⟨ι0,E,h,hle,hx,R0.shrink hF hlib,HE,hd.trans hF.2.2.2,hs,hfr⟩
 |(i,cs)::rest,E,L,A,F0,ι0,h,a,w,R0,HE,HL,hd,hs,hfr,hle,hF,hx=>by
  have ih:=xu HT (F:=F) (W:=W) (nb:=nb) (ops:=ops) (K:=K) (r:=r) (t0:=t0) hlib hQ rest;generalize hm:iI P C W nb ops ((i,cs)::rest) E L A K=m at hx;unfold iI at hm;split at hm
  .subst hm;simp[AS] at hx
  .rename_i o ho;have run:∀E',jW P ι0 E' a.tmps->Region.wanted o (yielded ops a.tmps)=true ->
     wL P C W (nb.map (·+i)) (cs.map A) (EF P ops nb cs) ops E' L o (λE' L'=>iI P C W nb ops rest E' L' (λj=>cond (Nat.beq j i) (lr E o) (A j)) K) h=some r ->
     wpOps P ops Q ((i::rest.map (·.1))) a w:=by
    intro E' HE' hwant hx;simp only[wpOps,ho];rw[By hwant];refine .inl (Ng (ι:=ι0) (t0:=t0) HT R0 HE' HL hd hs hfr hx ?_);rintro a2 w2 ⟨F2,ι2,E2,L2,h2,hF2,hle2,hk,R2,HE2,HL2,hd2,hs2,hfr2⟩;exact ih E2 L2 _ F2 ι2 h2 a2 w2 R2 HE2 HL2 hd2 hs2 hfr2 (hle.trans hle2) (hF.trans hF2) hk
   have skip:∀E',jW P ι0 E' a.tmps->Region.wanted o (yielded ops a.tmps)=false->Mr W o.dst=true ->
     iI P C W nb ops rest (E'.put o.dst undef) (L.del o.dst) A K h=some r ->
     wpOps P ops Q ((i::rest.map (·.1))) a w:=by
    intro E' HE' hwant hw hx;simp only[wpOps,ho];rw[AT (by rw[hwant];simp)];refine ih _ _ A F0 ι0 h _ w R0 (HE'.put hs hw (.tuple _ _ rfl (by simp))) (HL.del _ _) ?_ ?_ (hfr.trans (.put hw _)) hle hF hx
    .cases o.dst<;>exact hd
    .rw[(Gt.put (W:=W) hw _).1,hs]
   split at hm
   .rename_i hg;subst hm;exact run E HE (by simp[Region.wanted,hg]) hx
   .rename_i j want hg;split at hm
    .rename_i t ht;split at hm
     .rename_i b hb;obtain⟨v',hv1,hv2⟩:=HE t _ hb;obtain rfl:=hv2.bool;have hy:yielded ops a.tmps j=some b:=(by simp[yielded,ht,hv1]);have hwant:Region.wanted o (yielded ops a.tmps)=(b==want):=(by simp[Region.wanted,hg,hy]);cases want with
      |true=>
       simp only at hm;unfold wc at hm;split at hm
       .rename_i e;subst e;subst hm;exact run _ (HE.WC hb) (by rw[hwant];rfl) hx
       .rename_i e;have:b=false:=(by cases b<;>simp_all);subst this;split at hm
        .rename_i hw;subst hm;exact skip _ (HE.WC hb) (by rw[hwant];rfl) hw hx
        .subst hm;simp[AS] at hx
      |false=>
       simp only at hm;unfold wc at hm;split at hm
       .rename_i e;subst e;split at hm
        .rename_i hw;subst hm;exact skip _ (HE.WC hb) (by rw[hwant];rfl) hw hx
        .subst hm;simp[AS] at hx
       .rename_i e;have:b=false:=(by cases b<;>simp_all);subst this;subst hm;exact run _ (HE.WC hb) (by rw[hwant];rfl) hx
     .rename_i vs hb;obtain⟨v',hv1,hv2⟩:=HE t _ hb;have hy:yielded ops a.tmps j=none:=by
       cases hv2 with
       |flat _ hf=>simp[dz] at hf
       |tuple=>simp[yielded,ht,hv1]
      split at hm
      .rename_i hw;subst hm;exact skip E HE (by simp[Region.wanted,hg,hy]) hw hx
      .subst hm;simp[AS] at hx
     .subst hm;simp[AS] at hx
    .subst hm;simp[AS] at hx
def Nh {R:Type}(P:Program)(F:Fz)(ι:eg)(W:Wr)(t0:ν)(tY:ξ->M R)(r:R×ab)(e:Exit)(a:Go.Act)(w:World):Prop:=
 ∃ι' v v' h,e=.panic (one v')/\ι.le ι'/\tY v h=some r/\aN P ι' v v'/\Rel P F ι' h w/\a.defers=F.MI/\a.tmps.size=W.1/\Gt W t0 a.tmps
theorem Nh.trans {R:Type}{F:Fz}{W:Wr}{t0 t1:ν}{tY:ξ->M R}{r:R×ab}(hle:ι.le ι')(hf:Gt W t0 t1){e:Exit}{a:Go.Act}{w:World}
  (hp:Nh P F ι' W t1 tY r e a w):Nh P F ι W t0 tY r e a w:=by
 obtain⟨ι2,v,v',h,q1,q2,q3,q4,q5,q6,q7,q8⟩:=hp;exact⟨ι2,v,v',h,q1,hle.trans q2,q3,q4,q5,q6,q7,hf.trans q8⟩
end Go.Ago
