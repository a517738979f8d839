
import Derived.Test.YtajnpfnomgjlaaaGreatDoorAgoE
set_option linter.all false
namespace Go.Ago
open Go
variable {P:Program}{W0:Fz}{ι ι':ja}{h h' h1:ai}{w w':World}
def F8 (W:Wr)(t t':ν):Prop:=t'.size=t.size/\∀l,W.2=some l->∀i,l.any (Nat.beq i)=false->t'[i]?=t[i]?
theorem F8.refl W t:F8 W t t:=⟨rfl,λ_ _ _ _=>rfl⟩
theorem F8.trans {W a b c}(x:F8 W a b)(y:F8 W b c):F8 W a c:=⟨y.1.trans x.1,λl hl i hi=>(y.2 l hl i hi).trans (x.2 l hl i hi)⟩
theorem Vx {W i}(hw:LS W (some i)=true):i<W.1:=by
 simp only[LS,ach] at hw
 simp_all
theorem Z5 {W i}(hw:LS W (some i)=true){l}(hl:W.2=some l):l.any (Nat.beq i)=true:=by
 simp only[LS,ach,hl] at hw;exact hw.2
theorem F8.put {W}{a:Go.Act}{d}(hw:LS W d=true) v:F8 W a.tmps (a.put d v).tmps:=by
 cases d with
 |none=>exact .refl _ _
 |some i=>
  refine⟨by simp[Act.put],λl hl j hj=>?_⟩
  grind [Z5,Act.put]
theorem lW.set {E t}(hE:lW P ι E t){i}(hi:i<t.size){v v'}(hv:aW P ι v v'):lW P ι (E.set i v) (t.setIfInBounds i v'):=by
 intro j u hj;simp[Env.set,aN] at hj;split at hj
 .grind
 .obtain⟨u',a,b⟩:=hE j u hj
  grind
theorem lW.put {W E}{a:Go.Act}(hE:lW P ι E a.tmps)(hs:a.tmps.size=W.1){d}(hw:LS W d=true){v v'}(hv:aW P ι v v') :
  lW P ι (E.put d v) (a.put d v').tmps:=by
 cases d with
 |none=>exact hE
 |some i=>exact hE.set (by rw[hs];exact Vx hw) hv
theorem lW.Vy {E t}(hE:lW P ι E t){i b}(hi:E i=some (.bool b)):lW P ι (E.set i (.bool b)) t:=by
 intro j u hj;simp[Env.set,aN] at hj;split at hj
 .rename_i e;subst e;cases hj;exact hE _ _ hi
 .exact hE j u hj
theorem lW.uq {E}{a:Go.Act}(hE:lW P ι E a.tmps){c b}(hc:E.ev c=some (.bool b)):lW P ι (E.uq c b) a.tmps:=by
 cases c with
 |tmp t=>exact hE.Vy hc
 |_=>exact hE
theorem Act.MD {R}{K:ξ->M R}:∀{A:Act} {h} {r},A.run K h=some r->∃v h1,A.exec h=some (v,h1)/\K v h1=some r
 |.val v,h,r,hx=>⟨v,h,rfl,hx⟩
 |.ask α m k,h,r,hx=>by
  simp[Act.run,sh] at hx;split at hx
  .rename_i x h1 hm;obtain⟨v,h2,e1,e2⟩:=Act.MD hx;exact⟨v,h2,by simp[Act.exec,hm,e1],e2⟩
  .cases hx
 |.none,h,r,hx=>by simp[Act.run,AS] at hx
theorem zk:∀{as},sameAt h h1 as=true->∀a∈as,∀b,a=some b->gb h h1 b
 |[],_,a,ha=>by cases ha
 |none::r,hs,a,ha=>by
  rcases List.mem_cons.1 ha with rfl|ha
  .intro b hb;cases hb
  .exact zk (as:=r) hs a ha
 |some c::r,hs,a,ha=>by
  simp[sameAt] at hs;split at hs
  .rename_i heq _;rcases List.mem_cons.1 ha with rfl|ha
   .grind
   .exact zk hs a ha
  .cases hs
theorem vq:∀{as},(∀a∈as,∀b,a=some b->gb h h1 b)->sameAt h h1 as=true
 |[],_=>rfl
 |none::r,hs=>by simp[sameAt];exact vq λa ha=>hs a (IN _ ha)
 |some c::r,hs=>by
  have h0:=hs (some c) (OF ..) c rfl;simp[sameAt];split
  .exact vq λa ha=>hs a (IN _ ha)
  grind
theorem MF {α as}{m:M α}{r}(hx:k8 as m h=some r):m h=some r/\sameAt h r.2 as=true:=by
 grind [k8]
theorem F9 {α as}{m:M α}{r}(hx:wrapM as m h=some r):m h=some r/\sameAt h r.2 as=true:=by
 unfold wrapM at hx;split at hx
 .exact⟨hx,rfl⟩
 .exact MF hx
theorem OB {as A r}(hx:(td as A).exec h=some r):A.exec h=some r:=by
 cases A with
 |val v=>exact hx
 |none=>exact hx
 |ask α m k=>
  cases as with
  |nil=>exact hx
  |cons a as=>
   simp[td,Act.exec] at hx⊢;split at hx
   .rename_i x h2 hm;rw[(MF hm).1];exact hx
   .cases hx
theorem Im {α ks a}{m:M α}{r}(hx:yN ks a m h=some r):m h=some r/\ZO h a ks=true:=by
 grind [yN]
theorem Ga {ks a A R}{K:ξ->M R}{r}(hx:(L9 ks a A).run K h=some r):A.run K h=some r:=by
 cases A with
 |val v=>exact hx
 |none=>exact hx
 |ask α m k=>
  simp[L9,Act.run,sh] at hx⊢;split at hx
  .rename_i x h2 hm;rw[(Im hm).1];exact hx
  .cases hx
def Enters (P:Program)(f:FuncId):Prop:=∀args w,(callFunc f args).run P w=.ok (.enter f args) w
structure iw (P:Program) (f:FuncId) (vs:δ) (ca:xI):Prop where
 enter:Enters P f\/∀(F:Fz) h x h1,ca.m h=some (x,h1)->∀ι w (vs':ν),Rel P F ι h w->bz P ι vs vs'.toList ->
  ∃v' w' ι',(callFunc f vs').run P w=.ok (.value v') w'/\aW P ι' (ca.pk x) v'/\Rel P F ι' h1 w'/\ι.le ι'
 calls:Enters P f->∀(F:Fz) h x h1,ca.m h=some (x,h1)->∀ι w (vs':ν),Rel P F ι h w->bz P ι vs vs'.toList ->
  Calls P f vs' w λe w'=>∃v' ι',e=.returned v'/\aW P ι' (ca.pk x) v'/\Rel P F ι' h1 w'/\ι.le ι'
theorem iw.of {P f vs ca}(he:Enters P f)(hc:∀(F:Fz) h x h1,ca.m h=some (x,h1)->∀ι w (vs':ν),Rel P F ι h w->bz P ι vs vs'.toList ->
  Calls P f vs' w λe w'=>∃v' ι',e=.returned v'/\aW P ι' (ca.pk x) v'/\Rel P F ι' h1 w'/\ι.le ι'):iw P f vs ca:=⟨.inl he,λ_=>hc⟩
def QC (P:Program)(x:ξ)(vs:δ)(ca:xI):Prop:=
 ∀h y h1,ca.m h=some (y,h1)->∃g caps ca' y',x=.func (.func g) #[] caps/\iw P g (vs++caps.toList) ca'/\ca'.m h=some (y',h1)/\ca'.pk y'=ca.pk y
def one (v:ξ):List PanicEntry:=[{ v,recovered:=false }]
structure Ja (P:Program) (f:FuncId) (vs:δ) (ca:ad9):Prop where
 enter:∀args w,(callFunc f args).run P w=.ok (.enter f args) w
 ret:∀(F:Fz) h x h1,ca.m h=some (.inl x,h1)->∀ι w (vs':ν),Rel P F ι h w->bz P ι vs vs'.toList ->
  Calls P f vs' w λe w'=>∃v' ι',e=.returned v'/\aW P ι' (ca.pk x) v'/\Rel P F ι' h1 w'/\ι.le ι'
 uU:∀(F:Fz) h v h1,ca.m h=some (.inr v,h1)->∀ι w (vs':ν),Rel P F ι h w->bz P ι vs vs'.toList ->
  Calls P f vs' w λe w'=>∃v' ι',e=.panicked (one v')/\aW P ι' v v'/\Rel P F ι' h1 w'/\ι.le ι'
structure Bh (P:Program) (C:sT):Prop where
 st:∀f vs ca,C.st f vs=some ca->iw P f vs ca
 dy:∀t x vs ca,C.dy t x vs=some ca->QC P x vs ca
 mo:∀f vs ca,C.mo f=true->C.st f vs=some ca->B4 ca.m
 sp:∀f vs ca,C.sp f vs=some ca->Ja P f vs ca
 ZR:∀f vs ca,C.sp f vs=some ca->C.ZR f=true
 dis:∀f vs,C.ZR f=true->C.st f vs=none
theorem Dc {α k}{m:M α}{h r}(hx:rH k m h=some r):m h=some r:=by
 unfold rH at hx;split at hx
 .split at hx
  .grind
  .cases hx
 .cases hx
theorem OE {a b:ai}{k kt}(e:a.wo k kt=b.wo k kt)(ha:a.fresh k)(hb:b.fresh k):a=b:=by
 obtain⟨mg,g,nx,tp,us,dc⟩:=a;obtain⟨mg',g',nx',tp',us',dc'⟩:=b;simp[ai.wo,ai.mE,ai.mk.injEq] at e;obtain⟨e1,rfl,rfl,rfl,e5,rfl⟩:=e;simp;refine⟨funext λj=>?_,funext λj=>?_⟩
 .have:=congrFun e1 j;cases hj:Nat.beq j k
  .simpa[hj] using this
  .have hj:=IS hj;subst hj;exact ha.2.2.1.trans hb.2.2.1.symm
 .have:=congrFun e5 j;cases hj:Nat.beq j k
  .simpa[hj] using this
  .have hj:=IS hj;subst hj;exact ha.1.trans hb.1.symm
theorem Z6 {α k}{m:M α}(hm:ad5 m):ad5 (rH k m):=by
 intro h j kt x h2 hf hx;have hb:m (h.wo j kt)=some (x,h2)/\BP k m (h.wo j kt) x h2:=by
  unfold rH at hx;split at hx
  .split at hx
   .grind
   .cases hx
  .cases hx
 obtain⟨hm1,hb⟩:=hb;obtain⟨h1,q1,q2,q3⟩:=hm h j kt x h2 hf hm1;refine⟨h1,?_,q2,q3⟩;have hbp:BP k m h x h1:=by
  intro h0 t cs f1 f2 f3 e;have hjk:j≠k:=λejk=>by
   subst ejk;have:=hf.2.2.2;rw[e] at this;simp[ai.aX,ahX] at this
  have b1:Nat.beq k j=false:=by grind [Nat.eq_of_beq_eq_true]
  have b2:Nat.beq j k=false:=by grind [Nat.eq_of_beq_eq_true]
  have comm:∀(g:ai) (nx:Nat),(g.wo j kt).aX k nx t cs=(g.aX k nx t cs).wo j kt:=by
   intro g nx;unfold ai.aX ai.wo ai.mE
   grind
  have hf0:h0.fresh j:=by
   obtain⟨a,b,c,d⟩:=hf;rw[e] at a b c d;exact⟨by simpa[ai.aX,b2] using a,b,c,by simpa[ai.aX,b2] using d⟩
  obtain⟨h3',p1,p2,p3,p4,p5⟩:=hb (h0.wo j kt) t cs (by simp[ai.wo,b1,f1]) f2 f3 (by rw[e];exact (comm _ _).symm);obtain⟨h3,r1,r2,r3⟩:=hm h0 j kt x h3' hf0 p1;subst r3;refine⟨h3,r1,by simpa[ai.wo,b1] using p2,p3,p4,OE (kt:=kt) ?_ q2 ?_⟩
  .rw[<-q3,p5];exact comm _ _
  .obtain⟨a,b,c,d⟩:=r2;exact⟨by simp[ai.aX,b2,a],b,c,by simp[ai.aX,b2,d]⟩
 unfold rH;rw[q1];simp;split
 .rfl
 grind
theorem Bh.k8 {C}(H:Bh P C) nb ops l:Bh P (C.k8 P nb ops l):=by
 refine⟨λf vs ca h1=>?_,H.dy,λf vs ca h1 h2=>?_,H.sp,H.ZR,λf vs h1=>?_⟩
 .simp[sT.k8] at h1;split at h1
  .exact H.st f vs ca h1
  .split at h1
   .rename_i ca' hca;cases h1;obtain⟨q1,q2⟩:=H.st f vs ca' hca;exact⟨q1.imp (λx=>x) λq F h x h1 hx=>q F h x h1 (Dc hx),λhe F h x h1 hx=>q2 he F h x h1 (Dc hx)⟩
   .cases h1
 .simp[sT.k8] at h1 h2;split at h2
  .exact H.mo f vs ca h1 h2
  .split at h2
   .rename_i ca' hca;cases h2;exact⟨Z6 (H.mo f vs ca' h1 hca).1,λh x h3 hx=>(H.mo f vs ca' h1 hca).2 h x h3 (Dc hx)⟩
   .cases h2
 .simp[sT.k8];have h2:C.st f vs=none:=H.dis f vs h1
  grind
def EA (P:Program)(F:Fz)(ι:ja)(L:jl)(t:ν):Prop:=
 ∀(i:Nat) n cs,L i=some (n,cs)->∃b cs' e,t[i]?=some (.slice (some ⟨b,0,none⟩) n n)/\F b=some (.cells cs' e (0,0))/\bz P ι cs cs'.toList/\(∀v∈cs,eS v=true)
theorem EA.emp {F t}:EA P F ι jl.emp t:=λi n cs hl=>by simp[jl.emp] at hl
theorem EA.mono {F F' L t}(hl:EA P F ι L t)(hF:Qt F F')(hle:ι.le ι'):EA P F' ι' L t:=λi n cs hi=>
 let ⟨b,cs',e,q1,q2,q3,q4⟩:=hl i n cs hi
 ⟨b,cs',e,q1,hF.1 _ _ q2,q3.mono hle,q4⟩
theorem EA.del {F L}{a:Go.Act}(hl:EA P F ι L a.tmps) d v:EA P F ι (L.del d) (a.put d v).tmps:=by
 intro i n cs hi;cases d with
 |none=>exact hl i n cs hi
 |some j=>
  simp only[jl.del,aN] at hi;split at hi
  .cases hi
  .obtain⟨b,cs',e,q1,q2⟩:=hl i n cs hi;exact⟨b,cs',e,by simp[Act.put];grind,q2⟩
def agQ {R}(P:Program)(F:Fz)(ι:ja)(W:Wr)(t0:ν)(K:Env->jl->M R)(r:R×ai)(a:Go.Act)(w:World):Prop:=
 ∃F' ι' E L h,Qt F F'/\ι.le ι'/\K E L h=some r/\Rel P F' ι' h w/\lW P ι' E a.tmps/\EA P F' ι' L a.tmps/\a.defers=F'.Mb/\a.tmps.size=W.1/\F8 W t0 a.tmps
def ZC {R}(P:Program)(F:Fz)(ι:ja)(W:Wr)(t0:ν)(K:Env->M R)(r:R×ai)(a:Go.Act)(w:World):Prop:=
 ∃ι' E h,ι.le ι'/\K E h=some r/\Rel P F ι' h w/\lW P ι' E a.tmps/\a.defers=F.Mb/\a.tmps.size=W.1/\F8 W t0 a.tmps
theorem Jb {E}{a:Go.Act}(HE:lW P ι E a.tmps){c f vs}(hc:callee E c=some (f,vs)) t w :
  ∃vs':ν,bz P ι vs vs'.toList/\(do let d <-resolve a.eval c t;invoke d.target d.args).run P w=(callFunc f vs').run P w:=by
 unfold callee at hc;split at hc
 .rename_i fo vs0 hcal hvs;split at hc
  .rename_i g first captured hf
   cases hc;have hr:=aV HE hf;generalize hq:a.eval fo=q at hr;cases hr with
   |flat _ hf=>simp[dW] at hf
   |func _ _ fs' _ cs' e1 e2 e3 e4=>
    have r0:=Cb HE hvs;refine⟨fs'++c.args.map a.eval++cs',?_,?_⟩
    .simp only[ajw];exact (bz.append ⟨by simpa using e1,λi u u' x y=>e2 i u u' (by simpa using x) (by simpa using y)⟩ r0).append ⟨by simpa using e3,λi u u' x y=>e4 i u u' (by simpa using x) (by simpa using y)⟩
    .simp[resolve,hcal,hq,Deferred.ofValue,invoke]
  .cases hc
 .cases hc
theorem HC {E}{a:Go.Act}(HE:lW P ι E a.tmps){C c t g caps vs}(hd:rJ C c=some t)
  (hc:uY E t c=some (.func (.func g) #[] caps,vs)) ty w :
  ∃vs':ν,bz P ι (vs++caps.toList) vs'.toList/\(do let d <-resolve a.eval c ty;invoke d.target d.args).run P w=(callFunc g vs').run P w:=by
 unfold uY at hc;split at hc
 .rename_i x vs0 hx hvs;cases hc;have hcal:c.callee=.value (.tmp t):=by
   grind [rJ]
  have hr:=aV (x:=.tmp t) HE hx;generalize hq:a.eval (.tmp t)=q at hr;cases hr with
  |flat _ hf=>simp[dW] at hf
  |func _ _ fs' _ cs' e1 e2 e3 e4=>
   have r0:=Cb HE hvs;have hfs:fs'=#[]:=Array.eq_empty_of_size_eq_zero (by simpa using e1.symm);subst hfs;refine⟨c.args.map a.eval++cs',?_,?_⟩
   .simp only[ajw];exact r0.append ⟨by simpa using e3,λi u u' x y=>e4 i u u' (by simpa using x) (by simpa using y)⟩
   .simp[resolve,hcal,hq,Deferred.ofValue,invoke]
 .cases hc
theorem Jc {F}(R:Rel P F ι h w){strict E L}{a:Go.Act}(HE:lW P ι E a.tmps)(HL:EA P F ι L a.tmps){o c}(ho:o.op=.call c){n cs}
  (hl:vE L c=some (n,cs)){v}(hx:(rK P strict E c n cs).exec h=some (v,h1)):Oo P F ι w (execOp a.eval o) v h1:=by
 unfold vE at hl;split at hl
 .rename_i s0 t0 hcal hargs;obtain⟨b,cs',e0,q1,q2,q3,q4⟩:=HL _ _ _ hl;unfold rK at hx;split at hx
  .rename_i t t' s x hts hargs';rw[hargs] at hargs';simp at hargs';split at hx
   .rename_i sa sn sc e e' hs ht ht';split at hx
    .rename_i z zz hsz hzz;split at hx
     .rename_i hb;have hb:=afM hb;obtain⟨i,hi,rfl⟩:=xM hsz;rw[hi] at hb;simp[Act.exec] at hx;split at hx
      .rename_i r h3 hap;cases hx;have hlen:=Z4 hap;have hblk:=R.nF _ _ q2;have S:Src P ι h w i.size n (.slice (some ⟨b,0,none⟩) n n) cs cs'.toList:=by
        refine⟨λw'=>by simp[Builtin.lenOf],λw' he=>?_,q3,q4⟩;have hl':cs'.toList.length=n*i.size:=(by rw[<-q3.1,hlen]);have:=vF (P:=P) (a':=⟨b,0,none⟩) hl' (λj v' hj=>by
         rw[add_eq rfl];simp[World.cell?,hblk];simpa using hj) he
        simpa[Builtin.firstCells] using this
       have hsv:=aV HE hs;have htv:a.eval (.tmp t0)=.slice (some ⟨b,0,none⟩) n n:=(by simp[Act.eval,ah2,q1]);have hga:c.args.map a.eval=#[a.eval s0,.slice (some ⟨b,0,none⟩) n n]:=by
        apply ahl;simp[hargs,htv]
       have hgt:c.argTypes=#[t,t']:=ahl (by simpa using hts);have:=CZ (ty:=o.type) R ht (.inl ⟨_,ht'⟩) hi hzz hb hsv S hap
       grind [execOp,resolve,invoke,builtin,this.o]
      .cases hx
     .simp[Act.exec] at hx
    .simp[Act.exec] at hx
   .simp[Act.exec] at hx
  .simp[Act.exec] at hx
 .cases hl
theorem MG {F}(R:Rel P F ι h w){ops E}{a:Go.Act}(HE:lW P ι E a.tmps){o n cs}(hl:yF P ops E o=some (n,cs)) :
  ∃e r',bz P ι cs r'/\(∀v∈cs,eS v=true)/\(execOp a.eval o).run P w=.ok (.value (.slice (some ⟨w.heap.size,0,none⟩) n n)) { w with heap:=w.heap.push (.cells r'.toArray e) } /\
   F w.heap.size=none/\Rel P (ZV F w.heap.size (.cells r'.toArray e)) ι h { w with heap:=w.heap.push (.cells r'.toArray e) }:=by
 unfold yF at hl;split at hl
 .rename_i t len parts d ho hd;split at hl
  .split at hl
   .rename_i vs hvs;split at hl
    .rename_i cs0 hcs;cases hl;have hp:Mz P ι vs (parts.map λ(i,x)=>(i,a.eval x)).toList:=(by simpa using ua HE hvs);obtain⟨q1,e,r',q2,q3⟩:=F6 hp hcs;refine⟨e,r',q2,q1,?_,?_,?_⟩
     .simp only[execOp,ho]
      simp_all
     .cases hq:F w.heap.size with
      |none=>rfl
      |some ob=>have:=(Array.getElem?_eq_some_iff.1 (R.nF _ ob hq)).1;omega
     .refine (R.ZT _).ZW (by simp) (λn l hl=>?_) λm r hm=>?_
      .have:=hold R n l hl;omega
      .obtain⟨_,es,c,q⟩:=R.mp.loc m r hm
       grind
    .cases hl
   .cases hl
  .cases hl
 .cases hl
theorem MH {R C}(HT:Bh P C){F W nm cks ks ops E L o}{K:Env->jl->M R}{r}
  (R0:Rel P F ι h w){a t0}(HE:lW P ι E a.tmps)(HL:EA P F ι L a.tmps)(hd:a.defers=F.Mb)(hs:a.tmps.size=W.1)(hfr:F8 W t0 a.tmps)
  (hx:xe P C W nm cks ks ops E L o K h=some r){next Q}(hnext:∀a w,agQ P F ι W t0 K r a w->next a w):o.wp P a w next Q:=by
 generalize hm:xe P C W nm cks ks ops E L o K=m at hx;unfold xe at hm;split at hm
 .subst hm;simp[AS] at hx
 .rename_i hw;have hdef:∀v,(a.put o.dst v).defers=F.Mb:=λv=>by cases o.dst<;>exact hd
  have hsz:∀v,(a.put o.dst v).tmps.size=W.1:=λv=>by rw[(F8.put hw v).1,hs]
  have fin:∀(A:Act) (E':Env),lW P ι E' a.tmps->(∀v h1,A.exec h=some (v,h1)->Oo P F ι w (execOp a.eval o) v h1) ->
    (td cks A).run (λv=>K (E'.put o.dst v) (L.del o.dst)) h=some r->o.wp P a w next Q:=by
   intro A E' HE' hA hx;obtain⟨v,h1,e1,e2⟩:=Act.MD hx;obtain⟨v',w',ι',hr,hv,R1,hle⟩:=hA v h1 (OB e1);have hnow:agQ P F ι W t0 K r (a.put o.dst v') w':=
    ⟨F,ι',_,_,h1,.refl _,hle,e2,R1,(HE'.mono hle).put hs hw hv,(HL.mono (.refl _) hle).del _ _,hdef _,hsz _,hfr.trans (.put hw v')⟩
   unfold Oper.wp;rcases hr with hr|⟨hr,rfl⟩
   .rw[hr];exact hnext _ _ hnow
   .rw[hr];exact hnext _ _ hnow
  split at hm
  ·-- pick
   rename_i c x y ho;split at hm
   .rename_i t hc;have hb:=(aV HE hc).bool;have G9:∀v z,lW P ι (E.uq c t) a.tmps->(E.uq c t).ev z=some v->K ((E.uq c t).put o.dst v) (L.del o.dst) h=some r->(a.eval (if t=true then x else y)=a.eval z)->o.wp P a w next Q:=by
     intro v z HE' hz hk hez;have hv:=aV HE' hz;unfold Oper.wp;have hrun:(execOp a.eval o).run P w=.ok (.value (a.eval z)) w:=by
      unfold execOp;rw[ho];dsimp;rw[hb];cases t<;>simp_all[asBool]
     rw[hrun];exact hnext _ _ ⟨F,ι,_,_,h,.refl _,.refl _,hk,R0,HE'.put hs hw hv,HL.del _ _,hdef _,hsz _,hfr.trans (.put hw _)⟩
    unfold wR at hm;split at hm
    .rename_i ht;subst ht;split at hm
     .rename_i v hv;subst hm;exact G9 v x (HE.uq hc) hv hx rfl
     .subst hm;simp[AS] at hx
    .rename_i ht;have ht:t=false:=(by cases t<;>simp_all);subst ht;split at hm
     .rename_i v hv;subst hm;exact G9 v y (HE.uq hc) hv hx rfl
     .subst hm;simp[AS] at hx
   .subst hm;simp[AS] at hx
  ·-- calls
   rename_i c ho;split at hm
   .split at hm
    .rename_i n cs hla;subst hm
     grind [Ol,Jc,CT]
    .split at hm
     .subst hm;simp[AS] at hx
     .subst hm;grind [xi,CT]
   .have call:∀(ca ca':xI) (f:FuncId) (vs:δ) (vs':ν) (x:ca.α) (x':ca'.α) (h2:ai),iw P f vs ca'->bz P ι vs vs'.toList ->
      (do let d <-resolve a.eval c o.type;invoke d.target d.args).run P w=(callFunc f vs').run P w->ca'.m h=some (x',h2)->ca'.pk x'=ca.pk x ->
      K (E.put o.dst (ca.pk x)) (L.del o.dst) h2=some r->o.wp P a w next Q:=by
     intro ca ca' f vs vs' x x' h2 hok r1 r2 hm hpk hx;obtain⟨hen,hcalls⟩:=hok;rcases hen with hen|hval
     rotate_left
     .obtain⟨v',w',ι',hrun,hv,R1,hle⟩:=hval F h x' h2 hm ι w vs' R0 r1;unfold Oper.wp;have hrun:(execOp a.eval o).run P w=.ok (.value v') w':=by
       grind [execOp]
      rw[hrun];rw[hpk] at hv;exact hnext _ _ ⟨F,ι',_,_,h2,.refl _,hle,hx,R1,(HE.mono hle).put hs hw hv,(HL.mono (.refl _) hle).del _ _,hdef _,hsz _,hfr.trans (.put hw v')⟩
     have hcalls:=hcalls hen;unfold Oper.wp;have hrun:(execOp a.eval o).run P w=.ok (.enter f vs') w:=by
      unfold execOp;rw[ho];dsimp;rw[r2,hen]
     rw[hrun];refine (hcalls F h x' h2 hm ι w vs' R0 r1).mono ?_;rintro e w'' ⟨v',ι',rfl,hv,R1,hle⟩;rw[hpk] at hv;exact hnext _ _ ⟨F,ι',_,_,h2,.refl _,hle,hx,R1,(HE.mono hle).put hs hw hv,(HL.mono (.refl _) hle).del _ _,hdef _,hsz _,hfr.trans (.put hw v')⟩
    split at hm
    .rename_i t hds;split at hm
     .rename_i xv vs hcd;split at hm
      .rename_i ca hca;subst hm;simp[sh] at hx;split at hx
       .rename_i x h2 hm;obtain⟨g,caps,ca',y',rfl,q2,q3,q4⟩:=HT.dy _ _ _ _ hca h x h2 (F9 hm).1;obtain⟨vs',r1,r2⟩:=HC HE hds hcd o.type w
        grind
       .cases hx
      .subst hm;simp[AS] at hx
     .subst hm;simp[AS] at hx
    .split at hm
     .rename_i f vs hcal;split at hm
      .rename_i ca hca;subst hm;simp[sh] at hx;split at hx
       .rename_i x h2 hm;obtain⟨vs',r1,r2⟩:=Jb HE hcal o.type w;exact call ca ca _ _ vs' x x h2 (HT.st f vs ca hca) r1 r2 (F9 hm).1 rfl hx
       .cases hx
      .subst hm;simp[AS] at hx
     .subst hm;simp[AS] at hx
  ·-- stores
   split at hm
   .subst hm;grind [xi]
   .split at hm
    .subst hm;grind [xi,Ga]
    .subst hm;simp[AS] at hx
  ·-- slices that are written out
   rename_i t len parts ho;split at hm
   .rename_i x hlo;obtain⟨n,cs⟩:=x;subst hm;obtain⟨e,r',q1,q2,q3,q4,q5⟩:=MG R0 HE hlo;have hdst:∃d,o.dst=some d:=by
     grind [yF]
    obtain⟨d,hd'⟩:=hdst;unfold Oper.wp;rw[q3];refine hnext _ _ ⟨_,ι,_,_,h,Qt.add q4,.refl _,hx,q5,?_,?_,hdef _,hsz _,hfr.trans (.put hw _)⟩
    .rw[hd'];intro j u hj;simp only[Env.del,aN] at hj;split at hj
     .cases hj
     .rename_i hne;obtain⟨u',x1,x2⟩:=HE j u hj;exact⟨u',by simp[Act.put];grind,x2⟩
    .rw[hd'];intro j m cs2 hj;simp[jl.put,aN] at hj;split at hj
     .rename_i hne;subst hne;cases hj;have hlt:j<a.tmps.size:=(by rw[hs];rw[hd'] at hw;exact Vx hw);refine⟨w.heap.size,r'.toArray,e,by simp[Act.put,hlt],by simp[ZV],by simpa using q1,q2⟩
     .rename_i hne;obtain⟨b,cs',e',x1,x2,x3,x4⟩:=HL j m cs2 hj;exact⟨b,cs',e',by simp[Act.put];grind,(Qt.add q4).1 _ _ x2,x3,x4⟩
   .subst hm;grind [xi]
  .subst hm;grind [xi]
theorem xN {R C}(HT:Bh P C){F W nb ops}{K:Env->M R}{r t0}(hlib:Vi F){Q}(hQ:∀a w,ZC P F ι W t0 K r a w->Q .normal a w) :
  ∀l E L A F0 ι0 h a w ,
   Rel P F0 ι0 h w->lW P ι0 E a.tmps->EA P F0 ι0 L a.tmps->a.defers=F0.Mb->a.tmps.size=W.1->F8 W t0 a.tmps->ι.le ι0->Qt F F0->ki P C W nb ops l E L A K h=some r ->
   wpOps P ops Q (l.map (·.1)) a w
 |[],E,L,A,F0,ι0,h,a,w,R0,HE,HL,hd,hs,hfr,hle,hF,hx=>hQ _ _ ⟨ι0,E,h,hle,hx,R0.shrink hF hlib,HE,hd.trans hF.2.2.2,hs,hfr⟩
 |(i,cs)::rest,E,L,A,F0,ι0,h,a,w,R0,HE,HL,hd,hs,hfr,hle,hF,hx=>by
  have ih:=xN HT (nb:=nb) (ops:=ops) hlib hQ rest;generalize hm:ki P C W nb ops ((i,cs)::rest) E L A K=m at hx;unfold ki at hm;split at hm
  .subst hm;simp[AS] at hx
  .rename_i o ho;have run:∀E',lW P ι0 E' a.tmps->Region.wanted o (yielded ops a.tmps)=true ->
     xe P C W (nb.map (·+i)) (cs.map A) (Ez P ops nb cs) ops E' L o (λE' L'=>ki P C W nb ops rest E' L' (λj=>cond (Nat.beq j i) (nO E o) (A j)) K) h=some r ->
     wpOps P ops Q ((i::rest.map (·.1))) a w:=by
    intro E' HE' hwant hx;simp[wpOps,ho];rw[By hwant];refine .inl (MH HT R0 HE' HL hd hs hfr hx ?_);rintro a2 w2 ⟨F2,ι2,E2,L2,h2,hF2,hle2,hk,R2,HE2,HL2,hd2,hs2,hfr2⟩;exact ih E2 L2 _ F2 ι2 h2 a2 w2 R2 HE2 HL2 hd2 hs2 hfr2 (hle.trans hle2) (hF.trans hF2) hk
   have skip:∀E',lW P ι0 E' a.tmps->Region.wanted o (yielded ops a.tmps)=false->LS W o.dst=true ->
     ki P C W nb ops rest (E'.put o.dst undef) (L.del o.dst) A K h=some r ->
     wpOps P ops Q ((i::rest.map (·.1))) a w:=by
    intro E' HE' hwant hw hx;simp[wpOps,ho];rw[AT (by rw[hwant];simp)];refine ih _ _ A F0 ι0 h _ w R0 (HE'.put hs hw (.tuple _ _ rfl (by simp))) (HL.del _ _) ?_ ?_ (hfr.trans (.put hw _)) hle hF hx
    .cases o.dst<;>exact hd
    .rw[(F8.put hw _).1,hs]
   split at hm
   .rename_i hg;subst hm;exact run E HE (by simp[Region.wanted,hg]) hx
   .rename_i j want hg;split at hm
    .rename_i t ht;split at hm
     .rename_i b hb;obtain⟨v',hv1,hv2⟩:=HE t _ hb;obtain rfl:=hv2.bool;have hy:yielded ops a.tmps j=some b:=(by simp[yielded,ht,hv1]);have hwant:Region.wanted o (yielded ops a.tmps)=(b==want):=(by simp[Region.wanted,hg,hy]);cases want with
      |true=>
       simp at hm;unfold wR at hm;split at hm
       .rename_i e;subst e;subst hm;exact run _ (HE.Vy hb) (by rw[hwant];rfl) hx
       .rename_i e;have:b=false:=(by cases b<;>simp_all);subst this;split at hm
        .rename_i hw;subst hm;exact skip _ (HE.Vy hb) (by rw[hwant];rfl) hw hx
        .subst hm;simp[AS] at hx
      |false=>
       simp at hm;unfold wR at hm;split at hm
       .rename_i e;subst e;split at hm
        .rename_i hw;subst hm;exact skip _ (HE.Vy hb) (by rw[hwant];rfl) hw hx
        .subst hm;simp[AS] at hx
       .rename_i e;have:b=false:=(by cases b<;>simp_all);subst this;subst hm;exact run _ (HE.Vy hb) (by rw[hwant];rfl) hx
     .rename_i vs hb;obtain⟨v',hv1,hv2⟩:=HE t _ hb;have hy:yielded ops a.tmps j=none:=by
       cases hv2 with
       |flat _ hf=>simp[dW] at hf
       |tuple=>simp[yielded,ht,hv1]
      split at hm
      .rename_i hw;subst hm;exact skip E HE (by simp[Region.wanted,hg,hy]) hw hx
      .subst hm;simp[AS] at hx
     .subst hm;simp[AS] at hx
    .subst hm;simp[AS] at hx
def MI {R}(P:Program)(F:Fz)(ι:ja)(W:Wr)(t0:ν)(uU:ξ->M R)(r:R×ai)(e:Exit)(a:Go.Act)(w:World):Prop:=
 ∃ι' v v' h,e=.panic (one v')/\ι.le ι'/\uU v h=some r/\aW P ι' v v'/\Rel P F ι' h w/\a.defers=F.Mb/\a.tmps.size=W.1/\F8 W t0 a.tmps
theorem MI.trans {R F W t0 t1}{uU:ξ->M R}{r}(hle:ι.le ι')(hf:F8 W t0 t1){e a w}
  (hp:MI P F ι' W t1 uU r e a w):MI P F ι W t0 uU r e a w:=by
 obtain⟨ι2,v,v',h,q1,q2,q3,q4,q5,q6,q7,q8⟩:=hp;exact⟨ι2,v,v',h,q1,hle.trans q2,q3,q4,q5,q6,q7,hf.trans q8⟩
end Go.Ago
