
import Derived.Test.YtcdofopdlaebaaaGreatDoorAgoE
namespace Go.Ago
open Go
variable {P:Program}{W0:Fz}{ι ι':fM}{h h' h1:af}{w w':World}
def Bh (W:Wr)(t t':Array Value):Prop:=t'.size=t.size/\∀l,W.2=some l->∀i,l.any (Nat.beq i)=false->t'[i]?=t[i]?
theorem Bh.refl (W:Wr)(t:Array Value):Bh W t t:=⟨rfl,λ_ _ _ _=>rfl⟩
theorem Bh.trans {W:Wr}{a b c:Array Value}(x:Bh W a b)(y:Bh W b c):Bh W a c:=⟨y.1.trans x.1,λl hl i hi=>(y.2 l hl i hi).trans (x.2 l hl i hi)⟩
theorem TE {W:Wr}{i:Nat}(hw:yJ W (some i)=true):i<W.1:=by
 simp only[yJ,IT] at hw;have:=adA hw.1;omega
theorem XA {W:Wr}{i:Nat}(hw:yJ W (some i)=true){l:List Nat}(hl:W.2=some l):l.any (Nat.beq i)=true:=by
 simp only[yJ,IT,hl] at hw;exact hw.2
theorem Bh.put {W:Wr}{a:Go.Act}{d:Option Nat}(hw:yJ W d=true)(v:Value):Bh W a.tmps (a.put d v).tmps:=by
 cases d with
 |none=>exact .refl _ _
 |some i=>
  refine⟨by simp[Act.put],λl hl j hj=>?_⟩;have hm:=XA hw hl;have:i≠j:=λe=>by subst e;rw[hm] at hj;cases hj
  simp[Act.put,adD,this]
theorem iN.set {E:Env}{t:Array Value}(hE:iN P ι E t){i:Nat}(hi:i<t.size){v v':Value}(hv:aS P ι v v'):iN P ι (E.set i v) (t.setIfInBounds i v'):=by
 intro j u hj;simp only[Env.set,cQ] at hj;split at hj
 .rename_i e;subst e;cases hj;exact⟨v',by simp[hi],hv⟩
 .rename_i e;obtain⟨u',a,b⟩:=hE j u hj;exact⟨u',by rw[adD,if_neg (λx=>e x.symm)];exact a,b⟩
theorem iN.put {W:Wr}{E:Env}{a:Go.Act}(hE:iN P ι E a.tmps)(hs:a.tmps.size=W.1){d:Option Nat}(hw:yJ W d=true){v v':Value}(hv:aS P ι v v') :
  iN P ι (E.put d v) (a.put d v').tmps:=by
 cases d with
 |none=>exact hE
 |some i=>exact hE.set (by rw[hs];exact TE hw) hv
theorem iN.HA {E:Env}{t:Array Value}(hE:iN P ι E t){i:Nat}{b:Bool}(hi:E i=some (.bool b)):iN P ι (E.set i (.bool b)) t:=by
 intro j u hj;simp only[Env.set,cQ] at hj;split at hj
 .rename_i e;subst e;cases hj;exact hE _ _ hi
 .exact hE j u hj
theorem iN.pA {E:Env}{a:Go.Act}(hE:iN P ι E a.tmps){c:Operand}{b:Bool}(hc:E.ev c=some (.bool b)):iN P ι (E.pA c b) a.tmps:=by
 cases c with
 |tmp t=>exact hE.HA hc
 |_=>exact hE
theorem Act.Kz {R:Type}{K:Value->M R}:∀{A:Act} {h:af} {r:R×af},A.run K h=some r->∃v h1,A.exec h=some (v,h1)/\K v h1=some r
 |.val v,h,r,hx=>⟨v,h,rfl,hx⟩
 |.ask α m k,h,r,hx=>by
  simp only[Act.run,sh] at hx;split at hx
  .rename_i x h1 hm;obtain⟨v,h2,e1,e2⟩:=Act.Kz hx;exact⟨v,h2,by simp only[Act.exec,hm,e1],e2⟩
  .cases hx
 |.none,h,r,hx=>by simp[Act.run,AS] at hx
theorem vk:∀{as:List (Option Addr)},(∀a∈as,∀b,a=some b->h.get b.block=h1.get b.block)->sameAt h h1 as=true
 |[],_=>rfl
 |none::r,hs=>by simp only[sameAt];exact vk (as:=r) λa ha=>hs a (AT _ ha)
 |some c::r,hs=>by
  have h0:=hs (some c) (By ..) c rfl;simp only[sameAt];split
  .exact vk (as:=r) λa ha=>hs a (AT _ ha)
  .rename_i hne _;exact absurd h0 hne
theorem KA {α:Type}{as:List (Option Addr)}{m:M α}{r:α×af}(hx:kG as m h=some r):m h=some r/\sameAt h r.2 as=true:=by
 unfold kG at hx;split at hx
 .rename_i x h2 hm;split at hx
  .rename_i hs;cases hx;exact⟨hm,hs⟩
  .cases hx
 .cases hx
theorem zy {α:Type}{as:List (Option Addr)}{m:M α}{r:α×af}(hx:wrapM as m h=some r):m h=some r/\sameAt h r.2 as=true:=by
 unfold wrapM at hx;split at hx
 .exact⟨hx,rfl⟩
 .exact KA hx
theorem Mw {as:List (Option Addr)}{A:Act}{r:Value×af}(hx:(qI as A).exec h=some r):A.exec h=some r:=by
 cases A with
 |val v=>exact hx
 |none=>exact hx
 |ask α m k=>
  cases as with
  |nil=>exact hx
  |cons a as=>
   simp only[qI,Act.exec] at hx⊢;split at hx
   .rename_i x h2 hm;rw[(KA hm).1];exact hx
   .cases hx
theorem GN {α:Type}{ks:List Nat}{a:Addr}{m:M α}{r:α×af}(hx:Ed ks a m h=some r):m h=some r/\okK h a ks=true:=by
 unfold Ed at hx;split at hx
 .rename_i hk;exact⟨hx,hk⟩
 .cases hx
theorem Ew {ks:List Nat}{a:Addr}{A:Act}{R:Type}{K:Value->M R}{r:R×af}(hx:(JZ ks a A).run K h=some r):A.run K h=some r:=by
 cases A with
 |val v=>exact hx
 |none=>exact hx
 |ask α m k=>
  simp only[JZ,Act.run,sh] at hx⊢;split at hx
  .rename_i x h2 hm;rw[(GN hm).1];exact hx
  .cases hx
def Enters (P:Program)(f:FuncId):Prop:=∀args w,(callFunc f args).run P w=.ok (.enter f args) w
structure gF (P:Program) (f:FuncId) (vs:List Value) (ca:oK):Prop where
 enter:Enters P f\/∀(F:Fz) h x h1,ca.m h=some (x,h1)->∀ι w (vs':Array Value),Rel P F ι h w->bA P ι vs vs'.toList ->
  ∃v' w' ι',(callFunc f vs').run P w=.ok (.value v') w'/\aS P ι' (ca.pk x) v'/\Rel P F ι' h1 w'/\ι.le ι'
 calls:Enters P f->∀(F:Fz) h x h1,ca.m h=some (x,h1)->∀ι w (vs':Array Value),Rel P F ι h w->bA P ι vs vs'.toList ->
  Calls P f vs' w λe w'=>∃v' ι',e=.returned v'/\aS P ι' (ca.pk x) v'/\Rel P F ι' h1 w'/\ι.le ι'
theorem gF.of {P:Program}{f:FuncId}{vs:List Value}{ca:oK}(he:Enters P f)(hc:∀(F:Fz) h x h1,ca.m h=some (x,h1)->∀ι w (vs':Array Value),Rel P F ι h w->bA P ι vs vs'.toList ->
  Calls P f vs' w λe w'=>∃v' ι',e=.returned v'/\aS P ι' (ca.pk x) v'/\Rel P F ι' h1 w'/\ι.le ι'):gF P f vs ca:=⟨.inl he,λ_=>hc⟩
def OY (P:Program)(x:Value)(vs:List Value)(ca:oK):Prop:=
 ∀h y h1,ca.m h=some (y,h1)->∃g caps ca' y',x=.func (.func g) #[] caps/\gF P g (vs++caps.toList) ca'/\ca'.m h=some (y',h1)/\ca'.pk y'=ca.pk y
def one (v:Value):List PanicEntry:=[{ v,recovered:=false }]
structure HC (P:Program) (f:FuncId) (vs:List Value) (ca:Tj):Prop where
 enter:∀args w,(callFunc f args).run P w=.ok (.enter f args) w
 ret:∀(F:Fz) h x h1,ca.m h=some (.inl x,h1)->∀ι w (vs':Array Value),Rel P F ι h w->bA P ι vs vs'.toList ->
  Calls P f vs' w λe w'=>∃v' ι',e=.returned v'/\aS P ι' (ca.pk x) v'/\Rel P F ι' h1 w'/\ι.le ι'
 fj:∀(F:Fz) h v h1,ca.m h=some (.inr v,h1)->∀ι w (vs':Array Value),Rel P F ι h w->bA P ι vs vs'.toList ->
  Calls P f vs' w λe w'=>∃v' ι',e=.panicked (one v')/\aS P ι' v v'/\Rel P F ι' h1 w'/\ι.le ι'
structure sw (P:Program) (C:fB):Prop where
 st:∀f vs ca,C.st f vs=some ca->gF P f vs ca
 dy:∀t x vs ca,C.dy t x vs=some ca->OY P x vs ca
 mo:∀f vs ca,C.mo f=true->C.st f vs=some ca->FT ca.m
 sp:∀f vs ca,C.sp f vs=some ca->HC P f vs ca
 JN:∀f vs ca,C.sp f vs=some ca->C.JN f=true
 dis:∀f vs,C.JN f=true->C.st f vs=none
theorem GO {α:Type}{k:Nat}{m:M α}{h:af}{r:α×af}(hx:Bm k m h=some r):m h=some r:=by
 unfold Bm at hx;split at hx
 .split at hx
  .rename_i hm _ _ _;cases hx;exact hm
  .cases hx
 .cases hx
theorem sw.kG {C:fB}(H:sw P C)(nb:Nat)(ops:Array Oper)(l:List (Nat×List Nat)):sw P (C.kG P nb ops l):=by
 refine⟨λf vs ca h1=>?_,H.dy,λf vs ca h1 h2=>?_,H.sp,H.JN,λf vs h1=>?_⟩
 .simp only[fB.kG] at h1;split at h1
  .exact H.st f vs ca h1
  .split at h1
   .rename_i ca' hca;cases h1;obtain⟨q1,q2⟩:=H.st f vs ca' hca;exact⟨q1.imp (λx=>x) λq F h x h1 hx=>q F h x h1 (GO hx),λhe F h x h1 hx=>q2 he F h x h1 (GO hx)⟩
   .cases h1
 .simp only[fB.kG,IT] at h1 h2;split at h2
  .exact H.mo f vs ca h1.1 h2
  .rename_i hb;rw[hb] at h1;simp at h1
 .simp only[fB.kG];have h2:C.st f vs=none:=H.dis f vs h1;split
  .exact h2
  .rw[h2]
def AB (P:Program)(F:Fz)(ι:fM)(L:cP)(t:Array Value):Prop:=
 ∀(i:Nat) n cs,L i=some (n,cs)->∃b cs' e,t[i]?=some (.slice (some ⟨b,0,none⟩) n n)/\F b=some (.cells cs' e (0,0))/\bA P ι cs cs'.toList/\(∀v∈cs,eQ v=true)
theorem AB.emp {F:Fz}{t:Array Value}:AB P F ι cP.emp t:=λi n cs hl=>by simp[cP.emp] at hl
theorem AB.mono {F F':Fz}{L:cP}{t:Array Value}(hl:AB P F ι L t)(hF:Mh F F')(hle:ι.le ι'):AB P F' ι' L t:=λi n cs hi=>
 let ⟨b,cs',e,q1,q2,q3,q4⟩:=hl i n cs hi
 ⟨b,cs',e,q1,hF.1 _ _ q2,q3.mono hle,q4⟩
theorem AB.del {F:Fz}{L:cP}{a:Go.Act}(hl:AB P F ι L a.tmps)(d:Option Nat)(v:Value):AB P F ι (L.del d) (a.put d v).tmps:=by
 intro i n cs hi;cases d with
 |none=>exact hl i n cs hi
 |some j=>
  simp only[cP.del,cQ] at hi;split at hi
  .cases hi
  .rename_i hne;obtain⟨b,cs',e,q1,q2⟩:=hl i n cs hi;exact⟨b,cs',e,by simp only[Act.put];rw[adD,if_neg (λx=>hne (Eq.symm x))];exact q1,q2⟩
def aa8 {R:Type}(P:Program)(F:Fz)(ι:fM)(W:Wr)(t0:Array Value)(K:Env->cP->M R)(r:R×af)(a:Go.Act)(w:World):Prop:=
 ∃F' ι' E L h,Mh F F'/\ι.le ι'/\K E L h=some r/\Rel P F' ι' h w/\iN P ι' E a.tmps/\AB P F' ι' L a.tmps/\a.defers=[]/\a.tmps.size=W.1/\Bh W t0 a.tmps
def SV {R:Type}(P:Program)(F:Fz)(ι:fM)(W:Wr)(t0:Array Value)(K:Env->M R)(r:R×af)(a:Go.Act)(w:World):Prop:=
 ∃ι' E h,ι.le ι'/\K E h=some r/\Rel P F ι' h w/\iN P ι' E a.tmps/\a.defers=[]/\a.tmps.size=W.1/\Bh W t0 a.tmps
theorem AD {E:Env}{a:Go.Act}(HE:iN P ι E a.tmps){c:Call}{f:FuncId}{vs:List Value}(hc:callee E c=some (f,vs))(t:TypeId)(w:World) :
  ∃vs':Array Value,bA P ι vs vs'.toList/\(do let d <-resolve a.eval c t;invoke d.target d.args).run P w=(callFunc f vs').run P w:=by
 unfold callee at hc;split at hc
 .rename_i fo vs0 hcal hvs;split at hc
  .rename_i g first captured hf
   cases hc;have hr:=aQ HE hf;generalize hq:a.eval fo=q at hr;cases hr with
   |flat _ hf=>simp[cX] at hf
   |func _ _ fs' _ cs' e1 e2 e3 e4=>
    have r0:=AA HE hvs;refine⟨fs'++c.args.map a.eval++cs',?_,?_⟩
    .simp only[afP];exact (bA.append ⟨by simpa using e1,λi u u' x y=>e2 i u u' (by simpa using x) (by simpa using y)⟩ r0).append ⟨by simpa using e3,λi u u' x y=>e4 i u u' (by simpa using x) (by simpa using y)⟩
    .simp[resolve,hcal,hq,Deferred.ofValue,invoke]
  .cases hc
 .cases hc
theorem F1 {E:Env}{a:Go.Act}(HE:iN P ι E a.tmps){C:fB}{c:Call}{t:Nat}{g:FuncId}{caps:Array Value}{vs:List Value}(hd:jD C c=some t)
  (hc:rD E t c=some (.func (.func g) #[] caps,vs)) (ty:TypeId) (w:World) :
  ∃vs':Array Value,bA P ι (vs++caps.toList) vs'.toList/\(do let d <-resolve a.eval c ty;invoke d.target d.args).run P w=(callFunc g vs').run P w:=by
 unfold rD at hc;split at hc
 .rename_i x vs0 hx hvs;cases hc;have hcal:c.callee=.value (.tmp t):=by
   unfold jD at hd;split at hd
   .split at hd
    .cases hd;assumption
    .cases hd
   .cases hd
  have hr:=aQ (x:=.tmp t) HE hx;generalize hq:a.eval (.tmp t)=q at hr;cases hr with
  |flat _ hf=>simp[cX] at hf
  |func _ _ fs' _ cs' e1 e2 e3 e4=>
   have r0:=AA HE hvs;have hfs:fs'=#[]:=Array.eq_empty_of_size_eq_zero (by simpa using e1.symm);subst hfs;refine⟨c.args.map a.eval++cs',?_,?_⟩
   .simp only[afP];exact r0.append ⟨by simpa using e3,λi u u' x y=>e4 i u u' (by simpa using x) (by simpa using y)⟩
   .simp[resolve,hcal,hq,Deferred.ofValue,invoke]
 .cases hc
theorem HD {F:Fz}(R:Rel P F ι h w){strict:Bool}{E:Env}{L:cP}{a:Go.Act}(HE:iN P ι E a.tmps)(HL:AB P F ι L a.tmps){o:Oper}{c:Call}(ho:o.op=.call c){n:Nat}{cs:List Value}
  (hl:su L c=some (n,cs)) {v:Value} (hx:(sv P strict E c n cs).exec h=some (v,h1)):Mq P F ι w (execOp a.eval o) v h1:=by
 unfold su at hl;split at hl
 .rename_i s0 t0 hcal hargs;obtain⟨b,cs',e0,q1,q2,q3,q4⟩:=HL _ _ _ hl;unfold sv at hx;split at hx
  .rename_i t t' s x hts hargs';rw[hargs] at hargs';simp at hargs';obtain⟨rfl,rfl⟩:=hargs';split at hx
   .rename_i sa sn sc e e' hs ht ht';split at hx
    .rename_i z zz hsz hzz;split at hx
     .rename_i hb;have hb:=adA hb;obtain⟨i,hi,rfl⟩:=vN hsz;rw[hi] at hb;simp only[Act.exec] at hx;split at hx
      .rename_i r h3 hap;cases hx;have hlen:=Xz hap;have hblk:=R.nr _ _ q2;have S:Src P ι h w i.size n (.slice (some ⟨b,0,none⟩) n n) cs cs'.toList:=by
        refine⟨λw'=>by simp[Builtin.lenOf],λw' he=>?_,q3,q4⟩;have hl':cs'.toList.length=n*i.size:=(by rw[<-q3.1,hlen]);have:=tH (P:=P) (w:=w) (a':=⟨b,0,none⟩) (cs':=cs'.toList) hl' (λj v' hj=>by
         rw[add_eq rfl];simp[World.cell?,hblk];simpa using hj) he
        simpa[Builtin.firstCells] using this
       have hsv:=aQ HE hs;have htv:a.eval (.tmp t0)=.slice (some ⟨b,0,none⟩) n n:=(by simp[Act.eval,adK,q1]);have hga:c.args.map a.eval=#[a.eval s0,.slice (some ⟨b,0,none⟩) n n]:=by
        apply adI;simp[hargs,htv]
       have hgt:c.argTypes=#[t,t']:=adI (by simpa using hts);have:=Br (s:=⟨sa,sn,sc⟩) (ty:=o.type) R ht (.inl ⟨_,ht'⟩) hi hzz hb hsv S hap;simp only[execOp,ho,resolve,hcal,pure_bind,invoke,builtin,hga,hgt];exact this.o
      .cases hx
     .simp[Act.exec] at hx
    .simp[Act.exec] at hx
   .simp[Act.exec] at hx
  .simp[Act.exec] at hx
 .cases hl
theorem KB {F:Fz}(R:Rel P F ι h w){ops:Array Oper}{E:Env}{a:Go.Act}(HE:iN P ι E a.tmps){o:Oper}{n:Nat}{cs:List Value}(hl:vf P ops E o=some (n,cs)) :
  ∃e r',bA P ι cs r'/\(∀v∈cs,eQ v=true)/\(execOp a.eval o).run P w=.ok (.value (.slice (some ⟨w.heap.size,0,none⟩) n n)) { w with heap:=w.heap.push (.cells r'.toArray e) } /\
   F w.heap.size=none/\Rel P (Xq F w.heap.size (.cells r'.toArray e)) ι h { w with heap:=w.heap.push (.cells r'.toArray e) }:=by
 unfold vf at hl;split at hl
 .rename_i t len parts d ho hd;split at hl
  .split at hl
   .rename_i vs hvs;split at hl
    .rename_i cs0 hcs;cases hl;have hp:Kw P ι vs (parts.map λ(i,x)=>(i,a.eval x)).toList:=(by simpa using rG HE hvs);obtain⟨q1,e,r',q2,q3⟩:=Eu hp hcs;refine⟨e,r',q2,q1,?_,?_,?_⟩
     .simp only[execOp,ho];rw[Sem.run_bind,q3];rfl
     .cases hq:F w.heap.size with
      |none=>rfl
      |some ob=>have:=(Array.getElem?_eq_some_iff.1 (R.nr _ ob hq)).1;omega
     .refine (R.Xo _).Xr (by simp) (λn l hl=>?_) λm r hm=>?_
      .have:=hold R n l hl;omega
      .obtain⟨_,es,c,q⟩:=R.mp.loc m r hm;have:=(Array.getElem?_eq_some_iff.1 q).1;omega
    .cases hl
   .cases hl
  .cases hl
 .cases hl
theorem Ct {R:Type}{C:fB}(HT:sw P C){F:Fz}{W:Wr}{nm:Option Nat}{cks:List (Option Addr)}{ks:List Nat}{ops:Array Oper}{E:Env}{L:cP}{o:Oper}{K:Env->cP->M R}{r:R×af}
  (R0:Rel P F ι h w) {a:Go.Act} {t0:Array Value} (HE:iN P ι E a.tmps) (HL:AB P F ι L a.tmps) (hd:a.defers=[]) (hs:a.tmps.size=W.1) (hfr:Bh W t0 a.tmps)
  (hx:kD P C W nm cks ks ops E L o K h=some r) {next:Go.Act->World->Prop} {Q:Exit->Go.Act->World->Prop} (hnext:∀a w,aa8 P F ι W t0 K r a w->next a w):o.wp P a w next Q:=by
 generalize hm:kD P C W nm cks ks ops E L o K=m at hx;unfold kD at hm;split at hm
 .subst hm;simp[AS] at hx
 .rename_i hw;have hdef:∀v,(a.put o.dst v).defers=[]:=λv=>by cases o.dst<;>exact hd
  have hsz:∀v,(a.put o.dst v).tmps.size=W.1:=λv=>by rw[(Bh.put (W:=W) hw v).1,hs]
  have fin:∀(A:Act) (E':Env),iN P ι E' a.tmps->(∀v h1,A.exec h=some (v,h1)->Mq P F ι w (execOp a.eval o) v h1) ->
    (qI cks A).run (λv=>K (E'.put o.dst v) (L.del o.dst)) h=some r->o.wp P a w next Q:=by
   intro A E' HE' hA hx;obtain⟨v,h1,e1,e2⟩:=Act.Kz hx;obtain⟨v',w',ι',hr,hv,R1,hle⟩:=hA v h1 (Mw e1);have hnow:aa8 P F ι W t0 K r (a.put o.dst v') w':=
    ⟨F,ι',_,_,h1,.refl _,hle,e2,R1,(HE'.mono hle).put hs hw hv,(HL.mono (.refl _) hle).del _ _,hdef _,hsz _,hfr.trans (.put hw v')⟩
   unfold Oper.wp;rcases hr with hr|⟨hr,rfl⟩
   .rw[hr];exact hnext _ _ hnow
   .rw[hr];exact hnext _ _ hnow
  split at hm
  ·-- pick
   rename_i c x y ho;split at hm
   .rename_i t hc;have hb:=(aQ HE hc).bool;have Fq:∀v z,iN P ι (E.pA c t) a.tmps->(E.pA c t).ev z=some v->K ((E.pA c t).put o.dst v) (L.del o.dst) h=some r->(a.eval (if t=true then x else y)=a.eval z)->o.wp P a w next Q:=by
     intro v z HE' hz hk hez;have hv:=aQ HE' hz;unfold Oper.wp;have hrun:(execOp a.eval o).run P w=.ok (.value (a.eval z)) w:=by
      unfold execOp;rw[ho];dsimp only;rw[hb];cases t<;>simp_all[asBool]
     rw[hrun];exact hnext _ _ ⟨F,ι,_,_,h,.refl _,.refl _,hk,R0,HE'.put hs hw hv,HL.del _ _,hdef _,hsz _,hfr.trans (.put hw _)⟩
    unfold lG at hm;split at hm
    .rename_i ht;subst ht;split at hm
     .rename_i v hv;subst hm;exact Fq v x (HE.pA hc) hv hx rfl
     .subst hm;simp[AS] at hx
    .rename_i ht;have ht:t=false:=(by cases t<;>simp_all);subst ht;split at hm
     .rename_i v hv;subst hm;exact Fq v y (HE.pA hc) hv hx rfl
     .subst hm;simp[AS] at hx
   .subst hm;simp[AS] at hx
  ·-- calls
   rename_i c ho;split at hm
   .split at hm
    .rename_i n cs hla;subst hm;rw[Ml] at hx;exact fin _ E HE (λv h1 hx=>HD R0 HE HL ho hla hx) hx
    .split at hm
     .subst hm;simp[AS] at hx
     .subst hm;exact fin _ E HE (λv h1 hx=>vj R0 HE hx) hx
   .have call:∀(ca ca':oK) (f:FuncId) (vs:List Value) (vs':Array Value) (x:ca.α) (x':ca'.α) (h2:af),gF P f vs ca'->bA P ι vs vs'.toList ->
      (do let d <-resolve a.eval c o.type;invoke d.target d.args).run P w=(callFunc f vs').run P w->ca'.m h=some (x',h2)->ca'.pk x'=ca.pk x ->
      K (E.put o.dst (ca.pk x)) (L.del o.dst) h2=some r->o.wp P a w next Q:=by
     intro ca ca' f vs vs' x x' h2 hok r1 r2 hm hpk hx;obtain⟨hen,hcalls⟩:=hok;rcases hen with hen|hval
     rotate_left
     .obtain⟨v',w',ι',hrun,hv,R1,hle⟩:=hval F h x' h2 hm ι w vs' R0 r1;unfold Oper.wp;have hrun:(execOp a.eval o).run P w=.ok (.value v') w':=by
       unfold execOp;rw[ho];dsimp only;rw[r2,hrun]
      rw[hrun];rw[hpk] at hv;exact hnext _ _ ⟨F,ι',_,_,h2,.refl _,hle,hx,R1,(HE.mono hle).put hs hw hv,(HL.mono (.refl _) hle).del _ _,hdef _,hsz _,hfr.trans (.put hw v')⟩
     have hcalls:=hcalls hen;unfold Oper.wp;have hrun:(execOp a.eval o).run P w=.ok (.enter f vs') w:=by
      unfold execOp;rw[ho];dsimp only;rw[r2,hen]
     rw[hrun];refine (hcalls F h x' h2 hm ι w vs' R0 r1).mono ?_;rintro e w'' ⟨v',ι',rfl,hv,R1,hle⟩;rw[hpk] at hv;exact hnext _ _ ⟨F,ι',_,_,h2,.refl _,hle,hx,R1,(HE.mono hle).put hs hw hv,(HL.mono (.refl _) hle).del _ _,hdef _,hsz _,hfr.trans (.put hw v')⟩
    split at hm
    .rename_i t hds;split at hm
     .rename_i xv vs hcd;split at hm
      .rename_i ca hca;subst hm;simp only[sh] at hx;split at hx
       .rename_i x h2 hm;obtain⟨g,caps,ca',y',rfl,q2,q3,q4⟩:=HT.dy _ _ _ _ hca h x h2 (zy hm).1;obtain⟨vs',r1,r2⟩:=F1 HE hds hcd o.type w;exact call ca ca' _ _ vs' x y' h2 q2 r1 r2 q3 q4 hx
       .cases hx
      .subst hm;simp[AS] at hx
     .subst hm;simp[AS] at hx
    .split at hm
     .rename_i f vs hcal;split at hm
      .rename_i ca hca;subst hm;simp only[sh] at hx;split at hx
       .rename_i x h2 hm;obtain⟨vs',r1,r2⟩:=AD HE hcal o.type w;exact call ca ca _ _ vs' x x h2 (HT.st f vs ca hca) r1 r2 (zy hm).1 rfl hx
       .cases hx
      .subst hm;simp[AS] at hx
     .subst hm;simp[AS] at hx
  ·-- stores
   split at hm
   .subst hm;exact fin _ E HE (λv h1 hx=>vj R0 HE hx) hx
   .split at hm
    .subst hm;exact fin _ E HE (λv h1 hx=>vj R0 HE hx) (Ew hx)
    .subst hm;simp[AS] at hx
  ·-- slices that are written out
   rename_i t len parts ho;split at hm
   .rename_i x hlo;obtain⟨n,cs⟩:=x;subst hm;obtain⟨e,r',q1,q2,q3,q4,q5⟩:=KB R0 HE hlo;have hdst:∃d,o.dst=some d:=by
     unfold vf at hlo;split at hlo
     .rename_i d _ hd;exact⟨_,hd⟩
     .cases hlo
    obtain⟨d,hd'⟩:=hdst;unfold Oper.wp;rw[q3];refine hnext _ _ ⟨_,ι,_,_,h,Mh.add q4,.refl _,hx,q5,?_,?_,hdef _,hsz _,hfr.trans (.put hw _)⟩
    .rw[hd'];intro j u hj;simp only[Env.del,cQ] at hj;split at hj
     .cases hj
     .rename_i hne;obtain⟨u',x1,x2⟩:=HE j u hj;exact⟨u',by simp only[Act.put];rw[adD,if_neg (λx=>hne x.symm)];exact x1,x2⟩
    .rw[hd'];intro j m cs2 hj;simp only[cP.put,cQ] at hj;split at hj
     .rename_i hne;subst hne;cases hj;have hlt:j<a.tmps.size:=(by rw[hs];rw[hd'] at hw;exact TE hw);refine⟨w.heap.size,r'.toArray,e,by simp[Act.put,hlt],by simp[Xq],by simpa using q1,q2⟩
     .rename_i hne;obtain⟨b,cs',e',x1,x2,x3,x4⟩:=HL j m cs2 hj;exact⟨b,cs',e',by simp only[Act.put];rw[adD,if_neg (λx=>hne x.symm)];exact x1,(Mh.add q4).1 _ _ x2,x3,x4⟩
   .subst hm;exact fin _ E HE (λv h1 hx=>vj R0 HE hx) hx
  .subst hm;exact fin _ E HE (λv h1 hx=>vj R0 HE hx) hx
theorem AE {R:Type}{C:fB}(HT:sw P C){F:Fz}{W:Wr}{nb:Option Nat}{ops:Array Oper}{K:Env->M R}{r:R×af}{t0:Array Value}(hlib:OP F){Q:Exit->Go.Act->World->Prop}(hQ:∀a w,SV P F ι W t0 K r a w->Q .normal a w) :
  ∀(l:List (Nat×List Nat)) (E:Env) (L:cP) (A:J3) (F0:Fz) (ι0:fM) (h:af) (a:Go.Act) (w:World),
   Rel P F0 ι0 h w->iN P ι0 E a.tmps->AB P F0 ι0 L a.tmps->a.defers=[]->a.tmps.size=W.1->Bh W t0 a.tmps->ι.le ι0->Mh F F0->dS P C W nb ops l E L A K h=some r ->
   wpOps P ops Q (l.map (·.1)) a w
 |[],E,L,A,F0,ι0,h,a,w,R0,HE,HL,hd,hs,hfr,hle,hF,hx=>hQ _ _ ⟨ι0,E,h,hle,hx,R0.shrink hF hlib,HE,hd,hs,hfr⟩
 |(i,cs)::rest,E,L,A,F0,ι0,h,a,w,R0,HE,HL,hd,hs,hfr,hle,hF,hx=>by
  have ih:=AE HT (F:=F) (W:=W) (nb:=nb) (ops:=ops) (K:=K) (r:=r) (t0:=t0) hlib hQ rest;generalize hm:dS P C W nb ops ((i,cs)::rest) E L A K=m at hx;unfold dS at hm;split at hm
  .subst hm;simp[AS] at hx
  .rename_i o ho;have run:∀E',iN P ι0 E' a.tmps->Region.wanted o (yielded ops a.tmps)=true ->
     kD P C W (nb.map (·+i)) (cs.map A) (wV P ops nb cs) ops E' L o (λE' L'=>dS P C W nb ops rest E' L' (λj=>cond (Nat.beq j i) (je E o) (A j)) K) h=some r ->
     wpOps P ops Q ((i::rest.map (·.1))) a w:=by
    intro E' HE' hwant hx;simp only[wpOps,ho];rw[if_pos hwant];refine .inl (Ct (ι:=ι0) (t0:=t0) HT R0 HE' HL hd hs hfr hx ?_);rintro a2 w2 ⟨F2,ι2,E2,L2,h2,hF2,hle2,hk,R2,HE2,HL2,hd2,hs2,hfr2⟩;exact ih E2 L2 _ F2 ι2 h2 a2 w2 R2 HE2 HL2 hd2 hs2 hfr2 (hle.trans hle2) (hF.trans hF2) hk
   have skip:∀E',iN P ι0 E' a.tmps->Region.wanted o (yielded ops a.tmps)=false->yJ W o.dst=true ->
     dS P C W nb ops rest (E'.put o.dst undef) (L.del o.dst) A K h=some r ->
     wpOps P ops Q ((i::rest.map (·.1))) a w:=by
    intro E' HE' hwant hw hx;simp only[wpOps,ho];rw[if_neg (by rw[hwant];simp)];refine ih _ _ A F0 ι0 h _ w R0 (HE'.put hs hw (.tuple _ _ rfl (by simp))) (HL.del _ _) ?_ ?_ (hfr.trans (.put hw _)) hle hF hx
    .cases o.dst<;>exact hd
    .rw[(Bh.put (W:=W) hw _).1,hs]
   split at hm
   .rename_i hg;subst hm;exact run E HE (by simp[Region.wanted,hg]) hx
   .rename_i j want hg;split at hm
    .rename_i t ht;split at hm
     .rename_i b hb;obtain⟨v',hv1,hv2⟩:=HE t _ hb;obtain rfl:=hv2.bool;have hy:yielded ops a.tmps j=some b:=(by simp[yielded,ht,hv1]);have hwant:Region.wanted o (yielded ops a.tmps)=(b==want):=(by simp[Region.wanted,hg,hy]);cases want with
      |true=>
       simp only at hm;unfold lG at hm;split at hm
       .rename_i e;subst e;subst hm;exact run _ (HE.HA hb) (by rw[hwant];rfl) hx
       .rename_i e;have:b=false:=(by cases b<;>simp_all);subst this;split at hm
        .rename_i hw;subst hm;exact skip _ (HE.HA hb) (by rw[hwant];rfl) hw hx
        .subst hm;simp[AS] at hx
      |false=>
       simp only at hm;unfold lG at hm;split at hm
       .rename_i e;subst e;split at hm
        .rename_i hw;subst hm;exact skip _ (HE.HA hb) (by rw[hwant];rfl) hw hx
        .subst hm;simp[AS] at hx
       .rename_i e;have:b=false:=(by cases b<;>simp_all);subst this;subst hm;exact run _ (HE.HA hb) (by rw[hwant];rfl) hx
     .rename_i vs hb;obtain⟨v',hv1,hv2⟩:=HE t _ hb;have hy:yielded ops a.tmps j=none:=by
       cases hv2 with
       |flat _ hf=>simp[cX] at hf
       |tuple=>simp[yielded,ht,hv1]
      split at hm
      .rename_i hw;subst hm;exact skip E HE (by simp[Region.wanted,hg,hy]) hw hx
      .subst hm;simp[AS] at hx
     .subst hm;simp[AS] at hx
    .subst hm;simp[AS] at hx
def af0 {R:Type}(P:Program)(F:Fz)(ι:fM)(W:Wr)(t0:Array Value)(fj:Value->M R)(r:R×af)(e:Exit)(a:Go.Act)(w:World):Prop:=
 ∃F' ι' v v' h,e=.panic (one v')/\Mh F F'/\ι.le ι'/\fj v h=some r/\aS P ι' v v'/\Rel P F' ι' h w/\a.defers=[]/\a.tmps.size=W.1/\Bh W t0 a.tmps
theorem Mx {a:Go.Act}{o:Oper}{x:Operand}(hp:zr o=some x){t:TypeId}{v:Value}(hx:a.eval x=.iface t v)(w:World):(execOp a.eval o).run P w=.halt (.panic (.iface t v)) w:=by
 unfold zr at hp;split at hp
 .rename_i y ho;cases hp;unfold execOp;rw[ho];dsimp only;rw[hx];rfl
 .rename_i c ho;split at hp
  .rename_i y hc ha;cases hp;have hm:c.args.map a.eval=#[.iface t v]:=by apply adI;simp[ha,hx]
   unfold execOp;rw[ho];dsimp only;simp only[resolve,hc,pure_bind,invoke,builtin,hm];rfl
  .cases hp
 .cases hp
theorem HG {R:Type}{C:fB}(HT:sw P C){F:Fz}{W:Wr}{nm:Option Nat}{ops:Array Oper}{E:Env}{L:cP}{o:Oper}{fj:Value->M R}{K:Env->cP->M R}{r:R×af}
  (R0:Rel P F ι h w) {a:Go.Act} {t0:Array Value} (HE:iN P ι E a.tmps) (HL:AB P F ι L a.tmps) (hd:a.defers=[]) (hs:a.tmps.size=W.1) (hfr:Bh W t0 a.tmps)
  (hx:tF P C W nm ops E L o fj K h=some r) {next:Go.Act->World->Prop} {Q:Exit->Go.Act->World->Prop} (hnext:∀a w,aa8 P F ι W t0 K r a w->next a w)
  (hpan:∀e a w,af0 P F ι W t0 fj r e a w->Q e a w):o.wp P a w next Q:=by
 generalize hm:tF P C W nm ops E L o fj K=m at hx;unfold tF at hm;split at hm
 .rename_i x hp;split at hm
  .rename_i t v hv;subst hm;have hr:=aQ HE hv;generalize hq:a.eval x=q at hr;have:∃v',q=.iface t v':=by cases hr<;>exact⟨_,rfl⟩
   obtain⟨v',rfl⟩:=this;unfold Oper.wp;rw[Mx hp hq];exact hpan _ _ _ ⟨F,ι,_,_,h,rfl,.refl _,.refl _,hx,hr,R0,hd,hs,hfr⟩
  .subst hm;simp[AS] at hx
 .split at hm
  .rename_i ca hca;split at hm
   .rename_i hw;subst hm;have hdef:∀v,(a.put o.dst v).defers=[]:=λv=>(by cases o.dst<;>exact hd);have hsz:∀v,(a.put o.dst v).tmps.size=W.1:=λv=>(by rw[(Bh.put (W:=W) hw v).1,hs]);unfold rE at hca;split at hca
    rotate_left
    .cases hca
    split at hca
    .rename_i c ho;split at hca
     .rename_i f vs hcal;obtain⟨hen,hret,hpn⟩:=HT.sp f vs ca hca;obtain⟨vs',r1,r2⟩:=AD HE hcal o.type w;have hrun:(execOp a.eval o).run P w=.ok (.enter f vs') w:=by
       unfold execOp;rw[ho];dsimp only;rw[r2,hen]
      unfold Oper.wp;rw[hrun];simp only[sh] at hx;split at hx
      .rename_i x h2 hm;cases x with
       |inl y=>
        refine (hret F h y h2 hm ι w vs' R0 r1).mono ?_;rintro e w'' ⟨v',ι',rfl,hv,R1,hle⟩;exact hnext _ _ ⟨F,ι',_,_,h2,.refl _,hle,hx,R1,(HE.mono hle).put hs hw hv,(HL.mono (.refl _) hle).del _ _,hdef _,hsz _,hfr.trans (.put hw v')⟩
       |inr v=>
        refine (hpn F h v h2 hm ι w vs' R0 r1).mono ?_;rintro e w'' ⟨v',ι',rfl,hv,R1,hle⟩;exact hpan _ _ _ ⟨F,ι',v,v',h2,rfl,.refl _,hle,hx,hv,R1,hd,hs,hfr⟩
      .cases hx
     .cases hca
    .cases hca
   .subst hm;simp[AS] at hx
  .subst hm;exact Ct HT R0 HE HL hd hs hfr hx hnext
def F3 {R:Type}(P:Program)(F:Fz)(ι:fM)(W:Wr)(t0:Array Value)(fj:Value->M R)(r:R×af)(e:Exit)(a:Go.Act)(w:World):Prop:=
 ∃ι' v v' h,e=.panic (one v')/\ι.le ι'/\fj v h=some r/\aS P ι' v v'/\Rel P F ι' h w/\a.defers=[]/\a.tmps.size=W.1/\Bh W t0 a.tmps
theorem F3.trans {R:Type}{F:Fz}{W:Wr}{t0 t1:Array Value}{fj:Value->M R}{r:R×af}(hle:ι.le ι')(hf:Bh W t0 t1){e:Exit}{a:Go.Act}{w:World}
  (hp:F3 P F ι' W t1 fj r e a w):F3 P F ι W t0 fj r e a w:=by
 obtain⟨ι2,v,v',h,q1,q2,q3,q4,q5,q6,q7,q8⟩:=hp;exact⟨ι2,v,v',h,q1,hle.trans q2,q3,q4,q5,q6,q7,hf.trans q8⟩
theorem uS {R:Type}{C:fB}(HT:sw P C){F:Fz}{W:Wr}{nb:Option Nat}{ops:Array Oper}{fj:Value->M R}{K:Env->M R}{r:R×af}{t0:Array Value}(hlib:OP F) :
  ∀(l:List Nat) (E:Env) (L:cP) (F0:Fz) (ι0:fM) (h:af) (a:Go.Act) (w:World),
   Rel P F0 ι0 h w->iN P ι0 E a.tmps->AB P F0 ι0 L a.tmps->a.defers=[]->a.tmps.size=W.1->Bh W t0 a.tmps->ι.le ι0->Mh F F0->gH P C W nb ops fj l E L K h=some r ->
   wpOps P ops (λe a w=>(e=.normal/\SV P F ι W t0 K r a w)\/F3 P F ι W t0 fj r e a w) l a w
 |[],E,L,F0,ι0,h,a,w,R0,HE,HL,hd,hs,hfr,hle,hF,hx=>.inl ⟨rfl,ι0,E,h,hle,hx,R0.shrink hF hlib,HE,hd,hs,hfr⟩
 |i::rest,E,L,F0,ι0,h,a,w,R0,HE,HL,hd,hs,hfr,hle,hF,hx=>by
  have ih:=uS HT (F:=F) (W:=W) (nb:=nb) (ops:=ops) (fj:=fj) (K:=K) (r:=r) (t0:=t0) hlib rest;generalize hm:gH P C W nb ops fj (i::rest) E L K=m at hx;unfold gH at hm;split at hm
  .subst hm;simp[AS] at hx
  .rename_i o ho;have run:∀E',iN P ι0 E' a.tmps->Region.wanted o (yielded ops a.tmps)=true ->
     tF P C W (nb.map (·+i)) ops E' L o fj (λE' L'=>gH P C W nb ops fj rest E' L' K) h=some r ->
     wpOps P ops (λe a w=>(e=.normal/\SV P F ι W t0 K r a w)\/F3 P F ι W t0 fj r e a w) (i::rest) a w:=by
    intro E' HE' hwant hx;simp only[wpOps,ho];rw[if_pos hwant];refine .inl (HG (ι:=ι0) (t0:=t0) HT R0 HE' HL hd hs hfr hx ?_ ?_)
    .rintro a2 w2 ⟨F2,ι2,E2,L2,h2,hF2,hle2,hk,R2,HE2,HL2,hd2,hs2,hfr2⟩;exact ih E2 L2 F2 ι2 h2 a2 w2 R2 HE2 HL2 hd2 hs2 hfr2 (hle.trans hle2) (hF.trans hF2) hk
    .rintro e a2 w2 ⟨F2,ι2,v,v',h2,rfl,hF2,hle2,hk,hv,R2,hd2,hs2,hfr2⟩;exact .inr ⟨ι2,v,v',h2,rfl,hle.trans hle2,hk,hv,R2.shrink (hF.trans hF2) hlib,hd2,hs2,hfr2⟩
   have skip:∀E',iN P ι0 E' a.tmps->Region.wanted o (yielded ops a.tmps)=false->yJ W o.dst=true ->
     gH P C W nb ops fj rest (E'.put o.dst undef) (L.del o.dst) K h=some r ->
     wpOps P ops (λe a w=>(e=.normal/\SV P F ι W t0 K r a w)\/F3 P F ι W t0 fj r e a w) (i::rest) a w:=by
    intro E' HE' hwant hw hx;simp only[wpOps,ho];rw[if_neg (by rw[hwant];simp)];refine ih _ _ F0 ι0 h _ w R0 (HE'.put hs hw (.tuple _ _ rfl (by simp))) (HL.del _ _) ?_ ?_ (hfr.trans (.put hw _)) hle hF hx
    .cases o.dst<;>exact hd
    .rw[(Bh.put (W:=W) hw _).1,hs]
   split at hm
   .rename_i hg;subst hm;exact run E HE (by simp[Region.wanted,hg]) hx
   .rename_i j want hg;split at hm
    .rename_i t ht;split at hm
     .rename_i b hb;obtain⟨v',hv1,hv2⟩:=HE t _ hb;obtain rfl:=hv2.bool;have hy:yielded ops a.tmps j=some b:=(by simp[yielded,ht,hv1]);have hwant:Region.wanted o (yielded ops a.tmps)=(b==want):=(by simp[Region.wanted,hg,hy]);cases want with
      |true=>
       simp only at hm;unfold lG at hm;split at hm
       .rename_i e;subst e;subst hm;exact run _ (HE.HA hb) (by rw[hwant];rfl) hx
       .rename_i e;have:b=false:=(by cases b<;>simp_all);subst this;split at hm
        .rename_i hw;subst hm;exact skip _ (HE.HA hb) (by rw[hwant];rfl) hw hx
        .subst hm;simp[AS] at hx
      |false=>
       simp only at hm;unfold lG at hm;split at hm
       .rename_i e;subst e;split at hm
        .rename_i hw;subst hm;exact skip _ (HE.HA hb) (by rw[hwant];rfl) hw hx
        .subst hm;simp[AS] at hx
       .rename_i e;have:b=false:=(by cases b<;>simp_all);subst this;subst hm;exact run _ (HE.HA hb) (by rw[hwant];rfl) hx
     .rename_i vs hb;obtain⟨v',hv1,hv2⟩:=HE t _ hb;have hy:yielded ops a.tmps j=none:=by
       cases hv2 with
       |flat _ hf=>simp[cX] at hf
       |tuple=>simp[yielded,ht,hv1]
      split at hm
      .rename_i hw;subst hm;exact skip E HE (by simp[Region.wanted,hg,hy]) hw hx
      .subst hm;simp[AS] at hx
     .subst hm;simp[AS] at hx
    .subst hm;simp[AS] at hx
end Go.Ago
