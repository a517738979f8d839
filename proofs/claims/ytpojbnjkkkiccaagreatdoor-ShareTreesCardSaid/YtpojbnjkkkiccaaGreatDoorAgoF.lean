
import Derived.Test.YtpojbnjkkkiccaaGreatDoorAgoE
set_option linter.all false
namespace Go.Ago
open Go
variable {P:Program}{W0:Fz}{ι ι':gO}{h h' h1:ai}{w w':World}
def Fw (W:Wr)(t t':ν):Prop:=t'.size=t.size/\∀l,W.2=some l->∀i,l.any (Nat.beq i)=false->t'[i]?=t[i]?
def Fw.refl W t:Fw W t t:=⟨rfl,λ_ _ _ _=>rfl⟩
theorem Fw.trans {W}{a b c}(x:Fw W a b)(y:Fw W b c):Fw W a c:=⟨y.1.trans x.1,λl hl i hi=>(y.2 l hl i hi).trans (x.2 l hl i hi)⟩
def Rq {W}{i}(hw:GI W (some i)=true):i<W.1:=by
 simp only[GI,abw] at hw
 simp_all
theorem adi {W}{i}(hw:GI W (some i)=true){l}(hl:W.2=some l):l.any (Nat.beq i)=true:=by
 simp only[GI,abw,hl] at hw;exact hw.2
theorem Fw.put {W}{a:Go.Act}{d}(hw:GI W d=true) v:Fw W a.tmps (a.put d v).tmps:=by
 cases d with
 |none=>exact .refl _ _
 |some i=>
  refine⟨by simp[Act.put],λl hl j hj=>?_⟩
  grind [adi,Act.put]
theorem lv.set {E}{t}(hE:lv P ι E t){i}(hi:i<t.size){v v'}(hv:aN P ι v v'):lv P ι (E.set i v) (t.setIfInBounds i v'):=by
 intro j u hj;simp[Env.set,bf] at hj;split at hj
 .grind
 .obtain⟨u',a,b⟩:=hE j u hj
  grind
theorem lv.put {W}{E}{a:Go.Act}(hE:lv P ι E a.tmps)(hs:a.tmps.size=W.1){d}(hw:GI W d=true){v v'}(hv:aN P ι v v') :
  lv P ι (E.put d v) (a.put d v').tmps:=by
 cases d with
 |none=>exact hE
 |some i=>exact hE.set (by rw[hs];exact Rq hw) hv
def lv.YY {E}{t}(hE:lv P ι E t){i}{b}(hi:E i=some (.bool b)):lv P ι (E.set i (.bool b)) t:=by
 intro j u hj;simp[Env.set,bf] at hj;split at hj
 .rename_i e;subst e;cases hj;exact hE _ _ hi
 .exact hE j u hj
def lv.vz {E}{a:Go.Act}(hE:lv P ι E a.tmps){c}{b}(hc:E.ev c=some (.bool b)):lv P ι (E.vz c b) a.tmps:=by
 cases c with
 |tmp t=>exact hE.YY hc
 |_=>exact hE
def Act.Pn {R}{K:ξ->M R}:∀{A:Act} {h} {r},A.run K h=some r->∃v h1,A.exec h=some (v,h1)/\K v h1=some r
 |.val v,h,r,hx=>⟨v,h,rfl,hx⟩
 |.ask α m k,h,r,hx=>by
  simp[Act.run,sh] at hx;split at hx
  .rename_i x h1 hm;obtain⟨v,h2,e1,e2⟩:=Act.Pn hx;exact⟨v,h2,by simp[Act.exec,hm,e1],e2⟩
  .cases hx
 |.none,h,r,hx=>by simp[Act.run,AS] at hx
theorem CH:∀{as},(∀a∈as,∀b,a=some b->gN h h1 b)->sameAt h h1 as=true
 |[],_=>rfl
 |none::r,hs=>by simp[sameAt];exact CH λa ha=>hs a (BY _ ha)
 |some c::r,hs=>by
  have h0:=hs (some c) (IS ..) c rfl;simp[sameAt];split
  .exact CH λa ha=>hs a (BY _ ha)
  grind
theorem Po {α}{as}{m:M α}{r}(hx:tX as m h=some r):m h=some r/\sameAt h r.2 as=true:=by
 grind [tX]
def Jz {α}{as}{m:M α}{r}(hx:wrapM as m h=some r):m h=some r/\sameAt h r.2 as=true:=by
 unfold wrapM at hx;split at hx
 .exact⟨hx,rfl⟩
 .exact Po hx
def Rr {as}{A}{r}(hx:(um as A).exec h=some r):A.exec h=some r:=by
 cases A with
 |val v=>exact hx
 |none=>exact hx
 |ask α m k=>
  cases as with
  |nil=>exact hx
  |cons a as=>
   simp[um,Act.exec] at hx⊢;split at hx
   .rename_i x h2 hm;rw[(Po hm).1];exact hx
   .cases hx
theorem L9 {α}{ks}{a}{m:M α}{r}(hx:Jj ks a m h=some r):m h=some r/\okK h a ks=true:=by
 grind [Jj]
theorem JA {ks}{a}{A}{R}{K:ξ->M R}{r}(hx:(ON ks a A).run K h=some r):A.run K h=some r:=by
 cases A with
 |val v=>exact hx
 |none=>exact hx
 |ask α m k=>
  simp[ON,Act.run,sh] at hx⊢;split at hx
  .rename_i x h2 hm;rw[(L9 hm).1];exact hx
  .cases hx
def Enters (P:Program)(f:FuncId):Prop:=∀args w,(callFunc f args).run P w=.ok (.enter f args) w
structure iw (P:Program) (f:FuncId) (vs:δ) (ca:zM):Prop where
 enter:Enters P f\/∀(F:Fz) h x h1,ca.m h=some (x,h1)->∀ι w (vs':ν),Rel P F ι h w->aW P ι vs vs'.toList ->
  ∃v' w' ι',(callFunc f vs').run P w=.ok (.value v') w'/\aN P ι' (ca.pk x) v'/\Rel P F ι' h1 w'/\ι.le ι'
 calls:Enters P f->∀(F:Fz) h x h1,ca.m h=some (x,h1)->∀ι w (vs':ν),Rel P F ι h w->aW P ι vs vs'.toList ->
  Calls P f vs' w λe w'=>∃v' ι',e=.returned v'/\aN P ι' (ca.pk x) v'/\Rel P F ι' h1 w'/\ι.le ι'
theorem iw.of {P}{f}{vs}{ca}(he:Enters P f)(hc:∀(F:Fz) h x h1,ca.m h=some (x,h1)->∀ι w (vs':ν),Rel P F ι h w->aW P ι vs vs'.toList ->
  Calls P f vs' w λe w'=>∃v' ι',e=.returned v'/\aN P ι' (ca.pk x) v'/\Rel P F ι' h1 w'/\ι.le ι'):iw P f vs ca:=⟨.inl he,λ_=>hc⟩
def T5 (P:Program)(x:ξ)(vs:δ)(ca:zM):Prop:=
 ∀h y h1,ca.m h=some (y,h1)->∃g caps ca' y',x=.func (.func g) #[] caps/\iw P g (vs++caps.toList) ca'/\ca'.m h=some (y',h1)/\ca'.pk y'=ca.pk y
structure BC (P:Program) (C:Ea):Prop where
 st:∀f vs ca,C.st f vs=some ca->iw P f vs ca
 dy:∀t x vs ca,C.dy t x vs=some ca->T5 P x vs ca
 mo:∀f vs ca,C.mo f=true->C.st f vs=some ca->GA ca.m
def H9 (P:Program)(F:Fz)(ι:gO)(L:fK)(t:ν):Prop:=
 ∀(i:Nat) n cs,L i=some (n,cs)->∃b cs' e,t[i]?=some (.slice (some ⟨b,0,none⟩) n n)/\(F b=some (.cells cs' e (0,0))/\F.rd b)/\aW P ι cs cs'.toList/\(∀v∈cs,fk v=true)
def H9.emp {F}{t}:H9 P F ι fK.emp t:=λi n cs hl=>by simp[fK.emp] at hl
def H9.mono {F F'}{L}{t}(hl:H9 P F ι L t)(hF:Jn F F')(hle:ι.le ι'):H9 P F' ι' L t:=λi n cs hi=>
 let ⟨b,cs',e,q1,q2,q3,q4⟩:=hl i n cs hi
 ⟨b,cs',e,q1,⟨hF.1 _ _ q2.1,(hF.2.1.2 _ _ q2.1).2 q2.2⟩,q3.mono hle,q4⟩
theorem H9.del {F}{L}{a:Go.Act}(hl:H9 P F ι L a.tmps) d v:H9 P F ι (L.del d) (a.put d v).tmps:=by
 intro i n cs hi;cases d with
 |none=>exact hl i n cs hi
 |some j=>
  simp only[fK.del,bf] at hi;split at hi
  .cases hi
  .obtain⟨b,cs',e,q1,q2⟩:=hl i n cs hi;exact⟨b,cs',e,by simp[Act.put];grind,q2⟩
def amm {R}(P:Program)(F:Fz)(ι:gO)(W:Wr)(t0:ν)(K:Env->fK->M R)(r:R×ai)(a:Go.Act)(w:World):Prop:=
 ∃F' ι' E L h,Jn F F'/\ι.le ι'/\K E L h=some r/\Rel P F' ι' h w/\lv P ι' E a.tmps/\H9 P F' ι' L a.tmps/\a.defers=F'.QZ/\a.tmps.size=W.1/\Fw W t0 a.tmps
def YZ {R}(P:Program)(F:Fz)(ι:gO)(W:Wr)(t0:ν)(K:Env->M R)(r:R×ai)(a:Go.Act)(w:World):Prop:=
 ∃ι' E h,ι.le ι'/\K E h=some r/\Rel P F ι' h w/\lv P ι' E a.tmps/\a.defers=F.QZ/\a.tmps.size=W.1/\Fw W t0 a.tmps
def Nl {E}{a:Go.Act}(HE:lv P ι E a.tmps){c}{f}{vs}(hc:callee E c=some (f,vs)) t w :
  ∃vs':ν,aW P ι vs vs'.toList/\(do let d <-resolve a.eval c t;invoke d.target d.args).run P w=(callFunc f vs').run P w:=by
 unfold callee at hc;split at hc
 .rename_i fo vs0 hcal hvs;split at hc
  .rename_i g first captured hf
   cases hc;have hr:=aK HE hf;generalize hq:a.eval fo=q at hr;cases hr with
   |flat _ hf=>simp[dO] at hf
   |func _ _ fs' _ cs' e1 e2 e3 e4=>
    have r0:=Fv HE hvs;refine⟨fs'++c.args.map a.eval++cs',?_,?_⟩
    .simp only[aol];exact (aW.append ⟨by simpa using e1,λi u u' x y=>e2 i u u' (by simpa using x) (by simpa using y)⟩ r0).append ⟨by simpa using e3,λi u u' x y=>e4 i u u' (by simpa using x) (by simpa using y)⟩
    .simp[resolve,hcal,hq,Deferred.ofValue,invoke]
  .cases hc
 .cases hc
theorem Ll {E}{a:Go.Act}(HE:lv P ι E a.tmps){C}{c}{t}{g}{caps}{vs}(hd:vP C c=some t)
  (hc:wy E t c=some (.func (.func g) #[] caps,vs)) ty w :
  ∃vs':ν,aW P ι (vs++caps.toList) vs'.toList/\(do let d <-resolve a.eval c ty;invoke d.target d.args).run P w=(callFunc g vs').run P w:=by
 unfold wy at hc;split at hc
 .rename_i x vs0 hx hvs;cases hc;have hcal:c.callee=.value (.tmp t):=by
   grind [vP]
  have hr:=aK (x:=.tmp t) HE hx;generalize hq:a.eval (.tmp t)=q at hr;cases hr with
  |flat _ hf=>simp[dO] at hf
  |func _ _ fs' _ cs' e1 e2 e3 e4=>
   have r0:=Fv HE hvs;have hfs:fs'=#[]:=Array.eq_empty_of_size_eq_zero (by simpa using e1.symm);subst hfs;refine⟨c.args.map a.eval++cs',?_,?_⟩
   .simp only[aol];exact r0.append ⟨by simpa using e3,λi u u' x y=>e4 i u u' (by simpa using x) (by simpa using y)⟩
   .simp[resolve,hcal,hq,Deferred.ofValue,invoke]
 .cases hc
theorem Nn {F}(R:Rel P F ι h w){strict}{E}{L}{a:Go.Act}(HE:lv P ι E a.tmps)(HL:H9 P F ι L a.tmps){o}{c}(ho:o.op=.call c){n}{cs}
  (hl:xb L c=some (n,cs)) {v} (hx:(sR P strict E c n cs).exec h=some (v,h1)):Re P F ι w (execOp a.eval o) v h1:=by
 unfold xb at hl;split at hl
 .rename_i s0 t0 hcal hargs;obtain⟨b,cs',e0,q1,q2,q3,q4⟩:=HL _ _ _ hl;unfold sR at hx;split at hx
  .rename_i t t' s x hts hargs';rw[hargs] at hargs';simp at hargs';split at hx
   .rename_i sa sn sc e e' hs ht ht';split at hx
    .rename_i z zz hsz hzz;split at hx
     .rename_i hb;have hb:=ah5 hb;obtain⟨i,hi,rfl⟩:=zP hsz;rw[hi] at hb;simp[Act.exec] at hx;split at hx
      .rename_i r h3 hap;cases hx;have hlen:=adh hap;have hblk:=R.lA _ _ q2.1;have S:Src P ι h w i.size n (.slice (some ⟨b,0,none⟩) n n) cs cs'.toList:=by
        refine⟨λw'=>by simp[Builtin.lenOf],λw' he=>?_,q3,q4⟩;have hl':cs'.toList.length=n*i.size:=(by rw[<-q3.1,hlen]);have:=xd (P:=P) (a':=⟨b,0,none⟩) hl' (λj v' hj=>by
         rw[add_eq rfl];simp[World.cell?,hblk];simpa using hj) he
        simpa[Builtin.firstCells] using this
       have hsv:=aK HE hs;have htv:a.eval (.tmp t0)=.slice (some ⟨b,0,none⟩) n n:=(by simp[Act.eval,amK,q1]);have hga:c.args.map a.eval=#[a.eval s0,.slice (some ⟨b,0,none⟩) n n]:=by
        apply alY;simp[hargs,htv]
       have hgt:c.argTypes=#[t,t']:=alY (by simpa using hts);have:=GO (ty:=o.type) R ht (.inl ⟨_,ht'⟩) hi hzz hb hsv S hap
       grind [execOp,resolve,invoke,builtin,this.o]
      .cases hx
     .simp[Act.exec] at hx
    .simp[Act.exec] at hx
   .simp[Act.exec] at hx
  .simp[Act.exec] at hx
 .cases hl
theorem Pp {F}(R:Rel P F ι h w){ops}{E}{a:Go.Act}(HE:lv P ι E a.tmps){o}{n}{cs}(hl:AJ P ops E o=some (n,cs)) :
  ∃e r',aW P ι cs r'/\(∀v∈cs,fk v=true)/\(execOp a.eval o).run P w=.ok (.value (.slice (some ⟨w.heap.size,0,none⟩) n n)) { w with heap:=w.heap.push (.cells r'.toArray e) } /\
   F w.heap.size=none/\Rel P (Lh F w.heap.size (.cells r'.toArray e) True) ι h { w with heap:=w.heap.push (.cells r'.toArray e) }:=by
 unfold AJ at hl;split at hl
 .rename_i t len parts d ho hd;split at hl
  .split at hl
   .rename_i vs hvs;split at hl
    .rename_i cs0 hcs;cases hl;have hp:Pj P ι vs (parts.map λ(i,x)=>(i,a.eval x)).toList:=(by simpa using vj HE hvs);obtain⟨q1,e,r',q2,q3⟩:=Jx hp hcs;refine⟨e,r',q2,q1,?_,?_,?_⟩
     .simp only[execOp,ho]
      simp_all
     .cases hq:F w.heap.size with
      |none=>rfl
      |some ob=>have:=(Array.getElem?_eq_some_iff.1 (R.lA _ ob hq)).1;omega
     .refine (R.TN _).TO (by simp) (λn l hl=>?_) λm r hm=>?_
      .have:=hold R n l hl;omega
      .obtain⟨_,es,c,q⟩:=R.mp.loc m r hm
       grind
    .cases hl
   .cases hl
  .cases hl
 .cases hl
theorem Pq {R}{C}(HT:BC P C){F}{W V:Wr}{nm}{cks}{ks}{ops}{E}{L}{o}{K:Env->fK->M R}{r}
  (hV:GI W o.dst=true->GI V o.dst=true) (R0:Rel P F ι h w) {a} {t0} (HE:lv P ι E a.tmps) (HL:H9 P F ι L a.tmps) (hd:a.defers=F.QZ) (hs:a.tmps.size=V.1) (hfr:Fw V t0 a.tmps)
  (hx:yZ P C W nm cks ks ops E L o K h=some r) {next} {Q} (hnext:∀a w,amm P F ι V t0 K r a w->next a w):o.wp P a w next Q:=by
 generalize hm:yZ P C W nm cks ks ops E L o K=m at hx;unfold yZ at hm;split at hm
 .subst hm;simp[AS] at hx
 .rename_i hw
  replace hw:=hV hw
  have hdef:∀v,(a.put o.dst v).defers=F.QZ:=λv=>by cases o.dst<;>exact hd
  have hsz:∀v,(a.put o.dst v).tmps.size=V.1:=λv=>by rw[(Fw.put hw v).1,hs]
  have fin:∀(A:Act) (E':Env),lv P ι E' a.tmps->(∀v h1,A.exec h=some (v,h1)->Re P F ι w (execOp a.eval o) v h1) ->
    (um cks A).run (λv=>K (E'.put o.dst v) (L.del o.dst)) h=some r->o.wp P a w next Q:=by
   intro A E' HE' hA hx;obtain⟨v,h1,e1,e2⟩:=Act.Pn hx;obtain⟨v',w',ι',hr,hv,R1,hle⟩:=hA v h1 (Rr e1);have hnow:amm P F ι V t0 K r (a.put o.dst v') w':=
    ⟨F,ι',_,_,h1,.refl _,hle,e2,R1,(HE'.mono hle).put hs hw hv,(HL.mono (.refl _) hle).del _ _,hdef _,hsz _,hfr.trans (.put hw v')⟩
   unfold Oper.wp;rcases hr with hr|⟨hr,rfl⟩
   .rw[hr];exact hnext _ _ hnow
   .rw[hr];exact hnext _ _ hnow
  split at hm
  ·-- pick
   rename_i c x y ho;split at hm
   .rename_i t hc;have hb:=(aK HE hc).bool;have Kw:∀v z,lv P ι (E.vz c t) a.tmps->(E.vz c t).ev z=some v->K ((E.vz c t).put o.dst v) (L.del o.dst) h=some r->(a.eval (if t=true then x else y)=a.eval z)->o.wp P a w next Q:=by
     intro v z HE' hz hk hez;have hv:=aK HE' hz;unfold Oper.wp;have hrun:(execOp a.eval o).run P w=.ok (.value (a.eval z)) w:=by
      unfold execOp;rw[ho];dsimp;rw[hb];cases t<;>simp_all[asBool]
     rw[hrun];exact hnext _ _ ⟨F,ι,_,_,h,.refl _,.refl _,hk,R0,HE'.put hs hw hv,HL.del _ _,hdef _,hsz _,hfr.trans (.put hw _)⟩
    unfold yC at hm;split at hm
    .rename_i ht;subst ht;split at hm
     .rename_i v hv;subst hm;exact Kw v x (HE.vz hc) hv hx rfl
     .subst hm;simp[AS] at hx
    .rename_i ht;have ht:t=false:=(by cases t<;>simp_all);subst ht;split at hm
     .rename_i v hv;subst hm;exact Kw v y (HE.vz hc) hv hx rfl
     .subst hm;simp[AS] at hx
   .subst hm;simp[AS] at hx
  ·-- calls
   rename_i c ho;split at hm
   .split at hm
    .rename_i n cs hla;subst hm
     grind [Rc,Nn,GJ]
    .split at hm
     .subst hm;simp[AS] at hx
     .subst hm;grind [y8,GJ]
   .have call:∀(ca ca':zM) (f:FuncId) (vs:δ) (vs':ν) (x:ca.α) (x':ca'.α) (h2:ai),iw P f vs ca'->aW P ι vs vs'.toList ->
      (do let d <-resolve a.eval c o.type;invoke d.target d.args).run P w=(callFunc f vs').run P w->ca'.m h=some (x',h2)->ca'.pk x'=ca.pk x ->
      K (E.put o.dst (ca.pk x)) (L.del o.dst) h2=some r->o.wp P a w next Q:=by
     intro ca ca' f vs vs' x x' h2 hok r1 r2 hm hpk hx;obtain⟨hen,hcalls⟩:=hok;rcases hen with hen|hval
     rotate_left
     .obtain⟨v',w',ι',hrun,hv,R1,hle⟩:=hval F h x' h2 hm ι w vs' R0 r1;unfold Oper.wp;have hrun:(execOp a.eval o).run P w=.ok (.value v') w':=by
       grind [execOp]
      rw[hrun];rw[hpk] at hv;exact hnext _ _ ⟨F,ι',_,_,h2,.refl _,hle,hx,R1,(HE.mono hle).put hs hw hv,(HL.mono (.refl _) hle).del _ _,hdef _,hsz _,hfr.trans (.put hw v')⟩
     have hcalls:=hcalls hen;unfold Oper.wp;have hrun:(execOp a.eval o).run P w=.ok (.enter f vs') w:=by
      unfold execOp;rw[ho];dsimp;rw[r2,hen]
     rw[hrun];refine (hcalls F h x' h2 hm ι w vs' R0 r1).mono ?_;rintro e w'' ⟨v',ι',rfl,hv,R1,hle⟩;rw[hpk] at hv;exact hnext _ _ ⟨F,ι',_,_,h2,.refl _,hle,hx,R1,(HE.mono hle).put hs hw hv,(HL.mono (.refl _) hle).del _ _,hdef _,hsz _,hfr.trans (.put hw v')⟩
    split at hm
    .rename_i t hds;split at hm
     .rename_i xv vs hcd;split at hm
      .rename_i ca hca;subst hm;simp[sh] at hx;split at hx
       .rename_i x h2 hm;obtain⟨g,caps,ca',y',rfl,q2,q3,q4⟩:=HT.dy _ _ _ _ hca h x h2 (Jz hm).1;obtain⟨vs',r1,r2⟩:=Ll HE hds hcd o.type w
        grind
       .cases hx
      .subst hm;simp[AS] at hx
     .subst hm;simp[AS] at hx
    .split at hm
     .rename_i f vs hcal;split at hm
      .rename_i ca hca;subst hm;simp[sh] at hx;split at hx
       .rename_i x h2 hm;obtain⟨vs',r1,r2⟩:=Nl HE hcal o.type w;exact call ca ca _ _ vs' x x h2 (HT.st f vs ca hca) r1 r2 (Jz hm).1 rfl hx
       .cases hx
      .subst hm;simp[AS] at hx
     .subst hm;simp[AS] at hx
  ·-- stores
   split at hm
   .subst hm;grind [y8]
   .split at hm
    .subst hm;grind [y8,JA]
    .subst hm;simp[AS] at hx
  ·-- slices that are written out
   rename_i t len parts ho;split at hm
   .rename_i x hlo;obtain⟨n,cs⟩:=x;subst hm;obtain⟨e,r',q1,q2,q3,q4,q5⟩:=Pp R0 HE hlo;have hdst:∃d,o.dst=some d:=by
     grind [AJ]
    obtain⟨d,hd'⟩:=hdst;unfold Oper.wp;rw[q3];refine hnext _ _ ⟨_,ι,_,_,h,Jn.add q4,.refl _,hx,q5,?_,?_,hdef _,hsz _,hfr.trans (.put hw _)⟩
    .rw[hd'];intro j u hj;simp only[Env.del,bf] at hj;split at hj
     .cases hj
     .rename_i hne;obtain⟨u',x1,x2⟩:=HE j u hj;exact⟨u',by simp[Act.put];grind,x2⟩
    .rw[hd'];intro j m cs2 hj;simp[fK.put,bf] at hj;split at hj
     .rename_i hne;subst hne;cases hj;have hlt:j<a.tmps.size:=(by rw[hs];rw[hd'] at hw;exact Rq hw);refine⟨w.heap.size,r'.toArray,e,by simp[Act.put,hlt],⟨by simp[Lh],by simp[Lh]⟩,by simpa using q1,q2⟩
     .rename_i hne;obtain⟨b,cs',e',x1,x2,x3,x4⟩:=HL j m cs2 hj;exact⟨b,cs',e',by simp[Act.put];grind,⟨(Jn.add q4).1 _ _ x2.1,((Jn.add q4).2.1.2 _ _ x2.1).2 x2.2⟩,x3,x4⟩
   .subst hm;grind [y8]
  .subst hm;grind [y8]
def Y0 {R}(P:Program)(C:Ea)(W V:Wr)(nb:μ)(ops:Array Oper)(K:Env->M R)(r:R×ai)(t0:ν)(ι:gO)(F:Fz)(m:List (Nat×η))(N:Go.Act->World->Prop):Prop:=
 ∀E L A F0 ι0 h a w,Rel P F0 ι0 h w->lv P ι0 E a.tmps->H9 P F0 ι0 L a.tmps->a.defers=F0.QZ->a.tmps.size=V.1->Fw V t0 a.tmps->ι.le ι0->Jn F F0->jn P C W nb ops m E L A K h=some r->N a w
theorem GR {R}{C}(HT:BC P C){F}{W V}{nb}{ops}{K:Env->M R}{r}{t0}{Q}{m m'}(hend:Y0 P C W V nb ops K r t0 ι F m (wpOps P ops Q m')) :
  ∀l,(∀i o,i∈l.map (·.1)->ops[i]?=some o->GI W o.dst=true->GI V o.dst=true)->Y0 P C W V nb ops K r t0 ι F (l++m) (wpOps P ops Q (l.map (·.1)++m'))
 |[],_=>hend
 |(i,cs)::rest,hV=>λE L A F0 ι0 h a w R0 HE HL hd hs hfr hle hF hx=>by
  have ih:=GR HT hend rest λj o hj=>hV j o (BY _ hj);have hV:=λo=>hV i o (IS ..);generalize hm:jn P C W nb ops ((i,cs)::rest++m) E L A K=m0 at hx;rw[acV] at hm;unfold jn at hm;split at hm
  .subst hm;simp[AS] at hx
  .rename_i o ho;have run:∀E',lv P ι0 E' a.tmps->Region.wanted o (yielded ops a.tmps)=true ->
     yZ P C W (nb.map (·+i)) (cs.map A) (H8 P ops nb cs) ops E' L o (λE' L'=>jn P C W nb ops (rest++m) E' L' (λj=>cond (Nat.beq j i) (mA E o) (A j)) K) h=some r ->
     wpOps P ops Q ((i::(rest.map (·.1)++m'))) a w:=by
    intro E' HE' hwant hx;simp[wpOps,ho];rw[By hwant];refine .inl (Pq HT (hV o ho) R0 HE' HL hd hs hfr hx ?_);rintro a2 w2 ⟨F2,ι2,E2,L2,h2,hF2,hle2,hk,R2,HE2,HL2,hd2,hs2,hfr2⟩;exact ih E2 L2 _ F2 ι2 h2 a2 w2 R2 HE2 HL2 hd2 hs2 hfr2 (hle.trans hle2) (hF.trans hF2) hk
   have skip:∀E',lv P ι0 E' a.tmps->Region.wanted o (yielded ops a.tmps)=false->GI W o.dst=true ->
     jn P C W nb ops (rest++m) (E'.put o.dst undef) (L.del o.dst) A K h=some r ->
     wpOps P ops Q ((i::(rest.map (·.1)++m'))) a w:=by
    intro E' HE' hwant hw hx
    replace hw:=hV o ho hw
    simp[wpOps,ho];rw[AT (by rw[hwant];simp)];refine ih _ _ A F0 ι0 h _ w R0 (HE'.put hs hw (.tuple _ _ rfl (by simp))) (HL.del _ _) ?_ ?_ (hfr.trans (.put hw _)) hle hF hx
    .cases o.dst<;>exact hd
    .rw[(Fw.put hw _).1,hs]
   split at hm
   .rename_i hg;subst hm;exact run E HE (by simp[Region.wanted,hg]) hx
   .rename_i j want hg;split at hm
    .rename_i t ht;split at hm
     .rename_i b hb;obtain⟨v',hv1,hv2⟩:=HE t _ hb;obtain rfl:=hv2.bool;have hy:yielded ops a.tmps j=some b:=(by simp[yielded,ht,hv1]);have hwant:Region.wanted o (yielded ops a.tmps)=(b==want):=(by simp[Region.wanted,hg,hy]);cases want with
      |true=>
       simp at hm;unfold yC at hm;split at hm
       .rename_i e;subst e;subst hm;exact run _ (HE.YY hb) (by rw[hwant];rfl) hx
       .rename_i e;have:b=false:=(by cases b<;>simp_all);subst this;split at hm
        .rename_i hw;subst hm;exact skip _ (HE.YY hb) (by rw[hwant];rfl) hw hx
        .subst hm;simp[AS] at hx
      |false=>
       simp at hm;unfold yC at hm;split at hm
       .rename_i e;subst e;split at hm
        .rename_i hw;subst hm;exact skip _ (HE.YY hb) (by rw[hwant];rfl) hw hx
        .subst hm;simp[AS] at hx
       .rename_i e;have:b=false:=(by cases b<;>simp_all);subst this;subst hm;exact run _ (HE.YY hb) (by rw[hwant];rfl) hx
     .rename_i vs hb;obtain⟨v',hv1,hv2⟩:=HE t _ hb;have hy:yielded ops a.tmps j=none:=by
       cases hv2 with
       |flat _ hf=>simp[dO] at hf
       |tuple=>simp[yielded,ht,hv1]
      split at hm
      .rename_i hw;subst hm;exact skip E HE (by simp[Region.wanted,hg,hy]) hw hx
      .subst hm;simp[AS] at hx
     .subst hm;simp[AS] at hx
    .subst hm;simp[AS] at hx
theorem Fx {R}{C}(HT:BC P C){F}{W}{nb}{ops}{K:Env->M R}{r}{t0}(hlib:Fs F){Q}(hQ:∀a w,YZ P F ι W t0 K r a w->Q .normal a w) l:Y0 P C W W nb ops K r t0 ι F l (wpOps P ops Q (l.map (·.1))):=by
 have:=GR HT (nb:=nb) (ops:=ops) (m:=[]) (m':=[]) (F:=F) (λE L A F0 ι0 h a w R0 HE HL hd hs hfr hle hF hx=>hQ _ _ ⟨ι0,E,h,hle,hx,R0.shrink hF hlib,HE,hd.trans hF.2.2.2,hs,hfr⟩) l λ_ _ _ _ x=>x;rw[afx,afx] at this;exact this
end Go.Ago
