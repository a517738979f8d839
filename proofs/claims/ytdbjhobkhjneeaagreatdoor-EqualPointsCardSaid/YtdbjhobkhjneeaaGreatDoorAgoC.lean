
import Derived.Test.YtdbjhobkhjneeaaGreatDoorAgoB
import Derived.Lib.Builder
import Derived.Lib.UnsafeStr
import Derived.Laws.StructEq
set_option linter.all false
namespace Go.Ago
open Go
variable {P:Program}{W0:Fz}{ι ι':gX}{h h' h1:aj}{w w':World}
theorem aM.int {k}{n}{v'}(hr:aM P ι (.int k n) v'):v'=.int k n:=by cases hr;rfl
def aM.bool {b}{v'}(hr:aM P ι (.bool b) v'):v'=.bool b:=by cases hr;rfl
theorem aM.str {s}{v'}(hr:aM P ι (.string s) v'):v'=.string s:=by cases hr;rfl
theorem aM.float {k}{n}{v'}(hr:aM P ι (.float k n) v'):v'=.float k n:=by cases hr;rfl
def aM.nilIface {v'}(hr:aM P ι .nilIface v'):v'=.nilIface:=by cases hr;rfl
def aM.Jk {a}{v'}(hr:aM P ι (.pointer (some a)) v'):∃a',v'=.pointer (some a')/\qS ι a a':=by
 cases hr with
 |flat _ hf=>simp[dL] at hf
 |ptr _ a' ha=>exact⟨a',rfl,ha⟩
def aM.abV {p}{v'}(hr:aM P ι (.pointer p) v'):∃p',v'=.pointer p'/\p'.isNone=p.isNone/\∀a,p=some a->∃a',p'=some a'/\qS ι a a':=by
 cases hr with
 |flat _ hf=>cases p with
  |none=>grind
  |some a=>simp[dL] at hf
 |ptr a a' ha=>grind
def aM.slO {a}{n c}{v'}(hr:aM P ι (.slice a n c) v'):∃a' c',v'=.slice a' n c'/\a'.isNone=a.isNone:=by
 cases hr with
 |flat _ hf=>grind
 |slice a a' n c c'=>grind
 |lJ a a' c=>grind
def gY (P:Program)(W0:Fz)(ι:gX)(w:World)(s:Sem ο)(v:ο)(h1:aj):Prop:=
 ∃v' w' ι',s.run P w=.ok v' w'/\aM P ι' v v'/\Rel P W0 ι' h1 w'/\ι.le ι'
def P4 (P:Program)(W0:Fz)(ι:gX)(w:World)(s:Sem Next)(v:ο)(h1:aj):Prop:=
 ∃v' w' ι',(s.run P w=.ok (.value v') w'\/(s.run P w=.ok .skip w'/\v'=undef))/\aM P ι' v v'/\Rel P W0 ι' h1 w'/\ι.le ι'
theorem gY.o {s}{v}(hs:gY P W0 ι w s v h1):P4 P W0 ι w (do pure (.value (<-s))) v h1:=by
 obtain⟨v',w',ι',hr,a,b,c⟩:=hs;exact⟨v',w',ι',.inl (by simp[hr]),a,b,c⟩
def P4.pure {v v'}(hv:aM P ι v v')(R:Rel P W0 ι h w):P4 P W0 ι w (Pure.pure (.value v')) v h:=⟨v',w,ι,.inl rfl,hv,R,.refl _⟩
theorem aK {E}{a:Go.Act}(HE:kZ P ι E a.tmps){x}{v}(hv:E.ev x=some v):aM P ι v (a.eval x):=by
 cases x with
 |tmp t=>
  obtain⟨v',h1,h2⟩:=HE t v hv;simp[Act.eval,akY,h1];exact h2
 |const u=>
  simp[Env.ev] at hv;split at hv
  .rename_i hf;cases hv;exact .of_flat hf
  .cases hv
 |global g=>simp[Env.ev] at hv
 |func f=>simp[Env.ev] at hv;subst hv;exact .func _ _ _ _ _ rfl (by simp) rfl (by simp)
theorem JV {E}{a:Go.Act}(HE:kZ P ι E a.tmps):∀{xs} {vs},E.PQ xs=some vs->aX P ι vs (xs.map a.eval)
 |[],vs,hv=>by simp[Env.PQ] at hv;subst hv;exact .nil
 |x::xs,vs,hv=>by
  simp[Env.PQ] at hv;split at hv
  .rename_i v vs' h1 h2;cases hv;exact aX.cons (aK HE h1) (JV HE h2)
  .cases hv
def lK {t}{n}(hs:bU P t=some n):∀w,(sizeOf t).run P w=.ok n w:=by
 unfold bU at hs;split at hs
 .rename_i i hi;cases hs;simp[sizeOf,typeInfo,hi]
 .cases hs
theorem Le {t}{n}(hs:bU P t=some n):szT P t=n:=by
 grind [bU,szT]
def aL {t}{d}(hd:P.underlying t=some d) w:(underlying t).run P w=.ok d w:=run_underlying hd w
def tJ {t}{d}(hd:P.underlying t=some d) w:(isAgg t).run P w=.ok (As d) w:=by
 cases d<;>simp[isAgg,aL hd,As]
def fL {t}{z}(hz:zeroOf P t=some z):z.cells.toList.all dL=true/\(∀w,(zeroValue t).run P w=.ok z w)/\bU P t=some z.cells.size/\∃i,P.info? t=some i/\i.zero=some z/\i.size=z.cells.size:=by
 unfold zeroOf at hz;split at hz
 .rename_i i hi;split at hz
  .rename_i v hv;split at hz
   .rename_i hc;cases hz;simp only[abi] at hc;have hc:=And.intro hc.1 (IT hc.2);exact⟨hc.1,λw=>by simp[zeroValue,typeInfo,hi,hv],by simp[bU,hi,hc.2],i,hi,hv,hc.2.symm⟩
   .cases hz
  .cases hz
 .cases hz
theorem uo {v}(hv:dL v=true):fC v=true:=by cases v<;>simp_all[dL,fC]
theorem Ho (R:Rel P W0 ι h w){nm}{e}{cs cs'}{b}(hn:iB nm e cs h=some (b,h1))(hl:aX P ι cs cs') :
  gY P W0 ι w (do pure (.pointer (some (<-newRow e cs'.toArray)))) (.pointer (some ⟨b,0,none⟩)) h1:=by
 have fin:∀(k next':Nat),h.used k=false->k<next'/\h.next<=next'->cs.all fC=true ->
   gY P W0 ι w (do pure (.pointer (some (<-newRow e cs'.toArray)))) (.pointer (some ⟨k,0,none⟩)) (h.dh k next' e cs):=by
  intro k next' h1 h2 hsc
  obtain⟨ι',hle,hnew,R'⟩:=R.put k next' h1 h2 e cs cs' [] (0,0) (by simp) hl (List.all_eq_true.1 hsc)
  exact⟨.pointer (some ⟨w.heap.size,0,none⟩),_,ι',by simp[newRow],.ptr _ _ ⟨rfl,rfl,_,hnew,rfl,rfl⟩,R',hle⟩
 unfold iB at hn;split at hn
 .rename_i hsc;cases nm with
  |none=>cases hn;exact fin _ _ R.unused ⟨by omega,by omega⟩ hsc
  |some k=>
   grind
 .cases hn
theorem Nq (R:Rel P W0 ι h w){t}{z}(hz:zeroOf P t=some z){nm}{b}(hn:iB nm t z.cells.toList h=some (b,h1)) :
  gY P W0 ι w (Instr.alloc t true (.tuple #[])) (.pointer (some ⟨b,0,none⟩)) h1:=by
 obtain⟨hf,hz1,_⟩:=fL hz;obtain⟨v',w',ι',hr,x⟩:=Ho R hn (aX.flat hf);refine⟨v',w',ι',?_,x⟩;simp at hr;simp[Instr.alloc,hz1,newVar,hr]
theorem Uk (R:Rel P W0 ι h w){t}{v v'}(hv:aM P ι v v'){nm}{b}(hn:iB nm t v.cells.toList h=some (b,h1)) :
  gY P W0 ι w (Instr.box t v') (.pointer (some ⟨b,0,none⟩)) h1:=by
 obtain⟨u',w',ι',hr,x⟩:=Ho R hn hv.cells;refine⟨u',w',ι',?_,x⟩;simp at hr;simp[Instr.box,newVar,hr]
theorem uF:∀{l} {v} {x},Cv l v=some x->v=M0 l x
 |.int k,v,x,hx=>by
  cases k<;>cases v<;>simp[Cv] at hx<;>(rename_i k' n;cases k'<;>simp[Cv] at hx)<;>(subst hx;rfl)
 |.bool,v,x,hx=>by cases v<;>simp[Cv] at hx;subst hx;rfl
 |.str,v,x,hx=>by cases v<;>simp[Cv] at hx;subst hx;rfl
 |.ptr,v,x,hx=>by cases v<;>simp[Cv] at hx;subst hx;rfl
 |.ak,v,x,hx=>by
  cases v with
  |pointer p=>cases p<;>simp[Cv] at hx;subst hx;rfl
  |_=>simp[Cv] at hx
 |.sl,v,x,hx=>by cases v<;>simp[Cv] at hx;subst hx;rfl
 |.mp,v,x,hx=>by cases v<;>simp[Cv] at hx;subst hx;rfl
 |.raw,v,x,hx=>by simp only[Cv] at hx;cases hx;rfl
 |.f64,v,x,hx=>by
  cases v<;>simp[Cv] at hx;rename_i k n;cases k<;>simp at hx;subst hx;rfl
def Nr {l}{a}{x}(hx:eU l a h=some (x,h1)):h1=h/\h.cell a=some (M0 l x):=by
 unfold eU at hx;split at hx
 .rename_i v hv;split at hx
  .rename_i y hy;cases hx;exact⟨rfl,by rw[hv,uF hy]⟩
  .cases hx
 .cases hx
def FO (R:Rel P W0 ι h w){a a'}(ha:qS ι a a'):∀ls i acc acc' v ,
  (DQ a ls i acc).exec h=some (v,h1)->aX P ι acc.reverse acc' ->
  h1=h/\∃vs:δ,(loadCellsFrom a' i ls.length acc'.toArray).run P w=.ok vs.toArray w/\aM P ι v (.agg vs.toArray)
 |[],i,acc,acc',v,hx,hl=>by
  obtain⟨rfl,rfl⟩:=hx;refine⟨rfl,acc',by simp[loadCellsFrom],.agg _ _ (by simpa using hl.1) λj u u' p q=>hl.2 j u u' (by simpa using p) (by simpa using q)⟩
 |l::ls,i,acc,acc',v,hx,hl=>by
  simp[DQ,Act.exec] at hx;split at hx
  .rename_i x h2 hq;obtain⟨e0,hc⟩:=Nr hq;rw[e0] at hx;obtain⟨u',hu,_,hr⟩:=R.cell (qS.plus ha i) hc;obtain⟨e1,vs,e2,e3⟩:=FO R ha ls (i+1) (M0 l x::acc) (acc'++[u']) v hx (by simpa using hl.append (aX.cons hr .nil));exact⟨e1,vs,by simpa[loadCellsFrom,hu] using e2,e3⟩
  .cases hx
def EL:∀{ls} {vs} {x},Cw ls vs=some x->vs=Jg ls x
 |[],[],_,_=>rfl
 |[],_::_,_,hx=>by cases hx
 |[l],[],_,hx=>by cases hx
 |[l],[v],x,hx=>by rw[Jg,<-uF hx]
 |[l],_::_::_,_,hx=>by cases hx
 |l::l'::ls,[],_,hx=>by cases hx
 |l::l'::ls,v::vs,x,hx=>by
  simp[Cw] at hx;split at hx
  .rename_i a b ha hb;cases hx;rw[Jg,<-uF ha,<-EL hb]
  .cases hx
def Ns {a}:∀ls vs x i acc ,Cw ls vs=some x->(∀j v,vs[j]?=some v->h.cell (a.plus (i+j))=some v) ->
  (DQ a ls i acc).exec h=some (.agg (acc.reverse++vs).toArray,h)
 |[],[],x,i,acc,hx,hc=>by simp[DQ,Act.exec]
 |[],_::_,_,_,_,hx,_=>by cases hx
 |[l],[],_,_,_,hx,_=>by cases hx
 |[l],[v],x,i,acc,hx,hc=>by
  have h0:=hc 0 v rfl;have hx:Cv l v=some x:=hx;simp only[DQ,Act.exec,eU,show a.plus i=a.plus (i+0) from rfl,h0,hx]
  grind [uF]
 |[l],_::_::_,_,_,_,hx,_=>by cases hx
 |l::l'::ls,[],_,_,_,hx,_=>by cases hx
 |l::l'::ls,v::vs,x,i,acc,hx,hc=>by
  simp[Cw] at hx;split at hx
  .rename_i y z hy hz;have h0:=hc 0 v rfl;have ih:=Ns (l'::ls) vs z (i+1) (M0 l y::acc) hz λj u hu=>by
    have:=hc (j+1) u (by simpa using hu)
    rwa [show i+(j+1)=i+1+j by omega] at this
   rw[DQ];simp[Act.exec,eU,show a.plus i=a.plus (i+0) from rfl,h0,hy]
   grind [uF]
  .cases hx
def Xt {a}{ls}{x}(hx:bK ls a h=some (x,h1)):h1=h/\(DQ a ls 0 []).exec h=some (.agg (Jg ls x).toArray,h):=by
 unfold bK at hx;split at hx
 .rename_i vs hv;split at hx
  .rename_i y hy;cases hx;rw[<-EL hy];have:=Ns (a:=a) (h:=h) ls vs _ 0 [] hy λj v hj=>by
    grind [aW,aj.cell,Addr.plus]
   simpa using this
  .cases hx
 .cases hx
def JW (R:Rel P W0 ι h w){t}{a a'}(ha:qS ι a a'){v}(hx:(Jd P t a).exec h=some (v,h1)) :
  h1=h/\∃v',(loadVar t a').run P w=.ok v' w/\aM P ι v v':=by
 unfold Jd at hx;split at hx
 .rename_i d n hd hn;split at hx
  .rename_i hag;split at hx
   .rename_i ls hls;split at hx
    .rename_i hlen;have hlen:=IT hlen;simp[Act.exec] at hx;split at hx
     .rename_i y h2 hq;cases hx;obtain⟨e0,hx⟩:=Xt hq;subst e0;obtain⟨_,vs,e2,e3⟩:=FO R ha ls 0 [] [] _ hx .nil;refine⟨rfl,_,?_,e3⟩;simp[loadVar,tJ hd,hag,lK hn,<-hlen,loadCells,e2]
     .cases hx
    .simp[Act.exec] at hx
   .simp[Act.exec] at hx
  .rename_i hag;split at hx
   .simp[Act.exec] at hx;split at hx
    .rename_i x h2 hq;cases hx;obtain⟨rfl,hc⟩:=Nr hq;obtain⟨u',hu,_,hr⟩:=R.cell ha hc;exact⟨rfl,u',by simp[loadVar,tJ hd,hag,hu],hr⟩
    .cases hx
   .simp[Act.exec] at hx
 .simp[Act.exec] at hx
theorem rQ P g o t fz:∀vs i cur w ,w.heap[g]?=some (.cells cur t fz)->o+i+vs.length<=cur.size ->
  (∀j,j<cur.size->(decide (fz.1<=j)&&decide (j<fz.2))=false)->(∀v∈vs,v.oneCell'=true) ->
  (storeCells ⟨g,o,none⟩ vs i).run P w=.ok () (w.setRow g (cur.toList.take (o+i)++vs++cur.toList.drop (o+i+vs.length)).toArray)
 |[],i,cur,w,hg,_,_,_=>by
  simp only[storeCells,agj,ad8,alD,ans,anv];rw[setRow_self w g cur t fz hg];rfl
 |v::rest,i,cur,w,hg,hl,hfr,h1=>by
  have hi:o+i<cur.size:=by simp at hl;omega
  have hadd:(⟨g,o,none⟩:Addr).add i=⟨g,o+i,none⟩:=by unfold Addr.add;split<;>simp_all
  have hcell:w.cell? ⟨g,o+i,none⟩=some cur[o+i]:=by simp[World.cell?,hg,hi]
  have hfro:w.frozen? ⟨g,o+i,none⟩=false:=by simp only[World.frozen?,hg];exact hfr _ hi
  have hst:(store ((⟨g,o,none⟩:Addr).add i) v).run P w=.ok () (w.setRow g (cur.setIfInBounds (o+i) v)):=by
   grind [run_store,setCell_eq_setRow]
  have ih:=rQ P g o t fz rest (i+1) (cur.setIfInBounds (o+i) v) (w.setRow g (cur.setIfInBounds (o+i) v)) (setRow_heap w g cur _ t _ hg) (by simp at hl⊢;omega)
   (by simpa using hfr) (λx hx=>h1 x (by simp[hx]))
  simp only[storeCells,Sem.run_bind,hst,Result.andThen_ok,ih,setRow_setRow]
  congr 3
  have e:=list_seg_step cur.toList (o+i) v rest (by omega);simpa[amZ] using e
def EM (R:Rel P W0 ι h w){a a'}(ha:qS ι a a'){vs vs'}(hl:aX P ι vs vs'){x}(hx:rE a vs h=some (x,h1)) :
  ∃w',(storeCells a' vs').run P w=.ok () w'/\Rel P W0 ι h1 w':=by
 unfold rE at hx;split at hx
 .rename_i c g base e hb;split at hx
  .rename_i hc;cases hx;obtain⟨hg,hfit,hsc⟩:=hc;obtain⟨h1,h2,l,hl1,hl2,hl3⟩:=ha;obtain⟨l0,e1,e2,e3,e4,e5⟩:=R.live _ c g base e hb;rw[hl1] at e1;cases e1;obtain⟨cc,fz,hh,q1,q2⟩:=R.loc _ l hl1;have hro:l.ro=false:=by grind
   have hU:=R.vR hb hg hl1 hh hfit hl (List.all_eq_true.1 hsc);have hone:∀v∈vs',v.oneCell'=true:=by
    intro v' hv';obtain⟨i,hi⟩:=List.mem_iff_getElem?.1 hv';have hlt:i<vs.length:=(by have:=(List.getElem?_eq_some_iff.1 hi).1;have:=hl.1;omega);exact (hl.2 i vs[i] v' (by simp[hlt]) hi).RT (List.all_eq_true.1 hsc _ (aky hlt))
   have hst:=rQ P l.au a'.off l.elem fz vs' 0 cc w hh (by have:=hl.1;omega) ((q2 hro).2 ⟨_,l,c,g,base,e,hl1,rfl,hb⟩) hone;refine⟨_,?_,hU⟩;have:a'=⟨l.au,a'.off,none⟩:=by cases a';simp_all
   grind [aU]
  .cases hx
 .cases hx
def Nt (R:Rel P W0 ι h w){t}{a a'}(ha:qS ι a a'){v v'}(hv:aM P ι v v'){n}(hn:bU P t=some n)(hs:v.cells.size=n)
  {x} (hx:rE a v.cells.toList h=some (x,h1)):∃w',(storeVar t a' v').run P w=.ok () w'/\Rel P W0 ι h1 w':=by
 obtain⟨w',hr,R'⟩:=EM R ha hv.cells hx;refine⟨w',?_,R'⟩;have hc:=hv.cells.1;simp at hc;simp[storeVar,lK hn,<-hs,hc,hr]
theorem Lf {k k'}(hk:PZ k k'=true):k=k':=by cases k<;>cases k'<;>simp_all[PZ,RM]
def Ax {b}{x}(hx:pI b h=some (x,h1)):b=true/\h1=h:=by
 unfold pI at hx;grind
def gY.ret {s}{v v'}(hs:s.run P w=.ok v' w)(hv:aM P ι v v')(R:Rel P W0 ι h w):gY P W0 ι w s v h:=⟨v',w,ι,hs,hv,R,.refl _⟩
def aM.Bu {k}{n}:aM P ι (.float k n) (.float k n):=.flat _ rfl
theorem aM.ofInt {k}{n}:aM P ι (.int k n) (.int k n):=.flat _ rfl
def aM.ofBool {b}:aM P ι (.bool b) (.bool b):=.flat _ rfl
def aM.ofStr {s}:aM P ι (.string s) (.string s):=.flat _ rfl
theorem Xu (R:Rel P W0 ι h w) op t k k' a b v
  (hx:(M8 op k a k' b).exec h=some (v,h1)):gY P W0 ι w (binOp op t (.int k a) (.int k' b)) v h1:=by
 unfold M8 at hx;split at hx
 .simp[Act.exec] at hx;split at hx
  .rename_i u h2 hc;obtain⟨hb,rfl⟩:=Ax hc;cases hx;simp at hb;exact .ret (by simp[binOp,Op.shift,show ¬b<0 by omega]) .ofInt R
  .cases hx
 .simp[Act.exec] at hx;split at hx
  .rename_i u h2 hc;obtain⟨hb,rfl⟩:=Ax hc;cases hx;simp at hb;exact .ret (by simp[binOp,Op.shift,show ¬b<0 by omega]) .ofInt R
  .cases hx
 .split at hx
  .simp[Act.exec] at hx
  .rename_i hk;obtain rfl:=Lf hk;split at hx
   .cases hx;exact .ret (by simp[binOp,Op.intArith]) .ofInt R
   .cases hx;exact .ret (by simp[binOp,Op.intArith]) .ofInt R
   .cases hx;exact .ret (by simp[binOp,Op.intArith]) .ofInt R
   .simp only[Act.exec] at hx;split at hx
    .rename_i u h2 hc;obtain⟨hb,rfl⟩:=Ax hc;cases hx;simp at hb;exact .ret (by simp[binOp,Op.intDiv,hb]) .ofInt R
    .cases hx
   .simp only[Act.exec] at hx;split at hx
    .rename_i u h2 hc;obtain⟨hb,rfl⟩:=Ax hc;cases hx;simp at hb;exact .ret (by simp[binOp,Op.intDiv,hb]) .ofInt R
    .cases hx
   .cases hx;exact .ret (by unfold binOp;simp only[ne_eq,agz,aed];rfl) .ofInt R
   .cases hx;exact .ret (by unfold binOp;simp only[ne_eq,agz,aed];rfl) .ofInt R
   .cases hx;exact .ret (by unfold binOp;simp only[ne_eq,agz,aed];rfl) .ofInt R
   .cases hx;exact .ret (by unfold binOp;simp only[ne_eq,agz,aed];rfl) .ofInt R
   .cases hx;exact .ret (by simp[binOp,Op.intCmp];rfl) .ofBool R
   .cases hx;exact .ret (by simp[binOp,Op.intCmp];rfl) .ofBool R
   .cases hx;exact .ret (by simp[binOp,Op.intCmp]) .ofBool R
   .cases hx;exact .ret (by simp[binOp,Op.intCmp]) .ofBool R
   .cases hx;exact .ret (by simp[binOp,Op.intCmp]) .ofBool R
   .cases hx;exact .ret (by simp[binOp,Op.intCmp]) .ofBool R
   .simp[Act.exec] at hx
def Bv {o}{r}(hx:Jh o h=some (r,h1)):o=some r/\h1=h:=by
 unfold Jh at hx
 grind
theorem Xv (R:Rel P W0 ι h w) op t a b v
  (hx:(Nf op a b).exec h=some (v,h1)):gY P W0 ι w (binOp op t (.float .f64 a) (.float .f64 b)) v h1:=by
 unfold Nf at hx;split at hx
 .simp[Act.exec] at hx;split at hx
  .rename_i r h2 hc;obtain⟨e1,rfl⟩:=Bv hc;cases hx;exact .ret (by simp[binOp,Op.floatArith,e1]) .Bu R
  .cases hx
 .simp[Act.exec] at hx;split at hx
  .rename_i r h2 hc;obtain⟨e1,rfl⟩:=Bv hc;cases hx;exact .ret (by simp[binOp,Op.floatArith,e1]) .Bu R
  .cases hx
 .simp[Act.exec] at hx;split at hx
  .rename_i r h2 hc;obtain⟨e1,rfl⟩:=Bv hc;cases hx;exact .ret (by simp[binOp,Op.floatArith,e1]) .Bu R
  .cases hx
 .simp[Act.exec] at hx;split at hx
  .rename_i r h2 hc;obtain⟨e1,rfl⟩:=Bv hc;cases hx;exact .ret (by simp[binOp,Op.floatArith,e1]) .Bu R
  .cases hx
 .cases hx;exact .ret (by simp[binOp,Op.floatCmp,zL]) .ofBool R
 .cases hx;exact .ret (by simp[binOp,Op.floatCmp,zL,bne]) .ofBool R
 .cases hx;exact .ret (by simp[binOp,Op.floatCmp,Xg]) .ofBool R
 .cases hx;exact .ret (by simp[binOp,Op.floatCmp,Xg,zL]) .ofBool R
 .cases hx;exact .ret (by simp[binOp,Op.floatCmp,P0]) .ofBool R
 .cases hx;exact .ret (by simp[binOp,Op.floatCmp,P0,zL]) .ofBool R
 .simp[Act.exec] at hx
theorem Xw (R:Rel P W0 ι h w) op t a b v
  (hx:(M9 op a b).exec h=some (v,h1)):gY P W0 ι w (binOp op t (.string a) (.string b)) v h1:=by
 unfold M9 at hx;split at hx
 .simp[Act.exec] at hx;split at hx
  .rename_i u h2 hc;unfold kK at hc;split at hc
   .cases hc;cases hx;rename_i hsz;unfold cP at hsz;refine .ret ?_ .ofStr R;simp only[binOp,Op.stringOp,IntKind.max_i64];rw[AT (by omega)];rfl
   .cases hc
  .cases hx
 .cases hx;exact .ret (by simp[binOp,Op.stringOp,qI]) .ofBool R
 .cases hx;exact .ret (by simp[binOp,Op.stringOp,qI]) .ofBool R
 .cases hx;exact .ret (by simp[binOp,Op.stringOp,ltS]) .ofBool R
 .cases hx;exact .ret (by simp[binOp,Op.stringOp,qI,ltS]) .ofBool R
 .cases hx;exact .ret (by simp[binOp,Op.stringOp,qI,ltS]) .ofBool R
 .cases hx;exact .ret (by simp[binOp,Op.stringOp,ltS]) .ofBool R
 .simp[Act.exec] at hx
def jR (R:Rel P W0 ι h w){op}{t}{u1 u2 v}{b}(h1':∀w,(Op.equal t u1 u2).run P w=.ok b w)
  (he:binOp .eql t u1 u2=(do pure (.bool (<-Op.equal t u1 u2)))) (hn:binOp .neq t u1 u2=(do pure (.bool (!(<-Op.equal t u1 u2)))))
  (hx:(zK op b).exec h=some (v,h1)):gY P W0 ι w (binOp op t u1 u2) v h1:=by
 unfold zK at hx;split at hx
 .cases hx;rw[he];exact .ret (by simp[h1']) .ofBool R
 .cases hx;rw[hn];exact .ret (by simp[h1']) .ofBool R
 .simp[Act.exec] at hx
def abW d {t}{ms}(hd:P.underlying t=some (.interface ms)) w:(Op.equalIn (d+1) t .nilIface .nilIface).run P w=.ok true w:=by
 simp[Op.equalIn,aL hd]
def abX d {t}{ms}(hd:P.underlying t=some (.interface ms)) e v w:(Op.equalIn (d+1) t (.iface e v) .nilIface).run P w=.ok false w:=by
 simp[Op.equalIn,aL hd]
def Ul d {t}(hd:P.underlying t=some .bool) a b w:(Op.equalIn (d+1) t (.bool a) (.bool b)).run P w=.ok (a==b) w:=by
 simp[Op.equalIn,aL hd]
def abY d {t e}(hd:P.underlying t=some (.slice e)) a n c n' c' w:(Op.equalIn (d+1) t (.slice a n c) (.slice none n' c')).run P w=.ok a.isNone w:=by
 cases a<;>simp[Op.equalIn,aL hd]
def Xx d {t e}(hd:P.underlying t=some (.pointer e)) a w:(Op.equalIn (d+1) t (.pointer a) (.pointer none)).run P w=.ok a.isNone w:=by
 cases a<;>simp[Op.equalIn,aL hd]
def Xy d {t k e}(hd:P.underlying t=some (.map k e)) a w:(Op.equalIn (d+1) t (.map a) (.map none)).run P w=.ok a.isNone w:=by
 cases a<;>simp[Op.equalIn,aL hd]
def Xz {t}{ms}(hd:P.underlying t=some (.interface ms)) w:(Op.equal t .nilIface .nilIface).run P w=.ok true w:=abW 9999 hd w
def XA {t}{ms}(hd:P.underlying t=some (.interface ms)) d v w:(Op.equal t (.iface d v) .nilIface).run P w=.ok false w:=abX 9999 hd d v w
def XB {t}(hd:P.underlying t=some .bool) a b w:(Op.equal t (.bool a) (.bool b)).run P w=.ok (a==b) w:=Ul 9999 hd a b w
def agA {t e}(hd:P.underlying t=some (.slice e)) a n c n' c' w:(Op.equal t (.slice a n c) (.slice none n' c')).run P w=.ok a.isNone w:=abY 9999 hd a n c n' c' w
def abZ {t e}(hd:P.underlying t=some (.pointer e)) a w:(Op.equal t (.pointer a) (.pointer none)).run P w=.ok a.isNone w:=Xx 9999 hd a w
def RW {t k e}(hd:P.underlying t=some (.map k e)) a w:(Op.equal t (.map a) (.map none)).run P w=.ok a.isNone w:=Xy 9999 hd a w
theorem XC {t e}{i}(hd:P.underlying t=some (.pointer e))(hi:P.info? e=some i) a w:(Op.equal t (.pointer (some a)) (.pointer (some a))).run P w=.ok true w:=by
 have h:∀d:Nat,(Op.equalIn (d+1) t (.pointer (some a)) (.pointer (some a))).run P w=.ok true w:=λd=>by
  simp[Op.equalIn,run_underlying hd,sizeOf,typeInfo,hi,run_sameAddr_same]
 exact h 9999
def Lg {e}{n}(hs:bU P e=some n):∃i,P.info? e=some i/\i.size=n:=by
 grind [bU]
theorem qS.same {a b a' b'}(ha:qS ι a a')(hb:qS ι b b')(he:(Nat.beq a.block b.block&&Nat.beq a.off b.off)=true):a'=b':=by
 obtain⟨_,h2,l,h3,h4,h5⟩:=ha;obtain⟨_,k2,m,k3,k4,k5⟩:=hb;rw[abi] at he;rw[IT he.1] at h3;cases a';cases b'
 simp_all
theorem Jl (R:Rel P W0 ι h w){op}{t}{x}{c}{u1 u1' v}(r1:aM P ι u1 u1')(hx:(GO P op t u1).exec h=some (v,h1)) :
  gY P W0 ι w (do eqGuard op t x (.const c) u1' .nilIface;binOp op t u1' .nilIface) v h1:=by
 unfold GO at hx;split at hx
 .rename_i hd;simp[Act.exec] at hx;split at hx
  .rename_i b h2 hc;cases hx;unfold kL at hc;split at hc
   .cases hc;obtain rfl:=r1.nilIface;rw[eqGuard_nil_constR];exact jR (op:=.eql) R (Xz hd) rfl rfl rfl
   .cases hc;cases r1 with
    |flat _ hf=>simp[dL] at hf
    |iface t' v1 v1' hv=>exact jR (op:=.eql) R (XA hd _ _) rfl rfl rfl
   .cases hc
  .cases hx
 .rename_i hd;simp[Act.exec] at hx;split at hx
  .rename_i b h2 hc;cases hx;unfold kL at hc;split at hc
   .cases hc;obtain rfl:=r1.nilIface;rw[eqGuard_nil_constR];exact jR (op:=.neq) R (Xz hd) rfl rfl rfl
   .cases hc;cases r1 with
    |flat _ hf=>simp[dL] at hf
    |iface t' v1 v1' hv=>exact jR (op:=.neq) R (XA hd _ _) rfl rfl rfl
   .cases hc
  .cases hx
 .simp[Act.exec] at hx
def aM.Lh {v v'}(hr:aM P ι v v')(hf:dL v=true):v'=v:=by
 cases hr with
 |flat=>rfl
 |agg cs cs' hs hv=>grind [absurd,dL]
 |_=>simp[dL] at hf
def Nu {t}{x y}{b}(h:eq1 P t x y=some b):dL x=true/\dL y=true/\∃d,P.underlying t=some d/\As d=false:=by
 unfold eq1 at h;split at h
 .split at h
  .rename_i hd;exact⟨rfl,rfl,_,hd,rfl⟩
  .cases h
 .split at h
  .rename_i hd;exact⟨rfl,rfl,_,hd,rfl⟩
  .cases h
 .split at h
  .rename_i hd;exact⟨rfl,rfl,_,hd,rfl⟩
  .cases h
 .cases h
def ab0 {t}{x y}{b}(h:eq1 P t x y=some b) d w:(Op.equalIn (d+1) t x y).run P w=.ok b w:=by
 unfold eq1 at h;split at h
 .grind [Lf,run_equalIn_int]
 .grind [run_equalIn_bool]
 .grind [run_equalIn_string,qI]
 .cases h
def Hq {t}{d}(hd:P.underlying t=some d)(hs:As d=false){cs}{o}{v}(h:cs[o]?=some v) w:(part t cs o).run P w=.ok v w:=by
 simp[part,tJ hd,hs,h]
theorem Nv {xs ys}:∀fs o b d w ,Nc P fs o (xs.toList.drop o) (ys.toList.drop o)=some b->(Op.eqFields (d+1) xs ys fs).run P w=.ok b w
 |[],o,b,d,w,h=>by
  unfold Nc at h;split at h
  .cases h;simp[Op.eqFields]
  .cases h
 |f::fs,o,b,d,w,h=>by
  unfold Nc at h;split at h
  .rename_i x xs' y ys' hx hy;split at h
   .rename_i hn ho;split at h
    .rename_i a ha;split at h
     .rename_i b' hb;cases h;have ho:=IT ho;have hn : f.name ≠ "_" := by grind
      obtain⟨_,_,dd,hd,hg⟩:=Nu ha;have hx0:xs[o]?=some x:=by
       rw[<-aeN,<-alD o,<-aj0,hx];rfl
      have hy0:ys[o]?=some y:=by
       rw[<-aeN,<-alD o,<-aj0,hy];rfl
      have hxt:xs.toList.drop (o+1)=xs':=(by rw[<-amd,hx];rfl);have hyt:ys.toList.drop (o+1)=ys':=(by rw[<-amd,hy];rfl);have ih:=Nv (ys:=ys) fs (o+1) b' d w (by rw[hxt,hyt];exact hb);unfold Op.eqFields;rw[By hn,ho];simp[Sem.run_bind,Hq hd hg hx0,Hq hd hg hy0,Result.andThen_ok,ab0 ha d w]
      grind
     .cases h
    .cases h
   .cases h
  .cases h
theorem JX:∀fs o xs ys b ,Nc P fs o xs ys=some b->(∀v∈xs,dL v=true)/\(∀v∈ys,dL v=true)
 |[],o,xs,ys,b,h=>by
  grind [Nc,absurd]
 |f::fs,o,xs,ys,b,h=>by
  unfold Nc at h;split at h
  .split at h
   .split at h
    .rename_i a ha;split at h
     .rename_i b' hb;obtain⟨h1,h2,_⟩:=Nu ha;obtain⟨h3,h4⟩:=JX fs _ _ _ _ hb
      grind
     .cases h
    .cases h
   .cases h
  .cases h
theorem aM.RX {cs}{v'}(hr:aM P ι (.agg cs) v')(hf:∀v∈cs.toList,dL v=true):v'=.agg cs:=by
 cases hr with
 |flat=>rfl
 |agg _ cs' hs hv=>
  congr 1
  apply anJ;intro i;cases h1:cs[i]? with
  |none=>
   grind
  |some v=>
   have hi:i<cs'.size:=by grind
   have h2:cs'[i]?=some cs'[i]:=ajF hi;rw[h2];have:=(hv i v _ h1 h2).Lh (hf v (by grind));rw[this]
def Nw {a b}{r}(hx:eqP a b h=some (r,h1)):h1=h/\r=true/\∃x y,a=some x/\b=some y/\(Nat.beq x.block y.block&&Nat.beq x.off y.off)=true:=by
 unfold eqP at hx
 grind
def Nx (R:Rel P W0 ι h w){op}{t e}{x y}{a b}{u1' u2' v}(r1:aM P ι (.pointer a) u1')(r2:aM P ι (.pointer b) u2')(hd:P.underlying t=some (.pointer e)){n}(hs:bU P e=some n)
  (hx:(Act.ask Bool (eqP a b) λr=>zK op r).exec h=some (v,h1)):gY P W0 ι w (do eqGuard op t x y u1' u2';binOp op t u1' u2') v h1:=by
 simp[Act.exec] at hx;split at hx
 .rename_i r h2 hr;obtain⟨rfl,rfl,a,b,rfl,rfl,he⟩:=Nw hr;obtain⟨a',rfl,ha⟩:=r1.Jk;obtain⟨b',rfl,hb⟩:=r2.Jk;rw[eqGuard_at_pointer];obtain⟨i,hi,_⟩:=Lg hs;rw[qS.same ha hb he];exact jR R (XC hd hi _) rfl rfl hx
 .cases hx
def P5 (R:Rel P W0 ι h w){op}{t}{x y}{u1 u2 u1' u2' v}(r1:aM P ι u1 u1')(r2:aM P ι u2 u2')
  (hy:u2=.nilIface->∃c,y=.const c) (hx:(Xj P op t u1 u2).exec h=some (v,h1)):gY P W0 ι w (do eqGuard op t x y u1' u2';binOp op t u1' u2') v h1:=by
 unfold Xj at hx;split at hx
 .obtain⟨c,rfl⟩:=hy rfl;obtain rfl:=r2.nilIface
  grind [Jl]
 .unfold Xi at hx;split at hx
  .obtain rfl:=r1.int;grind [r2.int,eqGuard_at_int,Xu]
  .obtain rfl:=r1.str;grind [r2.str,eqGuard_at_string,Xw]
  .obtain rfl:=r1.float;grind [r2.float,eqGuard_at_float,Xv]
  .obtain rfl:=r1.bool;obtain rfl:=r2.bool;rw[eqGuard_at_bool];split at hx
   .rename_i hd;exact jR R (XB hd _ _) rfl rfl hx
   .simp[Act.exec] at hx
  .obtain⟨a',c',rfl,hn⟩:=r1.slO;obtain⟨a2',c2',rfl,hn2⟩:=r2.slO;have:a2'=none:=by cases a2'<;>simp_all
   subst this;rw[eqGuard_at_slice];split at hx
   .rename_i hd;rw[<-hn] at hx;exact jR R (agA hd _ _ _ _ _) rfl rfl hx
   .simp[Act.exec] at hx
  .obtain⟨p',rfl,hn,_⟩:=r1.abV;obtain⟨p2',rfl,hn2,_⟩:=r2.abV;have:p2'=none:=by cases p2'<;>simp_all
   subst this;rw[eqGuard_at_pointer];split at hx
   .rename_i hd;rw[<-hn] at hx;exact jR R (abZ hd _) rfl rfl hx
   .simp[Act.exec] at hx
  .rename_i r _;cases r1 with
   |flat _ hf=>
    cases r with
    |some r=>simp[dL] at hf
    |none=>
     cases r2;rw[eqGuard_at_map];split at hx
     .rename_i hd;exact jR R (RW hd _) rfl rfl hx
     .simp[Act.exec] at hx
   |map m r hr=>
    cases r2;rw[eqGuard_at_map];split at hx
    .rename_i hd;exact jR R (RW hd (some r)) rfl rfl hx
    .simp[Act.exec] at hx
  .split at hx
   .rename_i fs hd hp hm;split at hx
    .rename_i b hb;obtain⟨f1,f2⟩:=JX _ _ _ _ _ hb;obtain rfl:=r1.RX f1;obtain rfl:=r2.RX f2;have hfo:P.fieldsOf t=fs:=(by unfold Program.fieldsOf;rw[hd]);have he:∀w,(Op.equalIn 10000 t (.agg _) (.agg _)).run P w=.ok b w:=λw=>by
      rw[run_equalIn_struct w 9999 t _ _ (by rw[hfo];exact hd) hp,hfo];exact Nv fs.toList 0 b 9998 w hb
     unfold zK at hx;split at hx
     .cases hx;exact .ret (by rw[Sem.run_bind,run_eqGuard_agg w _ _ _ _ _ _ hm,Result.andThen_ok,run_eql_struct,he];rfl) .ofBool R
     .cases hx;exact .ret (by rw[Sem.run_bind,run_eqGuard_agg w _ _ _ _ _ _ hm,Result.andThen_ok,run_neq_struct,he];rfl) .ofBool R
     .simp[Act.exec] at hx
    .simp[Act.exec] at hx
   .simp[Act.exec] at hx
  .simp[Act.exec] at hx
def Um (R:Rel P W0 ι h w){op}{x x' v}(hr:aM P ι x x')(hx:(aun op x).exec h=some (v,h1)):gY P W0 ι w (Op.unary op x') v h1:=by
 unfold aun at hx;split at hx
 .cases hx;obtain rfl:=hr.int;exact .ret (by simp[Op.unary,Op.intArith]) .ofInt R
 .cases hx;obtain rfl:=hr.bool;exact .ret (by simp[Op.unary]) .ofBool R
 .cases hx;obtain rfl:=hr.float;exact .ret (by simp[Op.unary,agu]) .Bu R
 .simp[Act.exec] at hx
def oK s:(bI s).all dL=true:=by
 rw[akg];intro v hv;simp[bI] at hv;obtain⟨b,_,rfl⟩:=hv;rfl
def Ny (w:World) cs e :
  World.freeze { w with heap:=w.heap.push (.cells cs e (0,0)) } { block:=w.heap.size,off:=cs.size } 1={ w with heap:=w.heap.push (.cells cs e (cs.size,cs.size+1)) }:=by
 unfold World.freeze;rw[AT (by decide)]
 congr 1
 grind
theorem Hr (R:Rel P W0 ι h w){e}(he:bU P e=some 1){s}{r}(hx:Hf e s h=some (r,h1)) :
  gY P W0 ι w (Conv.stringToBytes e s) (.slice r.a r.len r.cap) h1:=by
 unfold Hf at hx;split at hx
 .cases hx;have hge:s.size<=(Question.appendCap s.size 0 e).cut (w.tape w.drawn (.appendCap s.size 0 e)):=by simp[Question.cut]
  generalize hcap:(Question.appendCap s.size 0 e).cut (w.tape w.drawn (.appendCap s.size 0 e))=cap at hge;have R1:Rel P W0 ι h { w with drawn:=w.drawn+1 }:=R.of_heap rfl ⟨rfl,rfl⟩;have hlen:(bI s).length=s.size:=by simp[bI]
  obtain⟨ι',hle,hnew,R'⟩:=R1.new e (bI s) (bI s) (List.replicate (cap-s.size) (Value.int .u8 0)) (cap,cap+1)
   (by grind) (aX.flat (oK s)) (λv hv=>uo (List.all_eq_true.1 (oK s) v hv))
  refine⟨.slice (some ⟨w.heap.size,0,none⟩) s.size cap,_,ι',?_,?_,R',hle⟩
  .have hsz2:((bI s++List.replicate (cap-s.size) (Value.int .u8 0)).toArray).size=cap:=by simp[hlen];omega
   have hfr:=Ny { w with drawn:=w.drawn+1 } (bI s++List.replicate (cap-s.size) (Value.int .u8 0)).toArray e;rw[hsz2] at hfr;have hel:(s.data.map λb=>Value.int .u8 b.toNat)++Array.replicate (cap-s.size) (Value.int .u8 0)=(bI s++List.replicate (cap-s.size) (Value.int .u8 0)).toArray:=by
    simp[bI]
   simp only[Conv.stringToBytes,Sem.run_bind,run_choose,Question.forced,aeb,aed,Result.andThen_ok,hcap,hel,newRow,run_newObj,Sem.run_pure,markStringish,run_shape];simp[World.shape?,hsz2,hfr]
  .exact .slice _ _ _ _ _ _ rfl rfl hnew rfl rfl hge (.inl rfl) (λ_ _=>by grind [Le])
 .cases hx
theorem uq (R:Rel P W0 ι h w){a a'}(ha:qS ι a a'){n}{cs}(hc:aW h (some a) n=some cs) :
  ∃cs',aX P ι cs cs'/\cs.length=n/\(∀v∈cs,fC v=true)/\(loadCells a' n).run P w=.ok cs'.toArray w/\(∀i v',cs'[i]?=some v'->w.cell? (a'.add i)=some v'):=by
 unfold aW at hc;split at hc
 .rename_i heq;cases heq
 .rename_i b heq;cases heq;split at hc
  .rename_i c g base e hb;split at hc
   .rename_i hfit;cases hc;obtain⟨l,e1,e2,e3,e4,e5⟩:=R.live _ c g base e hb;obtain⟨h1,h2,l',hl1,hl2,hl3⟩:=ha;rw[e1] at hl1;cases hl1;have hlen:((c.drop a.off).take n).length=n:=(by simp;omega);have key:∀i,i<n->∃v',w.cell? (a'.add i)=some v'/\∀v,c[a.off+i]?=some v->fC v=true/\aM P ι v v':=by
     intro i hi;have hlt:a.off+i<c.length:=(by omega);obtain⟨v',hv',x⟩:=e5 (a.off+i) c[a.off+i] (by simp[hlt])
     grind [List.getElem?_eq_getElem,add_eq,Nat.add_assoc]
    have hch:∃f:Nat->ο,∀i,i<n->w.cell? (a'.add i)=some (f i)/\∀v,c[a.off+i]?=some v->fC v=true/\aM P ι v (f i):=by
     refine⟨λi=>(w.cell? (a'.add i)).getD undef,λi hi=>?_⟩
     grind
    obtain⟨f,hf⟩:=hch;refine⟨(List.range n).map f,⟨by simp;omega,λi v v' hv hv'=>?_⟩,hlen,λv hv=>?_,run_loadCells w a' n f (λj hj=>(hf j hj).1),λi v' hv'=>?_⟩
    .grind
    .grind [List.mem_iff_getElem?]
    grind
   .cases hc
  .cases hc
def XD {s}{sz}{cs}(hx:M5 s sz h=some (cs,h1)):h1=h/\((s.len=0/\cs=[])\/aW h s.a (s.len*sz)=some cs):=by
 unfold M5 at hx
 grind
structure Src (P:Program) (ι:gX) (h:aj) (w:World) (size n:Nat) (x':ο) (new new':δ):Prop where
 len:∀w',(Builtin.lenOf x').run P w'=.ok n w'
 cells:∀w',w'.heap=w.heap->(Builtin.firstCells size n x').run P w'=.ok new'.toArray w'
 rel:aX P ι new new'
 sc:∀v∈new,fC v=true
theorem Un (he:w'.heap=w.heap) a:w'.cell? a=w.cell? a:=by simp[World.cell?,he]
def wb {a'}{n}{cs':δ}(hl:cs'.length=n)(hc:∀(i:Nat) v',cs'[i]?=some v'->w.cell? (a'.add i)=some v')(he:w'.heap=w.heap) :
  (loadCells a' n).run P w'=.ok cs'.toArray w':=by
 grind [run_loadCells_list,Un]
def Src.amv (R:Rel P W0 ι h w){a}{n c}{x'}(hr:aM P ι (.slice a n c) x'){size}{cs}
  (hc:(n=0/\cs=[])\/aW h a (n*size)=some cs):∃cs',Src P ι h w size n x' cs cs':=by
 rcases hc with⟨rfl,rfl⟩|hc
 .have hx:∃a' c',x'=.slice a' 0 c':=by
   cases hr with
   |flat _ hf=>exact⟨_,_,rfl⟩
   |slice a a' n c c' l=>exact⟨_,_,rfl⟩
   |lJ a a' c hce=>exact⟨_,_,rfl⟩
  obtain⟨a',c',rfl⟩:=hx;exact⟨[],λw'=>by simp[Builtin.lenOf],λw' _=>by cases a'<;>simp[Builtin.firstCells,loadCells,loadCellsFrom],.nil,by simp⟩
 cases hr with
 |flat _ hf=>
  cases a with
  |some a=>simp[dL] at hf
  |none=>
   simp[aW] at hc;obtain⟨h0,rfl⟩:=hc;exact⟨[],λw'=>by simp[Builtin.lenOf],λw' _=>by simp[Builtin.firstCells],.nil,by simp⟩
 |slice a a' n c c' l e1 e2 e3 e4 e5 e6 e7 e8=>
  obtain⟨cs',q1,q2,q3,q4,q5⟩:=uq R ⟨e1,e2,l,e3,e4,e5⟩ hc;exact⟨cs',λw'=>by simp[Builtin.lenOf],λw' he=>by simpa[Builtin.firstCells] using wb (by rw[<-q1.1,q2]) q5 he,q1,q3⟩
 |lJ a a' c hce=>
  have:cs=[]:=by
   grind [aW]
  subst this;exact⟨[],λw'=>by simp[Builtin.lenOf],λw' _=>by simp[Builtin.firstCells,loadCells,loadCellsFrom],.nil,by simp⟩
def Src.ofStr s:Src P ι h w 1 s.size (.string s) (bI s) (bI s):=
 ⟨λw'=>by simp[Builtin.lenOf],λw' _=>by
  simp[Builtin.firstCells,Sem.run_pure]
  grind [ByteArray.extract_zero_size,Array.ext',bI],aX.flat (oK s),λv hv=>uo (List.all_eq_true.1 (oK s) v hv)⟩
def uG {t xT e ty}{i}(ht:P.underlying t=some (.slice e))(hxt:(∃e',P.underlying xT=some (.slice e'))\/P.underlying xT=some .string)(hi:P.info? e=some i)
  {n} {x'} {new new'} (S:Src P ι h w i.size n x' new new') base sLen sCap (hroom:sLen+n<=sCap) {w1}
  (hst:(match base with|some a=>storeCells (a.add (sLen*i.size)) new' | none=>Pure.pure ()).run P w=.ok () w1) :
  (Builtin.append_ #[t,xT] ty #[.slice base sLen sCap,x']).run P w=.ok (.slice base (sLen+n) sCap) w1:=by
 have hc:=S.cells w rfl;cases base with
 |none=>
  simp at hst;subst hst;rcases hxt with⟨e',hd⟩|hd<;>simp[Builtin.append_,aL ht,aL hd,sizeOf,typeInfo,hi,S.len,hroom,hc]
 |some a=>
  simp at hst;rcases hxt with⟨e',hd⟩|hd<;>simp[Builtin.append_,aL ht,aL hd,sizeOf,typeInfo,hi,S.len,hroom,hc,hst]
def Cn z n:(Builtin.zeroCells z n).size=n*z.size:=by simp[Builtin.zeroCells]
def FQ {t xT e ty}{i}{z}(ht:P.underlying t=some (.slice e))(hxt:(∃e',P.underlying xT=some (.slice e'))\/P.underlying xT=some .string)(hi:P.info? e=some i)(hz:i.zero=some z)
  (hb:i.bytes<=4096) {n} {x'} {new new'} (S:Src P ι h w i.size n x' new new') base sLen sCap (hroom:sCap<sLen+n) (hbig:sLen+n<=cP)
  {old'} (hold:∀w',w'.heap=w.heap->(Builtin.firstCells i.size sLen (.slice base sLen sCap)).run P w'=.ok old'.toArray w') :
  ∃cap,sLen+n<=cap/\(Builtin.append_ #[t,xT] ty #[.slice base sLen sCap,x']).run P w =
   .ok (.slice (some ⟨w.heap.size,0,none⟩) (sLen+n) cap) { w with drawn:=w.drawn+1,heap:=w.heap.push (.cells ((old'++new')++(Builtin.zeroCells z.cells (cap-(sLen+n))).toList).toArray e) }:=by
 have hge:sLen+n<=(Question.appendCap (sLen+n) sCap e).cut (w.tape w.drawn (.appendCap (sLen+n) sCap e)):=by simp[Question.cut]
 refine⟨_,hge,?_⟩;have hn:¬(sLen+n<=sCap):=by omega
 unfold cP at hbig;have h63':¬(9223372036854775807<((sLen:Int)+(n:Int))):=by omega
 have h48':¬(281474976710656<Builtin.nextslicecap (sLen+n) sCap*i.bytes):=by
  have:=nextslicecap_le hroom;have h2:Builtin.nextslicecap (sLen+n) sCap*i.bytes<=(2*(sLen+n))*4096:=amJ this hb;omega
 have hf:=S.cells { w with drawn:=w.drawn+1 } rfl;have hfo:=hold { w with drawn:=w.drawn+1 } rfl;simp at hf hfo;rcases hxt with⟨e',hd⟩|hd <;>
  simp[Builtin.append_,aL ht,aL hd,sizeOf,typeInfo,zeroValue,hi,hz,S.len,hn,h63',h48',Question.forced,newRow,hf,hfo]
 all_goals
  unfold World.alloc World.drew;simp only
  congr 3
  simp_all
def agB {a}{c vs}{g base}{e}(hb:h.get a.block=some (.cells c g base e))(hg:g≠0)(hfit:a.off+vs.length<=c.length)(hsc:vs.all fC=true) :
  rE a vs h=some ((),h.vR a.block (aU c a.off vs) g base e):=by
 unfold rE;grind
def Nz (R:Rel P W0 ι h w){a a':Addr}{l}(e1:a.spot=none)(e2:a'.spot=none)(e3:ι a.block=some l)(e4:a'.block=l.au)(e5:a'.off=l.off+a.off)
  {c} {g base} (hblk:h.get a.block=some (.cells c g base l.elem)) (hg:g≠0) {k} {mR new new'} (hold:aW h (some a) k=some mR)
  (hrel:aX P ι new new') (hsc:∀v∈new,fC v=true) (hroom:a'.off+k+new.length<=l.size)
  get' tip' (hsub:∀j au,get' j=some au->h.get j=some au)
  (htip:∀b c g' base' e',get' b=some (.cells c g' base' e')->g'≠0->base'+c.length<=tip' g') (htipn:base+a.off+(mR++new).length<=tip' g)
  (hend:∀b c' base' e',get' b=some (.cells c' g base' e')->base'+c'.length<=base+a.off+k) :
  ∃w' ι',(storeCells (a'.add k) new').run P w=.ok () w'/\ι.le ι'/\ι' h.next=some ⟨l.au,l.off+a.off,l.size,l.elem,false⟩ /\
   Rel P W0 ι' (h.ext h.next (h.next+1) get' (.cells (mR++new) g (base+a.off) l.elem) tip') w':=by
 obtain⟨l0,f1,f2,f3,f4,f5⟩:=R.live _ c g base l.elem hblk;rw[e3] at f1;cases f1;obtain⟨cc,fz,hh,q1,q2⟩:=R.loc _ l e3;have hro:l.ro=false:=by grind
 have hone:∀v∈new',v.oneCell'=true:=by
  intro v' hv';obtain⟨i,hi⟩:=List.mem_iff_getElem?.1 hv';have hlt:i<new.length:=by have:=(List.getElem?_eq_some_iff.1 hi).1;have:=hrel.1;omega
  exact (hrel.2 i new[i] v' (by simp[hlt]) hi).RT (hsc _ (aky hlt))
 have hlen:=hrel.1;have hst:=rQ P l.au (a'.off+k) l.elem fz new' 0 cc w hh (by omega) ((q2 hro).2 ⟨_,l,c,g,base,l.elem,e3,rfl,hblk⟩) hone;have hadd:a'.add k=⟨l.au,a'.off+k,none⟩:=by rw[add_eq e2,e4]
 have hsp:cc.toList.take (a'.off+k+0)++new'++cc.toList.drop (a'.off+k+0+new'.length)=aU cc.toList (l.off+a.off+k) new':=by
  simp[aU,e5]
 rw[<-hadd,hsp] at hst;have hfit:l.off+a.off+k+new'.length<=cc.toList.length:=by simp;omega
 have hstay:∀b c1 g1 base1 e1' l1,get' b=some (.cells c1 g1 base1 e1')->ι b=some l1->l1.au=l.au->g1=g/\l.off+base1=l1.off+base/\l1.off+c1.length<=l.off+a.off+k:=by
  intro b c1 g1 base1 e1' l1 hb hl1 hbl;obtain⟨p1,p2⟩:=R.iL a.block b l l1 c g base l.elem c1 g1 base1 e1' e3 hl1 hro hblk (hsub _ _ hb) hbl.symm
  grind
 have R1:Rel P W0 ι { h with get:=get' } (w.setRow l.au (aU cc.toList (l.off+a.off+k) new').toArray):=by
  refine R.write get' l.au l.size l.elem cc _ fz (q2 hro).1 hh (by simp[oq _ _ _ hfit]) (λb hb=>?_) (λb c1 g1 base1 e1' hb=>?_)
  .cases hq:get' b with
   |none=>rfl
   |some au=>have:=(R.yL b hb).1;rw[hsub _ _ hq] at this;cases this
  .refine⟨g1,c1,hsub _ _ hb,rfl,rfl,λ_ _ _=>rfl,λl1 hl1 hbl i v hv=>?_⟩;obtain⟨_,_,p3⟩:=hstay b c1 g1 base1 e1' l1 hb hl1 hbl;obtain⟨l2,g1',g2',g3',g4',g5'⟩:=R.live b c1 g1 base1 e1' (hsub _ _ hb);rw[hl1] at g1';cases g1';obtain⟨v',x,y⟩:=g5' i v hv;have hi:=(List.getElem?_eq_some_iff.1 hv).1;refine⟨v',?_,y⟩;simp only[amI,tI _ _ _ _ hfit];rw[By (by omega)];simp only[World.cell?,hbl,hh] at x;simpa using x
 have hget:=Hm l.au (aU cc.toList (l.off+a.off+k) new').toArray cc l.elem fz hh;have hlold:mR.length=k/\(∀(i:Nat) v,mR[i]?=some v->i<k/\c[a.off+i]?=some v):=by
  simp only[aW,hblk] at hold;split at hold
  .cases hold;refine⟨by simp;omega,λi v hv=>?_⟩;rw[anb] at hv;split at hv
   .rename_i hi;rw[aj0] at hv;exact⟨hi,hv⟩
   .cases hv
  .cases hold
 have hcells:∀(i:Nat) v,(mR++new)[i]?=some v->∃v',World.cell? (w.setRow l.au (aU cc.toList (l.off+a.off+k) new').toArray) ⟨l.au,l.off+a.off+i,none⟩=some v'/\fC v=true/\aM P ι v v':=by
  intro i v hv;have hok:=hlold.1;have hb0:(w.setRow l.au (aU cc.toList (l.off+a.off+k) new').toArray).heap[l.au]?=some (.cells (aU cc.toList (l.off+a.off+k) new').toArray l.elem fz):=by rw[hget,By rfl]
  have hcl:World.cell? (w.setRow l.au (aU cc.toList (l.off+a.off+k) new').toArray) ⟨l.au,l.off+a.off+i,none⟩=(aU cc.toList (l.off+a.off+k) new')[l.off+a.off+i]?:=by
   simp[World.cell?,hb0]
  rw[hcl,tI _ _ _ _ hfit];rw[aog] at hv;split at hv
  .rename_i hi;obtain⟨p1,p2⟩:=hlold.2 i v hv;obtain⟨v',x,y⟩:=f5 _ v p2;refine⟨v',?_,y⟩;rw[By (by omega)];simp only[World.cell?,hh] at x;simpa[amZ] using x
  .rename_i hi;obtain⟨v',x,y⟩:=hrel.get hv;have hi2:=(List.getElem?_eq_some_iff.1 x).1;refine⟨v',?_,hsc v (IN hv),y⟩;rw[AT (by omega),By (by omega)];rw[<-x];congr 1;omega
 obtain⟨ι',hle,hnew,R2⟩:=R1.abU ⟨l.au,l.off+a.off,l.size,l.elem,false⟩ rfl (q2 hro).1
  (by rw[hget,By rfl]) (by simp[oq _ _ _ hfit,q1]) (λo ho=>(q2 hro).2 ⟨_,l,c,g,base,l.elem,e3,rfl,hblk⟩ o (by simpa[oq _ _ _ hfit] using ho)) g (base+a.off) (mR++new) tip'
  hcells (by simp[hlold.1];omega) (λb l1 c1 g1 base1 e1' hl1 hb hbl=>(by
   obtain⟨p1,p2,_⟩:=hstay b c1 g1 base1 e1' l1 hb hl1 hbl;exact⟨p1,by simp;omega⟩)) hg (R.oz _ c g base l.elem hblk hg).2 htip htipn
 exact⟨_,ι',hst,hle,hnew,R2⟩
def NA {strict}{s}{sz}{e}{n}{new}{r}(hx:app strict s sz e n new h=some r):vr strict s sz e n new h=some r:=by
 grind [app]
theorem EN (R:Rel P W0 ι h w){t xT e ty}{i}{z}(ht:P.underlying t=some (.slice e))
  (hxt:(∃e',P.underlying xT=some (.slice e'))\/P.underlying xT=some .string) (hi:P.info? e=some i) (hz:zeroOf P e=some z) (hb:i.bytes<=4096)
  {s} {s' x'} (hr:aM P ι (.slice s.a s.len s.cap) s') {n} {new new'} (S:Src P ι h w i.size n x' new new')
  {strict} {r} (hx:app strict s i.size e n new h=some (r,h1)) :
  gY P W0 ι w (Builtin.append_ #[t,xT] ty #[s',x']) (.slice r.a r.len r.cap) h1:=by
 obtain⟨hzf,hz1,hz2,i2,hi2,hz3,hz4⟩:=fL hz;rw[hi] at hi2;cases hi2;obtain⟨sa,sn,sc⟩:=s
 replace hx:=NA hx
 simp only[vr] at hx;simp at hr;have hsz:szT P e=i.size:=by rw[Le hz2,hz4]
 split at hx
 ·-- nothing is appended
  rename_i hn0;subst hn0;cases sa with
  |none=>
   simp only at hx;split at hx
   .rename_i hc;cases hx;obtain⟨c1,c2,c3⟩:=hc;subst c1;subst c2;cases hr;exact .ret (uG ht hxt hi S none 0 0 (by omega) (by simp)) (.flat _ rfl) R
   .cases hx
  |some a=>
   simp only at hx;split at hx
   .rename_i hc;cases hx;subst hc;have hn':new'=[]:=aeE S.rel.1.symm;subst hn';have hr0:=hr;cases hr with
    |flat _ hf=>simp[dL] at hf
    |slice _ a' _ _ c' l e1 e2 e3 e4 e5 e6 e7 e8=>
     exact .ret (uG ht hxt hi S (some a') _ c' (by omega) (by simp[storeCells])) hr0 R
    |lJ _ a' _ hce=>
     exact .ret (uG ht hxt hi S (some a') _ 0 (by omega) (by simp[storeCells])) hr0 R
   .cases hx
 .rename_i hn0;split at hx
  .cases hx
  .rename_i hlim;have hlim:sn+n<=cP/\new.length=n*i.size:=aef λx=>hlim x;obtain⟨hbig,hnl⟩:=hlim;cases sa with
   |none=>
    simp only at hx;split at hx
    .rename_i hc;cases hx;obtain⟨c1,c2⟩:=hc;subst c1;subst c2;cases hr;obtain⟨cap,hcap,hrun⟩:=FQ (ty:=ty) ht hxt hi hz3 hb S none 0 0 (by omega) (by omega) (old':=[]) (λw' _=>by simp[Builtin.firstCells]);have R1:Rel P W0 ι h { w with drawn:=w.drawn+1 }:=R.of_heap rfl ⟨rfl,rfl⟩;obtain⟨ι',hle,hnew,R'⟩:=R1.new e new new' (Builtin.zeroCells z.cells (cap-(0+n))).toList (0,0) (by intro o _;simp) S.rel S.sc;rw[aeq] at hcap hrun hnew R';refine⟨_,_,ι',hrun,?_,?_,hle⟩
     .refine .slice _ _ _ _ _ _ rfl rfl hnew rfl rfl hcap (.inl rfl) (λ_ _=>?_);simp[hsz,<-S.rel.1,hnl,Array.length_toList,Cn,aeq,<-hz4];rw[<-af3]
      grind
     .simpa using R'
    .cases hx
   |some a=>
    simp only at hx;split at hx
    .rename_i mR c g base e1 hold hblk;have hgrow:∀(sCap:Nat) (a':Addr) (old':δ) (get':Nat->Option KV) (tip':Nat->Nat) (g2 base2:Nat),
       (∀w',w'.heap=w.heap->(Builtin.firstCells i.size sn (.slice (some a') sn sCap)).run P w'=.ok old'.toArray w') ->
       aX P ι mR old'->(∀v∈mR,fC v=true)->mR.length=sn*i.size->sCap<sn+n ->
       (∀j au,get' j=some au->h.get j=some au)->g2≠0->(g2=h.next+1\/h.used (g2-1)=true) ->
       (∀b c g' base' e',get' b=some (.cells c g' base' e')->g'≠0->base'+c.length<=tip' g')->base2+(mR++new).length<=tip' g2 ->
       gY P W0 ι w (Builtin.append_ #[t,xT] ty #[.slice (some a') sn sCap,x']) (.slice (some ⟨h.next,0,none⟩) (sn+n) 0) (h.ext h.next (h.next+1) get' (.cells (mR++new) g2 base2 e) tip'):=by
      intro sCap a' old' get' tip' g2 base2 q1 q2 q3 q4 q5 q6 q7 q8 q9 q10;obtain⟨cap,hcap,hrun⟩:=FQ (ty:=ty) ht hxt hi hz3 hb S (some a') sn sCap q5 hbig q1;have R1:Rel P W0 ι h { w with drawn:=w.drawn+1 }:=R.of_heap rfl ⟨rfl,rfl⟩;obtain⟨ι',hle,hnew,R'⟩:=R1.aeV h.next (h.next+1) R.unused ⟨by omega,by omega⟩ get' tip' g2 base2 e (mR++new) (old'++new') (Builtin.zeroCells z.cells (cap-(sn+n))).toList (0,0) q6 q7 q8 q9 q10
       (by intro o _;simp) (q2.append S.rel) (λv hv=>(List.mem_append.1 hv).elim (q3 v) (S.sc v))
      refine⟨_,_,ι',hrun,?_,?_,hle⟩
      .refine .slice _ _ _ _ _ _ rfl rfl hnew rfl rfl hcap (.inl rfl) (λ_ _=>?_);have e3:(old'++new').length=(sn+n)*i.size:=(by rw[abO,<-q2.1,<-S.rel.1,q4,hnl,af3]);simp only[hsz,e3,Array.length_toList,Cn,aeq,<-hz4];rw[<-af3]
       grind
      .simpa using R'
     have hsrc:∀(a':Addr) (sCap:Nat),(qS ι a a'\/sn=0)->∃old',(∀w',w'.heap=w.heap->(Builtin.firstCells i.size sn (.slice (some a') sn sCap)).run P w'=.ok old'.toArray w') /\
       aX P ι mR old'/\(∀v∈mR,fC v=true)/\mR.length=sn*i.size:=by
      intro a' sCap hor;rcases hor with ha|h0
      .obtain⟨cs',q1,q2,q3,q4,q5⟩:=uq R ha hold;exact⟨cs',λw' he=>by simpa[Builtin.firstCells] using wb (by rw[<-q1.1,q2]) q5 he,q1,q3,q2⟩
      .subst h0;have:mR=[]:=by
        grind [aW]
       subst this;exact⟨[],λw' _=>by simp[Builtin.firstCells,loadCells,loadCellsFrom],.nil,by simp,by simp⟩
     have holdlen:mR.length=sn*i.size:=by
      grind [aW]
     split at hx
     ·-- known room
      rename_i hroom;split at hx
      .rename_i hc;cases hx;obtain⟨hg,hfit,_⟩:=hc;cases hr with
       |flat _ hf=>simp[dL] at hf
       |lJ _ a' _ hce=>omega
       |slice _ a' _ _ c' l f1 f2 f3 f4 f5 f6 f7 f8=>
        have hst:rE (a.plus (sn*i.size)) new h=some ((),h.vR a.block (aU c (a.off+sn*i.size) new) g base e1):=by
         exact agB hblk hg (by simp[Addr.plus];omega) (List.all_eq_true.2 S.sc)
        obtain⟨w',hs,R'⟩:=EM R (qS.plus ⟨f1,f2,l,f3,f4,f5⟩ _) S.rel hst;refine⟨_,w',ι,uG ht hxt hi S (some a') sn c' (by omega) hs,?_,R',.refl _⟩;show aM P ι (.slice (some a) (sn+n) sc) _;exact .slice _ _ _ _ _ l f1 f2 f3 f4 f5 (by omega) f7 f8
      .cases hx
     .rename_i hroom;split at hx
      ·-- known to be full
       rename_i hcap;cases hx;have htip:∀g,(h.new e (mR++new)).oz g=if g=h.next+1 then (mR++new).length else h.oz g:=λg=>bj _ _ _ _
       have fin:∀(a':Addr) (c':Nat),(qS ι a a'\/sn=0)->c'<sn+n->gY P W0 ι w (Builtin.append_ #[t,xT] ty #[.slice (some a') sn c',x']) (.slice (some ⟨h.next,0,none⟩) (sn+n) 0) (h.new e (mR++new)):=by
        intro a' c' ha hlt;obtain⟨old',p1,p2,p3,p4⟩:=hsrc a' c' ha;have he:h.new e (mR++new)=h.ext h.next (h.next+1) h.get (.cells (mR++new) (h.next+1) 0 e) (h.new e (mR++new)).oz:=by simp[aj.new,aj.dh,aj.ext]
        rw[he];exact hgrow c' a' old' h.get (h.new e (mR++new)).oz (h.next+1) 0 p1 p2 p3 p4 hlt (λ_ _ x=>x) (by omega) (.inl rfl)
         (λb c g' base' e' hb hg'=>by
          obtain⟨h1,h2⟩:=R.oz b c g' base' e' hb hg';rw[htip,AT (λx=>by subst x;simp at h2;rw[R.unused] at h2;cases h2)];exact h1) (by rw[htip];simp)
       cases hr with
       |flat _ hf=>simp[dL] at hf
       |lJ _ a' _ hce=>grind
       |slice _ a' _ _ c' l f1 f2 f3 f4 f5 f6 f7 f8=>exact fin a' c' (.inl ⟨f1,f2,l,f3,f4,f5⟩) (by omega)
      .rename_i hcap;have hcap:sc=0:=aef λx=>hcap x;subst hcap;split at hx
       .rename_i hc;obtain⟨hg,he1⟩:=hc;subst he1;have both:∀(get':Nat->Option KV) (tip':Nat->Nat),(∀j au,get' j=some au->h.get j=some au) ->
          (∀b c g' base' e',get' b=some (.cells c g' base' e')->g'≠0->base'+c.length<=tip' g')->base+a.off+(mR++new).length<=tip' g ->
          (∀b c' base' e',get' b=some (.cells c' g base' e')->base'+c'.length<=base+a.off+sn*i.size) ->
          gY P W0 ι w (Builtin.append_ #[t,xT] ty #[s',x']) (.slice (some ⟨h.next,0,none⟩) (sn+n) 0) (h.ext h.next (h.next+1) get' (.cells (mR++new) g (base+a.off) e1) tip'):=by
         intro get' tip' q1 q2 q3 q4;have hgn:=(R.oz _ c g base e1 hblk hg).2;have grow:∀(a':Addr) (c':Nat),(qS ι a a'\/sn=0)->c'<sn+n->gY P W0 ι w (Builtin.append_ #[t,xT] ty #[.slice (some a') sn c',x']) (.slice (some ⟨h.next,0,none⟩) (sn+n) 0) (h.ext h.next (h.next+1) get' (.cells (mR++new) g (base+a.off) e1) tip'):=by
          intro a' c' ha hlt;obtain⟨old',p1,p2,p3,p4⟩:=hsrc a' c' ha
          grind
         cases hr with
         |flat _ hf=>simp[dL] at hf
         |lJ _ a' _ hce=>exact grow a' 0 (.inr rfl) (by omega)
         |slice _ a' _ _ c' l f1 f2 f3 f4 f5 f6 f7 f8=>
          by_cases hfit:sn+n<=c'
          .obtain⟨l0,g1,g2,g3,_,_⟩:=R.live _ c g base e1 hblk;rw[f3] at g1;cases g1;have hro:l.ro=false:=(by grind);have hwf:=f8 hro (by omega);subst g2;have hroom2:a'.off+sn*i.size+new.length<=l.size:=by
            have:(sn+n)*i.size<=c'*i.size:=aeQ _ hfit
            grind
           obtain⟨w',ι',hs,hle,hnew,R'⟩:=Nz R f1 f2 f3 f4 f5 hblk hg hold S.rel S.sc hroom2 get' tip' q1 q2 q3 q4;refine⟨_,w',ι',uG ht hxt hi S (some a') sn c' hfit hs,?_,R',hle⟩;exact .slice _ _ _ _ _ _ rfl f2 hnew f4 (by simp only;omega) hfit (.inl rfl) (λ_ _=>hwf)
          .exact grow a' c' (.inl ⟨f1,f2,l,f3,f4,f5⟩) (by omega)
        split at hx
        .rename_i htip;cases hx;have hid:∀{au:KV},(λj=>cond (Nat.beq j h.next) (some au) (idO (h.get j)))=λj=>cond (Nat.beq j h.next) (some au) (h.get j):=by simp
         rw[hid];refine both h.get _ (λ_ _ x=>x) (λb c1 g' base' e' hb hg'=>?_) ?_ (λb c1 base' e' hb=>?_)
         .rw[bj];have:=(R.oz b c1 g' base' e' hb hg').1
          grind
         .rw[bj,By rfl];simp[holdlen];omega
         .have:=(R.oz b c1 g base' e' hb hg).1;omega
        .rename_i htip;split at hx
         .cases hx;have hk:∀j au,(match h.get j with
            |some (.cells c' g' base' elem')=>cond (Nat.beq g' g&&Nat.blt (base+a.off+sn*i.size) (base'+c'.length)) none (some (.cells c' g' base' elem'))
            |o=>o)=some au->h.get j=some au/\(∀c' base' e',au=.cells c' g base' e'->base'+c'.length<=base+a.off+sn*i.size):=by
           intro j au hj;cases hq:h.get j with
           |none=>rw[hq] at hj;cases hj
           |some bl=>
            rw[hq] at hj;cases bl with
            |map es=>grind
            |iter s p=>grind
            |cells c' g' base' e'=>
             simp at hj;cases hb2:(Nat.beq g' g&&Nat.blt (base+a.off+sn*i.size) (base'+c'.length)) with
             |true=>rw[hb2] at hj;cases hj
             |false=>
              rw[hb2] at hj;cases hj;refine⟨rfl,λc2 base2 e2 heq=>?_⟩;cases heq;refine aef λhlt=>?_;have hbl:Nat.blt (base+a.off+sn*i.size) (base'+c'.length)=true:=Nat.ble_eq_true_of_le (by omega)
              grind [Nat.beq_refl]
          refine both _ _ (λj au hj=>(hk j au hj).1) (λb c1 g' base' e' hb hg'=>?_) ?_ (λb c1 base' e' hb=>(hk b _ hb).2 _ _ _ rfl)
          .rw[bj];obtain⟨p1,p2⟩:=hk b _ hb;have:=(R.oz b c1 g' base' e' p1 hg').1;split
           .rename_i hgg;subst hgg;have:=p2 _ _ _ rfl;omega
           .exact this
          .rw[bj,By rfl];simp[holdlen];omega
         .cases hx
       .cases hx
    .cases hx
end Go.Ago
