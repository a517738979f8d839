
import Derived.Test.YtpojbnjkkkiccaaGreatDoorAgoB
import Derived.Lib.Builder
import Derived.Lib.UnsafeStr
import Derived.Laws.StructEq
set_option linter.all false
namespace Go.Ago
open Go
variable {P:Program}{W0:Fz}{ι ι':gO}{h h' h1:ai}{w w':World}
theorem aN.int {k}{n}{v'}(hr:aN P ι (.int k n) v'):v'=.int k n:=by cases hr;rfl
def aN.bool {b}{v'}(hr:aN P ι (.bool b) v'):v'=.bool b:=by cases hr;rfl
theorem aN.str {s}{v'}(hr:aN P ι (.string s) v'):v'=.string s:=by cases hr;rfl
theorem aN.float {k}{n}{v'}(hr:aN P ι (.float k n) v'):v'=.float k n:=by cases hr;rfl
def aN.nilIface {v'}(hr:aN P ι .nilIface v'):v'=.nilIface:=by cases hr;rfl
def aN.Li {a}{v'}(hr:aN P ι (.pointer (some a)) v'):∃a',v'=.pointer (some a')/\rO ι a a':=by
 cases hr with
 |flat _ hf=>simp[dO] at hf
 |ptr _ a' ha=>exact⟨a',rfl,ha⟩
theorem aN.ac8 {p}{v'}(hr:aN P ι (.pointer p) v'):∃p',v'=.pointer p'/\p'.isNone=p.isNone/\∀a,p=some a->∃a',p'=some a'/\rO ι a a':=by
 cases hr with
 |flat _ hf=>cases p with
  |none=>grind
  |some a=>simp[dO] at hf
 |ptr a a' ha=>grind
theorem aN.slO {a}{n c}{v'}(hr:aN P ι (.slice a n c) v'):∃a' c',v'=.slice a' n c'/\a'.isNone=a.isNone:=by
 cases hr with
 |flat _ hf=>grind
 |slice a a' n c c'=>grind
 |lP a a' c=>grind
def gF (P:Program)(W0:Fz)(ι:gO)(w:World)(s:Sem ξ)(v:ξ)(h1:ai):Prop:=
 ∃v' w' ι',s.run P w=.ok v' w'/\aN P ι' v v'/\Rel P W0 ι' h1 w'/\ι.le ι'
def Re (P:Program)(W0:Fz)(ι:gO)(w:World)(s:Sem Next)(v:ξ)(h1:ai):Prop:=
 ∃v' w' ι',(s.run P w=.ok (.value v') w'\/(s.run P w=.ok .skip w'/\v'=undef))/\aN P ι' v v'/\Rel P W0 ι' h1 w'/\ι.le ι'
theorem gF.o {s}{v}(hs:gF P W0 ι w s v h1):Re P W0 ι w (do pure (.value (<-s))) v h1:=by
 obtain⟨v',w',ι',hr,a,b,c⟩:=hs;exact⟨v',w',ι',.inl (by simp[hr]),a,b,c⟩
def Re.pure {v v'}(hv:aN P ι v v')(R:Rel P W0 ι h w):Re P W0 ι w (Pure.pure (.value v')) v h:=⟨v',w,ι,.inl rfl,hv,R,.refl _⟩
theorem aK {E}{a:Go.Act}(HE:lv P ι E a.tmps){x}{v}(hv:E.ev x=some v):aN P ι v (a.eval x):=by
 cases x with
 |tmp t=>
  obtain⟨v',h1,h2⟩:=HE t v hv;simp[Act.eval,amK,h1];exact h2
 |const u=>
  simp[Env.ev] at hv;split at hv
  .rename_i hf;cases hv;exact .of_flat hf
  .cases hv
 |global g=>simp[Env.ev] at hv
 |func f=>simp[Env.ev] at hv;subst hv;exact .func _ _ _ _ _ rfl (by simp) rfl (by simp)
theorem L4 {E}{a:Go.Act}(HE:lv P ι E a.tmps):∀{xs} {vs},E.QW xs=some vs->aW P ι vs (xs.map a.eval)
 |[],vs,hv=>by simp[Env.QW] at hv;subst hv;exact .nil
 |x::xs,vs,hv=>by
  simp[Env.QW] at hv;split at hv
  .rename_i v vs' h1 h2;cases hv;exact aW.cons (aK HE h1) (L4 HE h2)
  .cases hv
def lQ {t}{n}(hs:bU P t=some n):∀w,(sizeOf t).run P w=.ok n w:=by
 unfold bU at hs;split at hs
 .rename_i i hi;cases hs;simp[sizeOf,typeInfo,hi]
 .cases hs
theorem M6 {t}{n}(hs:bU P t=some n):szT P t=n:=by
 grind [bU,szT]
def aI {t}{d}(hd:P.underlying t=some d) w:(underlying t).run P w=.ok d w:=run_underlying hd w
def uA {t}{d}(hd:P.underlying t=some d) w:(isAgg t).run P w=.ok (Bu d) w:=by
 cases d<;>simp[isAgg,aI hd,Bu]
def fE {t}{z}(hz:zeroOf P t=some z):z.cells.toList.all dO=true/\(∀w,(zeroValue t).run P w=.ok z w)/\bU P t=some z.cells.size/\∃i,P.info? t=some i/\i.zero=some z/\i.size=z.cells.size:=by
 unfold zeroOf at hz;split at hz
 .rename_i i hi;split at hz
  .rename_i v hv;split at hz
   .rename_i hc;cases hz;simp only[abw] at hc;have hc:=And.intro hc.1 (IT hc.2);exact⟨hc.1,λw=>by simp[zeroValue,typeInfo,hi,hv],by simp[bU,hi,hc.2],i,hi,hv,hc.2.symm⟩
   .cases hz
  .cases hz
 .cases hz
theorem vg {v}(hv:dO v=true):fk v=true:=by cases v<;>simp_all[dO,fk]
theorem Jo (R:Rel P W0 ι h w){nm}{e}{cs cs'}{b}(hn:iI nm e cs h=some (b,h1))(hl:aW P ι cs cs') :
  gF P W0 ι w (do pure (.pointer (some (<-newRow e cs'.toArray)))) (.pointer (some ⟨b,0,none⟩)) h1:=by
 have fin:∀(k next':Nat),h.used k=false->k<next'/\h.next<=next'->cs.all fk=true ->
   gF P W0 ι w (do pure (.pointer (some (<-newRow e cs'.toArray)))) (.pointer (some ⟨k,0,none⟩)) (h.cM k next' e cs):=by
  intro k next' h1 h2 hsc
  obtain⟨ι',hle,hnew,R'⟩:=R.put k next' h1 h2 e cs cs' [] (0,0) (by simp) hl (List.all_eq_true.1 hsc)
  exact⟨.pointer (some ⟨w.heap.size,0,none⟩),_,ι',by simp[newRow],.ptr _ _ ⟨rfl,rfl,_,hnew,rfl,rfl⟩,R',hle⟩
 unfold iI at hn;split at hn
 .rename_i hsc;cases nm with
  |none=>cases hn;exact fin _ _ R.unused ⟨by omega,by omega⟩ hsc
  |some k=>
   grind
 .cases hn
theorem OS (R:Rel P W0 ι h w){t}{z}(hz:zeroOf P t=some z){nm}{b}(hn:iI nm t z.cells.toList h=some (b,h1)) :
  gF P W0 ι w (Instr.alloc t true (.tuple #[])) (.pointer (some ⟨b,0,none⟩)) h1:=by
 obtain⟨hf,hz1,_⟩:=fE hz;obtain⟨v',w',ι',hr,x⟩:=Jo R hn (aW.flat hf);refine⟨v',w',ι',?_,x⟩;simp at hr;simp[Instr.alloc,hz1,newVar,hr]
theorem VN (R:Rel P W0 ι h w){t}{v v'}(hv:aN P ι v v'){nm}{b}(hn:iI nm t v.cells.toList h=some (b,h1)) :
  gF P W0 ι w (Instr.box t v') (.pointer (some ⟨b,0,none⟩)) h1:=by
 obtain⟨u',w',ι',hr,x⟩:=Jo R hn hv.cells;refine⟨u',w',ι',?_,x⟩;simp at hr;simp[Instr.box,newVar,hr]
theorem vA:∀{l} {v} {x},D6 l v=some x->v=QX l x
 |.int k,v,x,hx=>by
  cases k<;>cases v<;>simp[D6] at hx<;>(rename_i k' n;cases k'<;>simp[D6] at hx)<;>(subst hx;rfl)
 |.bool,v,x,hx=>by cases v<;>simp[D6] at hx;subst hx;rfl
 |.str,v,x,hx=>by cases v<;>simp[D6] at hx;subst hx;rfl
 |.ptr,v,x,hx=>by cases v<;>simp[D6] at hx;subst hx;rfl
 |.ak,v,x,hx=>by
  cases v with
  |pointer p=>cases p<;>simp[D6] at hx;subst hx;rfl
  |_=>simp[D6] at hx
 |.sl,v,x,hx=>by cases v<;>simp[D6] at hx;subst hx;rfl
 |.mp,v,x,hx=>by cases v<;>simp[D6] at hx;subst hx;rfl
 |.raw,v,x,hx=>by simp only[D6] at hx;cases hx;rfl
 |.f64,v,x,hx=>by
  cases v<;>simp[D6] at hx;rename_i k n;cases k<;>simp at hx;subst hx;rfl
def OT {l}{a}{x}(hx:dL l a h=some (x,h1)):h1=h/\h.cell a=some (QX l x):=by
 unfold dL at hx;split at hx
 .rename_i v hv;split at hx
  .rename_i y hy;cases hx;exact⟨rfl,by rw[hv,vA hy]⟩
  .cases hx
 .cases hx
def HJ (R:Rel P W0 ι h w){a a'}(ha:rO ι a a'):∀ls i acc acc' v ,
  (Fm a ls i acc).exec h=some (v,h1)->aW P ι acc.reverse acc' ->
  h1=h/\∃vs:δ,(loadCellsFrom a' i ls.length acc'.toArray).run P w=.ok vs.toArray w/\aN P ι v (.agg vs.toArray)
 |[],i,acc,acc',v,hx,hl=>by
  obtain⟨rfl,rfl⟩:=hx;refine⟨rfl,acc',by simp[loadCellsFrom],.agg _ _ (by simpa using hl.1) λj u u' p q=>hl.2 j u u' (by simpa using p) (by simpa using q)⟩
 |l::ls,i,acc,acc',v,hx,hl=>by
  simp[Fm,Act.exec] at hx;split at hx
  .rename_i x h2 hq;obtain⟨e0,hc⟩:=OT hq;rw[e0] at hx;obtain⟨u',hu,_,hr⟩:=R.cell (rO.plus ha i) hc;obtain⟨e1,vs,e2,e3⟩:=HJ R ha ls (i+1) (QX l x::acc) (acc'++[u']) v hx (by simpa using hl.append (aW.cons hr .nil));exact⟨e1,vs,by simpa[loadCellsFrom,hu] using e2,e3⟩
  .cases hx
def GM:∀{ls} {vs} {x},D7 ls vs=some x->vs=Le ls x
 |[],[],_,_=>rfl
 |[],_::_,_,hx=>by cases hx
 |[l],[],_,hx=>by cases hx
 |[l],[v],x,hx=>by rw[Le,<-vA hx]
 |[l],_::_::_,_,hx=>by cases hx
 |l::l'::ls,[],_,hx=>by cases hx
 |l::l'::ls,v::vs,x,hx=>by
  simp[D7] at hx;split at hx
  .rename_i a b ha hb;cases hx;rw[Le,<-vA ha,<-GM hb]
  .cases hx
theorem OU {a}:∀ls vs x i acc ,D7 ls vs=some x->(∀j v,vs[j]?=some v->h.cell (a.plus (i+j))=some v) ->
  (Fm a ls i acc).exec h=some (.agg (acc.reverse++vs).toArray,h)
 |[],[],x,i,acc,hx,hc=>by simp[Fm,Act.exec]
 |[],_::_,_,_,_,hx,_=>by cases hx
 |[l],[],_,_,_,hx,_=>by cases hx
 |[l],[v],x,i,acc,hx,hc=>by
  have h0:=hc 0 v rfl;have hx:D6 l v=some x:=hx;simp only[Fm,Act.exec,dL,show a.plus i=a.plus (i+0) from rfl,h0,hx]
  grind [vA]
 |[l],_::_::_,_,_,_,hx,_=>by cases hx
 |l::l'::ls,[],_,_,_,hx,_=>by cases hx
 |l::l'::ls,v::vs,x,i,acc,hx,hc=>by
  simp[D7] at hx;split at hx
  .rename_i y z hy hz;have h0:=hc 0 v rfl;have ih:=OU (l'::ls) vs z (i+1) (QX l y::acc) hz λj u hu=>by
    have:=hc (j+1) u (by simpa using hu)
    rwa [show i+(j+1)=i+1+j by omega] at this
   rw[Fm];simp[Act.exec,dL,show a.plus i=a.plus (i+0) from rfl,h0,hy]
   grind [vA]
  .cases hx
theorem YK {a}{ls}{x}(hx:cT ls a h=some (x,h1)):h1=h/\(Fm a ls 0 []).exec h=some (.agg (Le ls x).toArray,h):=by
 unfold cT at hx;split at hx
 .rename_i vs hv;split at hx
  .rename_i y hy;cases hx;rw[<-GM hy];have:=OU (a:=a) (h:=h) ls vs _ 0 [] hy λj v hj=>by
    grind [bu,ai.cell,Addr.plus]
   simpa using this
  .cases hx
 .cases hx
def L5 (R:Rel P W0 ι h w){t}{a a'}(ha:rO ι a a'){v}(hx:(Q8 P t a).exec h=some (v,h1)) :
  h1=h/\∃v',(loadVar t a').run P w=.ok v' w/\aN P ι v v':=by
 unfold Q8 at hx;split at hx
 .rename_i d n hd hn;split at hx
  .rename_i hag;split at hx
   .rename_i ls hls;split at hx
    .rename_i hlen;have hlen:=IT hlen;simp[Act.exec] at hx;split at hx
     .rename_i y h2 hq;cases hx;obtain⟨e0,hx⟩:=YK hq;subst e0;obtain⟨_,vs,e2,e3⟩:=HJ R ha ls 0 [] [] _ hx .nil;refine⟨rfl,_,?_,e3⟩;simp[loadVar,uA hd,hag,lQ hn,<-hlen,loadCells,e2]
     .cases hx
    .simp[Act.exec] at hx
   .simp[Act.exec] at hx
  .rename_i hag;split at hx
   .simp[Act.exec] at hx;split at hx
    .rename_i x h2 hq;cases hx;obtain⟨rfl,hc⟩:=OT hq;obtain⟨u',hu,_,hr⟩:=R.cell ha hc;exact⟨rfl,u',by simp[loadVar,uA hd,hag,hu],hr⟩
    .cases hx
   .simp[Act.exec] at hx
 .simp[Act.exec] at hx
theorem sS P g o t fz:∀vs i cur w ,w.heap[g]?=some (.cells cur t fz)->o+i+vs.length<=cur.size ->
  (∀j,j<cur.size->(decide (fz.1<=j)&&decide (j<fz.2))=false)->(∀v∈vs,v.oneCell'=true) ->
  (storeCells ⟨g,o,none⟩ vs i).run P w=.ok () (w.setRow g (cur.toList.take (o+i)++vs++cur.toList.drop (o+i+vs.length)).toArray)
 |[],i,cur,w,hg,_,_,_=>by
  simp only[storeCells,afx,agt,ak4,anM,ao4];rw[setRow_self w g cur t fz hg];rfl
 |v::rest,i,cur,w,hg,hl,hfr,h1=>by
  have hi:o+i<cur.size:=by simp at hl;omega
  have hadd:(⟨g,o,none⟩:Addr).add i=⟨g,o+i,none⟩:=by unfold Addr.add;split<;>simp_all
  have hcell:w.cell? ⟨g,o+i,none⟩=some cur[o+i]:=by simp[World.cell?,hg,hi]
  have hfro:w.frozen? ⟨g,o+i,none⟩=false:=by simp only[World.frozen?,hg];exact hfr _ hi
  have hst:(store ((⟨g,o,none⟩:Addr).add i) v).run P w=.ok () (w.setRow g (cur.setIfInBounds (o+i) v)):=by
   grind [run_store,setCell_eq_setRow]
  have ih:=sS P g o t fz rest (i+1) (cur.setIfInBounds (o+i) v) (w.setRow g (cur.setIfInBounds (o+i) v)) (setRow_heap w g cur _ t _ hg) (by simp at hl⊢;omega)
   (by simpa using hfr) (λx hx=>h1 x (by simp[hx]))
  simp only[storeCells,Sem.run_bind,hst,Result.andThen_ok,ih,setRow_setRow]
  congr 3
  have e:=list_seg_step cur.toList (o+i) v rest (by omega);simpa[aod] using e
theorem GN (R:Rel P W0 ι h w){a a'}(ha:rO ι a a'){vs vs'}(hl:aW P ι vs vs'){x}(hx:rN a vs h=some (x,h1)) :
  ∃w',(storeCells a' vs').run P w=.ok () w'/\Rel P W0 ι h1 w':=by
 unfold rN at hx;split at hx
 .rename_i c g base e hb;split at hx
  .rename_i hc;cases hx;obtain⟨hg,hfit,hsc⟩:=hc;obtain⟨h1,h2,l,hl1,hl2,hl3⟩:=ha;obtain⟨l0,e1,e2,e3,e4,e5⟩:=R.live _ c g base e hb;rw[hl1] at e1;cases e1;obtain⟨cc,fz,hh,q1,q2⟩:=R.loc _ l hl1;have hro:l.ro=false:=by grind
   have hU:=R.wj hb hg hl1 hh hfit hl (List.all_eq_true.1 hsc);have hone:∀v∈vs',v.oneCell'=true:=by
    intro v' hv';obtain⟨i,hi⟩:=List.mem_iff_getElem?.1 hv';have hlt:i<vs.length:=(by have:=(List.getElem?_eq_some_iff.1 hi).1;have:=hl.1;omega);exact (hl.2 i vs[i] v' (by simp[hlt]) hi).TM (List.all_eq_true.1 hsc _ (anJ hlt))
   have hst:=sS P l.ar a'.off l.elem fz vs' 0 cc w hh (by have:=hl.1;omega) ((q2 hro).2 ⟨_,l,c,g,base,e,hl1,rfl,hb⟩) hone;refine⟨_,?_,hU⟩;have:a'=⟨l.ar,a'.off,none⟩:=by cases a';simp_all
   grind [aM]
  .cases hx
 .cases hx
def OW (R:Rel P W0 ι h w){t}{a a'}(ha:rO ι a a'){v v'}(hv:aN P ι v v'){n}(hn:bU P t=some n)(hs:v.cells.size=n)
  {x} (hx:rN a v.cells.toList h=some (x,h1)):∃w',(storeVar t a' v').run P w=.ok () w'/\Rel P W0 ι h1 w':=by
 obtain⟨w',hr,R'⟩:=GN R ha hv.cells hx;refine⟨w',?_,R'⟩;have hc:=hv.cells.1;simp at hc;simp[storeVar,lQ hn,<-hs,hc,hr]
theorem M7 {k k'}(hk:Q7 k k'=true):k=k':=by cases k<;>cases k'<;>simp_all[Q7,TE]
theorem BA {b}{x}(hx:pD b h=some (x,h1)):b=true/\h1=h:=by
 unfold pD at hx;grind
def gF.ret {s}{v v'}(hs:s.run P w=.ok v' w)(hv:aN P ι v v')(R:Rel P W0 ι h w):gF P W0 ι w s v h:=⟨v',w,ι,hs,hv,R,.refl _⟩
def aN.CF {k}{n}:aN P ι (.float k n) (.float k n):=.flat _ rfl
theorem aN.ofInt {k}{n}:aN P ι (.int k n) (.int k n):=.flat _ rfl
def aN.ofBool {b}:aN P ι (.bool b) (.bool b):=.flat _ rfl
def aN.ofStr {s}:aN P ι (.string s) (.string s):=.flat _ rfl
theorem YL (R:Rel P W0 ι h w) op t k k' a b v
  (hx:(Oz op k a k' b).exec h=some (v,h1)):gF P W0 ι w (binOp op t (.int k a) (.int k' b)) v h1:=by
 unfold Oz at hx;split at hx
 .simp[Act.exec] at hx;split at hx
  .rename_i u h2 hc;obtain⟨hb,rfl⟩:=BA hc;cases hx;simp at hb;exact .ret (by simp[binOp,Op.shift,show ¬b<0 by omega]) .ofInt R
  .cases hx
 .simp[Act.exec] at hx;split at hx
  .rename_i u h2 hc;obtain⟨hb,rfl⟩:=BA hc;cases hx;simp at hb;exact .ret (by simp[binOp,Op.shift,show ¬b<0 by omega]) .ofInt R
  .cases hx
 .split at hx
  .simp[Act.exec] at hx
  .rename_i hk;obtain rfl:=M7 hk;split at hx
   .cases hx;exact .ret (by simp[binOp,Op.intArith]) .ofInt R
   .cases hx;exact .ret (by simp[binOp,Op.intArith]) .ofInt R
   .cases hx;exact .ret (by simp[binOp,Op.intArith]) .ofInt R
   .simp only[Act.exec] at hx;split at hx
    .rename_i u h2 hc;obtain⟨hb,rfl⟩:=BA hc;cases hx;simp at hb;exact .ret (by simp[binOp,Op.intDiv,hb]) .ofInt R
    .cases hx
   .simp only[Act.exec] at hx;split at hx
    .rename_i u h2 hc;obtain⟨hb,rfl⟩:=BA hc;cases hx;simp at hb;exact .ret (by simp[binOp,Op.intDiv,hb]) .ofInt R
    .cases hx
   .cases hx;exact .ret (by unfold binOp;simp only[ne_eq,aio,afM];rfl) .ofInt R
   .cases hx;exact .ret (by unfold binOp;simp only[ne_eq,aio,afM];rfl) .ofInt R
   .cases hx;exact .ret (by unfold binOp;simp only[ne_eq,aio,afM];rfl) .ofInt R
   .cases hx;exact .ret (by unfold binOp;simp only[ne_eq,aio,afM];rfl) .ofInt R
   .cases hx;exact .ret (by simp[binOp,Op.intCmp];rfl) .ofBool R
   .cases hx;exact .ret (by simp[binOp,Op.intCmp];rfl) .ofBool R
   .cases hx;exact .ret (by simp[binOp,Op.intCmp]) .ofBool R
   .cases hx;exact .ret (by simp[binOp,Op.intCmp]) .ofBool R
   .cases hx;exact .ret (by simp[binOp,Op.intCmp]) .ofBool R
   .cases hx;exact .ret (by simp[binOp,Op.intCmp]) .ofBool R
   .simp[Act.exec] at hx
theorem CG {o}{r}(hx:Lf o h=some (r,h1)):o=some r/\h1=h:=by
 unfold Lf at hx
 grind
theorem YM (R:Rel P W0 ι h w) op t a b v
  (hx:(OJ op a b).exec h=some (v,h1)):gF P W0 ι w (binOp op t (.float .f64 a) (.float .f64 b)) v h1:=by
 unfold OJ at hx;split at hx
 .simp[Act.exec] at hx;split at hx
  .rename_i r h2 hc;obtain⟨e1,rfl⟩:=CG hc;cases hx;exact .ret (by simp[binOp,Op.floatArith,e1]) .CF R
  .cases hx
 .simp[Act.exec] at hx;split at hx
  .rename_i r h2 hc;obtain⟨e1,rfl⟩:=CG hc;cases hx;exact .ret (by simp[binOp,Op.floatArith,e1]) .CF R
  .cases hx
 .simp[Act.exec] at hx;split at hx
  .rename_i r h2 hc;obtain⟨e1,rfl⟩:=CG hc;cases hx;exact .ret (by simp[binOp,Op.floatArith,e1]) .CF R
  .cases hx
 .simp[Act.exec] at hx;split at hx
  .rename_i r h2 hc;obtain⟨e1,rfl⟩:=CG hc;cases hx;exact .ret (by simp[binOp,Op.floatArith,e1]) .CF R
  .cases hx
 .cases hx;exact .ret (by simp[binOp,Op.floatCmp,AH]) .ofBool R
 .cases hx;exact .ret (by simp[binOp,Op.floatCmp,AH,bne]) .ofBool R
 .cases hx;exact .ret (by simp[binOp,Op.floatCmp,Yw]) .ofBool R
 .cases hx;exact .ret (by simp[binOp,Op.floatCmp,Yw,AH]) .ofBool R
 .cases hx;exact .ret (by simp[binOp,Op.floatCmp,Q9]) .ofBool R
 .cases hx;exact .ret (by simp[binOp,Op.floatCmp,Q9,AH]) .ofBool R
 .simp[Act.exec] at hx
theorem YN (R:Rel P W0 ι h w) op t a b v
  (hx:(OA op a b).exec h=some (v,h1)):gF P W0 ι w (binOp op t (.string a) (.string b)) v h1:=by
 unfold OA at hx;split at hx
 .simp[Act.exec] at hx;split at hx
  .rename_i u h2 hc;unfold kc at hc;split at hc
   .cases hc;cases hx;rename_i hsz;unfold da at hsz;refine .ret ?_ .ofStr R;simp only[binOp,Op.stringOp,IntKind.max_i64];rw[AT (by omega)];rfl
   .cases hc
  .cases hx
 .cases hx;exact .ret (by simp[binOp,Op.stringOp,sM]) .ofBool R
 .cases hx;exact .ret (by simp[binOp,Op.stringOp,sM]) .ofBool R
 .cases hx;exact .ret (by simp[binOp,Op.stringOp,ltS]) .ofBool R
 .cases hx;exact .ret (by simp[binOp,Op.stringOp,sM,ltS]) .ofBool R
 .cases hx;exact .ret (by simp[binOp,Op.stringOp,sM,ltS]) .ofBool R
 .cases hx;exact .ret (by simp[binOp,Op.stringOp,ltS]) .ofBool R
 .simp[Act.exec] at hx
def jY (R:Rel P W0 ι h w){op}{t}{u1 u2 v}{b}(h1':∀w,(Op.equal t u1 u2).run P w=.ok b w)
  (he:binOp .eql t u1 u2=(do pure (.bool (<-Op.equal t u1 u2)))) (hn:binOp .neq t u1 u2=(do pure (.bool (!(<-Op.equal t u1 u2)))))
  (hx:(AG op b).exec h=some (v,h1)):gF P W0 ι w (binOp op t u1 u2) v h1:=by
 unfold AG at hx;split at hx
 .cases hx;rw[he];exact .ret (by simp[h1']) .ofBool R
 .cases hx;rw[hn];exact .ret (by simp[h1']) .ofBool R
 .simp[Act.exec] at hx
def ac9 d {t}{ms}(hd:P.underlying t=some (.interface ms)) w:(Op.equalIn (d+1) t .nilIface .nilIface).run P w=.ok true w:=by
 simp[Op.equalIn,aI hd]
def ada d {t}{ms}(hd:P.underlying t=some (.interface ms)) e v w:(Op.equalIn (d+1) t (.iface e v) .nilIface).run P w=.ok false w:=by
 simp[Op.equalIn,aI hd]
def VO d {t}(hd:P.underlying t=some .bool) a b w:(Op.equalIn (d+1) t (.bool a) (.bool b)).run P w=.ok (a==b) w:=by
 simp[Op.equalIn,aI hd]
def adb d {t e}(hd:P.underlying t=some (.slice e)) a n c n' c' w:(Op.equalIn (d+1) t (.slice a n c) (.slice none n' c')).run P w=.ok a.isNone w:=by
 cases a<;>simp[Op.equalIn,aI hd]
def YO d {t e}(hd:P.underlying t=some (.pointer e)) a w:(Op.equalIn (d+1) t (.pointer a) (.pointer none)).run P w=.ok a.isNone w:=by
 cases a<;>simp[Op.equalIn,aI hd]
def YP d {t k e}(hd:P.underlying t=some (.map k e)) a w:(Op.equalIn (d+1) t (.map a) (.map none)).run P w=.ok a.isNone w:=by
 cases a<;>simp[Op.equalIn,aI hd]
def YQ {t}{ms}(hd:P.underlying t=some (.interface ms)) w:(Op.equal t .nilIface .nilIface).run P w=.ok true w:=ac9 9999 hd w
def YS {t}{ms}(hd:P.underlying t=some (.interface ms)) d v w:(Op.equal t (.iface d v) .nilIface).run P w=.ok false w:=ada 9999 hd d v w
def YT {t}(hd:P.underlying t=some .bool) a b w:(Op.equal t (.bool a) (.bool b)).run P w=.ok (a==b) w:=VO 9999 hd a b w
def ah9 {t e}(hd:P.underlying t=some (.slice e)) a n c n' c' w:(Op.equal t (.slice a n c) (.slice none n' c')).run P w=.ok a.isNone w:=adb 9999 hd a n c n' c' w
def ade {t e}(hd:P.underlying t=some (.pointer e)) a w:(Op.equal t (.pointer a) (.pointer none)).run P w=.ok a.isNone w:=YO 9999 hd a w
def TQ {t k e}(hd:P.underlying t=some (.map k e)) a w:(Op.equal t (.map a) (.map none)).run P w=.ok a.isNone w:=YP 9999 hd a w
theorem YU {t e}{i}(hd:P.underlying t=some (.pointer e))(hi:P.info? e=some i) a w:(Op.equal t (.pointer (some a)) (.pointer (some a))).run P w=.ok true w:=by
 have h:∀d:Nat,(Op.equalIn (d+1) t (.pointer (some a)) (.pointer (some a))).run P w=.ok true w:=λd=>by
  simp[Op.equalIn,run_underlying hd,sizeOf,typeInfo,hi,run_sameAddr_same]
 exact h 9999
theorem M8 {e}{n}(hs:bU P e=some n):∃i,P.info? e=some i/\i.size=n:=by
 grind [bU]
theorem rO.same {a b a' b'}(ha:rO ι a a')(hb:rO ι b b')(he:(Nat.beq a.block b.block&&Nat.beq a.off b.off)=true):a'=b':=by
 obtain⟨_,h2,l,h3,h4,h5⟩:=ha;obtain⟨_,k2,m,k3,k4,k5⟩:=hb;rw[abw] at he;rw[IT he.1] at h3;cases a';cases b'
 simp_all
theorem Lj (R:Rel P W0 ι h w){op}{t}{x}{c}{u1 u1' v}(r1:aN P ι u1 u1')(hx:(IK P op t u1).exec h=some (v,h1)) :
  gF P W0 ι w (do eqGuard op t x (.const c) u1' .nilIface;binOp op t u1' .nilIface) v h1:=by
 unfold IK at hx;split at hx
 .rename_i hd;simp[Act.exec] at hx;split at hx
  .rename_i b h2 hc;cases hx;unfold kR at hc;split at hc
   .cases hc;obtain rfl:=r1.nilIface;rw[eqGuard_nil_constR];exact jY (op:=.eql) R (YQ hd) rfl rfl rfl
   .cases hc;cases r1 with
    |flat _ hf=>simp[dO] at hf
    |iface t' v1 v1' hv=>exact jY (op:=.eql) R (YS hd _ _) rfl rfl rfl
   .cases hc
  .cases hx
 .rename_i hd;simp[Act.exec] at hx;split at hx
  .rename_i b h2 hc;cases hx;unfold kR at hc;split at hc
   .cases hc;obtain rfl:=r1.nilIface;rw[eqGuard_nil_constR];exact jY (op:=.neq) R (YQ hd) rfl rfl rfl
   .cases hc;cases r1 with
    |flat _ hf=>simp[dO] at hf
    |iface t' v1 v1' hv=>exact jY (op:=.neq) R (YS hd _ _) rfl rfl rfl
   .cases hc
  .cases hx
 .simp[Act.exec] at hx
theorem aN.M9 {v v'}(hr:aN P ι v v')(hf:dO v=true):v'=v:=by
 cases hr with
 |flat=>rfl
 |agg cs cs' hs hv=>grind [absurd,dO]
 |_=>simp[dO] at hf
def OX {t}{x y}{b}(h:eq1 P t x y=some b):dO x=true/\dO y=true/\∃d,P.underlying t=some d/\Bu d=false:=by
 unfold eq1 at h;split at h
 .split at h
  .rename_i hd;exact⟨rfl,rfl,_,hd,rfl⟩
  .cases h
 .split at h
  .rename_i hd;exact⟨rfl,rfl,_,hd,rfl⟩
  .cases h
 .split at h
  .rename_i hd;exact⟨rfl,rfl,_,hd,rfl⟩
  .cases h
 .cases h
theorem adf {t}{x y}{b}(h:eq1 P t x y=some b) d w:(Op.equalIn (d+1) t x y).run P w=.ok b w:=by
 unfold eq1 at h;split at h
 .grind [M7,run_equalIn_int]
 .grind [run_equalIn_bool]
 .grind [run_equalIn_string,sM]
 .cases h
def Jp {t}{d}(hd:P.underlying t=some d)(hs:Bu d=false){cs}{o}{v}(h:cs[o]?=some v) w:(part t cs o).run P w=.ok v w:=by
 simp[part,uA hd,hs,h]
theorem OY {xs ys}:∀fs o b d w ,OB P fs o (xs.toList.drop o) (ys.toList.drop o)=some b->(Op.eqFields (d+1) xs ys fs).run P w=.ok b w
 |[],o,b,d,w,h=>by
  unfold OB at h;split at h
  .cases h;simp[Op.eqFields]
  .cases h
 |f::fs,o,b,d,w,h=>by
  unfold OB at h;split at h
  .rename_i x xs' y ys' hx hy;split at h
   .rename_i hn ho;split at h
    .rename_i a ha;split at h
     .rename_i b' hb;cases h;have ho:=IT ho;have hn : f.name ≠ "_" := by grind
      obtain⟨_,_,dd,hd,hg⟩:=OX ha;have hx0:xs[o]?=some x:=by
       rw[<-ahP,<-ak4 o,<-al0,hx];rfl
      have hy0:ys[o]?=some y:=by
       rw[<-ahP,<-ak4 o,<-al0,hy];rfl
      have hxt:xs.toList.drop (o+1)=xs':=(by rw[<-anP,hx];rfl);have hyt:ys.toList.drop (o+1)=ys':=(by rw[<-anP,hy];rfl);have ih:=OY (ys:=ys) fs (o+1) b' d w (by rw[hxt,hyt];exact hb);unfold Op.eqFields;rw[By hn,ho];simp[Sem.run_bind,Jp hd hg hx0,Jp hd hg hy0,Result.andThen_ok,adf ha d w]
      grind
     .cases h
    .cases h
   .cases h
  .cases h
theorem L6:∀fs o xs ys b ,OB P fs o xs ys=some b->(∀v∈xs,dO v=true)/\(∀v∈ys,dO v=true)
 |[],o,xs,ys,b,h=>by
  grind [OB,absurd]
 |f::fs,o,xs,ys,b,h=>by
  unfold OB at h;split at h
  .split at h
   .split at h
    .rename_i a ha;split at h
     .rename_i b' hb;obtain⟨h1,h2,_⟩:=OX ha;obtain⟨h3,h4⟩:=L6 fs _ _ _ _ hb
      grind
     .cases h
    .cases h
   .cases h
  .cases h
theorem aN.TT {cs}{v'}(hr:aN P ι (.agg cs) v')(hf:∀v∈cs.toList,dO v=true):v'=.agg cs:=by
 cases hr with
 |flat=>rfl
 |agg _ cs' hs hv=>
  congr 1
  apply apq;intro i;cases h1:cs[i]? with
  |none=>
   grind
  |some v=>
   have hi:i<cs'.size:=by grind
   have h2:cs'[i]?=some cs'[i]:=alV hi;rw[h2];have:=(hv i v _ h1 h2).M9 (hf v (by grind));rw[this]
theorem OZ {a b}{r}(hx:eqP a b h=some (r,h1)):h1=h/\r=true/\∃x y,a=some x/\b=some y/\(Nat.beq x.block y.block&&Nat.beq x.off y.off)=true:=by
 unfold eqP at hx
 grind
def O0 (R:Rel P W0 ι h w){op}{t e}{x y}{a b}{u1' u2' v}(r1:aN P ι (.pointer a) u1')(r2:aN P ι (.pointer b) u2')(hd:P.underlying t=some (.pointer e)){n}(hs:bU P e=some n)
  (hx:(Act.ask Bool (eqP a b) λr=>AG op r).exec h=some (v,h1)):gF P W0 ι w (do eqGuard op t x y u1' u2';binOp op t u1' u2') v h1:=by
 simp[Act.exec] at hx;split at hx
 .rename_i r h2 hr;obtain⟨rfl,rfl,a,b,rfl,rfl,he⟩:=OZ hr;obtain⟨a',rfl,ha⟩:=r1.Li;obtain⟨b',rfl,hb⟩:=r2.Li;rw[eqGuard_at_pointer];obtain⟨i,hi,_⟩:=M8 hs;rw[rO.same ha hb he];exact jY R (YU hd hi _) rfl rfl hx
 .cases hx
theorem Rf (R:Rel P W0 ι h w){op}{t}{x y}{u1 u2 u1' u2' v}(r1:aN P ι u1 u1')(r2:aN P ι u2 u2')
  (hy:u2=.nilIface->∃c,y=.const c) (hx:(Yz P op t u1 u2).exec h=some (v,h1)):gF P W0 ι w (do eqGuard op t x y u1' u2';binOp op t u1' u2') v h1:=by
 unfold Yz at hx;split at hx
 .obtain⟨c,rfl⟩:=hy rfl;obtain rfl:=r2.nilIface
  grind [Lj]
 .unfold Yy at hx;split at hx
  .obtain rfl:=r1.int;grind [r2.int,eqGuard_at_int,YL]
  .obtain rfl:=r1.str;grind [r2.str,eqGuard_at_string,YN]
  .obtain rfl:=r1.float;grind [r2.float,eqGuard_at_float,YM]
  .obtain rfl:=r1.bool;obtain rfl:=r2.bool;rw[eqGuard_at_bool];split at hx
   .rename_i hd;exact jY R (YT hd _ _) rfl rfl hx
   .simp[Act.exec] at hx
  .obtain⟨a',c',rfl,hn⟩:=r1.slO;obtain⟨a2',c2',rfl,hn2⟩:=r2.slO;have:a2'=none:=by cases a2'<;>simp_all
   subst this;rw[eqGuard_at_slice];split at hx
   .rename_i hd;rw[<-hn] at hx;exact jY R (ah9 hd _ _ _ _ _) rfl rfl hx
   .simp[Act.exec] at hx
  .obtain⟨p',rfl,hn,_⟩:=r1.ac8;obtain⟨p2',rfl,hn2,_⟩:=r2.ac8;have:p2'=none:=by cases p2'<;>simp_all
   subst this;rw[eqGuard_at_pointer];split at hx
   .rename_i hd;rw[<-hn] at hx;exact jY R (ade hd _) rfl rfl hx
   .simp[Act.exec] at hx
  .rename_i r _;cases r1 with
   |flat _ hf=>
    cases r with
    |some r=>simp[dO] at hf
    |none=>
     cases r2;rw[eqGuard_at_map];split at hx
     .rename_i hd;exact jY R (TQ hd _) rfl rfl hx
     .simp[Act.exec] at hx
   |map m r hr=>
    cases r2;rw[eqGuard_at_map];split at hx
    .rename_i hd;exact jY R (TQ hd (some r)) rfl rfl hx
    .simp[Act.exec] at hx
  .split at hx
   .rename_i fs hd hp hm;split at hx
    .rename_i b hb;obtain⟨f1,f2⟩:=L6 _ _ _ _ _ hb;obtain rfl:=r1.TT f1;obtain rfl:=r2.TT f2;have hfo:P.fieldsOf t=fs:=(by unfold Program.fieldsOf;rw[hd]);have he:∀w,(Op.equalIn 10000 t (.agg _) (.agg _)).run P w=.ok b w:=λw=>by
      rw[run_equalIn_struct w 9999 t _ _ (by rw[hfo];exact hd) hp,hfo];exact OY fs.toList 0 b 9998 w hb
     unfold AG at hx;split at hx
     .cases hx;exact .ret (by rw[Sem.run_bind,run_eqGuard_agg w _ _ _ _ _ _ hm,Result.andThen_ok,run_eql_struct,he];rfl) .ofBool R
     .cases hx;exact .ret (by rw[Sem.run_bind,run_eqGuard_agg w _ _ _ _ _ _ hm,Result.andThen_ok,run_neq_struct,he];rfl) .ofBool R
     .simp[Act.exec] at hx
    .simp[Act.exec] at hx
   .simp[Act.exec] at hx
  .simp[Act.exec] at hx
def VR (R:Rel P W0 ι h w){op}{x x' v}(hr:aN P ι x x')(hx:(aun op x).exec h=some (v,h1)):gF P W0 ι w (Op.unary op x') v h1:=by
 unfold aun at hx;split at hx
 .cases hx;obtain rfl:=hr.int;exact .ret (by simp[Op.unary,Op.intArith]) .ofInt R
 .cases hx;obtain rfl:=hr.bool;exact .ret (by simp[Op.unary]) .ofBool R
 .cases hx;obtain rfl:=hr.float;exact .ret (by simp[Op.unary,ah2]) .CF R
 .simp[Act.exec] at hx
def pE s:(cB s).all dO=true:=by
 rw[al1];intro v hv;simp[cB] at hv;obtain⟨b,_,rfl⟩:=hv;rfl
theorem O1 (w:World) cs e :
  World.freeze { w with heap:=w.heap.push (.cells cs e (0,0)) } { block:=w.heap.size,off:=cs.size } 1={ w with heap:=w.heap.push (.cells cs e (cs.size,cs.size+1)) }:=by
 unfold World.freeze;rw[AT (by decide)]
 congr 1
 grind
theorem Jq (R:Rel P W0 ι h w){e}(he:bU P e=some 1){s}{r}(hx:Fi e s h=some (r,h1)) :
  gF P W0 ι w (Conv.stringToBytes e s) (.slice r.a r.len r.cap) h1:=by
 unfold Fi at hx;split at hx
 .cases hx;have hge:s.size<=(Question.appendCap s.size 0 e).cut (w.tape w.drawn (.appendCap s.size 0 e)):=by simp[Question.cut]
  generalize hcap:(Question.appendCap s.size 0 e).cut (w.tape w.drawn (.appendCap s.size 0 e))=cap at hge;have R1:Rel P W0 ι h { w with drawn:=w.drawn+1 }:=R.of_heap rfl ⟨rfl,rfl⟩;have hlen:(cB s).length=s.size:=by simp[cB]
  obtain⟨ι',hle,hnew,R'⟩:=R1.new e (cB s) (cB s) (List.replicate (cap-s.size) (Value.int .u8 0)) (cap,cap+1)
   (by grind) (aW.flat (pE s)) (λv hv=>vg (List.all_eq_true.1 (pE s) v hv))
  refine⟨.slice (some ⟨w.heap.size,0,none⟩) s.size cap,_,ι',?_,?_,R',hle⟩
  .have hsz2:((cB s++List.replicate (cap-s.size) (Value.int .u8 0)).toArray).size=cap:=by simp[hlen];omega
   have hfr:=O1 { w with drawn:=w.drawn+1 } (cB s++List.replicate (cap-s.size) (Value.int .u8 0)).toArray e;rw[hsz2] at hfr;have hel:(s.data.map λb=>Value.int .u8 b.toNat)++Array.replicate (cap-s.size) (Value.int .u8 0)=(cB s++List.replicate (cap-s.size) (Value.int .u8 0)).toArray:=by
    simp[cB]
   simp only[Conv.stringToBytes,Sem.run_bind,run_choose,Question.forced,aft,afM,Result.andThen_ok,hcap,hel,newRow,run_newObj,Sem.run_pure,markStringish,run_shape];simp[World.shape?,hsz2,hfr]
  .exact .slice _ _ _ _ _ _ rfl rfl hnew rfl rfl hge (.inl rfl) (λ_ _=>by grind [M6])
 .cases hx
theorem vh (R:Rel P W0 ι h w){a a'}(ha:rO ι a a'){n}{cs}(hc:bu h (some a) n=some cs) :
  ∃cs',aW P ι cs cs'/\cs.length=n/\(∀v∈cs,fk v=true)/\(loadCells a' n).run P w=.ok cs'.toArray w/\(∀i v',cs'[i]?=some v'->w.cell? (a'.add i)=some v'):=by
 unfold bu at hc;split at hc
 .rename_i heq;cases heq
 .rename_i b heq;cases heq;split at hc
  .rename_i c g base e hb;split at hc
   .rename_i hfit;cases hc;obtain⟨l,e1,e2,e3,e4,e5⟩:=R.live _ c g base e hb;obtain⟨h1,h2,l',hl1,hl2,hl3⟩:=ha;rw[e1] at hl1;cases hl1;have hlen:((c.drop a.off).take n).length=n:=(by simp;omega);have key:∀i,i<n->∃v',w.cell? (a'.add i)=some v'/\∀v,c[a.off+i]?=some v->fk v=true/\aN P ι v v':=by
     intro i hi;have hlt:a.off+i<c.length:=(by omega);obtain⟨v',hv',x⟩:=e5 (a.off+i) c[a.off+i] (by simp[hlt])
     grind [List.getElem?_eq_getElem,add_eq,Nat.add_assoc]
    have hch:∃f:Nat->ξ,∀i,i<n->w.cell? (a'.add i)=some (f i)/\∀v,c[a.off+i]?=some v->fk v=true/\aN P ι v (f i):=by
     refine⟨λi=>(w.cell? (a'.add i)).getD undef,λi hi=>?_⟩
     grind
    obtain⟨f,hf⟩:=hch;refine⟨(List.range n).map f,⟨by simp;omega,λi v v' hv hv'=>?_⟩,hlen,λv hv=>?_,run_loadCells w a' n f (λj hj=>(hf j hj).1),λi v' hv'=>?_⟩
    .grind
    .grind [List.mem_iff_getElem?]
    grind
   .cases hc
  .cases hc
theorem YV {s}{sz}{cs}(hx:Jd s sz h=some (cs,h1)):h1=h/\((s.len=0/\cs=[])\/bu h s.a (s.len*sz)=some cs):=by
 unfold Jd at hx
 grind
structure Src (P:Program) (ι:gO) (h:ai) (w:World) (size n:Nat) (x':ξ) (new new':δ):Prop where
 len:∀w',(Builtin.lenOf x').run P w'=.ok n w'
 cells:∀w',w'.heap=w.heap->(Builtin.firstCells size n x').run P w'=.ok new'.toArray w'
 rel:aW P ι new new'
 sc:∀v∈new,fk v=true
theorem VS (he:w'.heap=w.heap) a:w'.cell? a=w.cell? a:=by simp[World.cell?,he]
theorem xd {a'}{n}{cs':δ}(hl:cs'.length=n)(hc:∀(i:Nat) v',cs'[i]?=some v'->w.cell? (a'.add i)=some v')(he:w'.heap=w.heap) :
  (loadCells a' n).run P w'=.ok cs'.toArray w':=by
 grind [run_loadCells_list,VS]
theorem Src.an7 (R:Rel P W0 ι h w){a}{n c}{x'}(hr:aN P ι (.slice a n c) x'){size}{cs}
  (hc:(n=0/\cs=[])\/bu h a (n*size)=some cs):∃cs',Src P ι h w size n x' cs cs':=by
 rcases hc with⟨rfl,rfl⟩|hc
 .have hx:∃a' c',x'=.slice a' 0 c':=by
   cases hr with
   |flat _ hf=>exact⟨_,_,rfl⟩
   |slice a a' n c c' l=>exact⟨_,_,rfl⟩
   |lP a a' c hce=>exact⟨_,_,rfl⟩
  obtain⟨a',c',rfl⟩:=hx;exact⟨[],λw'=>by simp[Builtin.lenOf],λw' _=>by cases a'<;>simp[Builtin.firstCells,loadCells,loadCellsFrom],.nil,by simp⟩
 cases hr with
 |flat _ hf=>
  cases a with
  |some a=>simp[dO] at hf
  |none=>
   simp[bu] at hc;obtain⟨h0,rfl⟩:=hc;exact⟨[],λw'=>by simp[Builtin.lenOf],λw' _=>by simp[Builtin.firstCells],.nil,by simp⟩
 |slice a a' n c c' l e1 e2 e3 e4 e5 e6 e7 e8=>
  obtain⟨cs',q1,q2,q3,q4,q5⟩:=vh R ⟨e1,e2,l,e3,e4,e5⟩ hc;exact⟨cs',λw'=>by simp[Builtin.lenOf],λw' he=>by simpa[Builtin.firstCells] using xd (by rw[<-q1.1,q2]) q5 he,q1,q3⟩
 |lP a a' c hce=>
  have:cs=[]:=by
   grind [bu]
  subst this;exact⟨[],λw'=>by simp[Builtin.lenOf],λw' _=>by simp[Builtin.firstCells,loadCells,loadCellsFrom],.nil,by simp⟩
theorem Src.ofStr s:Src P ι h w 1 s.size (.string s) (cB s) (cB s):=
 ⟨λw'=>by simp[Builtin.lenOf],λw' _=>by
  simp[Builtin.firstCells,Sem.run_pure]
  grind [ByteArray.extract_zero_size,Array.ext',cB],aW.flat (pE s),λv hv=>vg (List.all_eq_true.1 (pE s) v hv)⟩
def vB {t xT e ty}{i}(ht:P.underlying t=some (.slice e))(hxt:(∃e',P.underlying xT=some (.slice e'))\/P.underlying xT=some .string)(hi:P.info? e=some i)
  {n} {x'} {new new'} (S:Src P ι h w i.size n x' new new') base sLen sCap (hroom:sLen+n<=sCap) {w1}
  (hst:(match base with|some a=>storeCells (a.add (sLen*i.size)) new' | none=>Pure.pure ()).run P w=.ok () w1) :
  (Builtin.append_ #[t,xT] ty #[.slice base sLen sCap,x']).run P w=.ok (.slice base (sLen+n) sCap) w1:=by
 have hc:=S.cells w rfl;cases base with
 |none=>
  simp at hst;subst hst;rcases hxt with⟨e',hd⟩|hd<;>simp[Builtin.append_,aI ht,aI hd,sizeOf,typeInfo,hi,S.len,hroom,hc]
 |some a=>
  simp at hst;rcases hxt with⟨e',hd⟩|hd<;>simp[Builtin.append_,aI ht,aI hd,sizeOf,typeInfo,hi,S.len,hroom,hc,hst]
def DT z n:(Builtin.zeroCells z n).size=n*z.size:=by simp[Builtin.zeroCells]
def HK {t xT e ty}{i}{z}(ht:P.underlying t=some (.slice e))(hxt:(∃e',P.underlying xT=some (.slice e'))\/P.underlying xT=some .string)(hi:P.info? e=some i)(hz:i.zero=some z)
  (hb:i.bytes<=4096) {n} {x'} {new new'} (S:Src P ι h w i.size n x' new new') base sLen sCap (hroom:sCap<sLen+n) (hbig:sLen+n<=da)
  {old'} (hold:∀w',w'.heap=w.heap->(Builtin.firstCells i.size sLen (.slice base sLen sCap)).run P w'=.ok old'.toArray w') :
  ∃cap,sLen+n<=cap/\(Builtin.append_ #[t,xT] ty #[.slice base sLen sCap,x']).run P w =
   .ok (.slice (some ⟨w.heap.size,0,none⟩) (sLen+n) cap) { w with drawn:=w.drawn+1,heap:=w.heap.push (.cells ((old'++new')++(Builtin.zeroCells z.cells (cap-(sLen+n))).toList).toArray e) }:=by
 have hge:sLen+n<=(Question.appendCap (sLen+n) sCap e).cut (w.tape w.drawn (.appendCap (sLen+n) sCap e)):=by simp[Question.cut]
 refine⟨_,hge,?_⟩;have hn:¬(sLen+n<=sCap):=by omega
 unfold da at hbig;have h63':¬(9223372036854775807<((sLen:Int)+(n:Int))):=by omega
 have h48':¬(281474976710656<Builtin.nextslicecap (sLen+n) sCap*i.bytes):=by
  have:=nextslicecap_le hroom;have h2:Builtin.nextslicecap (sLen+n) sCap*i.bytes<=(2*(sLen+n))*4096:=aor this hb;omega
 have hf:=S.cells { w with drawn:=w.drawn+1 } rfl;have hfo:=hold { w with drawn:=w.drawn+1 } rfl;simp at hf hfo;rcases hxt with⟨e',hd⟩|hd <;>
  simp[Builtin.append_,aI ht,aI hd,sizeOf,typeInfo,zeroValue,hi,hz,S.len,hn,h63',h48',Question.forced,newRow,hf,hfo]
 all_goals
  unfold World.alloc World.drew;simp only
  congr 3
  simp_all
theorem aia {a}{c vs}{g base}{e}(hb:h.get a.block=some (.cells c g base e))(hg:g≠0)(hfit:a.off+vs.length<=c.length)(hsc:vs.all fk=true) :
  rN a vs h=some ((),h.wj a.block (aM c a.off vs) g base e):=by
 unfold rN;grind
theorem O4 (R:Rel P W0 ι h w){a a':Addr}{l}(e1:a.spot=none)(e2:a'.spot=none)(e3:ι a.block=some l)(e4:a'.block=l.ar)(e5:a'.off=l.off+a.off)
  {c} {g base} (hblk:h.get a.block=some (.cells c g base l.elem)) (hg:g≠0) {k} {lA new new'} (hold:bu h (some a) k=some lA)
  (hrel:aW P ι new new') (hsc:∀v∈new,fk v=true) (hroom:a'.off+k+new.length<=l.size)
  get' tip' (hsub:∀j ar,get' j=some ar->h.get j=some ar)
  (htip:∀b c g' base' e',get' b=some (.cells c g' base' e')->g'≠0->base'+c.length<=tip' g') (htipn:base+a.off+(lA++new).length<=tip' g)
  (hend:∀b c' base' e',get' b=some (.cells c' g base' e')->base'+c'.length<=base+a.off+k) :
  ∃w' ι',(storeCells (a'.add k) new').run P w=.ok () w'/\ι.le ι'/\ι' h.next=some ⟨l.ar,l.off+a.off,l.size,l.elem,false⟩ /\
   Rel P W0 ι' (h.ext h.next (h.next+1) get' (.cells (lA++new) g (base+a.off) l.elem) tip') w':=by
 obtain⟨l0,f1,f2,f3,f4,f5⟩:=R.live _ c g base l.elem hblk;rw[e3] at f1;cases f1;obtain⟨cc,fz,hh,q1,q2⟩:=R.loc _ l e3;have hro:l.ro=false:=by grind
 have hone:∀v∈new',v.oneCell'=true:=by
  intro v' hv';obtain⟨i,hi⟩:=List.mem_iff_getElem?.1 hv';have hlt:i<new.length:=by have:=(List.getElem?_eq_some_iff.1 hi).1;have:=hrel.1;omega
  exact (hrel.2 i new[i] v' (by simp[hlt]) hi).TM (hsc _ (anJ hlt))
 have hlen:=hrel.1;have hst:=sS P l.ar (a'.off+k) l.elem fz new' 0 cc w hh (by omega) ((q2 hro).2 ⟨_,l,c,g,base,l.elem,e3,rfl,hblk⟩) hone;have hadd:a'.add k=⟨l.ar,a'.off+k,none⟩:=by rw[add_eq e2,e4]
 have hsp:cc.toList.take (a'.off+k+0)++new'++cc.toList.drop (a'.off+k+0+new'.length)=aM cc.toList (l.off+a.off+k) new':=by
  simp[aM,e5]
 rw[<-hadd,hsp] at hst;have hfit:l.off+a.off+k+new'.length<=cc.toList.length:=by simp;omega
 have hstay:∀b c1 g1 base1 e1' l1,get' b=some (.cells c1 g1 base1 e1')->ι b=some l1->l1.ar=l.ar->g1=g/\l.off+base1=l1.off+base/\l1.off+c1.length<=l.off+a.off+k:=by
  intro b c1 g1 base1 e1' l1 hb hl1 hbl;obtain⟨p1,p2⟩:=R.jo a.block b l l1 c g base l.elem c1 g1 base1 e1' e3 hl1 hro hblk (hsub _ _ hb) hbl.symm
  grind
 have R1:Rel P W0 ι { h with get:=get' } (w.setRow l.ar (aM cc.toList (l.off+a.off+k) new').toArray):=by
  refine R.write get' l.ar l.size l.elem cc _ fz (q2 hro).1 hh (by simp[oW _ _ _ hfit]) (λb hb=>?_) (λb c1 g1 base1 e1' hb=>?_)
  .cases hq:get' b with
   |none=>rfl
   |some ar=>have:=(R.zN b hb).1;rw[hsub _ _ hq] at this;cases this
  .refine⟨g1,c1,hsub _ _ hb,rfl,rfl,λ_ _ _=>rfl,λl1 hl1 hbl i v hv=>?_⟩;obtain⟨_,_,p3⟩:=hstay b c1 g1 base1 e1' l1 hb hl1 hbl;obtain⟨l2,g1',g2',g3',g4',g5'⟩:=R.live b c1 g1 base1 e1' (hsub _ _ hb);rw[hl1] at g1';cases g1';obtain⟨v',x,y⟩:=g5' i v hv;have hi:=(List.getElem?_eq_some_iff.1 hv).1;refine⟨v',?_,y⟩;simp only[aoY,uz _ _ _ _ hfit];rw[By (by omega)];simp only[World.cell?,hbl,hh] at x;simpa using x
 have hget:=Jm l.ar (aM cc.toList (l.off+a.off+k) new').toArray cc l.elem fz hh;have hlold:lA.length=k/\(∀(i:Nat) v,lA[i]?=some v->i<k/\c[a.off+i]?=some v):=by
  simp only[bu,hblk] at hold;split at hold
  .cases hold;refine⟨by simp;omega,λi v hv=>?_⟩;rw[aop] at hv;split at hv
   .rename_i hi;rw[al0] at hv;exact⟨hi,hv⟩
   .cases hv
  .cases hold
 have hcells:∀(i:Nat) v,(lA++new)[i]?=some v->∃v',World.cell? (w.setRow l.ar (aM cc.toList (l.off+a.off+k) new').toArray) ⟨l.ar,l.off+a.off+i,none⟩=some v'/\fk v=true/\aN P ι v v':=by
  intro i v hv;have hok:=hlold.1;have hb0:(w.setRow l.ar (aM cc.toList (l.off+a.off+k) new').toArray).heap[l.ar]?=some (.cells (aM cc.toList (l.off+a.off+k) new').toArray l.elem fz):=by rw[hget,By rfl]
  have hcl:World.cell? (w.setRow l.ar (aM cc.toList (l.off+a.off+k) new').toArray) ⟨l.ar,l.off+a.off+i,none⟩=(aM cc.toList (l.off+a.off+k) new')[l.off+a.off+i]?:=by
   simp[World.cell?,hb0]
  rw[hcl,uz _ _ _ _ hfit];rw[apV] at hv;split at hv
  .rename_i hi;obtain⟨p1,p2⟩:=hlold.2 i v hv;obtain⟨v',x,y⟩:=f5 _ v p2;refine⟨v',?_,y⟩;rw[By (by omega)];simp only[World.cell?,hh] at x;simpa[aod] using x
  .rename_i hi;obtain⟨v',x,y⟩:=hrel.get hv;have hi2:=(List.getElem?_eq_some_iff.1 x).1;refine⟨v',?_,hsc v (IN hv),y⟩;rw[AT (by omega),By (by omega)];rw[<-x];congr 1;omega
 obtain⟨ι',hle,hnew,R2⟩:=R1.ac7 ⟨l.ar,l.off+a.off,l.size,l.elem,false⟩ rfl (q2 hro).1
  (by rw[hget,By rfl]) (by simp[oW _ _ _ hfit,q1]) (λo ho=>(q2 hro).2 ⟨_,l,c,g,base,l.elem,e3,rfl,hblk⟩ o (by simpa[oW _ _ _ hfit] using ho)) g (base+a.off) (lA++new) tip'
  hcells (by simp[hlold.1];omega) (λb l1 c1 g1 base1 e1' hl1 hb hbl=>(by
   obtain⟨p1,p2,_⟩:=hstay b c1 g1 base1 e1' l1 hb hl1 hbl;exact⟨p1,by simp;omega⟩)) hg (R.qI _ c g base l.elem hblk hg).2 htip htipn
 exact⟨_,ι',hst,hle,hnew,R2⟩
theorem O5 {strict}{s}{sz}{e}{n}{new}{r}(hx:app strict s sz e n new h=some r):AW strict s sz e n new h=some r:=by
 grind [app]
theorem GO (R:Rel P W0 ι h w){t xT e ty}{i}{z}(ht:P.underlying t=some (.slice e))
  (hxt:(∃e',P.underlying xT=some (.slice e'))\/P.underlying xT=some .string) (hi:P.info? e=some i) (hz:zeroOf P e=some z) (hb:i.bytes<=4096)
  {s} {s' x'} (hr:aN P ι (.slice s.a s.len s.cap) s') {n} {new new'} (S:Src P ι h w i.size n x' new new')
  {strict} {r} (hx:app strict s i.size e n new h=some (r,h1)) :
  gF P W0 ι w (Builtin.append_ #[t,xT] ty #[s',x']) (.slice r.a r.len r.cap) h1:=by
 obtain⟨hzf,hz1,hz2,i2,hi2,hz3,hz4⟩:=fE hz;rw[hi] at hi2;cases hi2;obtain⟨sa,sn,sc⟩:=s
 replace hx:=O5 hx
 simp only[AW] at hx;simp at hr;have hsz:szT P e=i.size:=by rw[M6 hz2,hz4]
 split at hx
 ·-- nothing is appended
  rename_i hn0;subst hn0;cases sa with
  |none=>
   simp only at hx;split at hx
   .rename_i hc;cases hx;obtain⟨c1,c2,c3⟩:=hc;subst c1;subst c2;cases hr;exact .ret (vB ht hxt hi S none 0 0 (by omega) (by simp)) (.flat _ rfl) R
   .cases hx
  |some a=>
   simp only at hx;split at hx
   .rename_i hc;cases hx;subst hc;have hn':new'=[]:=ac4 S.rel.1.symm;subst hn';have hr0:=hr;cases hr with
    |flat _ hf=>simp[dO] at hf
    |slice _ a' _ _ c' l e1 e2 e3 e4 e5 e6 e7 e8=>
     exact .ret (vB ht hxt hi S (some a') _ c' (by omega) (by simp[storeCells])) hr0 R
    |lP _ a' _ hce=>
     exact .ret (vB ht hxt hi S (some a') _ 0 (by omega) (by simp[storeCells])) hr0 R
   .cases hx
 .rename_i hn0;split at hx
  .cases hx
  .rename_i hlim;have hlim:sn+n<=da/\new.length=n*i.size:=adj λx=>hlim x;obtain⟨hbig,hnl⟩:=hlim;cases sa with
   |none=>
    simp only at hx;split at hx
    .rename_i hc;cases hx;obtain⟨c1,c2⟩:=hc;subst c1;subst c2;cases hr;obtain⟨cap,hcap,hrun⟩:=HK (ty:=ty) ht hxt hi hz3 hb S none 0 0 (by omega) (by omega) (old':=[]) (λw' _=>by simp[Builtin.firstCells]);have R1:Rel P W0 ι h { w with drawn:=w.drawn+1 }:=R.of_heap rfl ⟨rfl,rfl⟩;obtain⟨ι',hle,hnew,R'⟩:=R1.new e new new' (Builtin.zeroCells z.cells (cap-(0+n))).toList (0,0) (by intro o _;simp) S.rel S.sc;rw[adr] at hcap hrun hnew R';refine⟨_,_,ι',hrun,?_,?_,hle⟩
     .refine .slice _ _ _ _ _ _ rfl rfl hnew rfl rfl hcap (.inl rfl) (λ_ _=>?_);simp[hsz,<-S.rel.1,hnl,Array.length_toList,DT,adr,<-hz4];rw[<-ale]
      grind
     .simpa using R'
    .cases hx
   |some a=>
    simp only at hx;split at hx
    .rename_i lA c g base e1 hold hblk;have hgrow:∀(sCap:Nat) (a':Addr) (old':δ) (get':Nat->Option MU) (tip':Nat->Nat) (g2 base2:Nat),
       (∀w',w'.heap=w.heap->(Builtin.firstCells i.size sn (.slice (some a') sn sCap)).run P w'=.ok old'.toArray w') ->
       aW P ι lA old'->(∀v∈lA,fk v=true)->lA.length=sn*i.size->sCap<sn+n ->
       (∀j ar,get' j=some ar->h.get j=some ar)->g2≠0->(g2=h.next+1\/h.used (g2-1)=true) ->
       (∀b c g' base' e',get' b=some (.cells c g' base' e')->g'≠0->base'+c.length<=tip' g')->base2+(lA++new).length<=tip' g2 ->
       gF P W0 ι w (Builtin.append_ #[t,xT] ty #[.slice (some a') sn sCap,x']) (.slice (some ⟨h.next,0,none⟩) (sn+n) 0) (h.ext h.next (h.next+1) get' (.cells (lA++new) g2 base2 e) tip'):=by
      intro sCap a' old' get' tip' g2 base2 q1 q2 q3 q4 q5 q6 q7 q8 q9 q10;obtain⟨cap,hcap,hrun⟩:=HK (ty:=ty) ht hxt hi hz3 hb S (some a') sn sCap q5 hbig q1;have R1:Rel P W0 ι h { w with drawn:=w.drawn+1 }:=R.of_heap rfl ⟨rfl,rfl⟩;obtain⟨ι',hle,hnew,R'⟩:=R1.ago h.next (h.next+1) R.unused ⟨by omega,by omega⟩ get' tip' g2 base2 e (lA++new) (old'++new') (Builtin.zeroCells z.cells (cap-(sn+n))).toList (0,0) q6 q7 q8 q9 q10
       (by intro o _;simp) (q2.append S.rel) (λv hv=>(List.mem_append.1 hv).elim (q3 v) (S.sc v))
      refine⟨_,_,ι',hrun,?_,?_,hle⟩
      .refine .slice _ _ _ _ _ _ rfl rfl hnew rfl rfl hcap (.inl rfl) (λ_ _=>?_);have e3:(old'++new').length=(sn+n)*i.size:=(by rw[aby,<-q2.1,<-S.rel.1,q4,hnl,ale]);simp only[hsz,e3,Array.length_toList,DT,adr,<-hz4];rw[<-ale]
       grind
      .simpa using R'
     have hsrc:∀(a':Addr) (sCap:Nat),(rO ι a a'\/sn=0)->∃old',(∀w',w'.heap=w.heap->(Builtin.firstCells i.size sn (.slice (some a') sn sCap)).run P w'=.ok old'.toArray w') /\
       aW P ι lA old'/\(∀v∈lA,fk v=true)/\lA.length=sn*i.size:=by
      intro a' sCap hor;rcases hor with ha|h0
      .obtain⟨cs',q1,q2,q3,q4,q5⟩:=vh R ha hold;exact⟨cs',λw' he=>by simpa[Builtin.firstCells] using xd (by rw[<-q1.1,q2]) q5 he,q1,q3,q2⟩
      .subst h0;have:lA=[]:=by
        grind [bu]
       subst this;exact⟨[],λw' _=>by simp[Builtin.firstCells,loadCells,loadCellsFrom],.nil,by simp,by simp⟩
     have holdlen:lA.length=sn*i.size:=by
      grind [bu]
     split at hx
     ·-- known room
      rename_i hroom;split at hx
      .rename_i hc;cases hx;obtain⟨hg,hfit,_⟩:=hc;cases hr with
       |flat _ hf=>simp[dO] at hf
       |lP _ a' _ hce=>omega
       |slice _ a' _ _ c' l f1 f2 f3 f4 f5 f6 f7 f8=>
        have hst:rN (a.plus (sn*i.size)) new h=some ((),h.wj a.block (aM c (a.off+sn*i.size) new) g base e1):=by
         exact aia hblk hg (by simp[Addr.plus];omega) (List.all_eq_true.2 S.sc)
        obtain⟨w',hs,R'⟩:=GN R (rO.plus ⟨f1,f2,l,f3,f4,f5⟩ _) S.rel hst;refine⟨_,w',ι,vB ht hxt hi S (some a') sn c' (by omega) hs,?_,R',.refl _⟩;show aN P ι (.slice (some a) (sn+n) sc) _;exact .slice _ _ _ _ _ l f1 f2 f3 f4 f5 (by omega) f7 f8
      .cases hx
     .rename_i hroom;split at hx
      ·-- known to be full
       rename_i hcap;cases hx;have htip:∀g,(h.new e (lA++new)).qI g=if g=h.next+1 then (lA++new).length else h.qI g:=λg=>bf _ _ _ _
       have fin:∀(a':Addr) (c':Nat),(rO ι a a'\/sn=0)->c'<sn+n->gF P W0 ι w (Builtin.append_ #[t,xT] ty #[.slice (some a') sn c',x']) (.slice (some ⟨h.next,0,none⟩) (sn+n) 0) (h.new e (lA++new)):=by
        intro a' c' ha hlt;obtain⟨old',p1,p2,p3,p4⟩:=hsrc a' c' ha;have he:h.new e (lA++new)=h.ext h.next (h.next+1) h.get (.cells (lA++new) (h.next+1) 0 e) (h.new e (lA++new)).qI:=by simp[ai.new,ai.cM,ai.ext]
        rw[he];exact hgrow c' a' old' h.get (h.new e (lA++new)).qI (h.next+1) 0 p1 p2 p3 p4 hlt (λ_ _ x=>x) (by omega) (.inl rfl)
         (λb c g' base' e' hb hg'=>by
          obtain⟨h1,h2⟩:=R.qI b c g' base' e' hb hg';rw[htip,AT (λx=>by subst x;simp at h2;rw[R.unused] at h2;cases h2)];exact h1) (by rw[htip];simp)
       cases hr with
       |flat _ hf=>simp[dO] at hf
       |lP _ a' _ hce=>grind
       |slice _ a' _ _ c' l f1 f2 f3 f4 f5 f6 f7 f8=>exact fin a' c' (.inl ⟨f1,f2,l,f3,f4,f5⟩) (by omega)
      .rename_i hcap;have hcap:sc=0:=adj λx=>hcap x;subst hcap;split at hx
       .rename_i hc;obtain⟨hg,he1⟩:=hc;subst he1;have both:∀(get':Nat->Option MU) (tip':Nat->Nat),(∀j ar,get' j=some ar->h.get j=some ar) ->
          (∀b c g' base' e',get' b=some (.cells c g' base' e')->g'≠0->base'+c.length<=tip' g')->base+a.off+(lA++new).length<=tip' g ->
          (∀b c' base' e',get' b=some (.cells c' g base' e')->base'+c'.length<=base+a.off+sn*i.size) ->
          gF P W0 ι w (Builtin.append_ #[t,xT] ty #[s',x']) (.slice (some ⟨h.next,0,none⟩) (sn+n) 0) (h.ext h.next (h.next+1) get' (.cells (lA++new) g (base+a.off) e1) tip'):=by
         intro get' tip' q1 q2 q3 q4;have hgn:=(R.qI _ c g base e1 hblk hg).2;have grow:∀(a':Addr) (c':Nat),(rO ι a a'\/sn=0)->c'<sn+n->gF P W0 ι w (Builtin.append_ #[t,xT] ty #[.slice (some a') sn c',x']) (.slice (some ⟨h.next,0,none⟩) (sn+n) 0) (h.ext h.next (h.next+1) get' (.cells (lA++new) g (base+a.off) e1) tip'):=by
          intro a' c' ha hlt;obtain⟨old',p1,p2,p3,p4⟩:=hsrc a' c' ha
          grind
         cases hr with
         |flat _ hf=>simp[dO] at hf
         |lP _ a' _ hce=>exact grow a' 0 (.inr rfl) (by omega)
         |slice _ a' _ _ c' l f1 f2 f3 f4 f5 f6 f7 f8=>
          by_cases hfit:sn+n<=c'
          .obtain⟨l0,g1,g2,g3,_,_⟩:=R.live _ c g base e1 hblk;rw[f3] at g1;cases g1;have hro:l.ro=false:=(by grind);have hwf:=f8 hro (by omega);subst g2;have hroom2:a'.off+sn*i.size+new.length<=l.size:=by
            have:(sn+n)*i.size<=c'*i.size:=ag8 _ hfit
            grind
           obtain⟨w',ι',hs,hle,hnew,R'⟩:=O4 R f1 f2 f3 f4 f5 hblk hg hold S.rel S.sc hroom2 get' tip' q1 q2 q3 q4;refine⟨_,w',ι',vB ht hxt hi S (some a') sn c' hfit hs,?_,R',hle⟩;exact .slice _ _ _ _ _ _ rfl f2 hnew f4 (by simp only;omega) hfit (.inl rfl) (λ_ _=>hwf)
          .exact grow a' c' (.inl ⟨f1,f2,l,f3,f4,f5⟩) (by omega)
        split at hx
        .rename_i htip;cases hx;have hid:∀{ar:MU},(λj=>cond (Nat.beq j h.next) (some ar) (idO (h.get j)))=λj=>cond (Nat.beq j h.next) (some ar) (h.get j):=by simp
         rw[hid];refine both h.get _ (λ_ _ x=>x) (λb c1 g' base' e' hb hg'=>?_) ?_ (λb c1 base' e' hb=>?_)
         .rw[bf];have:=(R.qI b c1 g' base' e' hb hg').1
          grind
         .rw[bf,By rfl];simp[holdlen];omega
         .have:=(R.qI b c1 g base' e' hb hg).1;omega
        .rename_i htip;split at hx
         .cases hx;have hk:∀j ar,(match h.get j with
            |some (.cells c' g' base' elem')=>cond (Nat.beq g' g&&Nat.blt (base+a.off+sn*i.size) (base'+c'.length)) none (some (.cells c' g' base' elem'))
            |o=>o)=some ar->h.get j=some ar/\(∀c' base' e',ar=.cells c' g base' e'->base'+c'.length<=base+a.off+sn*i.size):=by
           intro j ar hj;cases hq:h.get j with
           |none=>rw[hq] at hj;cases hj
           |some bl=>
            rw[hq] at hj;cases bl with
            |map es=>grind
            |iter s p=>grind
            |cells c' g' base' e'=>
             simp at hj;cases hb2:(Nat.beq g' g&&Nat.blt (base+a.off+sn*i.size) (base'+c'.length)) with
             |true=>rw[hb2] at hj;cases hj
             |false=>
              rw[hb2] at hj;cases hj;refine⟨rfl,λc2 base2 e2 heq=>?_⟩;cases heq;refine adj λhlt=>?_;have hbl:Nat.blt (base+a.off+sn*i.size) (base'+c'.length)=true:=Nat.ble_eq_true_of_le (by omega)
              grind [Nat.beq_refl]
          refine both _ _ (λj ar hj=>(hk j ar hj).1) (λb c1 g' base' e' hb hg'=>?_) ?_ (λb c1 base' e' hb=>(hk b _ hb).2 _ _ _ rfl)
          .rw[bf];obtain⟨p1,p2⟩:=hk b _ hb;have:=(R.qI b c1 g' base' e' p1 hg').1;split
           .rename_i hgg;subst hgg;have:=p2 _ _ _ rfl;omega
           .exact this
          .rw[bf,By rfl];simp[holdlen];omega
         .cases hx
       .cases hx
    .cases hx
end Go.Ago
