
import Derived.Test.YthcljaholofonaaGreatDoorAgoB
import Derived.Lib.Builder
import Derived.Lib.UnsafeStr
import Derived.Laws.StructEq
set_option linter.all false
namespace Go.Ago
open Go
variable {P:Program}{W0:Fz}{ι ι':iE}{h h' h1:aj}{w w':World}
theorem aO.int {k}{n}{v'}(hr:aO P ι (.int k n) v'):v'=.int k n:=by cases hr;rfl
def aO.bool {b}{v'}(hr:aO P ι (.bool b) v'):v'=.bool b:=by cases hr;rfl
theorem aO.str {s}{v'}(hr:aO P ι (.string s) v'):v'=.string s:=by cases hr;rfl
theorem aO.float {k}{n}{v'}(hr:aO P ι (.float k n) v'):v'=.float k n:=by cases hr;rfl
def aO.nilIface {v'}(hr:aO P ι .nilIface v'):v'=.nilIface:=by cases hr;rfl
def aO.LP {a}{v'}(hr:aO P ι (.pointer (some a)) v'):∃a',v'=.pointer (some a')/\tC ι a a':=by
 cases hr with
 |flat _ hf=>simp[dX] at hf
 |ptr _ a' ha=>exact⟨a',rfl,ha⟩
def aO.aef {p}{v'}(hr:aO P ι (.pointer p) v'):∃p',v'=.pointer p'/\p'.isNone=p.isNone/\∀a,p=some a->∃a',p'=some a'/\tC ι a a':=by
 cases hr with
 |flat _ hf=>cases p with
  |none=>grind
  |some a=>simp[dX] at hf
 |ptr a a' ha=>grind
def aO.slO {a}{n c}{v'}(hr:aO P ι (.slice a n c) v'):∃a' c',v'=.slice a' n c'/\a'.isNone=a.isNone:=by
 cases hr with
 |flat _ hf=>grind
 |slice a a' n c c'=>grind
 |nO a a' c=>grind
def iF (P:Program)(W0:Fz)(ι:iE)(w:World)(s:Sem ξ)(v:ξ)(h1:aj):Prop:=
 ∃v' w' ι',s.run P w=.ok v' w'/\aO P ι' v v'/\Rel P W0 ι' h1 w'/\ι.le ι'
def Rr (P:Program)(W0:Fz)(ι:iE)(w:World)(s:Sem Next)(v:ξ)(h1:aj):Prop:=
 ∃v' w' ι',(s.run P w=.ok (.value v') w'\/(s.run P w=.ok .skip w'/\v'=undef))/\aO P ι' v v'/\Rel P W0 ι' h1 w'/\ι.le ι'
theorem iF.o {s}{v}(hs:iF P W0 ι w s v h1):Rr P W0 ι w (do pure (.value (<-s))) v h1:=by
 obtain⟨v',w',ι',hr,a,b,c⟩:=hs;exact⟨v',w',ι',.inl (by simp[hr]),a,b,c⟩
def Rr.pure {v v'}(hv:aO P ι v v')(R:Rel P W0 ι h w):Rr P W0 ι w (Pure.pure (.value v')) v h:=⟨v',w,ι,.inl rfl,hv,R,.refl _⟩
def aJ {E}{a:Go.Act}(HE:np P ι E a.tmps){x}{v}(hv:E.ev x=some v):aO P ι v (a.eval x):=by
 cases x with
 |tmp t=>
  obtain⟨v',h1,h2⟩:=HE t v hv;simp[Act.eval,anO,h1];exact h2
 |const u=>
  simp[Env.ev] at hv;split at hv
  .rename_i hf;cases hv;exact .of_flat hf
  .cases hv
 |global g=>simp[Env.ev] at hv
 |func f=>simp[Env.ev] at hv;subst hv;exact .func _ _ _ _ _ rfl (by simp) rfl (by simp)
def Ms {E}{a:Go.Act}(HE:np P ι E a.tmps):∀{xs} {vs},E.Ri xs=some vs->aZ P ι vs (xs.map a.eval)
 |[],vs,hv=>by simp[Env.Ri] at hv;subst hv;exact .nil
 |x::xs,vs,hv=>by
  simp[Env.Ri] at hv;split at hv
  .rename_i v vs' h1 h2;cases hv;exact aZ.cons (aJ HE h1) (Ms HE h2)
  .cases hv
def nP {t}{n}(hs:bV P t=some n):∀w,(sizeOf t).run P w=.ok n w:=by
 unfold bV at hs;split at hs
 .rename_i i hi;cases hs;simp[sizeOf,typeInfo,hi]
 .cases hs
theorem Nk {t}{n}(hs:bV P t=some n):szT P t=n:=by
 grind [bV,szT]
def aM {t}{d}(hd:P.underlying t=some d) w:(underlying t).run P w=.ok d w:=run_underlying hd w
def vF {t}{d}(hd:P.underlying t=some d) w:(isAgg t).run P w=.ok (CK d) w:=by
 cases d<;>simp[isAgg,aM hd,CK]
def hC {t}{z}(hz:zeroOf P t=some z):z.cells.toList.all dX=true/\(∀w,(zeroValue t).run P w=.ok z w)/\bV P t=some z.cells.size/\∃i,P.info? t=some i/\i.zero=some z/\i.size=z.cells.size:=by
 unfold zeroOf at hz;split at hz
 .rename_i i hi;split at hz
  .rename_i v hv;split at hz
   .rename_i hc;cases hz;simp only[ac5] at hc;have hc:=And.intro hc.1 (abi hc.2);exact⟨hc.1,λw=>by simp[zeroValue,typeInfo,hi,hv],by simp[bV,hi,hc.2],i,hi,hv,hc.2.symm⟩
   .cases hz
  .cases hz
 .cases hz
theorem wj {v}(hv:dX v=true):fv v=true:=by cases v<;>simp_all[dX,fv]
def JE (R:Rel P W0 ι h w){nm}{e}{cs cs'}{b}(hn:gG nm e cs h=some (b,h1))(hl:aZ P ι cs cs') :
  iF P W0 ι w (do pure (.pointer (some (<-newRow e cs'.toArray)))) (.pointer (some ⟨b,0,none⟩)) h1:=by
 have fin:∀(k next':Nat),h.used k=false->k<next'/\h.next<=next'->cs.all fv=true ->
   iF P W0 ι w (do pure (.pointer (some (<-newRow e cs'.toArray)))) (.pointer (some ⟨k,0,none⟩)) (h.cQ k next' e cs):=by
  intro k next' h1 h2 hsc
  obtain⟨ι',hle,hnew,R'⟩:=R.put k next' h1 h2 e cs cs' [] (0,0) (by simp) hl (List.all_eq_true.1 hsc)
  exact⟨.pointer (some ⟨w.heap.size,0,none⟩),_,ι',by simp[newRow],.ptr _ _ ⟨rfl,rfl,_,hnew,rfl,rfl⟩,R',hle⟩
 unfold gG at hn;split at hn
 .rename_i hsc;cases nm with
  |none=>cases hn;exact fin _ _ R.unused ⟨by omega,by omega⟩ hsc
  |some k=>
   grind
 .cases hn
def Pj (R:Rel P W0 ι h w){t}{z}(hz:zeroOf P t=some z){nm}{b}(hn:gG nm t z.cells.toList h=some (b,h1)) :
  iF P W0 ι w (Instr.alloc t true (.tuple #[])) (.pointer (some ⟨b,0,none⟩)) h1:=by
 obtain⟨hf,hz1,_⟩:=hC hz;obtain⟨v',w',ι',hr,x⟩:=JE R hn (aZ.flat hf);refine⟨v',w',ι',?_,x⟩;simp at hr;simp[Instr.alloc,hz1,newVar,hr]
def VS (R:Rel P W0 ι h w){t}{v v'}(hv:aO P ι v v'){nm}{b}(hn:gG nm t v.cells.toList h=some (b,h1)) :
  iF P W0 ι w (Instr.box t v') (.pointer (some ⟨b,0,none⟩)) h1:=by
 obtain⟨u',w',ι',hr,x⟩:=JE R hn hv.cells;refine⟨u',w',ι',?_,x⟩;simp at hr;simp[Instr.box,newVar,hr]
theorem wH:∀{l} {v} {x},D9 l v=some x->v=OW l x
 |.int k,v,x,hx=>by
  cases k<;>cases v<;>simp[D9] at hx<;>(rename_i k' n;cases k'<;>simp[D9] at hx)<;>(subst hx;rfl)
 |.bool,v,x,hx=>by cases v<;>simp[D9] at hx;subst hx;rfl
 |.str,v,x,hx=>by cases v<;>simp[D9] at hx;subst hx;rfl
 |.ptr,v,x,hx=>by cases v<;>simp[D9] at hx;subst hx;rfl
 |.ak,v,x,hx=>by
  cases v with
  |pointer p=>cases p<;>simp[D9] at hx;subst hx;rfl
  |_=>simp[D9] at hx
 |.sl,v,x,hx=>by cases v<;>simp[D9] at hx;subst hx;rfl
 |.mp,v,x,hx=>by cases v<;>simp[D9] at hx;subst hx;rfl
 |.raw,v,x,hx=>by simp only[D9] at hx;cases hx;rfl
 |.f64,v,x,hx=>by
  cases v<;>simp[D9] at hx;rename_i k n;cases k<;>simp at hx;subst hx;rfl
def Pk {l}{a}{x}(hx:dz l a h=some (x,h1)):h1=h/\h.cell a=some (OW l x):=by
 unfold dz at hx;split at hx
 .rename_i v hv;split at hx
  .rename_i y hy;cases hx;exact⟨rfl,by rw[hv,wH hy]⟩
  .cases hx
 .cases hx
def H6 (R:Rel P W0 ι h w){a a'}(ha:tC ι a a'):∀ls i acc acc' v ,
  (FV a ls i acc).exec h=some (v,h1)->aZ P ι acc.reverse acc' ->
  h1=h/\∃vs:δ,(loadCellsFrom a' i ls.length acc'.toArray).run P w=.ok vs.toArray w/\aO P ι v (.agg vs.toArray)
 |[],i,acc,acc',v,hx,hl=>by
  obtain⟨rfl,rfl⟩:=hx;refine⟨rfl,acc',by simp[loadCellsFrom],.agg _ _ (by simpa using hl.1) λj u u' p q=>hl.2 j u u' (by simpa using p) (by simpa using q)⟩
 |l::ls,i,acc,acc',v,hx,hl=>by
  simp[FV,Act.exec] at hx;split at hx
  .rename_i x h2 hq;obtain⟨e0,hc⟩:=Pk hq;rw[e0] at hx;obtain⟨u',hu,_,hr⟩:=R.cell (tC.plus ha i) hc;obtain⟨e1,vs,e2,e3⟩:=H6 R ha ls (i+1) (OW l x::acc) (acc'++[u']) v hx (by simpa using hl.append (aZ.cons hr .nil));exact⟨e1,vs,by simpa[loadCellsFrom,hu] using e2,e3⟩
  .cases hx
def GY:∀{ls} {vs} {x},Ea ls vs=some x->vs=LH ls x
 |[],[],_,_=>rfl
 |[],_::_,_,hx=>by cases hx
 |[l],[],_,hx=>by cases hx
 |[l],[v],x,hx=>by rw[LH,<-wH hx]
 |[l],_::_::_,_,hx=>by cases hx
 |l::l'::ls,[],_,hx=>by cases hx
 |l::l'::ls,v::vs,x,hx=>by
  simp[Ea] at hx;split at hx
  .rename_i a b ha hb;cases hx;rw[LH,<-wH ha,<-GY hb]
  .cases hx
def Pl {a}:∀ls vs x i acc ,Ea ls vs=some x->(∀j v,vs[j]?=some v->h.cell (a.plus (i+j))=some v) ->
  (FV a ls i acc).exec h=some (.agg (acc.reverse++vs).toArray,h)
 |[],[],x,i,acc,hx,hc=>by simp[FV,Act.exec]
 |[],_::_,_,_,_,hx,_=>by cases hx
 |[l],[],_,_,_,hx,_=>by cases hx
 |[l],[v],x,i,acc,hx,hc=>by
  have h0:=hc 0 v rfl;have hx:D9 l v=some x:=hx;simp only[FV,Act.exec,dz,show a.plus i=a.plus (i+0) from rfl,h0,hx]
  grind [wH]
 |[l],_::_::_,_,_,_,hx,_=>by cases hx
 |l::l'::ls,[],_,_,_,hx,_=>by cases hx
 |l::l'::ls,v::vs,x,i,acc,hx,hc=>by
  simp[Ea] at hx;split at hx
  .rename_i y z hy hz;have h0:=hc 0 v rfl;have ih:=Pl (l'::ls) vs z (i+1) (OW l y::acc) hz λj u hu=>by
    have:=hc (j+1) u (by simpa using hu)
    rwa [show i+(j+1)=i+1+j by omega] at this
   rw[FV];simp[Act.exec,dz,show a.plus i=a.plus (i+0) from rfl,h0,hy]
   grind [wH]
  .cases hx
def Zl {a}{ls}{x}(hx:cF ls a h=some (x,h1)):h1=h/\(FV a ls 0 []).exec h=some (.agg (LH ls x).toArray,h):=by
 unfold cF at hx;split at hx
 .rename_i vs hv;split at hx
  .rename_i y hy;cases hx;rw[<-GY hy];have:=Pl (a:=a) (h:=h) ls vs _ 0 [] hy λj v hj=>by
    grind [aX,aj.cell,Addr.plus]
   simpa using this
  .cases hx
 .cases hx
def Mt (R:Rel P W0 ι h w){t}{a a'}(ha:tC ι a a'){v}(hx:(O0 P t a).exec h=some (v,h1)) :
  h1=h/\∃v',(loadVar t a').run P w=.ok v' w/\aO P ι v v':=by
 unfold O0 at hx;split at hx
 .rename_i d n hd hn;split at hx
  .rename_i hag;split at hx
   .rename_i ls hls;split at hx
    .rename_i hlen;have hlen:=abi hlen;simp[Act.exec] at hx;split at hx
     .rename_i y h2 hq;cases hx;obtain⟨e0,hx⟩:=Zl hq;subst e0;obtain⟨_,vs,e2,e3⟩:=H6 R ha ls 0 [] [] _ hx .nil;refine⟨rfl,_,?_,e3⟩;simp[loadVar,vF hd,hag,nP hn,<-hlen,loadCells,e2]
     .cases hx
    .simp[Act.exec] at hx
   .simp[Act.exec] at hx
  .rename_i hag;split at hx
   .simp[Act.exec] at hx;split at hx
    .rename_i x h2 hq;cases hx;obtain⟨rfl,hc⟩:=Pk hq;obtain⟨u',hu,_,hr⟩:=R.cell ha hc;exact⟨rfl,u',by simp[loadVar,vF hd,hag,hu],hr⟩
    .cases hx
   .simp[Act.exec] at hx
 .simp[Act.exec] at hx
def uh P g o t fz:∀vs i cur w ,w.heap[g]?=some (.cells cur t fz)->o+i+vs.length<=cur.size ->
  (∀j,j<cur.size->(decide (fz.1<=j)&&decide (j<fz.2))=false)->(∀v∈vs,v.oneCell'=true) ->
  (storeCells ⟨g,o,none⟩ vs i).run P w=.ok () (w.setRow g (cur.toList.take (o+i)++vs++cur.toList.drop (o+i+vs.length)).toArray)
 |[],i,cur,w,hg,_,_,_=>by
  simp only[storeCells,aiP,agy,amh,apB,aqr];rw[setRow_self w g cur t fz hg];rfl
 |v::rest,i,cur,w,hg,hl,hfr,h1=>by
  have hi:o+i<cur.size:=by simp at hl;omega
  have hadd:(⟨g,o,none⟩:Addr).add i=⟨g,o+i,none⟩:=by unfold Addr.add;split<;>simp_all
  have hcell:w.cell? ⟨g,o+i,none⟩=some cur[o+i]:=by simp[World.cell?,hg,hi]
  have hfro:w.frozen? ⟨g,o+i,none⟩=false:=by simp only[World.frozen?,hg];exact hfr _ hi
  have hst:(store ((⟨g,o,none⟩:Addr).add i) v).run P w=.ok () (w.setRow g (cur.setIfInBounds (o+i) v)):=by
   grind [run_store,setCell_eq_setRow]
  have ih:=uh P g o t fz rest (i+1) (cur.setIfInBounds (o+i) v) (w.setRow g (cur.setIfInBounds (o+i) v)) (setRow_heap w g cur _ t _ hg) (by simp at hl⊢;omega)
   (by simpa using hfr) (λx hx=>h1 x (by simp[hx]))
  simp only[storeCells,Sem.run_bind,hst,Result.andThen_ok,ih,setRow_setRow]
  congr 3
  have e:=list_seg_step cur.toList (o+i) v rest (by omega);simpa[aps] using e
def GZ (R:Rel P W0 ι h w){a a'}(ha:tC ι a a'){vs vs'}(hl:aZ P ι vs vs'){x}(hx:sL a vs h=some (x,h1)) :
  ∃w',(storeCells a' vs').run P w=.ok () w'/\Rel P W0 ι h1 w':=by
 unfold sL at hx;split at hx
 .rename_i c g base e hb;split at hx
  .rename_i hc;cases hx;obtain⟨hg,hfit,hsc⟩:=hc;obtain⟨h1,h2,l,hl1,hl2,hl3⟩:=ha;obtain⟨l0,e1,e2,e3,e4,e5⟩:=R.live _ c g base e hb;rw[hl1] at e1;cases e1;obtain⟨cc,fz,hh,q1,q2⟩:=R.loc _ l hl1;have hro:l.ro=false:=by grind
   have hU:=R.wE hb hg hl1 hh hfit hl (List.all_eq_true.1 hsc);have hone:∀v∈vs',v.oneCell'=true:=by
    intro v' hv';obtain⟨i,hi⟩:=List.mem_iff_getElem?.1 hv';have hlt:i<vs.length:=(by have:=(List.getElem?_eq_some_iff.1 hi).1;have:=hl.1;omega);exact (hl.2 i vs[i] v' (by simp[hlt]) hi).Ua (List.all_eq_true.1 hsc _ (aoy hlt))
   have hst:=uh P l.au a'.off l.elem fz vs' 0 cc w hh (by have:=hl.1;omega) ((q2 hro).2 ⟨_,l,c,g,base,e,hl1,rfl,hb⟩) hone;refine⟨_,?_,hU⟩;have:a'=⟨l.au,a'.off,none⟩:=by cases a';simp_all
   grind [aR]
  .cases hx
 .cases hx
def Pn (R:Rel P W0 ι h w){t}{a a'}(ha:tC ι a a'){v v'}(hv:aO P ι v v'){n}(hn:bV P t=some n)(hs:v.cells.size=n)
  {x} (hx:sL a v.cells.toList h=some (x,h1)):∃w',(storeVar t a' v').run P w=.ok () w'/\Rel P W0 ι h1 w':=by
 obtain⟨w',hr,R'⟩:=GZ R ha hv.cells hx;refine⟨w',?_,R'⟩;have hc:=hv.cells.1;simp at hc;simp[storeVar,nP hn,<-hs,hc,hr]
theorem Nl {k k'}(hk:T6 k k'=true):k=k':=by cases k<;>cases k'<;>simp_all[T6,T5]
def CP {b}{x}(hx:qT b h=some (x,h1)):b=true/\h1=h:=by
 unfold qT at hx;grind
def iF.ret {s}{v v'}(hs:s.run P w=.ok v' w)(hv:aO P ι v v')(R:Rel P W0 ι h w):iF P W0 ι w s v h:=⟨v',w,ι,hs,hv,R,.refl _⟩
def aO.DW {k}{n}:aO P ι (.float k n) (.float k n):=.flat _ rfl
theorem aO.ofInt {k}{n}:aO P ι (.int k n) (.int k n):=.flat _ rfl
def aO.ofBool {b}:aO P ι (.bool b) (.bool b):=.flat _ rfl
def aO.ofStr {s}:aO P ι (.string s) (.string s):=.flat _ rfl
theorem Zm (R:Rel P W0 ι h w) op t k k' a b v
  (hx:(O1 op k a k' b).exec h=some (v,h1)):iF P W0 ι w (binOp op t (.int k a) (.int k' b)) v h1:=by
 unfold O1 at hx;split at hx
 .simp[Act.exec] at hx;split at hx
  .rename_i u h2 hc;obtain⟨hb,rfl⟩:=CP hc;cases hx;simp at hb;exact .ret (by simp[binOp,Op.shift,show ¬b<0 by omega]) .ofInt R
  .cases hx
 .simp[Act.exec] at hx;split at hx
  .rename_i u h2 hc;obtain⟨hb,rfl⟩:=CP hc;cases hx;simp at hb;exact .ret (by simp[binOp,Op.shift,show ¬b<0 by omega]) .ofInt R
  .cases hx
 .split at hx
  .simp[Act.exec] at hx
  .rename_i hk;obtain rfl:=Nl hk;split at hx
   .cases hx;exact .ret (by simp[binOp,Op.intArith]) .ofInt R
   .cases hx;exact .ret (by simp[binOp,Op.intArith]) .ofInt R
   .cases hx;exact .ret (by simp[binOp,Op.intArith]) .ofInt R
   .simp only[Act.exec] at hx;split at hx
    .rename_i u h2 hc;obtain⟨hb,rfl⟩:=CP hc;cases hx;simp at hb;exact .ret (by simp[binOp,Op.intDiv,hb]) .ofInt R
    .cases hx
   .simp only[Act.exec] at hx;split at hx
    .rename_i u h2 hc;obtain⟨hb,rfl⟩:=CP hc;cases hx;simp at hb;exact .ret (by simp[binOp,Op.intDiv,hb]) .ofInt R
    .cases hx
   .cases hx;exact .ret (by unfold binOp;simp only[ne_eq,ap7,anw];rfl) .ofInt R
   .cases hx;exact .ret (by unfold binOp;simp only[ne_eq,ap7,anw];rfl) .ofInt R
   .cases hx;exact .ret (by unfold binOp;simp only[ne_eq,ap7,anw];rfl) .ofInt R
   .cases hx;exact .ret (by unfold binOp;simp only[ne_eq,ap7,anw];rfl) .ofInt R
   .cases hx;exact .ret (by simp[binOp,Op.intCmp];rfl) .ofBool R
   .cases hx;exact .ret (by simp[binOp,Op.intCmp];rfl) .ofBool R
   .cases hx;exact .ret (by simp[binOp,Op.intCmp]) .ofBool R
   .cases hx;exact .ret (by simp[binOp,Op.intCmp]) .ofBool R
   .cases hx;exact .ret (by simp[binOp,Op.intCmp]) .ofBool R
   .cases hx;exact .ret (by simp[binOp,Op.intCmp]) .ofBool R
   .simp[Act.exec] at hx
def DX {o}{r}(hx:LJ o h=some (r,h1)):o=some r/\h1=h:=by
 unfold LJ at hx
 grind
theorem Zn (R:Rel P W0 ι h w) op t a b v
  (hx:(O7 op a b).exec h=some (v,h1)):iF P W0 ι w (binOp op t (.float .f64 a) (.float .f64 b)) v h1:=by
 unfold O7 at hx;split at hx
 .simp[Act.exec] at hx;split at hx
  .rename_i r h2 hc;obtain⟨e1,rfl⟩:=DX hc;cases hx;exact .ret (by simp[binOp,Op.floatArith,e1]) .DW R
  .cases hx
 .simp[Act.exec] at hx;split at hx
  .rename_i r h2 hc;obtain⟨e1,rfl⟩:=DX hc;cases hx;exact .ret (by simp[binOp,Op.floatArith,e1]) .DW R
  .cases hx
 .simp[Act.exec] at hx;split at hx
  .rename_i r h2 hc;obtain⟨e1,rfl⟩:=DX hc;cases hx;exact .ret (by simp[binOp,Op.floatArith,e1]) .DW R
  .cases hx
 .simp[Act.exec] at hx;split at hx
  .rename_i r h2 hc;obtain⟨e1,rfl⟩:=DX hc;cases hx;exact .ret (by simp[binOp,Op.floatArith,e1]) .DW R
  .cases hx
 .cases hx;exact .ret (by simp[binOp,Op.floatCmp,LK]) .ofBool R
 .cases hx;exact .ret (by simp[binOp,Op.floatCmp,LK,bne]) .ofBool R
 .cases hx;exact .ret (by simp[binOp,Op.floatCmp,fLt]) .ofBool R
 .cases hx;exact .ret (by simp[binOp,Op.floatCmp,fLt,LK]) .ofBool R
 .cases hx;exact .ret (by simp[binOp,Op.floatCmp,fGt]) .ofBool R
 .cases hx;exact .ret (by simp[binOp,Op.floatCmp,fGt,LK]) .ofBool R
 .simp[Act.exec] at hx
theorem Zo (R:Rel P W0 ι h w) op t a b v
  (hx:(O4 op a b).exec h=some (v,h1)):iF P W0 ι w (binOp op t (.string a) (.string b)) v h1:=by
 unfold O4 at hx;split at hx
 .simp[Act.exec] at hx;split at hx
  .rename_i u h2 hc;unfold mG at hc;split at hc
   .cases hc;cases hx;rename_i hsz;unfold bJ at hsz;refine .ret ?_ .ofStr R;simp only[binOp,Op.stringOp,IntKind.max_i64];rw[AT (by omega)];rfl
   .cases hc
  .cases hx
 .cases hx;exact .ret (by simp[binOp,Op.stringOp,s9]) .ofBool R
 .cases hx;exact .ret (by simp[binOp,Op.stringOp,s9]) .ofBool R
 .cases hx;exact .ret (by simp[binOp,Op.stringOp,LC]) .ofBool R
 .cases hx;exact .ret (by simp[binOp,Op.stringOp,s9,LC]) .ofBool R
 .cases hx;exact .ret (by simp[binOp,Op.stringOp,s9,LC]) .ofBool R
 .cases hx;exact .ret (by simp[binOp,Op.stringOp,LC]) .ofBool R
 .simp[Act.exec] at hx
def lR (R:Rel P W0 ι h w){op}{t}{u1 u2 v}{b}(h1':∀w,(Op.equal t u1 u2).run P w=.ok b w)
  (he:binOp .eql t u1 u2=(do pure (.bool (<-Op.equal t u1 u2)))) (hn:binOp .neq t u1 u2=(do pure (.bool (!(<-Op.equal t u1 u2)))))
  (hx:(BU op b).exec h=some (v,h1)):iF P W0 ι w (binOp op t u1 u2) v h1:=by
 unfold BU at hx;split at hx
 .cases hx;rw[he];exact .ret (by simp[h1']) .ofBool R
 .cases hx;rw[hn];exact .ret (by simp[h1']) .ofBool R
 .simp[Act.exec] at hx
def aeg d {t}{ms}(hd:P.underlying t=some (.interface ms)) w:(Op.equalIn (d+1) t .nilIface .nilIface).run P w=.ok true w:=by
 simp[Op.equalIn,aM hd]
def aeh d {t}{ms}(hd:P.underlying t=some (.interface ms)) e v w:(Op.equalIn (d+1) t (.iface e v) .nilIface).run P w=.ok false w:=by
 simp[Op.equalIn,aM hd]
def VU d {t}(hd:P.underlying t=some .bool) a b w:(Op.equalIn (d+1) t (.bool a) (.bool b)).run P w=.ok (a==b) w:=by
 simp[Op.equalIn,aM hd]
def aei d {t e}(hd:P.underlying t=some (.slice e)) a n c n' c' w:(Op.equalIn (d+1) t (.slice a n c) (.slice none n' c')).run P w=.ok a.isNone w:=by
 cases a<;>simp[Op.equalIn,aM hd]
def Zp d {t e}(hd:P.underlying t=some (.pointer e)) a w:(Op.equalIn (d+1) t (.pointer a) (.pointer none)).run P w=.ok a.isNone w:=by
 cases a<;>simp[Op.equalIn,aM hd]
def Zq d {t k e}(hd:P.underlying t=some (.map k e)) a w:(Op.equalIn (d+1) t (.map a) (.map none)).run P w=.ok a.isNone w:=by
 cases a<;>simp[Op.equalIn,aM hd]
def Zr {t}{ms}(hd:P.underlying t=some (.interface ms)) w:(Op.equal t .nilIface .nilIface).run P w=.ok true w:=aeg 9999 hd w
def Zs {t}{ms}(hd:P.underlying t=some (.interface ms)) d v w:(Op.equal t (.iface d v) .nilIface).run P w=.ok false w:=aeh 9999 hd d v w
def Zt {t}(hd:P.underlying t=some .bool) a b w:(Op.equal t (.bool a) (.bool b)).run P w=.ok (a==b) w:=VU 9999 hd a b w
def ai5 {t e}(hd:P.underlying t=some (.slice e)) a n c n' c' w:(Op.equal t (.slice a n c) (.slice none n' c')).run P w=.ok a.isNone w:=aei 9999 hd a n c n' c' w
def aej {t e}(hd:P.underlying t=some (.pointer e)) a w:(Op.equal t (.pointer a) (.pointer none)).run P w=.ok a.isNone w:=Zp 9999 hd a w
def Ud {t k e}(hd:P.underlying t=some (.map k e)) a w:(Op.equal t (.map a) (.map none)).run P w=.ok a.isNone w:=Zq 9999 hd a w
def Zu {t e}{i}(hd:P.underlying t=some (.pointer e))(hi:P.info? e=some i) a w:(Op.equal t (.pointer (some a)) (.pointer (some a))).run P w=.ok true w:=by
 have h:∀d:Nat,(Op.equalIn (d+1) t (.pointer (some a)) (.pointer (some a))).run P w=.ok true w:=λd=>by
  simp[Op.equalIn,run_underlying hd,sizeOf,typeInfo,hi,run_sameAddr_same]
 exact h 9999
def Nn {e}{n}(hs:bV P e=some n):∃i,P.info? e=some i/\i.size=n:=by
 grind [bV]
theorem tC.same {a b a' b'}(ha:tC ι a a')(hb:tC ι b b')(he:(Nat.beq a.block b.block&&Nat.beq a.off b.off)=true):a'=b':=by
 obtain⟨_,h2,l,h3,h4,h5⟩:=ha;obtain⟨_,k2,m,k3,k4,k5⟩:=hb;rw[ac5] at he;rw[abi he.1] at h3;cases a';cases b'
 simp_all
theorem LQ (R:Rel P W0 ι h w){op}{t}{x}{c}{u1 u1' v}(r1:aO P ι u1 u1')(hx:(Je P op t u1).exec h=some (v,h1)) :
  iF P W0 ι w (do eqGuard op t x (.const c) u1' .nilIface;binOp op t u1' .nilIface) v h1:=by
 unfold Je at hx;split at hx
 .rename_i hd;simp[Act.exec] at hx;split at hx
  .rename_i b h2 hc;cases hx;unfold nN at hc;split at hc
   .cases hc;obtain rfl:=r1.nilIface;rw[eqGuard_nil_constR];exact lR (op:=.eql) R (Zr hd) rfl rfl rfl
   .cases hc;cases r1 with
    |flat _ hf=>simp[dX] at hf
    |iface t' v1 v1' hv=>exact lR (op:=.eql) R (Zs hd _ _) rfl rfl rfl
   .cases hc
  .cases hx
 .rename_i hd;simp[Act.exec] at hx;split at hx
  .rename_i b h2 hc;cases hx;unfold nN at hc;split at hc
   .cases hc;obtain rfl:=r1.nilIface;rw[eqGuard_nil_constR];exact lR (op:=.neq) R (Zr hd) rfl rfl rfl
   .cases hc;cases r1 with
    |flat _ hf=>simp[dX] at hf
    |iface t' v1 v1' hv=>exact lR (op:=.neq) R (Zs hd _ _) rfl rfl rfl
   .cases hc
  .cases hx
 .simp[Act.exec] at hx
def aO.Np {v v'}(hr:aO P ι v v')(hf:dX v=true):v'=v:=by
 cases hr with
 |flat=>rfl
 |agg cs cs' hs hv=>grind [absurd,dX]
 |_=>simp[dX] at hf
def Po {t}{x y}{b}(h:eq1 P t x y=some b):dX x=true/\dX y=true/\∃d,P.underlying t=some d/\CK d=false:=by
 unfold eq1 at h;split at h
 .split at h
  .rename_i hd;exact⟨rfl,rfl,_,hd,rfl⟩
  .cases h
 .split at h
  .rename_i hd;exact⟨rfl,rfl,_,hd,rfl⟩
  .cases h
 .split at h
  .rename_i hd;exact⟨rfl,rfl,_,hd,rfl⟩
  .cases h
 .cases h
def aek {t}{x y}{b}(h:eq1 P t x y=some b) d w:(Op.equalIn (d+1) t x y).run P w=.ok b w:=by
 unfold eq1 at h;split at h
 .grind [Nl,run_equalIn_int]
 .grind [run_equalIn_bool]
 .grind [run_equalIn_string,s9]
 .cases h
def JF {t}{d}(hd:P.underlying t=some d)(hs:CK d=false){cs}{o}{v}(h:cs[o]?=some v) w:(part t cs o).run P w=.ok v w:=by
 simp[part,vF hd,hs,h]
def Pp {xs ys}:∀fs o b d w ,O5 P fs o (xs.toList.drop o) (ys.toList.drop o)=some b->(Op.eqFields (d+1) xs ys fs).run P w=.ok b w
 |[],o,b,d,w,h=>by
  unfold O5 at h;split at h
  .cases h;simp[Op.eqFields]
  .cases h
 |f::fs,o,b,d,w,h=>by
  unfold O5 at h;split at h
  .rename_i x xs' y ys' hx hy;split at h
   .rename_i hn ho;split at h
    .rename_i a ha;split at h
     .rename_i b' hb;cases h;have ho:=abi ho;have hn : f.name ≠ "_" := by grind
      obtain⟨_,_,dd,hd,hg⟩:=Po ha;have hx0:xs[o]?=some x:=by
       rw[<-aiK,<-amh o,<-anB,hx];rfl
      have hy0:ys[o]?=some y:=by
       rw[<-aiK,<-amh o,<-anB,hy];rfl
      have hxt:xs.toList.drop (o+1)=xs':=(by rw[<-aoB,hx];rfl);have hyt:ys.toList.drop (o+1)=ys':=(by rw[<-aoB,hy];rfl);have ih:=Pp (ys:=ys) fs (o+1) b' d w (by rw[hxt,hyt];exact hb);unfold Op.eqFields;rw[By hn,ho];simp[Sem.run_bind,JF hd hg hx0,JF hd hg hy0,Result.andThen_ok,aek ha d w]
      grind
     .cases h
    .cases h
   .cases h
  .cases h
def Mu:∀fs o xs ys b ,O5 P fs o xs ys=some b->(∀v∈xs,dX v=true)/\(∀v∈ys,dX v=true)
 |[],o,xs,ys,b,h=>by
  grind [O5,absurd]
 |f::fs,o,xs,ys,b,h=>by
  unfold O5 at h;split at h
  .split at h
   .split at h
    .rename_i a ha;split at h
     .rename_i b' hb;obtain⟨h1,h2,_⟩:=Po ha;obtain⟨h3,h4⟩:=Mu fs _ _ _ _ hb
      grind
     .cases h
    .cases h
   .cases h
  .cases h
def aO.Ue {cs}{v'}(hr:aO P ι (.agg cs) v')(hf:∀v∈cs.toList,dX v=true):v'=.agg cs:=by
 cases hr with
 |flat=>rfl
 |agg _ cs' hs hv=>
  congr 1
  apply aqI;intro i;cases h1:cs[i]? with
  |none=>
   grind
  |some v=>
   have hi:i<cs'.size:=by grind
   have h2:cs'[i]?=some cs'[i]:=amr hi;rw[h2];have:=(hv i v _ h1 h2).Np (hf v (by grind));rw[this]
def Pq {a b}{r}(hx:eqP a b h=some (r,h1)):h1=h/\r=true/\∃x y,a=some x/\b=some y/\(Nat.beq x.block y.block&&Nat.beq x.off y.off)=true:=by
 unfold eqP at hx
 grind
def Pr (R:Rel P W0 ι h w){op}{t e}{x y}{a b}{u1' u2' v}(r1:aO P ι (.pointer a) u1')(r2:aO P ι (.pointer b) u2')(hd:P.underlying t=some (.pointer e)){n}(hs:bV P e=some n)
  (hx:(Act.ask Bool (eqP a b) λr=>BU op r).exec h=some (v,h1)):iF P W0 ι w (do eqGuard op t x y u1' u2';binOp op t u1' u2') v h1:=by
 simp[Act.exec] at hx;split at hx
 .rename_i r h2 hr;obtain⟨rfl,rfl,a,b,rfl,rfl,he⟩:=Pq hr;obtain⟨a',rfl,ha⟩:=r1.LP;obtain⟨b',rfl,hb⟩:=r2.LP;rw[eqGuard_at_pointer];obtain⟨i,hi,_⟩:=Nn hs;rw[tC.same ha hb he];exact lR R (Zu hd hi _) rfl rfl hx
 .cases hx
def Rt (R:Rel P W0 ι h w){op}{t}{x y}{u1 u2 u1' u2' v}(r1:aO P ι u1 u1')(r2:aO P ι u2 u2')
  (hy:u2=.nilIface->∃c,y=.const c) (hx:(Za P op t u1 u2).exec h=some (v,h1)):iF P W0 ι w (do eqGuard op t x y u1' u2';binOp op t u1' u2') v h1:=by
 unfold Za at hx;split at hx
 .obtain⟨c,rfl⟩:=hy rfl;obtain rfl:=r2.nilIface
  grind [LQ]
 .unfold Y9 at hx;split at hx
  .obtain rfl:=r1.int;grind [r2.int,eqGuard_at_int,Zm]
  .obtain rfl:=r1.str;grind [r2.str,eqGuard_at_string,Zo]
  .obtain rfl:=r1.float;grind [r2.float,eqGuard_at_float,Zn]
  .obtain rfl:=r1.bool;obtain rfl:=r2.bool;rw[eqGuard_at_bool];split at hx
   .rename_i hd;exact lR R (Zt hd _ _) rfl rfl hx
   .simp[Act.exec] at hx
  .obtain⟨a',c',rfl,hn⟩:=r1.slO;obtain⟨a2',c2',rfl,hn2⟩:=r2.slO;have:a2'=none:=by cases a2'<;>simp_all
   subst this;rw[eqGuard_at_slice];split at hx
   .rename_i hd;rw[<-hn] at hx;exact lR R (ai5 hd _ _ _ _ _) rfl rfl hx
   .simp[Act.exec] at hx
  .obtain⟨p',rfl,hn,_⟩:=r1.aef;obtain⟨p2',rfl,hn2,_⟩:=r2.aef;have:p2'=none:=by cases p2'<;>simp_all
   subst this;rw[eqGuard_at_pointer];split at hx
   .rename_i hd;rw[<-hn] at hx;exact lR R (aej hd _) rfl rfl hx
   .simp[Act.exec] at hx
  .rename_i r _;cases r1 with
   |flat _ hf=>
    cases r with
    |some r=>simp[dX] at hf
    |none=>
     cases r2;rw[eqGuard_at_map];split at hx
     .rename_i hd;exact lR R (Ud hd _) rfl rfl hx
     .simp[Act.exec] at hx
   |map m r hr=>
    cases r2;rw[eqGuard_at_map];split at hx
    .rename_i hd;exact lR R (Ud hd (some r)) rfl rfl hx
    .simp[Act.exec] at hx
  .split at hx
   .rename_i fs hd hp hm;split at hx
    .rename_i b hb;obtain⟨f1,f2⟩:=Mu _ _ _ _ _ hb;obtain rfl:=r1.Ue f1;obtain rfl:=r2.Ue f2;have hfo:P.fieldsOf t=fs:=(by unfold Program.fieldsOf;rw[hd]);have he:∀w,(Op.equalIn 10000 t (.agg _) (.agg _)).run P w=.ok b w:=λw=>by
      rw[run_equalIn_struct w 9999 t _ _ (by rw[hfo];exact hd) hp,hfo];exact Pp fs.toList 0 b 9998 w hb
     unfold BU at hx;split at hx
     .cases hx;exact .ret (by rw[Sem.run_bind,run_eqGuard_agg w _ _ _ _ _ _ hm,Result.andThen_ok,run_eql_struct,he];rfl) .ofBool R
     .cases hx;exact .ret (by rw[Sem.run_bind,run_eqGuard_agg w _ _ _ _ _ _ hm,Result.andThen_ok,run_neq_struct,he];rfl) .ofBool R
     .simp[Act.exec] at hx
    .simp[Act.exec] at hx
   .simp[Act.exec] at hx
  .simp[Act.exec] at hx
def VV (R:Rel P W0 ι h w){op}{x x' v}(hr:aO P ι x x')(hx:(aun op x).exec h=some (v,h1)):iF P W0 ι w (Op.unary op x') v h1:=by
 unfold aun at hx;split at hx
 .cases hx;obtain rfl:=hr.int;exact .ret (by simp[Op.unary,Op.intArith]) .ofInt R
 .cases hx;obtain rfl:=hr.bool;exact .ret (by simp[Op.unary]) .ofBool R
 .cases hx;obtain rfl:=hr.float;exact .ret (by simp[Op.unary,aiZ]) .DW R
 .simp[Act.exec] at hx
def qU s:(bK s).all dX=true:=by
 rw[anG];intro v hv;simp[bK] at hv;obtain⟨b,_,rfl⟩:=hv;rfl
def Ps (w:World) cs e :
  World.freeze { w with heap:=w.heap.push (.cells cs e (0,0)) } { block:=w.heap.size,off:=cs.size } 1={ w with heap:=w.heap.push (.cells cs e (cs.size,cs.size+1)) }:=by
 unfold World.freeze;rw[AT (by decide)]
 congr 1
 grind
def JG (R:Rel P W0 ι h w){e}(he:bV P e=some 1){s}{r}(hx:Ao e s h=some (r,h1)) :
  iF P W0 ι w (Conv.stringToBytes e s) (.slice r.a r.len r.cap) h1:=by
 unfold Ao at hx;split at hx
 .cases hx;have hge:s.size<=(Question.appendCap s.size 0 e).cut (w.tape w.drawn (.appendCap s.size 0 e)):=by simp[Question.cut]
  generalize hcap:(Question.appendCap s.size 0 e).cut (w.tape w.drawn (.appendCap s.size 0 e))=cap at hge;have R1:Rel P W0 ι h { w with drawn:=w.drawn+1 }:=R.of_heap rfl ⟨rfl,rfl⟩;have hlen:(bK s).length=s.size:=by simp[bK]
  obtain⟨ι',hle,hnew,R'⟩:=R1.new e (bK s) (bK s) (List.replicate (cap-s.size) (Value.int .u8 0)) (cap,cap+1)
   (by grind) (aZ.flat (qU s)) (λv hv=>wj (List.all_eq_true.1 (qU s) v hv))
  refine⟨.slice (some ⟨w.heap.size,0,none⟩) s.size cap,_,ι',?_,?_,R',hle⟩
  .have hsz2:((bK s++List.replicate (cap-s.size) (Value.int .u8 0)).toArray).size=cap:=by simp[hlen];omega
   have hfr:=Ps { w with drawn:=w.drawn+1 } (bK s++List.replicate (cap-s.size) (Value.int .u8 0)).toArray e;rw[hsz2] at hfr;have hel:(s.data.map λb=>Value.int .u8 b.toNat)++Array.replicate (cap-s.size) (Value.int .u8 0)=(bK s++List.replicate (cap-s.size) (Value.int .u8 0)).toArray:=by
    simp[bK]
   simp only[Conv.stringToBytes,Sem.run_bind,run_choose,Question.forced,aht,anw,Result.andThen_ok,hcap,hel,newRow,run_newObj,Sem.run_pure,markStringish,run_shape];simp[World.shape?,hsz2,hfr]
  .exact .slice _ _ _ _ _ _ rfl rfl hnew rfl rfl hge (.inl rfl) (λ_ _=>by grind [Nk])
 .cases hx
def wm (R:Rel P W0 ι h w){a a'}(ha:tC ι a a'){n}{cs}(hc:aX h (some a) n=some cs) :
  ∃cs',aZ P ι cs cs'/\cs.length=n/\(∀v∈cs,fv v=true)/\(loadCells a' n).run P w=.ok cs'.toArray w/\(∀i v',cs'[i]?=some v'->w.cell? (a'.add i)=some v'):=by
 unfold aX at hc;split at hc
 .rename_i heq;cases heq
 .rename_i b heq;cases heq;split at hc
  .rename_i c g base e hb;split at hc
   .rename_i hfit;cases hc;obtain⟨l,e1,e2,e3,e4,e5⟩:=R.live _ c g base e hb;obtain⟨h1,h2,l',hl1,hl2,hl3⟩:=ha;rw[e1] at hl1;cases hl1;have hlen:((c.drop a.off).take n).length=n:=(by simp;omega);have key:∀i,i<n->∃v',w.cell? (a'.add i)=some v'/\∀v,c[a.off+i]?=some v->fv v=true/\aO P ι v v':=by
     intro i hi;have hlt:a.off+i<c.length:=(by omega);obtain⟨v',hv',x⟩:=e5 (a.off+i) c[a.off+i] (by simp[hlt])
     grind [List.getElem?_eq_getElem,add_eq,Nat.add_assoc]
    have hch:∃f:Nat->ξ,∀i,i<n->w.cell? (a'.add i)=some (f i)/\∀v,c[a.off+i]?=some v->fv v=true/\aO P ι v (f i):=by
     refine⟨λi=>(w.cell? (a'.add i)).getD undef,λi hi=>?_⟩
     grind
    obtain⟨f,hf⟩:=hch;refine⟨(List.range n).map f,⟨by simp;omega,λi v v' hv hv'=>?_⟩,hlen,λv hv=>?_,run_loadCells w a' n f (λj hj=>(hf j hj).1),λi v' hv'=>?_⟩
    .grind
    .grind [List.mem_iff_getElem?]
    grind
   .cases hc
  .cases hc
def Zv {s}{sz}{cs}(hx:EU s sz h=some (cs,h1)):h1=h/\((s.len=0/\cs=[])\/aX h s.a (s.len*sz)=some cs):=by
 unfold EU at hx
 grind
structure Src (P:Program) (ι:iE) (h:aj) (w:World) (size n:Nat) (x':ξ) (new new':δ):Prop where
 len:∀w',(Builtin.lenOf x').run P w'=.ok n w'
 cells:∀w',w'.heap=w.heap->(Builtin.firstCells size n x').run P w'=.ok new'.toArray w'
 rel:aZ P ι new new'
 sc:∀v∈new,fv v=true
theorem VW (he:w'.heap=w.heap) a:w'.cell? a=w.cell? a:=by simp[World.cell?,he]
def yk {a'}{n}{cs':δ}(hl:cs'.length=n)(hc:∀(i:Nat) v',cs'[i]?=some v'->w.cell? (a'.add i)=some v')(he:w'.heap=w.heap) :
  (loadCells a' n).run P w'=.ok cs'.toArray w':=by
 grind [run_loadCells_list,VW]
def Src.apH (R:Rel P W0 ι h w){a}{n c}{x'}(hr:aO P ι (.slice a n c) x'){size}{cs}
  (hc:(n=0/\cs=[])\/aX h a (n*size)=some cs):∃cs',Src P ι h w size n x' cs cs':=by
 rcases hc with⟨rfl,rfl⟩|hc
 .have hx:∃a' c',x'=.slice a' 0 c':=by
   cases hr with
   |flat _ hf=>exact⟨_,_,rfl⟩
   |slice a a' n c c' l=>exact⟨_,_,rfl⟩
   |nO a a' c hce=>exact⟨_,_,rfl⟩
  obtain⟨a',c',rfl⟩:=hx;exact⟨[],λw'=>by simp[Builtin.lenOf],λw' _=>by cases a'<;>simp[Builtin.firstCells,loadCells,loadCellsFrom],.nil,by simp⟩
 cases hr with
 |flat _ hf=>
  cases a with
  |some a=>simp[dX] at hf
  |none=>
   simp[aX] at hc;obtain⟨h0,rfl⟩:=hc;exact⟨[],λw'=>by simp[Builtin.lenOf],λw' _=>by simp[Builtin.firstCells],.nil,by simp⟩
 |slice a a' n c c' l e1 e2 e3 e4 e5 e6 e7 e8=>
  obtain⟨cs',q1,q2,q3,q4,q5⟩:=wm R ⟨e1,e2,l,e3,e4,e5⟩ hc;exact⟨cs',λw'=>by simp[Builtin.lenOf],λw' he=>by simpa[Builtin.firstCells] using yk (by rw[<-q1.1,q2]) q5 he,q1,q3⟩
 |nO a a' c hce=>
  have:cs=[]:=by
   grind [aX]
  subst this;exact⟨[],λw'=>by simp[Builtin.lenOf],λw' _=>by simp[Builtin.firstCells,loadCells,loadCellsFrom],.nil,by simp⟩
def Src.ofStr s:Src P ι h w 1 s.size (.string s) (bK s) (bK s):=
 ⟨λw'=>by simp[Builtin.lenOf],λw' _=>by
  simp[Builtin.firstCells,Sem.run_pure]
  grind [ByteArray.extract_zero_size,Array.ext',bK],aZ.flat (qU s),λv hv=>wj (List.all_eq_true.1 (qU s) v hv)⟩
def wI {t xT e ty}{i}(ht:P.underlying t=some (.slice e))(hxt:(∃e',P.underlying xT=some (.slice e'))\/P.underlying xT=some .string)(hi:P.info? e=some i)
  {n} {x'} {new new'} (S:Src P ι h w i.size n x' new new') base sLen sCap (hroom:sLen+n<=sCap) {w1}
  (hst:(match base with|some a=>storeCells (a.add (sLen*i.size)) new' | none=>Pure.pure ()).run P w=.ok () w1) :
  (Builtin.append_ #[t,xT] ty #[.slice base sLen sCap,x']).run P w=.ok (.slice base (sLen+n) sCap) w1:=by
 have hc:=S.cells w rfl;cases base with
 |none=>
  simp at hst;subst hst;rcases hxt with⟨e',hd⟩|hd<;>simp[Builtin.append_,aM ht,aM hd,sizeOf,typeInfo,hi,S.len,hroom,hc]
 |some a=>
  simp at hst;rcases hxt with⟨e',hd⟩|hd<;>simp[Builtin.append_,aM ht,aM hd,sizeOf,typeInfo,hi,S.len,hroom,hc,hst]
def EF z n:(Builtin.zeroCells z n).size=n*z.size:=by simp[Builtin.zeroCells]
def H7 {t xT e ty}{i}{z}(ht:P.underlying t=some (.slice e))(hxt:(∃e',P.underlying xT=some (.slice e'))\/P.underlying xT=some .string)(hi:P.info? e=some i)(hz:i.zero=some z)
  (hb:i.bytes<=4096) {n} {x'} {new new'} (S:Src P ι h w i.size n x' new new') base sLen sCap (hroom:sCap<sLen+n) (hbig:sLen+n<=bJ)
  {old'} (hold:∀w',w'.heap=w.heap->(Builtin.firstCells i.size sLen (.slice base sLen sCap)).run P w'=.ok old'.toArray w') :
  ∃cap,sLen+n<=cap/\(Builtin.append_ #[t,xT] ty #[.slice base sLen sCap,x']).run P w =
   .ok (.slice (some ⟨w.heap.size,0,none⟩) (sLen+n) cap) { w with drawn:=w.drawn+1,heap:=w.heap.push (.cells ((old'++new')++(Builtin.zeroCells z.cells (cap-(sLen+n))).toList).toArray e) }:=by
 have hge:sLen+n<=(Question.appendCap (sLen+n) sCap e).cut (w.tape w.drawn (.appendCap (sLen+n) sCap e)):=by simp[Question.cut]
 refine⟨_,hge,?_⟩;have hn:¬(sLen+n<=sCap):=by omega
 unfold bJ at hbig;have h63':¬(9223372036854775807<((sLen:Int)+(n:Int))):=by omega
 have h48':¬(281474976710656<Builtin.nextslicecap (sLen+n) sCap*i.bytes):=by
  have:=nextslicecap_le hroom;have h2:Builtin.nextslicecap (sLen+n) sCap*i.bytes<=(2*(sLen+n))*4096:=apE this hb;omega
 have hf:=S.cells { w with drawn:=w.drawn+1 } rfl;have hfo:=hold { w with drawn:=w.drawn+1 } rfl;simp at hf hfo;rcases hxt with⟨e',hd⟩|hd <;>
  simp[Builtin.append_,aM ht,aM hd,sizeOf,typeInfo,zeroValue,hi,hz,S.len,hn,h63',h48',Question.forced,newRow,hf,hfo]
 all_goals
  unfold World.alloc World.drew;simp only
  congr 3
  simp_all
def ai6 {a}{c vs}{g base}{e}(hb:h.get a.block=some (.cells c g base e))(hg:g≠0)(hfit:a.off+vs.length<=c.length)(hsc:vs.all fv=true) :
  sL a vs h=some ((),h.wE a.block (aR c a.off vs) g base e):=by
 unfold sL;grind
def Pt (R:Rel P W0 ι h w){a a':Addr}{l}(e1:a.spot=none)(e2:a'.spot=none)(e3:ι a.block=some l)(e4:a'.block=l.au)(e5:a'.off=l.off+a.off)
  {c} {g base} (hblk:h.get a.block=some (.cells c g base l.elem)) (hg:g≠0) {k} {qC new new'} (hold:aX h (some a) k=some qC)
  (hrel:aZ P ι new new') (hsc:∀v∈new,fv v=true) (hroom:a'.off+k+new.length<=l.size)
  get' tip' (hsub:∀j au,get' j=some au->h.get j=some au)
  (htip:∀b c g' base' e',get' b=some (.cells c g' base' e')->g'≠0->base'+c.length<=tip' g') (htipn:base+a.off+(qC++new).length<=tip' g)
  (hend:∀b c' base' e',get' b=some (.cells c' g base' e')->base'+c'.length<=base+a.off+k) :
  ∃w' ι',(storeCells (a'.add k) new').run P w=.ok () w'/\ι.le ι'/\ι' h.next=some ⟨l.au,l.off+a.off,l.size,l.elem,false⟩ /\
   Rel P W0 ι' (h.ext h.next (h.next+1) get' (.cells (qC++new) g (base+a.off) l.elem) tip') w':=by
 obtain⟨l0,f1,f2,f3,f4,f5⟩:=R.live _ c g base l.elem hblk;rw[e3] at f1;cases f1;obtain⟨cc,fz,hh,q1,q2⟩:=R.loc _ l e3;have hro:l.ro=false:=by grind
 have hone:∀v∈new',v.oneCell'=true:=by
  intro v' hv';obtain⟨i,hi⟩:=List.mem_iff_getElem?.1 hv';have hlt:i<new.length:=by have:=(List.getElem?_eq_some_iff.1 hi).1;have:=hrel.1;omega
  exact (hrel.2 i new[i] v' (by simp[hlt]) hi).Ua (hsc _ (aoy hlt))
 have hlen:=hrel.1;have hst:=uh P l.au (a'.off+k) l.elem fz new' 0 cc w hh (by omega) ((q2 hro).2 ⟨_,l,c,g,base,l.elem,e3,rfl,hblk⟩) hone;have hadd:a'.add k=⟨l.au,a'.off+k,none⟩:=by rw[add_eq e2,e4]
 have hsp:cc.toList.take (a'.off+k+0)++new'++cc.toList.drop (a'.off+k+0+new'.length)=aR cc.toList (l.off+a.off+k) new':=by
  simp[aR,e5]
 rw[<-hadd,hsp] at hst;have hfit:l.off+a.off+k+new'.length<=cc.toList.length:=by simp;omega
 have hstay:∀b c1 g1 base1 e1' l1,get' b=some (.cells c1 g1 base1 e1')->ι b=some l1->l1.au=l.au->g1=g/\l.off+base1=l1.off+base/\l1.off+c1.length<=l.off+a.off+k:=by
  intro b c1 g1 base1 e1' l1 hb hl1 hbl;obtain⟨p1,p2⟩:=R.jU a.block b l l1 c g base l.elem c1 g1 base1 e1' e3 hl1 hro hblk (hsub _ _ hb) hbl.symm
  grind
 have R1:Rel P W0 ι { h with get:=get' } (w.setRow l.au (aR cc.toList (l.off+a.off+k) new').toArray):=by
  refine R.write get' l.au l.size l.elem cc _ fz (q2 hro).1 hh (by simp[qB _ _ _ hfit]) (λb hb=>?_) (λb c1 g1 base1 e1' hb=>?_)
  .cases hq:get' b with
   |none=>rfl
   |some au=>have:=(R.AV b hb).1;rw[hsub _ _ hq] at this;cases this
  .refine⟨g1,c1,hsub _ _ hb,rfl,rfl,λ_ _ _=>rfl,λl1 hl1 hbl i v hv=>?_⟩;obtain⟨_,_,p3⟩:=hstay b c1 g1 base1 e1' l1 hb hl1 hbl;obtain⟨l2,g1',g2',g3',g4',g5'⟩:=R.live b c1 g1 base1 e1' (hsub _ _ hb);rw[hl1] at g1';cases g1';obtain⟨v',x,y⟩:=g5' i v hv;have hi:=(List.getElem?_eq_some_iff.1 hv).1;refine⟨v',?_,y⟩;simp only[apA,vE _ _ _ _ hfit];rw[By (by omega)];simp only[World.cell?,hbl,hh] at x;simpa using x
 have hget:=JC l.au (aR cc.toList (l.off+a.off+k) new').toArray cc l.elem fz hh;have hlold:qC.length=k/\(∀(i:Nat) v,qC[i]?=some v->i<k/\c[a.off+i]?=some v):=by
  simp only[aX,hblk] at hold;split at hold
  .cases hold;refine⟨by simp;omega,λi v hv=>?_⟩;rw[ap1] at hv;split at hv
   .rename_i hi;rw[anB] at hv;exact⟨hi,hv⟩
   .cases hv
  .cases hold
 have hcells:∀(i:Nat) v,(qC++new)[i]?=some v->∃v',World.cell? (w.setRow l.au (aR cc.toList (l.off+a.off+k) new').toArray) ⟨l.au,l.off+a.off+i,none⟩=some v'/\fv v=true/\aO P ι v v':=by
  intro i v hv;have hok:=hlold.1;have hb0:(w.setRow l.au (aR cc.toList (l.off+a.off+k) new').toArray).heap[l.au]?=some (.cells (aR cc.toList (l.off+a.off+k) new').toArray l.elem fz):=by rw[hget,By rfl]
  have hcl:World.cell? (w.setRow l.au (aR cc.toList (l.off+a.off+k) new').toArray) ⟨l.au,l.off+a.off+i,none⟩=(aR cc.toList (l.off+a.off+k) new')[l.off+a.off+i]?:=by
   simp[World.cell?,hb0]
  rw[hcl,vE _ _ _ _ hfit];rw[arf] at hv;split at hv
  .rename_i hi;obtain⟨p1,p2⟩:=hlold.2 i v hv;obtain⟨v',x,y⟩:=f5 _ v p2;refine⟨v',?_,y⟩;rw[By (by omega)];simp only[World.cell?,hh] at x;simpa[aps] using x
  .rename_i hi;obtain⟨v',x,y⟩:=hrel.get hv;have hi2:=(List.getElem?_eq_some_iff.1 x).1;refine⟨v',?_,hsc v (BY hv),y⟩;rw[AT (by omega),By (by omega)];rw[<-x];congr 1;omega
 obtain⟨ι',hle,hnew,R2⟩:=R1.aee ⟨l.au,l.off+a.off,l.size,l.elem,false⟩ rfl (q2 hro).1
  (by rw[hget,By rfl]) (by simp[qB _ _ _ hfit,q1]) (λo ho=>(q2 hro).2 ⟨_,l,c,g,base,l.elem,e3,rfl,hblk⟩ o (by simpa[qB _ _ _ hfit] using ho)) g (base+a.off) (qC++new) tip'
  hcells (by simp[hlold.1];omega) (λb l1 c1 g1 base1 e1' hl1 hb hbl=>(by
   obtain⟨p1,p2,_⟩:=hstay b c1 g1 base1 e1' l1 hb hl1 hbl;exact⟨p1,by simp;omega⟩)) hg (R.sx _ c g base l.elem hblk hg).2 htip htipn
 exact⟨_,ι',hst,hle,hnew,R2⟩
def Pv {strict}{s}{sz}{e}{n}{new}{r}(hx:app strict s sz e n new h=some r):zO strict s sz e n new h=some r:=by
 grind [app]
def G0 (R:Rel P W0 ι h w){t xT e ty}{i}{z}(ht:P.underlying t=some (.slice e))
  (hxt:(∃e',P.underlying xT=some (.slice e'))\/P.underlying xT=some .string) (hi:P.info? e=some i) (hz:zeroOf P e=some z) (hb:i.bytes<=4096)
  {s} {s' x'} (hr:aO P ι (.slice s.a s.len s.cap) s') {n} {new new'} (S:Src P ι h w i.size n x' new new')
  {strict} {r} (hx:app strict s i.size e n new h=some (r,h1)) :
  iF P W0 ι w (Builtin.append_ #[t,xT] ty #[s',x']) (.slice r.a r.len r.cap) h1:=by
 obtain⟨hzf,hz1,hz2,i2,hi2,hz3,hz4⟩:=hC hz;rw[hi] at hi2;cases hi2;obtain⟨sa,sn,sc⟩:=s
 replace hx:=Pv hx
 simp only[zO] at hx;simp at hr;have hsz:szT P e=i.size:=by rw[Nk hz2,hz4]
 split at hx
 ·-- nothing is appended
  rename_i hn0;subst hn0;cases sa with
  |none=>
   simp only at hx;split at hx
   .rename_i hc;cases hx;obtain⟨c1,c2,c3⟩:=hc;subst c1;subst c2;cases hr;exact .ret (wI ht hxt hi S none 0 0 (by omega) (by simp)) (.flat _ rfl) R
   .cases hx
  |some a=>
   simp only at hx;split at hx
   .rename_i hc;cases hx;subst hc;have hn':new'=[]:=ahe S.rel.1.symm;subst hn';have hr0:=hr;cases hr with
    |flat _ hf=>simp[dX] at hf
    |slice _ a' _ _ c' l e1 e2 e3 e4 e5 e6 e7 e8=>
     exact .ret (wI ht hxt hi S (some a') _ c' (by omega) (by simp[storeCells])) hr0 R
    |nO _ a' _ hce=>
     exact .ret (wI ht hxt hi S (some a') _ 0 (by omega) (by simp[storeCells])) hr0 R
   .cases hx
 .rename_i hn0;split at hx
  .cases hx
  .rename_i hlim;have hlim:sn+n<=bJ/\new.length=n*i.size:=apY λx=>hlim x;obtain⟨hbig,hnl⟩:=hlim;cases sa with
   |none=>
    simp only at hx;split at hx
    .rename_i hc;cases hx;obtain⟨c1,c2⟩:=hc;subst c1;subst c2;cases hr;obtain⟨cap,hcap,hrun⟩:=H7 (ty:=ty) ht hxt hi hz3 hb S none 0 0 (by omega) (by omega) (old':=[]) (λw' _=>by simp[Builtin.firstCells]);have R1:Rel P W0 ι h { w with drawn:=w.drawn+1 }:=R.of_heap rfl ⟨rfl,rfl⟩;obtain⟨ι',hle,hnew,R'⟩:=R1.new e new new' (Builtin.zeroCells z.cells (cap-(0+n))).toList (0,0) (by intro o _;simp) S.rel S.sc;rw[ad6] at hcap hrun hnew R';refine⟨_,_,ι',hrun,?_,?_,hle⟩
     .refine .slice _ _ _ _ _ _ rfl rfl hnew rfl rfl hcap (.inl rfl) (λ_ _=>?_);simp[hsz,<-S.rel.1,hnl,Array.length_toList,EF,ad6,<-hz4];rw[<-anz]
      grind
     .simpa using R'
    .cases hx
   |some a=>
    simp only at hx;split at hx
    .rename_i qC c g base e1 hold hblk;have hgrow:∀(sCap:Nat) (a':Addr) (old':δ) (get':Nat->Option Nc) (tip':Nat->Nat) (g2 base2:Nat),
       (∀w',w'.heap=w.heap->(Builtin.firstCells i.size sn (.slice (some a') sn sCap)).run P w'=.ok old'.toArray w') ->
       aZ P ι qC old'->(∀v∈qC,fv v=true)->qC.length=sn*i.size->sCap<sn+n ->
       (∀j au,get' j=some au->h.get j=some au)->g2≠0->(g2=h.next+1\/h.used (g2-1)=true) ->
       (∀b c g' base' e',get' b=some (.cells c g' base' e')->g'≠0->base'+c.length<=tip' g')->base2+(qC++new).length<=tip' g2 ->
       iF P W0 ι w (Builtin.append_ #[t,xT] ty #[.slice (some a') sn sCap,x']) (.slice (some ⟨h.next,0,none⟩) (sn+n) 0) (h.ext h.next (h.next+1) get' (.cells (qC++new) g2 base2 e) tip'):=by
      intro sCap a' old' get' tip' g2 base2 q1 q2 q3 q4 q5 q6 q7 q8 q9 q10;obtain⟨cap,hcap,hrun⟩:=H7 (ty:=ty) ht hxt hi hz3 hb S (some a') sn sCap q5 hbig q1;have R1:Rel P W0 ι h { w with drawn:=w.drawn+1 }:=R.of_heap rfl ⟨rfl,rfl⟩;obtain⟨ι',hle,hnew,R'⟩:=R1.ahm h.next (h.next+1) R.unused ⟨by omega,by omega⟩ get' tip' g2 base2 e (qC++new) (old'++new') (Builtin.zeroCells z.cells (cap-(sn+n))).toList (0,0) q6 q7 q8 q9 q10
       (by intro o _;simp) (q2.append S.rel) (λv hv=>(List.mem_append.1 hv).elim (q3 v) (S.sc v))
      refine⟨_,_,ι',hrun,?_,?_,hle⟩
      .refine .slice _ _ _ _ _ _ rfl rfl hnew rfl rfl hcap (.inl rfl) (λ_ _=>?_);have e3:(old'++new').length=(sn+n)*i.size:=(by rw[acm,<-q2.1,<-S.rel.1,q4,hnl,anz]);simp only[hsz,e3,Array.length_toList,EF,ad6,<-hz4];rw[<-anz]
       grind
      .simpa using R'
     have hsrc:∀(a':Addr) (sCap:Nat),(tC ι a a'\/sn=0)->∃old',(∀w',w'.heap=w.heap->(Builtin.firstCells i.size sn (.slice (some a') sn sCap)).run P w'=.ok old'.toArray w') /\
       aZ P ι qC old'/\(∀v∈qC,fv v=true)/\qC.length=sn*i.size:=by
      intro a' sCap hor;rcases hor with ha|h0
      .obtain⟨cs',q1,q2,q3,q4,q5⟩:=wm R ha hold;exact⟨cs',λw' he=>by simpa[Builtin.firstCells] using yk (by rw[<-q1.1,q2]) q5 he,q1,q3,q2⟩
      .subst h0;have:qC=[]:=by
        grind [aX]
       subst this;exact⟨[],λw' _=>by simp[Builtin.firstCells,loadCells,loadCellsFrom],.nil,by simp,by simp⟩
     have holdlen:qC.length=sn*i.size:=by
      grind [aX]
     split at hx
     ·-- known room
      rename_i hroom;split at hx
      .rename_i hc;cases hx;obtain⟨hg,hfit,_⟩:=hc;cases hr with
       |flat _ hf=>simp[dX] at hf
       |nO _ a' _ hce=>omega
       |slice _ a' _ _ c' l f1 f2 f3 f4 f5 f6 f7 f8=>
        have hst:sL (a.plus (sn*i.size)) new h=some ((),h.wE a.block (aR c (a.off+sn*i.size) new) g base e1):=by
         exact ai6 hblk hg (by simp[Addr.plus];omega) (List.all_eq_true.2 S.sc)
        obtain⟨w',hs,R'⟩:=GZ R (tC.plus ⟨f1,f2,l,f3,f4,f5⟩ _) S.rel hst;refine⟨_,w',ι,wI ht hxt hi S (some a') sn c' (by omega) hs,?_,R',.refl _⟩;show aO P ι (.slice (some a) (sn+n) sc) _;exact .slice _ _ _ _ _ l f1 f2 f3 f4 f5 (by omega) f7 f8
      .cases hx
     .rename_i hroom;split at hx
      ·-- known to be full
       rename_i hcap;cases hx;have htip:∀g,(h.new e (qC++new)).sx g=if g=h.next+1 then (qC++new).length else h.sx g:=λg=>bu _ _ _ _
       have fin:∀(a':Addr) (c':Nat),(tC ι a a'\/sn=0)->c'<sn+n->iF P W0 ι w (Builtin.append_ #[t,xT] ty #[.slice (some a') sn c',x']) (.slice (some ⟨h.next,0,none⟩) (sn+n) 0) (h.new e (qC++new)):=by
        intro a' c' ha hlt;obtain⟨old',p1,p2,p3,p4⟩:=hsrc a' c' ha;have he:h.new e (qC++new)=h.ext h.next (h.next+1) h.get (.cells (qC++new) (h.next+1) 0 e) (h.new e (qC++new)).sx:=by simp[aj.new,aj.cQ,aj.ext]
        rw[he];exact hgrow c' a' old' h.get (h.new e (qC++new)).sx (h.next+1) 0 p1 p2 p3 p4 hlt (λ_ _ x=>x) (by omega) (.inl rfl)
         (λb c g' base' e' hb hg'=>by
          obtain⟨h1,h2⟩:=R.sx b c g' base' e' hb hg';rw[htip,AT (λx=>by subst x;simp at h2;rw[R.unused] at h2;cases h2)];exact h1) (by rw[htip];simp)
       cases hr with
       |flat _ hf=>simp[dX] at hf
       |nO _ a' _ hce=>grind
       |slice _ a' _ _ c' l f1 f2 f3 f4 f5 f6 f7 f8=>exact fin a' c' (.inl ⟨f1,f2,l,f3,f4,f5⟩) (by omega)
      .rename_i hcap;have hcap:sc=0:=apY λx=>hcap x;subst hcap;split at hx
       .rename_i hc;obtain⟨hg,he1⟩:=hc;subst he1;have both:∀(get':Nat->Option Nc) (tip':Nat->Nat),(∀j au,get' j=some au->h.get j=some au) ->
          (∀b c g' base' e',get' b=some (.cells c g' base' e')->g'≠0->base'+c.length<=tip' g')->base+a.off+(qC++new).length<=tip' g ->
          (∀b c' base' e',get' b=some (.cells c' g base' e')->base'+c'.length<=base+a.off+sn*i.size) ->
          iF P W0 ι w (Builtin.append_ #[t,xT] ty #[s',x']) (.slice (some ⟨h.next,0,none⟩) (sn+n) 0) (h.ext h.next (h.next+1) get' (.cells (qC++new) g (base+a.off) e1) tip'):=by
         intro get' tip' q1 q2 q3 q4;have hgn:=(R.sx _ c g base e1 hblk hg).2;have grow:∀(a':Addr) (c':Nat),(tC ι a a'\/sn=0)->c'<sn+n->iF P W0 ι w (Builtin.append_ #[t,xT] ty #[.slice (some a') sn c',x']) (.slice (some ⟨h.next,0,none⟩) (sn+n) 0) (h.ext h.next (h.next+1) get' (.cells (qC++new) g (base+a.off) e1) tip'):=by
          intro a' c' ha hlt;obtain⟨old',p1,p2,p3,p4⟩:=hsrc a' c' ha
          grind
         cases hr with
         |flat _ hf=>simp[dX] at hf
         |nO _ a' _ hce=>exact grow a' 0 (.inr rfl) (by omega)
         |slice _ a' _ _ c' l f1 f2 f3 f4 f5 f6 f7 f8=>
          by_cases hfit:sn+n<=c'
          .obtain⟨l0,g1,g2,g3,_,_⟩:=R.live _ c g base e1 hblk;rw[f3] at g1;cases g1;have hro:l.ro=false:=(by grind);have hwf:=f8 hro (by omega);subst g2;have hroom2:a'.off+sn*i.size+new.length<=l.size:=by
            have:(sn+n)*i.size<=c'*i.size:=aiM _ hfit
            grind
           obtain⟨w',ι',hs,hle,hnew,R'⟩:=Pt R f1 f2 f3 f4 f5 hblk hg hold S.rel S.sc hroom2 get' tip' q1 q2 q3 q4;refine⟨_,w',ι',wI ht hxt hi S (some a') sn c' hfit hs,?_,R',hle⟩;exact .slice _ _ _ _ _ _ rfl f2 hnew f4 (by simp only;omega) hfit (.inl rfl) (λ_ _=>hwf)
          .exact grow a' c' (.inl ⟨f1,f2,l,f3,f4,f5⟩) (by omega)
        split at hx
        .rename_i htip;cases hx;have hid:∀{au:Nc},(λj=>cond (Nat.beq j h.next) (some au) (idO (h.get j)))=λj=>cond (Nat.beq j h.next) (some au) (h.get j):=by simp
         rw[hid];refine both h.get _ (λ_ _ x=>x) (λb c1 g' base' e' hb hg'=>?_) ?_ (λb c1 base' e' hb=>?_)
         .rw[bu];have:=(R.sx b c1 g' base' e' hb hg').1
          grind
         .rw[bu,By rfl];simp[holdlen];omega
         .have:=(R.sx b c1 g base' e' hb hg).1;omega
        .rename_i htip;split at hx
         .cases hx;have hk:∀j au,(match h.get j with
            |some (.cells c' g' base' elem')=>cond (Nat.beq g' g&&Nat.blt (base+a.off+sn*i.size) (base'+c'.length)) none (some (.cells c' g' base' elem'))
            |o=>o)=some au->h.get j=some au/\(∀c' base' e',au=.cells c' g base' e'->base'+c'.length<=base+a.off+sn*i.size):=by
           intro j au hj;cases hq:h.get j with
           |none=>rw[hq] at hj;cases hj
           |some bl=>
            rw[hq] at hj;cases bl with
            |map es=>grind
            |iter s p=>grind
            |cells c' g' base' e'=>
             simp at hj;cases hb2:(Nat.beq g' g&&Nat.blt (base+a.off+sn*i.size) (base'+c'.length)) with
             |true=>rw[hb2] at hj;cases hj
             |false=>
              rw[hb2] at hj;cases hj;refine⟨rfl,λc2 base2 e2 heq=>?_⟩;cases heq;refine apY λhlt=>?_;have hbl:Nat.blt (base+a.off+sn*i.size) (base'+c'.length)=true:=Nat.ble_eq_true_of_le (by omega)
              grind [Nat.beq_refl]
          refine both _ _ (λj au hj=>(hk j au hj).1) (λb c1 g' base' e' hb hg'=>?_) ?_ (λb c1 base' e' hb=>(hk b _ hb).2 _ _ _ rfl)
          .rw[bu];obtain⟨p1,p2⟩:=hk b _ hb;have:=(R.sx b c1 g' base' e' p1 hg').1;split
           .rename_i hgg;subst hgg;have:=p2 _ _ _ rfl;omega
           .exact this
          .rw[bu,By rfl];simp[holdlen];omega
         .cases hx
       .cases hx
    .cases hx
end Go.Ago
