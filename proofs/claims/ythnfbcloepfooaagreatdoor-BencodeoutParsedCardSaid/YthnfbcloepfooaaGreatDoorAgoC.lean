
import Derived.Test.YthnfbcloepfooaaGreatDoorAgoB
import Derived.Lib.Builder
import Derived.Lib.UnsafeStr
import Derived.Laws.StructEq
set_option linter.all false
namespace Go.Ago
open Go
variable {P:Program}{W0:Fz}{ι ι':gy}{h h' h1:af}{w w':World}
theorem bg.int {k:IntKind}{n:Int}{v':ξ}(hr:bg P ι (.int k n) v'):v'=.int k n:=by cases hr;rfl
theorem bg.bool {b:Bool}{v':ξ}(hr:bg P ι (.bool b) v'):v'=.bool b:=by cases hr;rfl
theorem bg.str {s:ζ}{v':ξ}(hr:bg P ι (.string s) v'):v'=.string s:=by cases hr;rfl
theorem bg.float {k:FloatKind}{n:Nat}{v':ξ}(hr:bg P ι (.float k n) v'):v'=.float k n:=by cases hr;rfl
theorem bg.nilIface {v':ξ}(hr:bg P ι .nilIface v'):v'=.nilIface:=by cases hr;rfl
theorem bg.DI {a:Addr}{v':ξ}(hr:bg P ι (.pointer (some a)) v'):∃a',v'=.pointer (some a')/\mH ι a a':=by
 cases hr with
 |flat _ hf=>simp[cV] at hf
 |ptr _ a' ha=>exact⟨a',rfl,ha⟩
theorem bg.SK {p:θ}{v':ξ}(hr:bg P ι (.pointer p) v'):∃p',v'=.pointer p'/\p'.isNone=p.isNone/\∀a,p=some a->∃a',p'=some a'/\mH ι a a':=by
 cases hr with
 |flat _ hf=>cases p with
  |none=>exact⟨none,rfl,rfl,by simp⟩
  |some a=>simp[cV] at hf
 |ptr a a' ha=>grind
theorem bg.VC {a:θ}{n c:Nat}{v':ξ}(hr:bg P ι (.slice a n c) v'):∃a' c',v'=.slice a' n c'/\a'.isNone=a.isNone:=by
 cases hr with
 |flat _ hf=>grind
 |slice a a' n c c'=>exact⟨_,_,rfl,rfl⟩
 |jl a a' c=>exact⟨_,_,rfl,rfl⟩
def eB (P:Program)(W0:Fz)(ι:gy)(w:World)(s:Sem ξ)(v:ξ)(h1:af):Prop:=
 ∃v' w' ι',s.run P w=.ok v' w'/\bg P ι' v v'/\Rel P W0 ι' h1 w'/\ι.le ι'
def Jz (P:Program)(W0:Fz)(ι:gy)(w:World)(s:Sem Next)(v:ξ)(h1:af):Prop:=
 ∃v' w' ι',(s.run P w=.ok (.value v') w'\/(s.run P w=.ok .skip w'/\v'=undef))/\bg P ι' v v'/\Rel P W0 ι' h1 w'/\ι.le ι'
theorem eB.o {s:Sem ξ}{v:ξ}(hs:eB P W0 ι w s v h1):Jz P W0 ι w (do pure (.value (<-s))) v h1:=by
 obtain⟨v',w',ι',hr,a,b,c⟩:=hs;exact⟨v',w',ι',.inl (by simp[hr]),a,b,c⟩
theorem eB.pure {v v':ξ}(hv:bg P ι v v')(R:Rel P W0 ι h w):eB P W0 ι w (Pure.pure v') v h:=⟨v',w,ι,rfl,hv,R,.refl _⟩
theorem Jz.pure {v v':ξ}(hv:bg P ι v v')(R:Rel P W0 ι h w):Jz P W0 ι w (Pure.pure (.value v')) v h:=⟨v',w,ι,.inl rfl,hv,R,.refl _⟩
theorem aU {E:Env}{a:Go.Act}(HE:iu P ι E a.tmps){x:Operand}{v:ξ}(hv:E.ev x=some v):bg P ι v (a.eval x):=by
 cases x with
 |tmp t=>
  obtain⟨v',h1,h2⟩:=HE t v hv;simp[Act.eval,aa8,h1];exact h2
 |const u=>
  simp only[Env.ev] at hv;split at hv
  .rename_i hf;cases hv;exact .of_flat hf
  .cases hv
 |global g=>simp[Env.ev] at hv
 |func f=>simp[Env.ev] at hv;subst hv;exact .func _ _ _ _ _ rfl (by simp) rfl (by simp)
theorem Ec {E:Env}{a:Go.Act}(HE:iu P ι E a.tmps):∀{xs:List Operand} {vs:δ},E.D9 xs=some vs->bN P ι vs (xs.map a.eval)
 |[],vs,hv=>by simp[Env.D9] at hv;subst hv;exact .nil
 |x::xs,vs,hv=>by
  simp only[Env.D9] at hv;split at hv
  .rename_i v vs' h1 h2;cases hv;exact bN.cons (aU HE h1) (Ec HE h2)
  .cases hv
theorem iv {t:κ}{n:Nat}(hs:bP P t=some n):∀w,(sizeOf t).run P w=.ok n w:=by
 intro w;unfold bP at hs;split at hs
 .rename_i i hi;cases hs;simp[sizeOf,typeInfo,hi]
 .cases hs
theorem ET {t:κ}{n:Nat}(hs:bP P t=some n):Yv P t=n:=by
 unfold bP at hs;unfold Yv;split at hs<;>simp_all
theorem aL {t:κ}{d:TypeDesc}(hd:P.underlying t=some d)(w:World):(underlying t).run P w=.ok d w:=run_underlying hd w
theorem pz {t:κ}{d:TypeDesc}(hd:P.underlying t=some d)(w:World):(isAgg t).run P w=.ok (vZ d) w:=by
 cases d<;>simp[isAgg,aL hd,vZ]
theorem fO {t:κ}{z:ξ}(hz:zeroOf P t=some z):z.cells.toList.all cV=true/\(∀w,(zeroValue t).run P w=.ok z w)/\bP P t=some z.cells.size/\∃i,P.info? t=some i/\i.zero=some z/\i.size=z.cells.size:=by
 unfold zeroOf at hz;split at hz
 .rename_i i hi;split at hz
  .rename_i v hv;split at hz
   .rename_i hc;cases hz;simp only[aaf] at hc;have hc:=And.intro hc.1 (IS hc.2);exact⟨hc.1,λw=>by simp[zeroValue,typeInfo,hi,hv],by simp[bP,hi,hc.2],i,hi,hv,hc.2.symm⟩
   .cases hz
  .cases hz
 .cases hz
theorem tE {v:ξ}(hv:cV v=true):fi v=true:=by cases v<;>simp_all[cV,fi]
theorem Ce (R:Rel P W0 ι h w){nm:μ}{e:κ}{cs cs':δ}{b:Nat}(hn:aJ nm e cs h=some (b,h1))(hl:bN P ι cs cs') :
  eB P W0 ι w (do pure (.pointer (some (<-newRow e cs'.toArray)))) (.pointer (some ⟨b,0,none⟩)) h1:=by
 have fin:∀(k next':Nat),h.used k=false->k<next'/\h.next<=next'->cs.all fi=true ->
   eB P W0 ι w (do pure (.pointer (some (<-newRow e cs'.toArray)))) (.pointer (some ⟨k,0,none⟩)) (h.bt k next' e cs):=by
  intro k next' h1 h2 hsc
  obtain⟨ι',hle,hnew,R'⟩:=R.put k next' h1 h2 e cs cs' [] (0,0) (by intro o _;simp) hl (List.all_eq_true.1 hsc)
  rw[aaF] at R';exact⟨.pointer (some ⟨w.heap.size,0,none⟩),_,ι',by simp[newRow],.ptr _ _ ⟨rfl,rfl,_,hnew,rfl,rfl⟩,R',hle⟩
 unfold aJ at hn;split at hn
 .rename_i hsc;cases nm with
  |none=>cases hn;exact fin _ _ R.unused ⟨by omega,by omega⟩ hsc
  |some k=>
   grind
 .cases hn
theorem Ht (R:Rel P W0 ι h w){t:κ}{z:ξ}(hz:zeroOf P t=some z){nm:μ}{b:Nat}(hn:aJ nm t z.cells.toList h=some (b,h1)) :
  eB P W0 ι w (Instr.alloc t true (.tuple #[])) (.pointer (some ⟨b,0,none⟩)) h1:=by
 obtain⟨hf,hz1,_⟩:=fO hz;obtain⟨v',w',ι',hr,x⟩:=Ce R hn (bN.flat (P:=P) (ι:=ι) hf);refine⟨v',w',ι',?_,x⟩;simp at hr;simp[Instr.alloc,hz1,newVar,hr]
theorem MH (R:Rel P W0 ι h w){t:κ}{v v':ξ}(hv:bg P ι v v'){nm:μ}{b:Nat}(hn:aJ nm t v.cells.toList h=some (b,h1)) :
  eB P W0 ι w (Instr.box t v') (.pointer (some ⟨b,0,none⟩)) h1:=by
 obtain⟨u',w',ι',hr,x⟩:=Ce R hn hv.cells;refine⟨u',w',ι',?_,x⟩;simp at hr;simp[Instr.box,newVar,hr]
theorem qb:∀{l:eh} {v:ξ} {x:l.den},xi l v=some x->v=Pg l x
 |.int k,v,x,hx=>by
  cases k<;>cases v<;>simp[xi] at hx<;>(rename_i k' n;cases k'<;>simp[xi] at hx)<;>(subst hx;rfl)
 |.bool,v,x,hx=>by cases v<;>simp[xi] at hx;subst hx;rfl
 |.str,v,x,hx=>by cases v<;>simp[xi] at hx;subst hx;rfl
 |.ptr,v,x,hx=>by cases v<;>simp[xi] at hx;subst hx;rfl
 |.aw,v,x,hx=>by
  cases v with
  |pointer p=>cases p<;>simp[xi] at hx;subst hx;rfl
  |_=>simp[xi] at hx
 |.sl,v,x,hx=>by cases v<;>simp[xi] at hx;subst hx;rfl
 |.mp,v,x,hx=>by cases v<;>simp[xi] at hx;subst hx;rfl
 |.raw,v,x,hx=>by simp only[xi] at hx;cases hx;rfl
 |.f64,v,x,hx=>by
  cases v<;>simp[xi] at hx;rename_i k n;cases k<;>simp at hx;subst hx;rfl
theorem Hu {l:eh}{a:Addr}{x:l.den}(hx:ar l a h=some (x,h1)):h1=h/\h.cell a=some (Pg l x):=by
 unfold ar at hx;split at hx
 .rename_i v hv;split at hx
  .rename_i y hy;cases hx;exact⟨rfl,by rw[hv,qb hy]⟩
  .cases hx
 .cases hx
theorem AQ (R:Rel P W0 ι h w){a a':Addr}(ha:mH ι a a'):∀(ls:List eh) (i:Nat) (acc acc':δ) (v:ξ),
  (xM a ls i acc).exec h=some (v,h1)->bN P ι acc.reverse acc' ->
  h1=h/\∃vs:δ,(loadCellsFrom a' i ls.length acc'.toArray).run P w=.ok vs.toArray w/\bg P ι v (.agg vs.toArray)
 |[],i,acc,acc',v,hx,hl=>by
  simp[xM,Act.exec] at hx;obtain⟨rfl,rfl⟩:=hx;refine⟨rfl,acc',by simp[loadCellsFrom],.agg _ _ (by simpa using hl.1) λj u u' p q=>hl.2 j u u' (by simpa using p) (by simpa using q)⟩
 |l::ls,i,acc,acc',v,hx,hl=>by
  simp only[xM,Act.exec] at hx;split at hx
  .rename_i x h2 hq;obtain⟨e0,hc⟩:=Hu hq;rw[e0] at hx;obtain⟨u',hu,_,hr⟩:=R.cell (mH.plus ha i) hc;obtain⟨e1,vs,e2,e3⟩:=AQ R ha ls (i+1) (Pg l x::acc) (acc'++[u']) v hx (by simpa using hl.append (bN.cons hr .nil));exact⟨e1,vs,by simpa[loadCellsFrom,hu] using e2,e3⟩
  .cases hx
theorem zS:∀{ls:List eh} {vs:δ} {x:mF ls},vX ls vs=some x->vs=DF ls x
 |[],[],_,_=>rfl
 |[],_::_,_,hx=>by cases hx
 |[l],[],_,hx=>by cases hx
 |[l],[v],x,hx=>by rw[DF,<-qb (l:=l) (x:=x) hx]
 |[l],_::_::_,_,hx=>by cases hx
 |l::l'::ls,[],_,hx=>by cases hx
 |l::l'::ls,v::vs,x,hx=>by
  simp only[vX] at hx;split at hx
  .rename_i a b ha hb;cases hx;rw[DF,<-qb ha,<-zS hb]
  .cases hx
theorem Hv {a:Addr}:∀(ls:List eh) (vs:δ) (x:mF ls) (i:Nat) (acc:δ),vX ls vs=some x->(∀j v,vs[j]?=some v->h.cell (a.plus (i+j))=some v) ->
  (xM a ls i acc).exec h=some (.agg (acc.reverse++vs).toArray,h)
 |[],[],x,i,acc,hx,hc=>by simp[xM,Act.exec]
 |[],_::_,_,_,_,hx,_=>by cases hx
 |[l],[],_,_,_,hx,_=>by cases hx
 |[l],[v],x,i,acc,hx,hc=>by
  have h0:=hc 0 v rfl;have hx:xi l v=some x:=hx;simp only[xM,Act.exec,ar,show a.plus i=a.plus (i+0) from rfl,h0,hx];rw[<-qb hx];simp
 |[l],_::_::_,_,_,_,hx,_=>by cases hx
 |l::l'::ls,[],_,_,_,hx,_=>by cases hx
 |l::l'::ls,v::vs,x,i,acc,hx,hc=>by
  simp only[vX] at hx;split at hx
  .rename_i y z hy hz;cases hx;have h0:=hc 0 v rfl;have ih:=Hv (l'::ls) vs z (i+1) (Pg l y::acc) hz λj u hu=>by
    have:=hc (j+1) u (by simpa using hu)
    rwa [show i+(j+1)=i+1+j by omega] at this
   rw[xM];simp only[Act.exec,ar,show a.plus i=a.plus (i+0) from rfl,h0,hy];rw[ih,<-qb hy];simp
  .cases hx
theorem Px {a:Addr}{ls:List eh}{x:mF ls}(hx:bh ls a h=some (x,h1)):h1=h/\(xM a ls 0 []).exec h=some (.agg (DF ls x).toArray,h):=by
 unfold bh at hx;split at hx
 .rename_i vs hv;split at hx
  .rename_i y hy;cases hx;refine⟨rfl,?_⟩;rw[<-zS hy];have:=Hv (a:=a) (h:=h) ls vs _ 0 [] hy λj v hj=>by
    grind [bj,af.cell,Addr.plus]
   simpa using this
  .cases hx
 .cases hx
theorem Ed (R:Rel P W0 ι h w){t:κ}{a a':Addr}(ha:mH ι a a'){v:ξ}(hx:(Jv P t a).exec h=some (v,h1)) :
  h1=h/\∃v',(loadVar t a').run P w=.ok v' w/\bg P ι v v':=by
 unfold Jv at hx;split at hx
 .rename_i d n hd hn;split at hx
  .rename_i hag;split at hx
   .rename_i ls hls;split at hx
    .rename_i hlen;have hlen:=IS hlen;simp only[Act.exec] at hx;split at hx
     .rename_i y h2 hq;cases hx;obtain⟨e0,hx⟩:=Px hq;subst e0;obtain⟨_,vs,e2,e3⟩:=AQ R ha ls 0 [] [] _ hx .nil;refine⟨rfl,_,?_,e3⟩;simp[loadVar,pz hd,hag,iv hn,<-hlen,loadCells,e2]
     .cases hx
    .simp[Act.exec] at hx
   .simp[Act.exec] at hx
  .rename_i hag;split at hx
   .rename_i l hl;simp only[Act.exec] at hx;split at hx
    .rename_i x h2 hq;cases hx;obtain⟨rfl,hc⟩:=Hu hq;obtain⟨u',hu,_,hr⟩:=R.cell ha hc;exact⟨rfl,u',by simp[loadVar,pz hd,hag,hu],hr⟩
    .cases hx
   .simp[Act.exec] at hx
 .simp[Act.exec] at hx
theorem n7 (P:Program)(g o:Nat)(t:κ)(fz:Nat×Nat):∀(vs:δ) (i:Nat) (cur:ν) (w:World),w.heap[g]?=some (.cells cur t fz)->o+i+vs.length<=cur.size ->
  (∀j,j<cur.size->(decide (fz.1<=j)&&decide (j<fz.2))=false)->(∀v∈vs,v.oneCell'=true) ->
  (storeCells ⟨g,o,none⟩ vs i).run P w=.ok () (w.setRow g (cur.toList.take (o+i)++vs++cur.toList.drop (o+i+vs.length)).toArray)
 |[],i,cur,w,hg,_,_,_=>by
  simp only[storeCells,aaF,aam,aaG,abd,abE];rw[setRow_self w g cur t fz hg];rfl
 |v::rest,i,cur,w,hg,hl,hfr,h1=>by
  have hi:o+i<cur.size:=by simp at hl;omega
  have hadd:(⟨g,o,none⟩:Addr).add i=⟨g,o+i,none⟩:=by unfold Addr.add;split<;>simp_all
  have hcell:w.cell? ⟨g,o+i,none⟩=some cur[o+i]:=by simp[World.cell?,hg,hi]
  have hfro:w.frozen? ⟨g,o+i,none⟩=false:=by simp only[World.frozen?,hg];exact hfr _ hi
  have hst:(store ((⟨g,o,none⟩:Addr).add i) v).run P w=.ok () (w.setRow g (cur.setIfInBounds (o+i) v)):=by
   grind [run_store,setCell_eq_setRow]
  have ih:=n7 P g o t fz rest (i+1) (cur.setIfInBounds (o+i) v) (w.setRow g (cur.setIfInBounds (o+i) v)) (setRow_heap w g cur _ t _ hg) (by simp at hl⊢;omega)
   (by simpa using hfr) (λx hx=>h1 x (by simp[hx]))
  simp only[storeCells,Sem.run_bind,hst,Result.andThen_ok,ih,setRow_setRow]
  congr 3
  have e:=list_seg_step cur.toList (o+i) v rest (by simp at hl⊢;omega);simpa[acv,abW] using e
theorem zT (R:Rel P W0 ι h w){a a':Addr}(ha:mH ι a a'){vs vs':δ}(hl:bN P ι vs vs'){x:Unit}(hx:bE a vs h=some (x,h1)) :
  ∃w',(storeCells a' vs').run P w=.ok () w'/\Rel P W0 ι h1 w':=by
 unfold bE at hx;split at hx
 .rename_i c g base e hb;split at hx
  .rename_i hc;cases hx;obtain⟨hg,hfit,hsc⟩:=hc;obtain⟨h1,h2,l,hl1,hl2,hl3⟩:=ha;obtain⟨l0,e1,e2,e3,e4,e5⟩:=R.live _ c g base e hb;rw[hl1] at e1;cases e1;obtain⟨cc,fz,hh,q1,q2⟩:=R.loc _ l hl1;have hro:l.ro=false:=by grind
   have hU:=R.mY hb hg hl1 hh hfit hl (List.all_eq_true.1 hsc);have hone:∀v∈vs',v.oneCell'=true:=by
    intro v' hv';obtain⟨i,hi⟩:=List.mem_iff_getElem?.1 hv';have hlt:i<vs.length:=(by have:=(List.getElem?_eq_some_iff.1 hi).1;have:=hl.1;omega);exact (hl.2 i vs[i] v' (by simp[hlt]) hi).Lc (List.all_eq_true.1 hsc _ (abn hlt))
   have hst:=n7 P l.aD a'.off l.elem fz vs' 0 cc w hh (by have:=hl.1;omega) ((q2 hro).2 ⟨_,l,c,g,base,e,hl1,rfl,hb⟩) hone;refine⟨_,?_,hU⟩;have:a'=⟨l.aD,a'.off,none⟩:=by cases a';simp_all
   rw[this,hst];simp[bB,hl3]
  .cases hx
 .cases hx
theorem Hw (R:Rel P W0 ι h w){t:κ}{a a':Addr}(ha:mH ι a a'){v v':ξ}(hv:bg P ι v v'){n:Nat}(hn:bP P t=some n)(hs:v.cells.size=n)
  {x:Unit} (hx:bE a v.cells.toList h=some (x,h1)):∃w',(storeVar t a' v').run P w=.ok () w'/\Rel P W0 ι h1 w':=by
 obtain⟨w',hr,R'⟩:=zT R ha hv.cells hx;refine⟨w',?_,R'⟩;have hc:=hv.cells.1;simp at hc;simp[storeVar,iv hn,<-hs,hc,hr]
theorem EU {k k':IntKind}(hk:KX k k'=true):k=k':=by cases k<;>cases k'<;>simp_all[KX,KW]
theorem wg {b:Bool}{x:Unit}(hx:xZ b h=some (x,h1)):b=true/\h1=h:=by
 unfold xZ at hx;cases b<;>simp at hx;exact⟨rfl,hx.symm⟩
theorem eB.ret {s:Sem ξ}{v v':ξ}(hs:s.run P w=.ok v' w)(hv:bg P ι v v')(R:Rel P W0 ι h w):eB P W0 ι w s v h:=⟨v',w,ι,hs,hv,R,.refl _⟩
theorem bg.wY {k:FloatKind}{n:Nat}:bg P ι (.float k n) (.float k n):=.flat _ rfl
theorem bg.ofInt {k:IntKind}{n:Int}:bg P ι (.int k n) (.int k n):=.flat _ rfl
theorem bg.ofBool {b:Bool}:bg P ι (.bool b) (.bool b):=.flat _ rfl
theorem bg.ofStr {s:ζ}:bg P ι (.string s) (.string s):=.flat _ rfl
theorem Py (R:Rel P W0 ι h w)(op:BinOp)(t:κ)(k k':IntKind)(a b:Int)(v:ξ)
  (hx:(Hk op k a k' b).exec h=some (v,h1)):eB P W0 ι w (binOp op t (.int k a) (.int k' b)) v h1:=by
 unfold Hk at hx;split at hx
 .simp only[Act.exec] at hx;split at hx
  .rename_i u h2 hc;obtain⟨hb,rfl⟩:=wg hc;cases hx;simp at hb;exact .ret (by simp[binOp,Op.shift,show ¬b<0 by omega]) .ofInt R
  .cases hx
 .simp only[Act.exec] at hx;split at hx
  .rename_i u h2 hc;obtain⟨hb,rfl⟩:=wg hc;cases hx;simp at hb;exact .ret (by simp[binOp,Op.shift,show ¬b<0 by omega]) .ofInt R
  .cases hx
 .split at hx
  .simp[Act.exec] at hx
  .rename_i hk;obtain rfl:=EU hk;split at hx
   .cases hx;exact .ret (by simp[binOp,Op.intArith]) .ofInt R
   .cases hx;exact .ret (by simp[binOp,Op.intArith]) .ofInt R
   .cases hx;exact .ret (by simp[binOp,Op.intArith]) .ofInt R
   .simp only[Act.exec] at hx;split at hx
    .rename_i u h2 hc;obtain⟨hb,rfl⟩:=wg hc;cases hx;simp at hb;exact .ret (by simp[binOp,Op.intDiv,hb]) .ofInt R
    .cases hx
   .simp only[Act.exec] at hx;split at hx
    .rename_i u h2 hc;obtain⟨hb,rfl⟩:=wg hc;cases hx;simp at hb;exact .ret (by simp[binOp,Op.intDiv,hb]) .ofInt R
    .cases hx
   .cases hx;exact .ret (by unfold binOp;simp only[ne_eq,abP,aar];rfl) .ofInt R
   .cases hx;exact .ret (by unfold binOp;simp only[ne_eq,abP,aar];rfl) .ofInt R
   .cases hx;exact .ret (by unfold binOp;simp only[ne_eq,abP,aar];rfl) .ofInt R
   .cases hx;exact .ret (by unfold binOp;simp only[ne_eq,abP,aar];rfl) .ofInt R
   .cases hx;exact .ret (by simp[binOp,Op.intCmp];rfl) .ofBool R
   .cases hx;exact .ret (by simp[binOp,Op.intCmp];rfl) .ofBool R
   .cases hx;exact .ret (by simp[binOp,Op.intCmp]) .ofBool R
   .cases hx;exact .ret (by simp[binOp,Op.intCmp]) .ofBool R
   .cases hx;exact .ret (by simp[binOp,Op.intCmp]) .ofBool R
   .cases hx;exact .ret (by simp[binOp,Op.intCmp]) .ofBool R
   .simp[Act.exec] at hx
theorem wZ {o:μ}{r:Nat}(hx:DG o h=some (r,h1)):o=some r/\h1=h:=by
 unfold DG at hx
 grind
theorem Pz (R:Rel P W0 ι h w)(op:BinOp)(t:κ)(a b:Nat)(v:ξ)
  (hx:(Hn op a b).exec h=some (v,h1)):eB P W0 ι w (binOp op t (.float .f64 a) (.float .f64 b)) v h1:=by
 unfold Hn at hx;split at hx
 .simp only[Act.exec] at hx;split at hx
  .rename_i r h2 hc;obtain⟨e1,rfl⟩:=wZ hc;cases hx;exact .ret (by simp[binOp,Op.floatArith,e1]) .wY R
  .cases hx
 .simp only[Act.exec] at hx;split at hx
  .rename_i r h2 hc;obtain⟨e1,rfl⟩:=wZ hc;cases hx;exact .ret (by simp[binOp,Op.floatArith,e1]) .wY R
  .cases hx
 .simp only[Act.exec] at hx;split at hx
  .rename_i r h2 hc;obtain⟨e1,rfl⟩:=wZ hc;cases hx;exact .ret (by simp[binOp,Op.floatArith,e1]) .wY R
  .cases hx
 .simp only[Act.exec] at hx;split at hx
  .rename_i r h2 hc;obtain⟨e1,rfl⟩:=wZ hc;cases hx;exact .ret (by simp[binOp,Op.floatArith,e1]) .wY R
  .cases hx
 .cases hx;exact .ret (by simp[binOp,Op.floatCmp,Ui]) .ofBool R
 .cases hx;exact .ret (by simp[binOp,Op.floatCmp,Ui,bne]) .ofBool R
 .cases hx;exact .ret (by simp[binOp,Op.floatCmp,Yp]) .ofBool R
 .cases hx;exact .ret (by simp[binOp,Op.floatCmp,Yp,Ui]) .ofBool R
 .cases hx;exact .ret (by simp[binOp,Op.floatCmp,Yq]) .ofBool R
 .cases hx;exact .ret (by simp[binOp,Op.floatCmp,Yq,Ui]) .ofBool R
 .simp[Act.exec] at hx
theorem PA (R:Rel P W0 ι h w)(op:BinOp)(t:κ)(a b:ζ)(v:ξ)
  (hx:(Hl op a b).exec h=some (v,h1)):eB P W0 ι w (binOp op t (.string a) (.string b)) v h1:=by
 unfold Hl at hx;split at hx
 .simp only[Act.exec] at hx;split at hx
  .rename_i u h2 hc;unfold yS at hc;split at hc
   .cases hc;cases hx;rename_i hsz;unfold cN at hsz;refine .ret ?_ .ofStr R;simp only[binOp,Op.stringOp,IntKind.max_i64];rw[By (by omega)];rfl
   .cases hc
  .cases hx
 .cases hx;exact .ret (by simp[binOp,Op.stringOp,mZ]) .ofBool R
 .cases hx;exact .ret (by simp[binOp,Op.stringOp,mZ]) .ofBool R
 .cases hx;exact .ret (by simp[binOp,Op.stringOp,zM]) .ofBool R
 .cases hx;exact .ret (by simp[binOp,Op.stringOp,mZ,zM]) .ofBool R
 .cases hx;exact .ret (by simp[binOp,Op.stringOp,mZ,zM]) .ofBool R
 .cases hx;exact .ret (by simp[binOp,Op.stringOp,zM]) .ofBool R
 .simp[Act.exec] at hx
theorem iK (R:Rel P W0 ι h w){op:BinOp}{t:κ}{u1 u2 v:ξ}{b:Bool}(h1':∀w,(Op.equal t u1 u2).run P w=.ok b w)
  (he:binOp .eql t u1 u2=(do pure (.bool (<-Op.equal t u1 u2)))) (hn:binOp .neq t u1 u2=(do pure (.bool (!(<-Op.equal t u1 u2)))))
  (hx:(vy op b).exec h=some (v,h1)):eB P W0 ι w (binOp op t u1 u2) v h1:=by
 unfold vy at hx;split at hx
 .cases hx;rw[he];exact .ret (by simp[h1']) .ofBool R
 .cases hx;rw[hn];exact .ret (by simp[h1']) .ofBool R
 .simp[Act.exec] at hx
theorem SL (d:Nat){t:κ}{ms:Array (String×κ)}(hd:P.underlying t=some (.interface ms))(w:World):(Op.equalIn (d+1) t .nilIface .nilIface).run P w=.ok true w:=by
 simp[Op.equalIn,aL hd]
theorem SM (d:Nat){t:κ}{ms:Array (String×κ)}(hd:P.underlying t=some (.interface ms))(e:κ)(v:ξ)(w:World):(Op.equalIn (d+1) t (.iface e v) .nilIface).run P w=.ok false w:=by
 simp[Op.equalIn,aL hd]
theorem MI (d:Nat){t:κ}(hd:P.underlying t=some .bool)(a b:Bool)(w:World):(Op.equalIn (d+1) t (.bool a) (.bool b)).run P w=.ok (a==b) w:=by
 simp[Op.equalIn,aL hd]
theorem SN (d:Nat){t e:κ}(hd:P.underlying t=some (.slice e))(a:θ)(n c n' c':Nat)(w:World):(Op.equalIn (d+1) t (.slice a n c) (.slice none n' c')).run P w=.ok a.isNone w:=by
 cases a<;>simp[Op.equalIn,aL hd]
theorem PC (d:Nat){t e:κ}(hd:P.underlying t=some (.pointer e))(a:θ)(w:World):(Op.equalIn (d+1) t (.pointer a) (.pointer none)).run P w=.ok a.isNone w:=by
 cases a<;>simp[Op.equalIn,aL hd]
theorem PD (d:Nat){t k e:κ}(hd:P.underlying t=some (.map k e))(a:μ)(w:World):(Op.equalIn (d+1) t (.map a) (.map none)).run P w=.ok a.isNone w:=by
 cases a<;>simp[Op.equalIn,aL hd]
theorem PE {t:κ}{ms:Array (String×κ)}(hd:P.underlying t=some (.interface ms))(w:World):(Op.equal t .nilIface .nilIface).run P w=.ok true w:=SL 9999 hd w
theorem PF {t:κ}{ms:Array (String×κ)}(hd:P.underlying t=some (.interface ms))(d:κ)(v:ξ)(w:World):(Op.equal t (.iface d v) .nilIface).run P w=.ok false w:=SM 9999 hd d v w
theorem PG {t:κ}(hd:P.underlying t=some .bool)(a b:Bool)(w:World):(Op.equal t (.bool a) (.bool b)).run P w=.ok (a==b) w:=MI 9999 hd a b w
theorem VD {t e:κ}(hd:P.underlying t=some (.slice e))(a:θ)(n c n' c':Nat)(w:World):(Op.equal t (.slice a n c) (.slice none n' c')).run P w=.ok a.isNone w:=SN 9999 hd a n c n' c' w
theorem SQ {t e:κ}(hd:P.underlying t=some (.pointer e))(a:θ)(w:World):(Op.equal t (.pointer a) (.pointer none)).run P w=.ok a.isNone w:=PC 9999 hd a w
theorem Le {t k e:κ}(hd:P.underlying t=some (.map k e))(a:μ)(w:World):(Op.equal t (.map a) (.map none)).run P w=.ok a.isNone w:=PD 9999 hd a w
theorem PH {t e:κ}{i:TypeInfo}(hd:P.underlying t=some (.pointer e))(hi:P.info? e=some i)(a:Addr)(w:World):(Op.equal t (.pointer (some a)) (.pointer (some a))).run P w=.ok true w:=by
 have h:∀d:Nat,(Op.equalIn (d+1) t (.pointer (some a)) (.pointer (some a))).run P w=.ok true w:=λd=>by
  simp[Op.equalIn,run_underlying hd,sizeOf,typeInfo,hi,run_sameAddr_same]
 exact h 9999
theorem EV {e:κ}{n:Nat}(hs:bP P e=some n):∃i,P.info? e=some i/\i.size=n:=by
 unfold bP at hs
 grind
theorem mH.same {a b a' b':Addr}(ha:mH ι a a')(hb:mH ι b b')(he:(Nat.beq a.block b.block&&Nat.beq a.off b.off)=true):a'=b':=by
 obtain⟨_,h2,l,h3,h4,h5⟩:=ha;obtain⟨_,k2,m,k3,k4,k5⟩:=hb;rw[aaf] at he;rw[IS he.1,k3] at h3;cases h3;have:=IS he.2;cases a';cases b'
 simp_all
theorem DJ (R:Rel P W0 ι h w){op:BinOp}{t:κ}{x:Operand}{c:ξ}{u1 u1' v:ξ}(r1:bg P ι u1 u1')(hx:(BG P op t u1).exec h=some (v,h1)) :
  eB P W0 ι w (do eqGuard op t x (.const c) u1' .nilIface;binOp op t u1' .nilIface) v h1:=by
 unfold BG at hx;split at hx
 .rename_i hd;simp only[Act.exec] at hx;split at hx
  .rename_i b h2 hc;cases hx;unfold rM at hc;split at hc
   .cases hc;obtain rfl:=r1.nilIface;rw[eqGuard_nil_constR];exact iK (op:=.eql) (b:=true) R (PE hd) rfl rfl rfl
   .cases hc;cases r1 with
    |flat _ hf=>simp[cV] at hf
    |iface t' v1 v1' hv=>rw[eqGuard_at_iface];exact iK (op:=.eql) (b:=false) R (PF hd _ _) rfl rfl rfl
   .cases hc
  .cases hx
 .rename_i hd;simp only[Act.exec] at hx;split at hx
  .rename_i b h2 hc;cases hx;unfold rM at hc;split at hc
   .cases hc;obtain rfl:=r1.nilIface;rw[eqGuard_nil_constR];exact iK (op:=.neq) (b:=true) R (PE hd) rfl rfl rfl
   .cases hc;cases r1 with
    |flat _ hf=>simp[cV] at hf
    |iface t' v1 v1' hv=>rw[eqGuard_at_iface];exact iK (op:=.neq) (b:=false) R (PF hd _ _) rfl rfl rfl
   .cases hc
  .cases hx
 .simp[Act.exec] at hx
theorem bg.EW {v v':ξ}(hr:bg P ι v v')(hf:cV v=true):v'=v:=by
 cases hr with
 |flat=>rfl
 |agg cs cs' hs hv=>exact absurd hf (by simp[cV])
 |_=>simp[cV] at hf
theorem Hx {t:κ}{x y:ξ}{b:Bool}(h:Xq P t x y=some b):cV x=true/\cV y=true/\∃d,P.underlying t=some d/\vZ d=false:=by
 unfold Xq at h;split at h
 .split at h
  .rename_i hd;exact⟨rfl,rfl,_,hd,rfl⟩
  .cases h
 .split at h
  .rename_i hd;exact⟨rfl,rfl,_,hd,rfl⟩
  .cases h
 .split at h
  .rename_i hd;exact⟨rfl,rfl,_,hd,rfl⟩
  .cases h
 .cases h
theorem SS {t:κ}{x y:ξ}{b:Bool}(h:Xq P t x y=some b)(d:Nat)(w:World):(Op.equalIn (d+1) t x y).run P w=.ok b w:=by
 unfold Xq at h;split at h
 .grind [EU,run_equalIn_int]
 .grind [run_equalIn_bool]
 .split at h
  .rename_i hd;cases h;rw[run_equalIn_string w d t _ _ hd,mZ]
  .cases h
 .cases h
theorem Cf {t:κ}{d:TypeDesc}(hd:P.underlying t=some d)(hs:vZ d=false){cs:ν}{o:Nat}{v:ξ}(h:cs[o]?=some v)(w:World):(part t cs o).run P w=.ok v w:=by
 simp[part,pz hd,hs,h]
theorem Hy {xs ys:ν}:∀(fs:List Field) (o:Nat) (b:Bool) (d:Nat) (w:World),Hm P fs o (xs.toList.drop o) (ys.toList.drop o)=some b->(Op.eqFields (d+1) xs ys fs).run P w=.ok b w
 |[],o,b,d,w,h=>by
  unfold Hm at h;split at h
  .cases h;simp[Op.eqFields]
  .cases h
 |f::fs,o,b,d,w,h=>by
  unfold Hm at h;split at h
  .rename_i x xs' y ys' hx hy;split at h
   .rename_i hn ho;split at h
    .rename_i a ha;split at h
     .rename_i b' hb;cases h;have ho:=IS ho;have hn : f.name ≠ "_" := by intro e; rw[e] at hn; exact absurd hn (by decide)
      obtain⟨_,_,dd,hd,hg⟩:=Hx ha;have hx0:xs[o]?=some x:=by
       rw[<-aaM,<-aaG o,<-aaJ,hx];rfl
      have hy0:ys[o]?=some y:=by
       rw[<-aaM,<-aaG o,<-aaJ,hy];rfl
      have hxt:xs.toList.drop (o+1)=xs':=(by rw[<-aa3,hx];rfl);have hyt:ys.toList.drop (o+1)=ys':=(by rw[<-aa3,hy];rfl);have ih:=Hy (xs:=xs) (ys:=ys) fs (o+1) b' d w (by rw[hxt,hyt];exact hb);unfold Op.eqFields;rw[BY hn,ho];simp only[Sem.run_bind,Cf hd hg hx0,Cf hd hg hy0,Result.andThen_ok,SS ha d w];cases a
      .simp
      .simp[ih]
     .cases h
    .cases h
   .cases h
  .cases h
theorem Ee:∀(fs:List Field) (o:Nat) (xs ys:δ) (b:Bool),Hm P fs o xs ys=some b->(∀v∈xs,cV v=true)/\(∀v∈ys,cV v=true)
 |[],o,xs,ys,b,h=>by
  grind [Hm,absurd]
 |f::fs,o,xs,ys,b,h=>by
  unfold Hm at h;split at h
  .split at h
   .split at h
    .rename_i a ha;split at h
     .rename_i b' hb;obtain⟨h1,h2,_⟩:=Hx ha;obtain⟨h3,h4⟩:=Ee fs _ _ _ _ hb
      grind
     .cases h
    .cases h
   .cases h
  .cases h
theorem bg.Lf {cs:ν}{v':ξ}(hr:bg P ι (.agg cs) v')(hf:∀v∈cs.toList,cV v=true):v'=.agg cs:=by
 cases hr with
 |flat=>rfl
 |agg _ cs' hs hv=>
  congr 1
  apply acp;intro i;cases h1:cs[i]? with
  |none=>
   rw[Array.getElem?_eq_none_iff] at h1⊢;omega
  |some v=>
   have hi:i<cs'.size:=by rw[<-hs];exact (Array.getElem?_eq_some_iff.1 h1).1
   have h2:cs'[i]?=some cs'[i]:=abF hi;rw[h2];have:=(hv i v _ h1 h2).EW (hf v (by rw[acf];exact abx h1));rw[this]
theorem Hz {a b:θ}{r:Bool}(hx:Sq a b h=some (r,h1)):h1=h/\r=true/\∃x y,a=some x/\b=some y/\(Nat.beq x.block y.block&&Nat.beq x.off y.off)=true:=by
 unfold Sq at hx
 grind
theorem HA (R:Rel P W0 ι h w){op:BinOp}{t e:κ}{x y:Operand}{a b:θ}{u1' u2' v:ξ}(r1:bg P ι (.pointer a) u1')(r2:bg P ι (.pointer b) u2')(hd:P.underlying t=some (.pointer e)){n:Nat}(hs:bP P e=some n)
  (hx:(Act.ask Bool (Sq a b) λr=>vy op r).exec h=some (v,h1)):eB P W0 ι w (do eqGuard op t x y u1' u2';binOp op t u1' u2') v h1:=by
 simp only[Act.exec] at hx;split at hx
 .rename_i r h2 hr;obtain⟨rfl,rfl,a,b,rfl,rfl,he⟩:=Hz hr;obtain⟨a',rfl,ha⟩:=r1.DI;obtain⟨b',rfl,hb⟩:=r2.DI;rw[eqGuard_at_pointer];obtain⟨i,hi,_⟩:=EV hs;rw[mH.same ha hb he];exact iK R (PH hd hi _) rfl rfl hx
 .cases hx
theorem JA (R:Rel P W0 ι h w){op:BinOp}{t:κ}{x y:Operand}{u1 u2 u1' u2' v:ξ}(r1:bg P ι u1 u1')(r2:bg P ι u2 u2')
  (hy:u2=.nilIface->∃c,y=.const c) (hx:(Pk P op t u1 u2).exec h=some (v,h1)):eB P W0 ι w (do eqGuard op t x y u1' u2';binOp op t u1' u2') v h1:=by
 unfold Pk at hx;split at hx
 .obtain⟨c,rfl⟩:=hy rfl;obtain rfl:=r2.nilIface;exact DJ R r1 hx
 .unfold Pj at hx;split at hx
  .obtain rfl:=r1.int;grind [r2.int,eqGuard_at_int,Py]
  .obtain rfl:=r1.str;grind [r2.str,eqGuard_at_string,PA]
  .obtain rfl:=r1.float;grind [r2.float,eqGuard_at_float,Pz]
  .obtain rfl:=r1.bool;obtain rfl:=r2.bool;rw[eqGuard_at_bool];split at hx
   .rename_i hd;exact iK R (PG hd _ _) rfl rfl hx
   .simp[Act.exec] at hx
  .obtain⟨a',c',rfl,hn⟩:=r1.VC;obtain⟨a2',c2',rfl,hn2⟩:=r2.VC;have:a2'=none:=by cases a2'<;>simp_all
   subst this;rw[eqGuard_at_slice];split at hx
   .rename_i hd;rw[<-hn] at hx;exact iK R (VD hd _ _ _ _ _) rfl rfl hx
   .simp[Act.exec] at hx
  .obtain⟨p',rfl,hn,_⟩:=r1.SK;obtain⟨p2',rfl,hn2,_⟩:=r2.SK;have:p2'=none:=by cases p2'<;>simp_all
   subst this;rw[eqGuard_at_pointer];split at hx
   .rename_i hd;rw[<-hn] at hx;exact iK R (SQ hd _) rfl rfl hx
   .simp[Act.exec] at hx
  .rename_i r _;cases r1 with
   |flat _ hf=>
    cases r with
    |some r=>simp[cV] at hf
    |none=>
     cases r2;rw[eqGuard_at_map];split at hx
     .rename_i hd;exact iK R (Le hd _) rfl rfl hx
     .simp[Act.exec] at hx
   |map m r hr=>
    cases r2;rw[eqGuard_at_map];split at hx
    .rename_i hd;exact iK R (Le hd (some r)) rfl rfl hx
    .simp[Act.exec] at hx
  .split at hx
   .rename_i fs hd hp hm;split at hx
    .rename_i b hb;obtain⟨f1,f2⟩:=Ee _ _ _ _ _ hb;obtain rfl:=r1.Lf f1;obtain rfl:=r2.Lf f2;have hfo:P.fieldsOf t=fs:=(by unfold Program.fieldsOf;rw[hd]);have he:∀w,(Op.equalIn 10000 t (.agg _) (.agg _)).run P w=.ok b w:=λw=>by
      rw[run_equalIn_struct w 9999 t _ _ (by rw[hfo];exact hd) hp,hfo];exact Hy fs.toList 0 b 9998 w hb
     unfold vy at hx;split at hx
     .cases hx;exact .ret (by rw[Sem.run_bind,run_eqGuard_agg w _ _ _ _ _ _ hm,Result.andThen_ok,run_eql_struct,he];rfl) .ofBool R
     .cases hx;exact .ret (by rw[Sem.run_bind,run_eqGuard_agg w _ _ _ _ _ _ hm,Result.andThen_ok,run_neq_struct,he];rfl) .ofBool R
     .simp[Act.exec] at hx
    .simp[Act.exec] at hx
   .simp[Act.exec] at hx
  .simp[Act.exec] at hx
theorem MJ (R:Rel P W0 ι h w){op:UnOp}{x x' v:ξ}(hr:bg P ι x x')(hx:(Xw op x).exec h=some (v,h1)):eB P W0 ι w (Op.unary op x') v h1:=by
 unfold Xw at hx;split at hx
 .cases hx;obtain rfl:=hr.int;exact .ret (by simp[Op.unary,Op.intArith]) .ofInt R
 .cases hx;obtain rfl:=hr.bool;exact .ret (by simp[Op.unary]) .ofBool R
 .cases hx;obtain rfl:=hr.float;exact .ret (by simp[Op.unary,Xv]) .wY R
 .simp[Act.exec] at hx
theorem lF (s:ζ):(bO s).all cV=true:=by
 rw[aaR];intro v hv;simp[bO] at hv;obtain⟨b,_,rfl⟩:=hv;rfl
theorem HC (w:World)(cs:ν)(e:κ) :
  World.freeze { w with heap:=w.heap.push (.cells cs e (0,0)) } { block:=w.heap.size,off:=cs.size } 1={ w with heap:=w.heap.push (.cells cs e (cs.size,cs.size+1)) }:=by
 unfold World.freeze;rw[By (by decide)]
 congr 1
 grind
theorem Cg (R:Rel P W0 ι h w){e:κ}(he:bP P e=some 1){s:ζ}{r:Sl}(hx:B3 e s h=some (r,h1)) :
  eB P W0 ι w (Conv.stringToBytes e s) (.slice r.a r.len r.cap) h1:=by
 unfold B3 at hx;split at hx
 .cases hx;rename_i hsz;have hge:s.size<=(Question.appendCap s.size 0 e).cut (w.tape w.drawn (.appendCap s.size 0 e)):=by simp[Question.cut]
  generalize hcap:(Question.appendCap s.size 0 e).cut (w.tape w.drawn (.appendCap s.size 0 e))=cap at hge;have R1:Rel P W0 ι h { w with drawn:=w.drawn+1 }:=R.of_heap rfl ⟨rfl,rfl⟩;have hlen:(bO s).length=s.size:=by simp[bO]
  obtain⟨ι',hle,hnew,R'⟩:=R1.new e (bO s) (bO s) (List.replicate (cap-s.size) (Value.int .u8 0)) (cap,cap+1)
   (by intro o ho;rw[hlen] at ho;simp at ho⊢;omega) (bN.flat (lF s)) (λv hv=>tE (List.all_eq_true.1 (lF s) v hv))
  refine⟨.slice (some ⟨w.heap.size,0,none⟩) s.size cap,_,ι',?_,?_,R',hle⟩
  .have hsz2:((bO s++List.replicate (cap-s.size) (Value.int .u8 0)).toArray).size=cap:=by simp[hlen];omega
   have hfr:=HC { w with drawn:=w.drawn+1 } (bO s++List.replicate (cap-s.size) (Value.int .u8 0)).toArray e;rw[hsz2] at hfr;have hel:(s.data.map λb=>Value.int .u8 b.toNat)++Array.replicate (cap-s.size) (Value.int .u8 0)=(bO s++List.replicate (cap-s.size) (Value.int .u8 0)).toArray:=by
    apply aaS;simp[bO]
   simp only[Conv.stringToBytes,Sem.run_bind,run_choose,Question.forced,aag,aar,Result.andThen_ok,hcap,hel,newRow,run_newObj,Sem.run_pure,markStringish,run_shape];simp[World.shape?,hsz2,hfr]
  .exact .slice _ _ _ _ _ _ rfl rfl hnew rfl rfl hge (.inl rfl) (λ_ _=>by simp[ET he,hlen];omega)
 .cases hx
theorem pW (R:Rel P W0 ι h w){a a':Addr}(ha:mH ι a a'){n:Nat}{cs:δ}(hc:bj h (some a) n=some cs) :
  ∃cs',bN P ι cs cs'/\cs.length=n/\(∀v∈cs,fi v=true)/\(loadCells a' n).run P w=.ok cs'.toArray w/\(∀i v',cs'[i]?=some v'->w.cell? (a'.add i)=some v'):=by
 unfold bj at hc;split at hc
 .rename_i heq;cases heq
 .rename_i b heq;cases heq;split at hc
  .rename_i c g base e hb;split at hc
   .rename_i hfit;cases hc;obtain⟨l,e1,e2,e3,e4,e5⟩:=R.live _ c g base e hb;obtain⟨h1,h2,l',hl1,hl2,hl3⟩:=ha;rw[e1] at hl1;cases hl1;have hlen:((c.drop a.off).take n).length=n:=(by simp;omega);have key:∀i,i<n->∃v',w.cell? (a'.add i)=some v'/\∀v,c[a.off+i]?=some v->fi v=true/\bg P ι v v':=by
     intro i hi;have hlt:a.off+i<c.length:=(by omega);obtain⟨v',hv',x⟩:=e5 (a.off+i) c[a.off+i] (by simp[hlt])
     grind [List.getElem?_eq_getElem,add_eq,Nat.add_assoc]
    have hch:∃f:Nat->ξ,∀i,i<n->w.cell? (a'.add i)=some (f i)/\∀v,c[a.off+i]?=some v->fi v=true/\bg P ι v (f i):=by
     refine⟨λi=>(w.cell? (a'.add i)).getD undef,λi hi=>?_⟩
     grind
    obtain⟨f,hf⟩:=hch;refine⟨(List.range n).map f,⟨by simp;omega,λi v v' hv hv'=>?_⟩,hlen,λv hv=>?_,run_loadCells w a' n f (λj hj=>(hf j hj).1),λi v' hv'=>?_⟩
    .grind
    .grind [List.mem_iff_getElem?]
    grind
   .cases hc
  .cases hc
theorem PI {s:Sl}{sz:Nat}{cs:δ}(hx:DD s sz h=some (cs,h1)):h1=h/\bj h s.a (s.len*sz)=some cs:=by
 unfold DD at hx
 grind
structure Src (P:Program) (ι:gy) (h:af) (w:World) (size n:Nat) (x':ξ) (new new':δ):Prop where
 len:∀w',(Builtin.lenOf x').run P w'=.ok n w'
 cells:∀w',w'.heap=w.heap->(Builtin.firstCells size n x').run P w'=.ok new'.toArray w'
 rel:bN P ι new new'
 sc:∀v∈new,fi v=true
theorem MK (he:w'.heap=w.heap)(a:Addr):w'.cell? a=w.cell? a:=by simp[World.cell?,he]
theorem rQ {a':Addr}{n:Nat}{cs':δ}(hl:cs'.length=n)(hc:∀(i:Nat) v',cs'[i]?=some v'->w.cell? (a'.add i)=some v')(he:w'.heap=w.heap) :
  (loadCells a' n).run P w'=.ok cs'.toArray w':=by
 grind [run_loadCells_list,MK]
theorem Src.YW (R:Rel P W0 ι h w){a:θ}{n c:Nat}{x':ξ}(hr:bg P ι (.slice a n c) x'){size:Nat}{cs:δ}
  (hc:bj h a (n*size)=some cs):∃cs',Src P ι h w size n x' cs cs':=by
 cases hr with
 |flat _ hf=>
  cases a with
  |some a=>simp[cV] at hf
  |none=>
   simp[bj] at hc;obtain⟨h0,rfl⟩:=hc;exact⟨[],λw'=>by simp[Builtin.lenOf],λw' _=>by simp[Builtin.firstCells],.nil,by simp⟩
 |slice a a' n c c' l e1 e2 e3 e4 e5 e6 e7 e8=>
  obtain⟨cs',q1,q2,q3,q4,q5⟩:=pW R ⟨e1,e2,l,e3,e4,e5⟩ hc;exact⟨cs',λw'=>by simp[Builtin.lenOf],λw' he=>by simpa[Builtin.firstCells] using rQ (by rw[<-q1.1,q2]) q5 he,q1,q3⟩
 |jl a a' c hce=>
  have:cs=[]:=by
   grind [bj]
  subst this;exact⟨[],λw'=>by simp[Builtin.lenOf],λw' _=>by simp[Builtin.firstCells,loadCells,loadCellsFrom],.nil,by simp⟩
theorem Src.ofStr (s:ζ):Src P ι h w 1 s.size (.string s) (bO s) (bO s):=
 ⟨λw'=>by simp[Builtin.lenOf],λw' _=>by
  simp only[Builtin.firstCells,Sem.run_pure]
  congr 1
  have:s.extract 0 s.size=s:=by
   rw[ByteArray.extract_zero_size]
  rw[this];apply aaS;simp[bO],bN.flat (lF s),λv hv=>tE (List.all_eq_true.1 (lF s) v hv)⟩
theorem qc {t xT e ty:κ}{i:TypeInfo}(ht:P.underlying t=some (.slice e))(hxt:(∃e',P.underlying xT=some (.slice e'))\/P.underlying xT=some .string)(hi:P.info? e=some i)
  {n:Nat} {x':ξ} {new new':δ} (S:Src P ι h w i.size n x' new new') (base:θ) (sLen sCap:Nat) (hroom:sLen+n<=sCap) {w1:World}
  (hst:(match base with|some a=>storeCells (a.add (sLen*i.size)) new' | none=>Pure.pure ()).run P w=.ok () w1) :
  (Builtin.append_ #[t,xT] ty #[.slice base sLen sCap,x']).run P w=.ok (.slice base (sLen+n) sCap) w1:=by
 have hc:=S.cells w rfl;cases base with
 |none=>
  simp at hst;subst hst;rcases hxt with⟨e',hd⟩|hd<;>simp[Builtin.append_,aL ht,aL hd,sizeOf,typeInfo,hi,S.len,hroom,hc]
 |some a=>
  simp only at hst;rcases hxt with⟨e',hd⟩|hd<;>simp[Builtin.append_,aL ht,aL hd,sizeOf,typeInfo,hi,S.len,hroom,hc,hst]
theorem xO (z:ν)(n:Nat):(Builtin.zeroCells z n).size=n*z.size:=by simp[Builtin.zeroCells]
theorem AR {t xT e ty:κ}{i:TypeInfo}{z:ξ}(ht:P.underlying t=some (.slice e))(hxt:(∃e',P.underlying xT=some (.slice e'))\/P.underlying xT=some .string)(hi:P.info? e=some i)(hz:i.zero=some z)
  (hb:i.bytes<=4096) {n:Nat} {x':ξ} {new new':δ} (S:Src P ι h w i.size n x' new new') (base:θ) (sLen sCap:Nat) (hroom:sCap<sLen+n) (hbig:sLen+n<=cN)
  {old':δ} (hold:∀w',w'.heap=w.heap->(Builtin.firstCells i.size sLen (.slice base sLen sCap)).run P w'=.ok old'.toArray w') :
  ∃cap,sLen+n<=cap/\(Builtin.append_ #[t,xT] ty #[.slice base sLen sCap,x']).run P w =
   .ok (.slice (some ⟨w.heap.size,0,none⟩) (sLen+n) cap) { w with drawn:=w.drawn+1,heap:=w.heap.push (.cells ((old'++new')++(Builtin.zeroCells z.cells (cap-(sLen+n))).toList).toArray e) }:=by
 have hge:sLen+n<=(Question.appendCap (sLen+n) sCap e).cut (w.tape w.drawn (.appendCap (sLen+n) sCap e)):=by simp[Question.cut]
 refine⟨_,hge,?_⟩;have hn:¬(sLen+n<=sCap):=by omega
 unfold cN at hbig;have h63':¬(9223372036854775807<((sLen:Int)+(n:Int))):=by omega
 have h48':¬(281474976710656<Builtin.nextslicecap (sLen+n) sCap*i.bytes):=by
  have:=nextslicecap_le hroom;have h2:Builtin.nextslicecap (sLen+n) sCap*i.bytes<=(2*(sLen+n))*4096:=Nat.mul_le_mul this hb;omega
 have hf:=S.cells { w with drawn:=w.drawn+1 } rfl;have hfo:=hold { w with drawn:=w.drawn+1 } rfl;simp at hf hfo;rcases hxt with⟨e',hd⟩|hd <;>
  simp[Builtin.append_,aL ht,aL hd,sizeOf,typeInfo,zeroValue,hi,hz,S.len,hn,h63',h48',Question.forced,newRow,hf,hfo]
 all_goals
  unfold World.alloc World.drew;simp only
  congr 3
  apply aaS;simp[aas]
theorem VE {a:Addr}{c vs:δ}{g base:Nat}{e:κ}(hb:h.get a.block=some (.cells c g base e))(hg:g≠0)(hfit:a.off+vs.length<=c.length)(hsc:vs.all fi=true) :
  bE a vs h=some ((),h.mY a.block (bB c a.off vs) g base e):=by
 unfold bE;rw[hb];exact BY ⟨hg,hfit,hsc⟩
theorem HD (R:Rel P W0 ι h w){a a':Addr}{l:Loc}(e1:a.spot=none)(e2:a'.spot=none)(e3:ι a.block=some l)(e4:a'.block=l.aD)(e5:a'.off=l.off+a.off)
  {c:δ} {g base:Nat} (hblk:h.get a.block=some (.cells c g base l.elem)) (hg:g≠0) {k:Nat} {j7 new new':δ} (hold:bj h (some a) k=some j7)
  (hrel:bN P ι new new') (hsc:∀v∈new,fi v=true) (hroom:a'.off+k+new.length<=l.size)
  (get':Nat->Option uK) (tip':Nat->Nat) (hsub:∀j aD,get' j=some aD->h.get j=some aD)
  (htip:∀b c g' base' e',get' b=some (.cells c g' base' e')->g'≠0->base'+c.length<=tip' g') (htipn:base+a.off+(j7++new).length<=tip' g)
  (hend:∀b c' base' e',get' b=some (.cells c' g base' e')->base'+c'.length<=base+a.off+k) :
  ∃w' ι',(storeCells (a'.add k) new').run P w=.ok () w'/\ι.le ι'/\ι' h.next=some ⟨l.aD,l.off+a.off,l.size,l.elem,false⟩ /\
   Rel P W0 ι' (h.ext h.next (h.next+1) get' (.cells (j7++new) g (base+a.off) l.elem) tip') w':=by
 obtain⟨l0,f1,f2,f3,f4,f5⟩:=R.live _ c g base l.elem hblk;rw[e3] at f1;cases f1;obtain⟨cc,fz,hh,q1,q2⟩:=R.loc _ l e3;have hro:l.ro=false:=by grind
 have hone:∀v∈new',v.oneCell'=true:=by
  intro v' hv';obtain⟨i,hi⟩:=List.mem_iff_getElem?.1 hv';have hlt:i<new.length:=by have:=(List.getElem?_eq_some_iff.1 hi).1;have:=hrel.1;omega
  exact (hrel.2 i new[i] v' (by simp[hlt]) hi).Lc (hsc _ (abn hlt))
 have hlen:=hrel.1;have hst:=n7 P l.aD (a'.off+k) l.elem fz new' 0 cc w hh (by omega) ((q2 hro).2 ⟨_,l,c,g,base,l.elem,e3,rfl,hblk⟩) hone;have hadd:a'.add k=⟨l.aD,a'.off+k,none⟩:=by rw[add_eq e2,e4]
 have hsp:cc.toList.take (a'.off+k+0)++new'++cc.toList.drop (a'.off+k+0+new'.length)=bB cc.toList (l.off+a.off+k) new':=by
  simp[bB,e5]
 rw[<-hadd,hsp] at hst;have hfit:l.off+a.off+k+new'.length<=cc.toList.length:=by simp;omega
 have hstay:∀b c1 g1 base1 e1' l1,get' b=some (.cells c1 g1 base1 e1')->ι b=some l1->l1.aD=l.aD->g1=g/\l.off+base1=l1.off+base/\l1.off+c1.length<=l.off+a.off+k:=by
  intro b c1 g1 base1 e1' l1 hb hl1 hbl;obtain⟨p1,p2⟩:=R.bG a.block b l l1 c g base l.elem c1 g1 base1 e1' e3 hl1 hro hblk (hsub _ _ hb) hbl.symm
  grind
 have R1:Rel P W0 ι { h with get:=get' } (w.setRow l.aD (bB cc.toList (l.off+a.off+k) new').toArray):=by
  refine R.write get' l.aD l.size l.elem cc _ fz (q2 hro).1 hh (by simp[lq _ _ _ hfit]) (λb hb=>?_) (λb c1 g1 base1 e1' hb=>?_)
  .cases hq:get' b with
   |none=>rfl
   |some aD=>have:=(R.we b hb).1;rw[hsub _ _ hq] at this;cases this
  .refine⟨g1,c1,hsub _ _ hb,rfl,rfl,λ_ _ _=>rfl,λl1 hl1 hbl i v hv=>?_⟩;obtain⟨_,_,p3⟩:=hstay b c1 g1 base1 e1' l1 hb hl1 hbl;obtain⟨l2,g1',g2',g3',g4',g5'⟩:=R.live b c1 g1 base1 e1' (hsub _ _ hb);rw[hl1] at g1';cases g1';obtain⟨v',x,y⟩:=g5' i v hv;have hi:=(List.getElem?_eq_some_iff.1 hv).1;refine⟨v',?_,y⟩;simp only[acO,py _ _ _ _ hfit];rw[BY (by omega)];simp only[World.cell?,hbl,hh] at x;simpa using x
 have hget:=Cc l.aD (bB cc.toList (l.off+a.off+k) new').toArray cc l.elem fz hh;have hlold:j7.length=k/\(∀(i:Nat) v,j7[i]?=some v->i<k/\c[a.off+i]?=some v):=by
  simp only[bj,hblk] at hold;split at hold
  .cases hold;refine⟨by simp;omega,λi v hv=>?_⟩;rw[ab3] at hv;split at hv
   .rename_i hi;rw[aaJ] at hv;exact⟨hi,hv⟩
   .cases hv
  .cases hold
 have hcells:∀(i:Nat) v,(j7++new)[i]?=some v->∃v',World.cell? (w.setRow l.aD (bB cc.toList (l.off+a.off+k) new').toArray) ⟨l.aD,l.off+a.off+i,none⟩=some v'/\fi v=true/\bg P ι v v':=by
  intro i v hv;have hok:=hlold.1;have hb0:(w.setRow l.aD (bB cc.toList (l.off+a.off+k) new').toArray).heap[l.aD]?=some (.cells (bB cc.toList (l.off+a.off+k) new').toArray l.elem fz):=by rw[hget,BY rfl]
  have hcl:World.cell? (w.setRow l.aD (bB cc.toList (l.off+a.off+k) new').toArray) ⟨l.aD,l.off+a.off+i,none⟩=(bB cc.toList (l.off+a.off+k) new')[l.off+a.off+i]?:=by
   simp[World.cell?,hb0]
  rw[hcl,py _ _ _ _ hfit];rw[abD] at hv;split at hv
  .rename_i hi;obtain⟨p1,p2⟩:=hlold.2 i v hv;obtain⟨v',x,y⟩:=f5 _ v p2;refine⟨v',?_,y⟩;rw[BY (by omega)];simp only[World.cell?,hh] at x;simpa[abW] using x
  .rename_i hi;obtain⟨v',x,y⟩:=hrel.get hv;have hi2:=(List.getElem?_eq_some_iff.1 x).1;refine⟨v',?_,hsc v (OF hv),y⟩;rw[By (by omega),BY (by omega)];rw[<-x];congr 1;omega
 obtain⟨ι',hle,hnew,R2⟩:=R1.SH ⟨l.aD,l.off+a.off,l.size,l.elem,false⟩ rfl (q2 hro).1 (cc:=(bB cc.toList (l.off+a.off+k) new').toArray) (fz:=fz)
  (by rw[hget,BY rfl]) (by simp[lq _ _ _ hfit,q1]) (λo ho=>(q2 hro).2 ⟨_,l,c,g,base,l.elem,e3,rfl,hblk⟩ o (by simpa[lq _ _ _ hfit] using ho)) g (base+a.off) (j7++new) tip'
  hcells (by simp[hlold.1];omega) (λb l1 c1 g1 base1 e1' hl1 hb hbl=>(by
   obtain⟨p1,p2,_⟩:=hstay b c1 g1 base1 e1' l1 hb hl1 hbl;exact⟨p1,by simp only;omega⟩)) hg (R.jY _ c g base l.elem hblk hg).2 htip htipn
 exact⟨_,ι',hst,hle,hnew,R2⟩
theorem HG {strict:Bool}{s:Sl}{sz:Nat}{e:κ}{n:Nat}{new:δ}{r:Sl×af}(hx:app strict s sz e n new h=some r):kF strict s sz e n new h=some r:=by
 unfold app at hx;split at hx
 .cases hx
 .exact hx
theorem zU (R:Rel P W0 ι h w){t xT e ty:κ}{i:TypeInfo}{z:ξ}(ht:P.underlying t=some (.slice e))
  (hxt:(∃e',P.underlying xT=some (.slice e'))\/P.underlying xT=some .string) (hi:P.info? e=some i) (hz:zeroOf P e=some z) (hb:i.bytes<=4096)
  {s:Sl} {s' x':ξ} (hr:bg P ι (.slice s.a s.len s.cap) s') {n:Nat} {new new':δ} (S:Src P ι h w i.size n x' new new')
  {strict:Bool} {r:Sl} (hx:app strict s i.size e n new h=some (r,h1)) :
  eB P W0 ι w (Builtin.append_ #[t,xT] ty #[s',x']) (.slice r.a r.len r.cap) h1:=by
 obtain⟨hzf,hz1,hz2,i2,hi2,hz3,hz4⟩:=fO hz;rw[hi] at hi2;cases hi2;obtain⟨sa,sn,sc⟩:=s
 replace hx:=HG hx
 simp only[kF] at hx;simp only at hr;have hsz:Yv P e=i.size:=by rw[ET hz2,hz4]
 split at hx
 ·-- nothing is appended
  rename_i hn0;subst hn0;cases sa with
  |none=>
   simp only at hx;split at hx
   .rename_i hc;cases hx;obtain⟨c1,c2,c3⟩:=hc;subst c1;subst c2;cases hr;exact .ret (qc ht hxt hi S none 0 0 (by omega) (by simp)) (.flat _ rfl) R
   .cases hx
  |some a=>
   simp only at hx;split at hx
   .rename_i hc;cases hx;subst hc;have hn':new'=[]:=aap S.rel.1.symm;subst hn';have hr0:=hr;cases hr with
    |flat _ hf=>simp[cV] at hf
    |slice _ a' _ _ c' l e1 e2 e3 e4 e5 e6 e7 e8=>
     exact .ret (qc ht hxt hi S (some a') _ c' (by omega) (by simp[storeCells])) hr0 R
    |jl _ a' _ hce=>
     exact .ret (qc ht hxt hi S (some a') _ 0 (by omega) (by simp[storeCells])) hr0 R
   .cases hx
 .rename_i hn0;split at hx
  .cases hx
  .rename_i hlim;have hlim:sn+n<=cN/\new.length=n*i.size:=abG λx=>hlim x;obtain⟨hbig,hnl⟩:=hlim;cases sa with
   |none=>
    simp only at hx;split at hx
    .rename_i hc;cases hx;obtain⟨c1,c2⟩:=hc;subst c1;subst c2;cases hr;obtain⟨cap,hcap,hrun⟩:=AR (ty:=ty) ht hxt hi hz3 hb S none 0 0 (by omega) (by omega) (old':=[]) (λw' _=>by simp[Builtin.firstCells]);have R1:Rel P W0 ι h { w with drawn:=w.drawn+1 }:=R.of_heap rfl ⟨rfl,rfl⟩;obtain⟨ι',hle,hnew,R'⟩:=R1.new e new new' (Builtin.zeroCells z.cells (cap-(0+n))).toList (0,0) (by intro o _;simp) S.rel S.sc;rw[aab] at hcap hrun hnew R';refine⟨_,_,ι',hrun,?_,?_,hle⟩
     .refine .slice _ _ _ _ _ _ rfl rfl hnew rfl rfl hcap (.inl rfl) (λ_ _=>?_);simp only[hsz,<-S.rel.1,hnl,Array.length_toList,xO,aab,<-hz4];rw[<-abf];exact abg _ (by omega)
     .simpa using R'
    .cases hx
   |some a=>
    simp only at hx;split at hx
    .rename_i j7 c g base e1 hold hblk;have hgrow:∀(sCap:Nat) (a':Addr) (old':δ) (get':Nat->Option uK) (tip':Nat->Nat) (g2 base2:Nat),
       (∀w',w'.heap=w.heap->(Builtin.firstCells i.size sn (.slice (some a') sn sCap)).run P w'=.ok old'.toArray w') ->
       bN P ι j7 old'->(∀v∈j7,fi v=true)->j7.length=sn*i.size->sCap<sn+n ->
       (∀j aD,get' j=some aD->h.get j=some aD)->g2≠0->(g2=h.next+1\/h.used (g2-1)=true) ->
       (∀b c g' base' e',get' b=some (.cells c g' base' e')->g'≠0->base'+c.length<=tip' g')->base2+(j7++new).length<=tip' g2 ->
       eB P W0 ι w (Builtin.append_ #[t,xT] ty #[.slice (some a') sn sCap,x']) (.slice (some ⟨h.next,0,none⟩) (sn+n) 0) (h.ext h.next (h.next+1) get' (.cells (j7++new) g2 base2 e) tip'):=by
      intro sCap a' old' get' tip' g2 base2 q1 q2 q3 q4 q5 q6 q7 q8 q9 q10;obtain⟨cap,hcap,hrun⟩:=AR (ty:=ty) ht hxt hi hz3 hb S (some a') sn sCap q5 hbig q1;have R1:Rel P W0 ι h { w with drawn:=w.drawn+1 }:=R.of_heap rfl ⟨rfl,rfl⟩;obtain⟨ι',hle,hnew,R'⟩:=R1.Uo h.next (h.next+1) R.unused ⟨by omega,by omega⟩ get' tip' g2 base2 e (j7++new) (old'++new') (Builtin.zeroCells z.cells (cap-(sn+n))).toList (0,0) q6 q7 q8 q9 q10
       (by intro o _;simp) (q2.append S.rel) (λv hv=>(List.mem_append.1 hv).elim (q3 v) (S.sc v))
      refine⟨_,_,ι',hrun,?_,?_,hle⟩
      .refine .slice _ _ _ _ _ _ rfl rfl hnew rfl rfl hcap (.inl rfl) (λ_ _=>?_);have e3:(old'++new').length=(sn+n)*i.size:=(by rw[aaa,<-q2.1,<-S.rel.1,q4,hnl,abf]);simp only[hsz,e3,Array.length_toList,xO,aab,<-hz4];rw[<-abf];exact abg _ (by omega)
      .simpa using R'
     have hsrc:∀(a':Addr) (sCap:Nat),(mH ι a a'\/sn=0)->∃old',(∀w',w'.heap=w.heap->(Builtin.firstCells i.size sn (.slice (some a') sn sCap)).run P w'=.ok old'.toArray w') /\
       bN P ι j7 old'/\(∀v∈j7,fi v=true)/\j7.length=sn*i.size:=by
      intro a' sCap hor;rcases hor with ha|h0
      .obtain⟨cs',q1,q2,q3,q4,q5⟩:=pW R ha hold;exact⟨cs',λw' he=>by simpa[Builtin.firstCells] using rQ (by rw[<-q1.1,q2]) q5 he,q1,q3,q2⟩
      .subst h0;have:j7=[]:=by
        grind [bj]
       subst this;exact⟨[],λw' _=>by simp[Builtin.firstCells,loadCells,loadCellsFrom],.nil,by simp,by simp⟩
     have holdlen:j7.length=sn*i.size:=by
      grind [bj]
     split at hx
     ·-- known room
      rename_i hroom;split at hx
      .rename_i hc;cases hx;obtain⟨hg,hfit,_⟩:=hc;cases hr with
       |flat _ hf=>simp[cV] at hf
       |jl _ a' _ hce=>omega
       |slice _ a' _ _ c' l f1 f2 f3 f4 f5 f6 f7 f8=>
        have hst:bE (a.plus (sn*i.size)) new h=some ((),h.mY a.block (bB c (a.off+sn*i.size) new) g base e1):=by
         exact VE (a:=a.plus (sn*i.size)) hblk hg (by simp only[Addr.plus];omega) (List.all_eq_true.2 S.sc)
        obtain⟨w',hs,R'⟩:=zT R (mH.plus ⟨f1,f2,l,f3,f4,f5⟩ _) S.rel hst;refine⟨_,w',ι,qc ht hxt hi S (some a') sn c' (by omega) hs,?_,R',.refl _⟩;show bg P ι (.slice (some a) (sn+n) sc) _;exact .slice _ _ _ _ _ l f1 f2 f3 f4 f5 (by omega) f7 f8
      .cases hx
     .rename_i hroom;split at hx
      ·-- known to be full
       rename_i hcap;cases hx;have htip:∀g,(h.new e (j7++new)).jY g=if g=h.next+1 then (j7++new).length else h.jY g:=λg=>aQ _ _ _ _
       have fin:∀(a':Addr) (c':Nat),(mH ι a a'\/sn=0)->c'<sn+n->eB P W0 ι w (Builtin.append_ #[t,xT] ty #[.slice (some a') sn c',x']) (.slice (some ⟨h.next,0,none⟩) (sn+n) 0) (h.new e (j7++new)):=by
        intro a' c' ha hlt;obtain⟨old',p1,p2,p3,p4⟩:=hsrc a' c' ha;have he:h.new e (j7++new)=h.ext h.next (h.next+1) h.get (.cells (j7++new) (h.next+1) 0 e) (h.new e (j7++new)).jY:=by simp[af.new,af.bt,af.ext]
        rw[he];exact hgrow c' a' old' h.get (h.new e (j7++new)).jY (h.next+1) 0 p1 p2 p3 p4 hlt (λ_ _ x=>x) (by omega) (.inl rfl)
         (λb c g' base' e' hb hg'=>by
          obtain⟨h1,h2⟩:=R.jY b c g' base' e' hb hg';rw[htip,By (λx=>by subst x;simp at h2;rw[R.unused] at h2;cases h2)];exact h1) (by rw[htip];simp)
       cases hr with
       |flat _ hf=>simp[cV] at hf
       |jl _ a' _ hce=>exact fin a' 0 (.inr rfl) (by omega)
       |slice _ a' _ _ c' l f1 f2 f3 f4 f5 f6 f7 f8=>exact fin a' c' (.inl ⟨f1,f2,l,f3,f4,f5⟩) (by omega)
      .rename_i hcap;have hcap:sc=0:=abG λx=>hcap x;subst hcap;split at hx
       .rename_i hc;obtain⟨hg,he1⟩:=hc;subst he1;have both:∀(get':Nat->Option uK) (tip':Nat->Nat),(∀j aD,get' j=some aD->h.get j=some aD) ->
          (∀b c g' base' e',get' b=some (.cells c g' base' e')->g'≠0->base'+c.length<=tip' g')->base+a.off+(j7++new).length<=tip' g ->
          (∀b c' base' e',get' b=some (.cells c' g base' e')->base'+c'.length<=base+a.off+sn*i.size) ->
          eB P W0 ι w (Builtin.append_ #[t,xT] ty #[s',x']) (.slice (some ⟨h.next,0,none⟩) (sn+n) 0) (h.ext h.next (h.next+1) get' (.cells (j7++new) g (base+a.off) e1) tip'):=by
         intro get' tip' q1 q2 q3 q4;have hgn:=(R.jY _ c g base e1 hblk hg).2;have grow:∀(a':Addr) (c':Nat),(mH ι a a'\/sn=0)->c'<sn+n->eB P W0 ι w (Builtin.append_ #[t,xT] ty #[.slice (some a') sn c',x']) (.slice (some ⟨h.next,0,none⟩) (sn+n) 0) (h.ext h.next (h.next+1) get' (.cells (j7++new) g (base+a.off) e1) tip'):=by
          intro a' c' ha hlt;obtain⟨old',p1,p2,p3,p4⟩:=hsrc a' c' ha
          grind
         cases hr with
         |flat _ hf=>simp[cV] at hf
         |jl _ a' _ hce=>exact grow a' 0 (.inr rfl) (by omega)
         |slice _ a' _ _ c' l f1 f2 f3 f4 f5 f6 f7 f8=>
          by_cases hfit:sn+n<=c'
          .obtain⟨l0,g1,g2,g3,_,_⟩:=R.live _ c g base e1 hblk;rw[f3] at g1;cases g1;have hro:l.ro=false:=(by grind);have hwf:=f8 hro (by omega);subst g2;have hroom2:a'.off+sn*i.size+new.length<=l.size:=by
            have:(sn+n)*i.size<=c'*i.size:=abg _ hfit
            grind
           obtain⟨w',ι',hs,hle,hnew,R'⟩:=HD R f1 f2 f3 f4 f5 hblk hg hold S.rel S.sc hroom2 get' tip' q1 q2 q3 q4;refine⟨_,w',ι',qc ht hxt hi S (some a') sn c' hfit hs,?_,R',hle⟩;exact .slice _ _ _ _ _ _ rfl f2 hnew f4 (by simp only;omega) hfit (.inl rfl) (λ_ _=>hwf)
          .exact grow a' c' (.inl ⟨f1,f2,l,f3,f4,f5⟩) (by omega)
        split at hx
        .rename_i htip;cases hx;have hid:∀{aD:uK},(λj=>cond (Nat.beq j h.next) (some aD) (Xp (h.get j)))=λj=>cond (Nat.beq j h.next) (some aD) (h.get j):=by simp
         rw[hid];refine both h.get _ (λ_ _ x=>x) (λb c1 g' base' e' hb hg'=>?_) ?_ (λb c1 base' e' hb=>?_)
         .rw[aQ];have:=(R.jY b c1 g' base' e' hb hg').1
          grind
         .rw[aQ,BY rfl];simp[holdlen];omega
         .have:=(R.jY b c1 g base' e' hb hg).1;omega
        .rename_i htip;split at hx
         .cases hx;have hk:∀j aD,(match h.get j with
            |some (.cells c' g' base' elem')=>cond (Nat.beq g' g&&Nat.blt (base+a.off+sn*i.size) (base'+c'.length)) none (some (.cells c' g' base' elem'))
            |o=>o)=some aD->h.get j=some aD/\(∀c' base' e',aD=.cells c' g base' e'->base'+c'.length<=base+a.off+sn*i.size):=by
           intro j aD hj;cases hq:h.get j with
           |none=>rw[hq] at hj;cases hj
           |some bl=>
            rw[hq] at hj;cases bl with
            |map es=>grind
            |iter s p=>grind
            |cells c' g' base' e'=>
             simp only at hj;cases hb2:(Nat.beq g' g&&Nat.blt (base+a.off+sn*i.size) (base'+c'.length)) with
             |true=>rw[hb2] at hj;cases hj
             |false=>
              rw[hb2] at hj;cases hj;refine⟨rfl,λc2 base2 e2 heq=>?_⟩;cases heq;refine abG λhlt=>?_;have hbl:Nat.blt (base+a.off+sn*i.size) (base'+c'.length)=true:=Nat.ble_eq_true_of_le (by omega)
              grind [Nat.beq_refl]
          refine both _ _ (λj aD hj=>(hk j aD hj).1) (λb c1 g' base' e' hb hg'=>?_) ?_ (λb c1 base' e' hb=>(hk b _ hb).2 _ _ _ rfl)
          .rw[aQ];obtain⟨p1,p2⟩:=hk b _ hb;have:=(R.jY b c1 g' base' e' p1 hg').1;split
           .rename_i hgg;subst hgg;have:=p2 _ _ _ rfl;omega
           .exact this
          .rw[aQ,BY rfl];simp[holdlen];omega
         .cases hx
       .cases hx
    .cases hx
end Go.Ago
