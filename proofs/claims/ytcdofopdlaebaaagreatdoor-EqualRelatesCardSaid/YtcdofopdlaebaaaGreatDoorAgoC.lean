
import Derived.Test.YtcdofopdlaebaaaGreatDoorAgoB
import Derived.Lib.Builder
import Derived.Lib.UnsafeStr
import Derived.Laws.StructEq
namespace Go.Ago
open Go
variable {P:Program}{W0:Fz}{ι ι':fM}{h h' h1:af}{w w':World}
theorem aS.int {k:IntKind}{n:Int}{v':Value}(hr:aS P ι (.int k n) v'):v'=.int k n:=by cases hr;rfl
theorem aS.bool {b:Bool}{v':Value}(hr:aS P ι (.bool b) v'):v'=.bool b:=by cases hr;rfl
theorem aS.str {s:ByteArray}{v':Value}(hr:aS P ι (.string s) v'):v'=.string s:=by cases hr;rfl
theorem aS.float {k:FloatKind}{n:Nat}{v':Value}(hr:aS P ι (.float k n) v'):v'=.float k n:=by cases hr;rfl
theorem aS.nilIface {v':Value}(hr:aS P ι .nilIface v'):v'=.nilIface:=by cases hr;rfl
theorem aS.FX {a:Addr}{v':Value}(hr:aS P ι (.pointer (some a)) v'):∃a',v'=.pointer (some a')/\oA ι a a':=by
 cases hr with
 |flat _ hf=>simp[cX] at hf
 |ptr _ a' ha=>exact⟨a',rfl,ha⟩
theorem aS.Xs {p:Option Addr}{v':Value}(hr:aS P ι (.pointer p) v'):∃p',v'=.pointer p'/\p'.isNone=p.isNone/\∀a,p=some a->∃a',p'=some a'/\oA ι a a':=by
 cases hr with
 |flat _ hf=>cases p with
  |none=>exact⟨none,rfl,rfl,by simp⟩
  |some a=>simp[cX] at hf
 |ptr a a' ha=>exact⟨some a',rfl,rfl,λb hb=>by cases hb;exact⟨a',rfl,ha⟩⟩
theorem aS.slO {a:Option Addr}{n c:Nat}{v':Value}(hr:aS P ι (.slice a n c) v'):∃a' c',v'=.slice a' n c'/\a'.isNone=a.isNone:=by
 cases hr with
 |flat _ hf=>cases a with
  |none=>exact⟨none,c,rfl,rfl⟩
  |some a=>simp[cX] at hf
 |slice a a' n c c'=>exact⟨_,_,rfl,rfl⟩
 |jg a a' c=>exact⟨_,_,rfl,rfl⟩
def fC (P:Program)(W0:Fz)(ι:fM)(w:World)(s:Sem Value)(v:Value)(h1:af):Prop:=
 ∃v' w' ι',s.run P w=.ok v' w'/\aS P ι' v v'/\Rel P W0 ι' h1 w'/\ι.le ι'
def Mq (P:Program)(W0:Fz)(ι:fM)(w:World)(s:Sem Next)(v:Value)(h1:af):Prop:=
 ∃v' w' ι',(s.run P w=.ok (.value v') w'\/(s.run P w=.ok .skip w'/\v'=undef))/\aS P ι' v v'/\Rel P W0 ι' h1 w'/\ι.le ι'
theorem fC.o {s:Sem Value}{v:Value}(hs:fC P W0 ι w s v h1):Mq P W0 ι w (do pure (.value (<-s))) v h1:=by
 obtain⟨v',w',ι',hr,a,b,c⟩:=hs;exact⟨v',w',ι',.inl (by simp[hr]),a,b,c⟩
theorem fC.pure {v v':Value}(hv:aS P ι v v')(R:Rel P W0 ι h w):fC P W0 ι w (Pure.pure v') v h:=⟨v',w,ι,rfl,hv,R,.refl _⟩
theorem Mq.pure {v v':Value}(hv:aS P ι v v')(R:Rel P W0 ι h w):Mq P W0 ι w (Pure.pure (.value v')) v h:=⟨v',w,ι,.inl rfl,hv,R,.refl _⟩
theorem aQ {E:Env}{a:Go.Act}(HE:iN P ι E a.tmps){x:Operand}{v:Value}(hv:E.ev x=some v):aS P ι v (a.eval x):=by
 cases x with
 |tmp t=>
  obtain⟨v',h1,h2⟩:=HE t v hv;simp[Act.eval,adK,h1];exact h2
 |const u=>
  simp only[Env.ev] at hv;split at hv
  .rename_i hf;cases hv;exact .of_flat hf
  .cases hv
 |global g=>simp[Env.ev] at hv
 |func f=>simp[Env.ev] at hv;subst hv;exact .func _ _ _ _ _ rfl (by simp) rfl (by simp)
theorem GH {E:Env}{a:Go.Act}(HE:iN P ι E a.tmps):∀{xs:List Operand} {vs:List Value},E.JP xs=some vs->bA P ι vs (xs.map a.eval)
 |[],vs,hv=>by simp[Env.JP] at hv;subst hv;exact .nil
 |x::xs,vs,hv=>by
  simp only[Env.JP] at hv;split at hv
  .rename_i v vs' h1 h2;cases hv;exact bA.cons (aQ HE h1) (GH HE h2)
  .cases hv
theorem iO {t:TypeId}{n:Nat}(hs:bS P t=some n):∀w,(sizeOf t).run P w=.ok n w:=by
 intro w;unfold bS at hs;split at hs
 .rename_i i hi;cases hs;simp[sizeOf,typeInfo,hi]
 .cases hs
theorem Ej {t:TypeId}{n:Nat}(hs:bS P t=some n):szT P t=n:=by
 unfold bS at hs;unfold szT;split at hs<;>simp_all
theorem aL {t:TypeId}{d:TypeDesc}(hd:P.underlying t=some d)(w:World):(underlying t).run P w=.ok d w:=run_underlying hd w
theorem qN {t:TypeId}{d:TypeDesc}(hd:P.underlying t=some d)(w:World):(isAgg t).run P w=.ok (xj d) w:=by
 cases d<;>simp[isAgg,aL hd,xj]
theorem gE {t:TypeId}{z:Value}(hz:zeroOf P t=some z):z.cells.toList.all cX=true/\(∀w,(zeroValue t).run P w=.ok z w)/\bS P t=some z.cells.size/\∃i,P.info? t=some i/\i.zero=some z/\i.size=z.cells.size:=by
 unfold zeroOf at hz;split at hz
 .rename_i i hi;split at hz
  .rename_i v hv;split at hz
   .rename_i hc;cases hz;simp only[IT] at hc;have hc:=And.intro hc.1 (BY hc.2);exact⟨hc.1,λw=>by simp[zeroValue,typeInfo,hi,hv],by simp[bS,hi,hc.2],i,hi,hv,hc.2.symm⟩
   .cases hz
  .cases hz
 .cases hz
theorem uP {v:Value}(hv:cX v=true):eQ v=true:=by cases v<;>simp_all[cX,eQ]
theorem Ek (R:Rel P W0 ι h w){nm:Option Nat}{e:TypeId}{cs cs':List Value}{b:Nat}(hn:aO nm e cs h=some (b,h1))(hl:bA P ι cs cs') :
  fC P W0 ι w (do pure (.pointer (some (<-newRow e cs'.toArray)))) (.pointer (some ⟨b,0,none⟩)) h1:=by
 have fin:∀(k next':Nat),h.used k=false->k<next'/\h.next<=next'->cs.all eQ=true ->
   fC P W0 ι w (do pure (.pointer (some (<-newRow e cs'.toArray)))) (.pointer (some ⟨k,0,none⟩)) (h.dQ k next' e cs):=by
  intro k next' h1 h2 hsc
  obtain⟨ι',hle,hnew,R'⟩:=R.put k next' h1 h2 e cs cs' [] (0,0) (by intro o _;simp) hl (List.all_eq_true.1 hsc)
  rw[adG] at R';exact⟨.pointer (some ⟨w.heap.size,0,none⟩),_,ι',by simp[newRow],.ptr _ _ ⟨rfl,rfl,_,hnew,rfl,rfl⟩,R',hle⟩
 unfold aO at hn;split at hn
 .rename_i hsc;cases nm with
  |none=>cases hn;exact fin _ _ R.unused ⟨by omega,by omega⟩ hsc
  |some k=>
   simp only at hn;split at hn
   .rename_i hk;cases hn;exact fin _ _ hk.1 ⟨hk.2.1,aaR _⟩ hsc
   .cases hn
 .cases hn
theorem J5 (R:Rel P W0 ι h w){t:TypeId}{z:Value}(hz:zeroOf P t=some z){nm:Option Nat}{b:Nat}(hn:aO nm t z.cells.toList h=some (b,h1)) :
  fC P W0 ι w (Instr.alloc t true (.tuple #[])) (.pointer (some ⟨b,0,none⟩)) h1:=by
 obtain⟨hf,hz1,_⟩:=gE hz;obtain⟨v',w',ι',hr,x⟩:=Ek R hn (bA.flat (P:=P) (ι:=ι) hf);refine⟨v',w',ι',?_,x⟩;simp at hr;simp[Instr.alloc,hz1,newVar,hr]
theorem QE (R:Rel P W0 ι h w){t:TypeId}{v v':Value}(hv:aS P ι v v'){nm:Option Nat}{b:Nat}(hn:aO nm t v.cells.toList h=some (b,h1)) :
  fC P W0 ι w (Instr.box t v') (.pointer (some ⟨b,0,none⟩)) h1:=by
 obtain⟨u',w',ι',hr,x⟩:=Ek R hn hv.cells;refine⟨u',w',ι',?_,x⟩;simp at hr;simp[Instr.box,newVar,hr]
theorem pC:∀{l:eF} {v:Value} {x:l.den},yI l v=some x->v=FP l x
 |.int k,v,x,hx=>by
  cases k<;>cases v<;>simp[yI] at hx<;>(rename_i k' n;cases k'<;>simp[yI] at hx)<;>(subst hx;rfl)
 |.bool,v,x,hx=>by cases v<;>simp[yI] at hx;subst hx;rfl
 |.str,v,x,hx=>by cases v<;>simp[yI] at hx;subst hx;rfl
 |.ptr,v,x,hx=>by cases v<;>simp[yI] at hx;subst hx;rfl
 |.ak,v,x,hx=>by
  cases v with
  |pointer p=>cases p<;>simp[yI] at hx;subst hx;rfl
  |_=>simp[yI] at hx
 |.sl,v,x,hx=>by cases v<;>simp[yI] at hx;subst hx;rfl
 |.mp,v,x,hx=>by cases v<;>simp[yI] at hx;subst hx;rfl
 |.raw,v,x,hx=>by simp only[yI] at hx;cases hx;rfl
 |.f64,v,x,hx=>by
  cases v<;>simp[yI] at hx;rename_i k n;cases k<;>simp at hx;subst hx;rfl
theorem J6 {l:eF}{a:Addr}{x:l.den}(hx:aq l a h=some (x,h1)):h1=h/\h.cell a=some (FP l x):=by
 unfold aq at hx;split at hx
 .rename_i v hv;split at hx
  .rename_i y hy;cases hx;exact⟨rfl,by rw[hv,pC hy]⟩
  .cases hx
 .cases hx
theorem Co (R:Rel P W0 ι h w){a a':Addr}(ha:oA ι a a'):∀(ls:List eF) (i:Nat) (acc acc':List Value) (v:Value),
  (y9 a ls i acc).exec h=some (v,h1)->bA P ι acc.reverse acc' ->
  h1=h/\∃vs:List Value,(loadCellsFrom a' i ls.length acc'.toArray).run P w=.ok vs.toArray w/\aS P ι v (.agg vs.toArray)
 |[],i,acc,acc',v,hx,hl=>by
  simp[y9,Act.exec] at hx;obtain⟨rfl,rfl⟩:=hx;refine⟨rfl,acc',by simp[loadCellsFrom],.agg _ _ (by simpa using hl.1) λj u u' p q=>hl.2 j u u' (by simpa using p) (by simpa using q)⟩
 |l::ls,i,acc,acc',v,hx,hl=>by
  simp only[y9,Act.exec] at hx;split at hx
  .rename_i x h2 hq;obtain⟨e0,hc⟩:=J6 hq;rw[e0] at hx;obtain⟨u',hu,_,hr⟩:=R.cell (oA.plus ha i) hc;obtain⟨e1,vs,e2,e3⟩:=Co R ha ls (i+1) (FP l x::acc) (acc'++[u']) v hx (by simpa using hl.append (bA.cons hr .nil));exact⟨e1,vs,by simpa[loadCellsFrom,hu] using e2,e3⟩
  .cases hx
theorem Bp:∀{ls:List eF} {vs:List Value} {x:bN ls},vF ls vs=some x->vs=FQ ls x
 |[],[],_,_=>rfl
 |[],_::_,_,hx=>by cases hx
 |[l],[],_,hx=>by cases hx
 |[l],[v],x,hx=>by rw[FQ,<-pC (l:=l) (x:=x) hx]
 |[l],_::_::_,_,hx=>by cases hx
 |l::l'::ls,[],_,hx=>by cases hx
 |l::l'::ls,v::vs,x,hx=>by
  simp only[vF] at hx;split at hx
  .rename_i a b ha hb;cases hx;rw[FQ,<-pC ha,<-Bp hb]
  .cases hx
theorem J7 {a:Addr}:∀(ls:List eF) (vs:List Value) (x:bN ls) (i:Nat) (acc:List Value),vF ls vs=some x->(∀j v,vs[j]?=some v->h.cell (a.plus (i+j))=some v) ->
  (y9 a ls i acc).exec h=some (.agg (acc.reverse++vs).toArray,h)
 |[],[],x,i,acc,hx,hc=>by simp[y9,Act.exec]
 |[],_::_,_,_,_,hx,_=>by cases hx
 |[l],[],_,_,_,hx,_=>by cases hx
 |[l],[v],x,i,acc,hx,hc=>by
  have h0:=hc 0 v rfl;have hx:yI l v=some x:=hx;simp only[y9,Act.exec,aq,show a.plus i=a.plus (i+0) from rfl,h0,hx];rw[<-pC hx];simp
 |[l],_::_::_,_,_,_,hx,_=>by cases hx
 |l::l'::ls,[],_,_,_,hx,_=>by cases hx
 |l::l'::ls,v::vs,x,i,acc,hx,hc=>by
  simp only[vF] at hx;split at hx
  .rename_i y z hy hz;cases hx;have h0:=hc 0 v rfl;have ih:=J7 (l'::ls) vs z (i+1) (FP l y::acc) hz λj u hu=>by
    have:=hc (j+1) u (by simpa using hu)
    rwa [show i+(j+1)=i+1+j by omega] at this
   rw[y9];simp only[Act.exec,aq,show a.plus i=a.plus (i+0) from rfl,h0,hy];rw[ih,<-pC hy];simp
  .cases hx
theorem Tp {a:Addr}{ls:List eF}{x:bN ls}(hx:aI ls a h=some (x,h1)):h1=h/\(y9 a ls 0 []).exec h=some (.agg (FQ ls x).toArray,h):=by
 unfold aI at hx;split at hx
 .rename_i vs hv;split at hx
  .rename_i y hy;cases hx;refine⟨rfl,?_⟩;rw[<-Bp hy];have:=J7 (a:=a) (h:=h) ls vs _ 0 [] hy λj v hj=>by
    unfold aX at hv;simp only at hv;unfold af.cell Addr.plus;simp only;split at hv
    .rename_i c g b e hg;split at hv
     .cases hv;rw[aeA] at hj;split at hj
      .rw[ady] at hj;simpa using hj
      .cases hj
     .cases hv
    .cases hv
   simpa using this
  .cases hx
 .cases hx
theorem GI (R:Rel P W0 ι h w){t:TypeId}{a a':Addr}(ha:oA ι a a'){v:Value}(hx:(FM P t a).exec h=some (v,h1)) :
  h1=h/\∃v',(loadVar t a').run P w=.ok v' w/\aS P ι v v':=by
 unfold FM at hx;split at hx
 .rename_i d n hd hn;split at hx
  .rename_i hag;split at hx
   .rename_i ls hls;split at hx
    .rename_i hlen;have hlen:=BY hlen;simp only[Act.exec] at hx;split at hx
     .rename_i y h2 hq;cases hx;obtain⟨e0,hx⟩:=Tp hq;subst e0;obtain⟨_,vs,e2,e3⟩:=Co R ha ls 0 [] [] _ hx .nil;refine⟨rfl,_,?_,e3⟩;simp[loadVar,qN hd,hag,iO hn,<-hlen,loadCells,e2]
     .cases hx
    .simp[Act.exec] at hx
   .simp[Act.exec] at hx
  .rename_i hag;split at hx
   .rename_i l hl;simp only[Act.exec] at hx;split at hx
    .rename_i x h2 hq;cases hx;obtain⟨rfl,hc⟩:=J6 hq;obtain⟨u',hu,_,hr⟩:=R.cell ha hc;exact⟨rfl,u',by simp[loadVar,qN hd,hag,hu],hr⟩
    .cases hx
   .simp[Act.exec] at hx
 .simp[Act.exec] at hx
theorem pD (P:Program)(g o:Nat)(t:TypeId)(fz:Nat×Nat):∀(vs:List Value) (i:Nat) (cur:Array Value) (w:World),w.heap[g]?=some (.cells cur t fz)->o+i+vs.length<=cur.size ->
  (∀j,j<cur.size->(decide (fz.1<=j)&&decide (j<fz.2))=false)->(∀v∈vs,v.oneCell'=true) ->
  (storeCells ⟨g,o,none⟩ vs i).run P w=.ok () (w.setRow g (cur.toList.take (o+i)++vs++cur.toList.drop (o+i+vs.length)).toArray)
 |[],i,cur,w,hg,_,_,_=>by
  simp only[storeCells,adG,aa0,afs,agC,afI];rw[setRow_self w g cur t fz hg];rfl
 |v::rest,i,cur,w,hg,hl,hfr,h1=>by
  have hi:o+i<cur.size:=by simp at hl;omega
  have hadd:(⟨g,o,none⟩:Addr).add i=⟨g,o+i,none⟩:=by unfold Addr.add;split<;>simp_all
  have hcell:w.cell? ⟨g,o+i,none⟩=some cur[o+i]:=by simp[World.cell?,hg,hi]
  have hfro:w.frozen? ⟨g,o+i,none⟩=false:=by simp only[World.frozen?,hg];exact hfr _ hi
  have hst:(store ((⟨g,o,none⟩:Addr).add i) v).run P w=.ok () (w.setRow g (cur.setIfInBounds (o+i) v)):=by
   rw[hadd,run_store P w _ v _ (h1 v (by simp)),hcell];simp[hfro,setCell_eq_setRow w g (o+i) cur t fz v hg]
  have ih:=pD P g o t fz rest (i+1) (cur.setIfInBounds (o+i) v) (w.setRow g (cur.setIfInBounds (o+i) v)) (setRow_heap w g cur _ t _ hg) (by simp at hl⊢;omega)
   (by simpa using hfr) (λx hx=>h1 x (by simp[hx]))
  simp only[storeCells,Sem.run_bind,hst,Result.andThen_ok,ih,setRow_setRow]
  congr 3
  have e:=list_seg_step cur.toList (o+i) v rest (by simp at hl⊢;omega);simpa[agO,age] using e
theorem Bq (R:Rel P W0 ι h w){a a':Addr}(ha:oA ι a a'){vs vs':List Value}(hl:bA P ι vs vs'){x:Unit}(hx:bG a vs h=some (x,h1)) :
  ∃w',(storeCells a' vs').run P w=.ok () w'/\Rel P W0 ι h1 w':=by
 unfold bG at hx;split at hx
 .rename_i c g base e hb;split at hx
  .rename_i hc;cases hx;obtain⟨hg,hfit,hsc⟩:=hc;obtain⟨h1,h2,l,hl1,hl2,hl3⟩:=ha;obtain⟨l0,e1,e2,e3,e4,e5⟩:=R.live _ c g base e hb;rw[hl1] at e1;cases e1;obtain⟨cc,fz,hh,q1,q2⟩:=R.loc _ l hl1;have hro:l.ro=false:=by cases hr:l.ro with|false=>rfl|true=>exact absurd (e3.1.2 hr) hg
   have hU:=R.rC hb hg hl1 hh hfit hl (List.all_eq_true.1 hsc);have hone:∀v∈vs',v.oneCell'=true:=by
    intro v' hv';obtain⟨i,hi⟩:=List.mem_iff_getElem?.1 hv';have hlt:i<vs.length:=(by have:=(List.getElem?_eq_some_iff.1 hi).1;have:=hl.1;omega);exact (hl.2 i vs[i] v' (by simp[hlt]) hi).OO (List.all_eq_true.1 hsc _ (afl hlt))
   have hst:=pD P l.ar a'.off l.elem fz vs' 0 cc w hh (by have:=hl.1;omega) ((q2 hro).2 ⟨_,l,c,g,base,e,hl1,rfl,hb⟩) hone;refine⟨_,?_,hU⟩;have:a'=⟨l.ar,a'.off,none⟩:=by cases a';simp_all
   rw[this,hst];simp[aY,hl3]
  .cases hx
 .cases hx
theorem J8 (R:Rel P W0 ι h w){t:TypeId}{a a':Addr}(ha:oA ι a a'){v v':Value}(hv:aS P ι v v'){n:Nat}(hn:bS P t=some n)(hs:v.cells.size=n)
  {x:Unit} (hx:bG a v.cells.toList h=some (x,h1)):∃w',(storeVar t a' v').run P w=.ok () w'/\Rel P W0 ι h1 w':=by
 obtain⟨w',hr,R'⟩:=Bq R ha hv.cells hx;refine⟨w',?_,R'⟩;have hc:=hv.cells.1;simp at hc;simp[storeVar,iO hn,<-hs,hc,hr]
theorem Hm {k k':IntKind}(hk:OL k k'=true):k=k':=by cases k<;>cases k'<;>simp_all[OL,OJ]
theorem xp {b:Bool}{x:Unit}(hx:kC b h=some (x,h1)):b=true/\h1=h:=by
 unfold kC at hx;cases b<;>simp at hx;exact⟨rfl,hx.symm⟩
theorem fC.ret {s:Sem Value}{v v':Value}(hs:s.run P w=.ok v' w)(hv:aS P ι v v')(R:Rel P W0 ι h w):fC P W0 ι w s v h:=⟨v',w,ι,hs,hv,R,.refl _⟩
theorem aS.yo {k:FloatKind}{n:Nat}:aS P ι (.float k n) (.float k n):=.flat _ rfl
theorem aS.ofInt {k:IntKind}{n:Int}:aS P ι (.int k n) (.int k n):=.flat _ rfl
theorem aS.ofBool {b:Bool}:aS P ι (.bool b) (.bool b):=.flat _ rfl
theorem aS.ofStr {s:ByteArray}:aS P ι (.string s) (.string s):=.flat _ rfl
theorem Tq (R:Rel P W0 ι h w)(op:BinOp)(t:TypeId)(k k':IntKind)(a b:Int)(v:Value)
  (hx:(JS op k a k' b).exec h=some (v,h1)):fC P W0 ι w (binOp op t (.int k a) (.int k' b)) v h1:=by
 unfold JS at hx;split at hx
 .simp only[Act.exec] at hx;split at hx
  .rename_i u h2 hc;obtain⟨hb,rfl⟩:=xp hc;cases hx;simp at hb;exact .ret (by simp[binOp,Op.shift,show ¬b<0 by omega]) .ofInt R
  .cases hx
 .simp only[Act.exec] at hx;split at hx
  .rename_i u h2 hc;obtain⟨hb,rfl⟩:=xp hc;cases hx;simp at hb;exact .ret (by simp[binOp,Op.shift,show ¬b<0 by omega]) .ofInt R
  .cases hx
 .split at hx
  .simp[Act.exec] at hx
  .rename_i hk;obtain rfl:=Hm hk;split at hx
   .cases hx;exact .ret (by simp[binOp,Op.intArith]) .ofInt R
   .cases hx;exact .ret (by simp[binOp,Op.intArith]) .ofInt R
   .cases hx;exact .ret (by simp[binOp,Op.intArith]) .ofInt R
   .simp only[Act.exec] at hx;split at hx
    .rename_i u h2 hc;obtain⟨hb,rfl⟩:=xp hc;cases hx;simp at hb;exact .ret (by simp[binOp,Op.intDiv,hb]) .ofInt R
    .cases hx
   .simp only[Act.exec] at hx;split at hx
    .rename_i u h2 hc;obtain⟨hb,rfl⟩:=xp hc;cases hx;simp at hb;exact .ret (by simp[binOp,Op.intDiv,hb]) .ofInt R
    .cases hx
   .cases hx;exact .ret (by unfold binOp;simp only[ne_eq,not_true_eq_false,if_false];rfl) .ofInt R
   .cases hx;exact .ret (by unfold binOp;simp only[ne_eq,not_true_eq_false,if_false];rfl) .ofInt R
   .cases hx;exact .ret (by unfold binOp;simp only[ne_eq,not_true_eq_false,if_false];rfl) .ofInt R
   .cases hx;exact .ret (by unfold binOp;simp only[ne_eq,not_true_eq_false,if_false];rfl) .ofInt R
   .cases hx;exact .ret (by simp[binOp,Op.intCmp];rfl) .ofBool R
   .cases hx;exact .ret (by simp[binOp,Op.intCmp];rfl) .ofBool R
   .cases hx;exact .ret (by simp[binOp,Op.intCmp]) .ofBool R
   .cases hx;exact .ret (by simp[binOp,Op.intCmp]) .ofBool R
   .cases hx;exact .ret (by simp[binOp,Op.intCmp]) .ofBool R
   .cases hx;exact .ret (by simp[binOp,Op.intCmp]) .ofBool R
   .simp[Act.exec] at hx
theorem yp {o:Option Nat}{r:Nat}(hx:Au o h=some (r,h1)):o=some r/\h1=h:=by
 unfold Au at hx;split at hx
 .cases hx;exact⟨rfl,rfl⟩
 .cases hx
theorem Tr (R:Rel P W0 ι h w)(op:BinOp)(t:TypeId)(a b:Nat)(v:Value)
  (hx:(JW op a b).exec h=some (v,h1)):fC P W0 ι w (binOp op t (.float .f64 a) (.float .f64 b)) v h1:=by
 unfold JW at hx;split at hx
 .simp only[Act.exec] at hx;split at hx
  .rename_i r h2 hc;obtain⟨e1,rfl⟩:=yp hc;cases hx;exact .ret (by simp[binOp,Op.floatArith,e1]) .yo R
  .cases hx
 .simp only[Act.exec] at hx;split at hx
  .rename_i r h2 hc;obtain⟨e1,rfl⟩:=yp hc;cases hx;exact .ret (by simp[binOp,Op.floatArith,e1]) .yo R
  .cases hx
 .simp only[Act.exec] at hx;split at hx
  .rename_i r h2 hc;obtain⟨e1,rfl⟩:=yp hc;cases hx;exact .ret (by simp[binOp,Op.floatArith,e1]) .yo R
  .cases hx
 .simp only[Act.exec] at hx;split at hx
  .rename_i r h2 hc;obtain⟨e1,rfl⟩:=yp hc;cases hx;exact .ret (by simp[binOp,Op.floatArith,e1]) .yo R
  .cases hx
 .cases hx;exact .ret (by simp[binOp,Op.floatCmp,FU]) .ofBool R
 .cases hx;exact .ret (by simp[binOp,Op.floatCmp,FU,bne]) .ofBool R
 .cases hx;exact .ret (by simp[binOp,Op.floatCmp,Xk]) .ofBool R
 .cases hx;exact .ret (by simp[binOp,Op.floatCmp,Xk,FU]) .ofBool R
 .cases hx;exact .ret (by simp[binOp,Op.floatCmp,Xa]) .ofBool R
 .cases hx;exact .ret (by simp[binOp,Op.floatCmp,Xa,FU]) .ofBool R
 .simp[Act.exec] at hx
theorem Ts (R:Rel P W0 ι h w)(op:BinOp)(t:TypeId)(a b:ByteArray)(v:Value)
  (hx:(JT op a b).exec h=some (v,h1)):fC P W0 ι w (binOp op t (.string a) (.string b)) v h1:=by
 unfold JT at hx;split at hx
 .simp only[Act.exec] at hx;split at hx
  .rename_i u h2 hc;unfold kF at hc;split at hc
   .cases hc;cases hx;rename_i hsz;unfold cK at hsz;refine .ret ?_ .ofStr R;simp only[binOp,Op.stringOp,IntKind.max_i64];rw[if_neg (by omega)];rfl
   .cases hc
  .cases hx
 .cases hx;exact .ret (by simp[binOp,Op.stringOp,mI]) .ofBool R
 .cases hx;exact .ret (by simp[binOp,Op.stringOp,mI]) .ofBool R
 .cases hx;exact .ret (by simp[binOp,Op.stringOp,Xj]) .ofBool R
 .cases hx;exact .ret (by simp[binOp,Op.stringOp,mI,Xj]) .ofBool R
 .cases hx;exact .ret (by simp[binOp,Op.stringOp,mI,Xj]) .ofBool R
 .cases hx;exact .ret (by simp[binOp,Op.stringOp,Xj]) .ofBool R
 .simp[Act.exec] at hx
theorem iT (R:Rel P W0 ι h w){op:BinOp}{t:TypeId}{u1 u2 v:Value}{b:Bool}(h1':∀w,(Op.equal t u1 u2).run P w=.ok b w)
  (he:binOp .eql t u1 u2=(do pure (.bool (<-Op.equal t u1 u2)))) (hn:binOp .neq t u1 u2=(do pure (.bool (!(<-Op.equal t u1 u2)))))
  (hx:(wP op b).exec h=some (v,h1)):fC P W0 ι w (binOp op t u1 u2) v h1:=by
 unfold wP at hx;split at hx
 .cases hx;rw[he];exact .ret (by simp[h1']) .ofBool R
 .cases hx;rw[hn];exact .ret (by simp[h1']) .ofBool R
 .simp[Act.exec] at hx
theorem Xt (d:Nat){t:TypeId}{ms:Array (String×TypeId)}(hd:P.underlying t=some (.interface ms))(w:World):(Op.equalIn (d+1) t .nilIface .nilIface).run P w=.ok true w:=by
 simp[Op.equalIn,aL hd]
theorem Xu (d:Nat){t:TypeId}{ms:Array (String×TypeId)}(hd:P.underlying t=some (.interface ms))(e:TypeId)(v:Value)(w:World):(Op.equalIn (d+1) t (.iface e v) .nilIface).run P w=.ok false w:=by
 simp[Op.equalIn,aL hd]
theorem QF (d:Nat){t:TypeId}(hd:P.underlying t=some .bool)(a b:Bool)(w:World):(Op.equalIn (d+1) t (.bool a) (.bool b)).run P w=.ok (a==b) w:=by
 simp[Op.equalIn,aL hd]
theorem Xv (d:Nat){t e:TypeId}(hd:P.underlying t=some (.slice e))(a:Option Addr)(n c n' c':Nat)(w:World):(Op.equalIn (d+1) t (.slice a n c) (.slice none n' c')).run P w=.ok a.isNone w:=by
 cases a<;>simp[Op.equalIn,aL hd]
theorem Tt (d:Nat){t e:TypeId}(hd:P.underlying t=some (.pointer e))(a:Option Addr)(w:World):(Op.equalIn (d+1) t (.pointer a) (.pointer none)).run P w=.ok a.isNone w:=by
 cases a<;>simp[Op.equalIn,aL hd]
theorem Tu (d:Nat){t k e:TypeId}(hd:P.underlying t=some (.map k e))(a:Option Nat)(w:World):(Op.equalIn (d+1) t (.map a) (.map none)).run P w=.ok a.isNone w:=by
 cases a<;>simp[Op.equalIn,aL hd]
theorem Tv {t:TypeId}{ms:Array (String×TypeId)}(hd:P.underlying t=some (.interface ms))(w:World):(Op.equal t .nilIface .nilIface).run P w=.ok true w:=Xt 9999 hd w
theorem Tw {t:TypeId}{ms:Array (String×TypeId)}(hd:P.underlying t=some (.interface ms))(d:TypeId)(v:Value)(w:World):(Op.equal t (.iface d v) .nilIface).run P w=.ok false w:=Xu 9999 hd d v w
theorem Tx {t:TypeId}(hd:P.underlying t=some .bool)(a b:Bool)(w:World):(Op.equal t (.bool a) (.bool b)).run P w=.ok (a==b) w:=QF 9999 hd a b w
theorem aa6 {t e:TypeId}(hd:P.underlying t=some (.slice e))(a:Option Addr)(n c n' c':Nat)(w:World):(Op.equal t (.slice a n c) (.slice none n' c')).run P w=.ok a.isNone w:=Xv 9999 hd a n c n' c' w
theorem Xw {t e:TypeId}(hd:P.underlying t=some (.pointer e))(a:Option Addr)(w:World):(Op.equal t (.pointer a) (.pointer none)).run P w=.ok a.isNone w:=Tt 9999 hd a w
theorem OQ {t k e:TypeId}(hd:P.underlying t=some (.map k e))(a:Option Nat)(w:World):(Op.equal t (.map a) (.map none)).run P w=.ok a.isNone w:=Tu 9999 hd a w
theorem Tz {t e:TypeId}{i:TypeInfo}(hd:P.underlying t=some (.pointer e))(hi:P.info? e=some i)(a:Addr)(w:World):(Op.equal t (.pointer (some a)) (.pointer (some a))).run P w=.ok true w:=by
 have h:∀d:Nat,(Op.equalIn (d+1) t (.pointer (some a)) (.pointer (some a))).run P w=.ok true w:=λd=>by
  simp[Op.equalIn,run_underlying hd,sizeOf,typeInfo,hi,run_sameAddr_same]
 exact h 9999
theorem Hn {e:TypeId}{n:Nat}(hs:bS P e=some n):∃i,P.info? e=some i/\i.size=n:=by
 unfold bS at hs;split at hs
 .rename_i i hi;cases hs;exact⟨i,hi,rfl⟩
 .cases hs
theorem oA.same {a b a' b':Addr}(ha:oA ι a a')(hb:oA ι b b')(he:(Nat.beq a.block b.block&&Nat.beq a.off b.off)=true):a'=b':=by
 obtain⟨_,h2,l,h3,h4,h5⟩:=ha;obtain⟨_,k2,m,k3,k4,k5⟩:=hb;rw[IT] at he;rw[BY he.1,k3] at h3;cases h3;have:=BY he.2;cases a';cases b'
 simp_all
theorem FY (R:Rel P W0 ι h w){op:BinOp}{t:TypeId}{x:Operand}{c:Value}{u1 u1' v:Value}(r1:aS P ι u1 u1')(hx:(Dk P op t u1).exec h=some (v,h1)) :
  fC P W0 ι w (do eqGuard op t x (.const c) u1' .nilIface;binOp op t u1' .nilIface) v h1:=by
 unfold Dk at hx;split at hx
 .rename_i hd;simp only[Act.exec] at hx;split at hx
  .rename_i b h2 hc;cases hx;unfold kc at hc;split at hc
   .cases hc;obtain rfl:=r1.nilIface;rw[eqGuard_nil_constR];exact iT (op:=.eql) (b:=true) R (Tv hd) rfl rfl rfl
   .cases hc;cases r1 with
    |flat _ hf=>simp[cX] at hf
    |iface t' v1 v1' hv=>rw[eqGuard_at_iface];exact iT (op:=.eql) (b:=false) R (Tw hd _ _) rfl rfl rfl
   .cases hc
  .cases hx
 .rename_i hd;simp only[Act.exec] at hx;split at hx
  .rename_i b h2 hc;cases hx;unfold kc at hc;split at hc
   .cases hc;obtain rfl:=r1.nilIface;rw[eqGuard_nil_constR];exact iT (op:=.neq) (b:=true) R (Tv hd) rfl rfl rfl
   .cases hc;cases r1 with
    |flat _ hf=>simp[cX] at hf
    |iface t' v1 v1' hv=>rw[eqGuard_at_iface];exact iT (op:=.neq) (b:=false) R (Tw hd _ _) rfl rfl rfl
   .cases hc
  .cases hx
 .simp[Act.exec] at hx
theorem aS.Ho {v v':Value}(hr:aS P ι v v')(hf:cX v=true):v'=v:=by
 cases hr with
 |flat=>rfl
 |agg cs cs' hs hv=>exact absurd hf (by simp[cX])
 |_=>simp[cX] at hf
theorem J9 {t:TypeId}{x y:Value}{b:Bool}(h:eq1 P t x y=some b):cX x=true/\cX y=true/\∃d,P.underlying t=some d/\xj d=false:=by
 unfold eq1 at h;split at h
 .split at h
  .rename_i hd;exact⟨rfl,rfl,_,hd,rfl⟩
  .cases h
 .split at h
  .rename_i hd;exact⟨rfl,rfl,_,hd,rfl⟩
  .cases h
 .split at h
  .rename_i hd;exact⟨rfl,rfl,_,hd,rfl⟩
  .cases h
 .cases h
theorem Xx {t:TypeId}{x y:Value}{b:Bool}(h:eq1 P t x y=some b)(d:Nat)(w:World):(Op.equalIn (d+1) t x y).run P w=.ok b w:=by
 unfold eq1 at h;split at h
 .split at h
  .rename_i hd;split at h
   .rename_i hk;cases h;obtain rfl:=Hm hk;rw[run_equalIn_int w d t _ _ _ _ hd];rfl
   .cases h
  .cases h
 .split at h
  .rename_i hd;cases h;exact run_equalIn_bool w d t _ _ hd
  .cases h
 .split at h
  .rename_i hd;cases h;rw[run_equalIn_string w d t _ _ hd];rfl
  .cases h
 .cases h
theorem Em {t:TypeId}{d:TypeDesc}(hd:P.underlying t=some d)(hs:xj d=false){cs:Array Value}{o:Nat}{v:Value}(h:cs[o]?=some v)(w:World):(part t cs o).run P w=.ok v w:=by
 simp[part,qN hd,hs,h]
theorem Kb {xs ys:Array Value}:∀(fs:List Field) (o:Nat) (b:Bool) (d:Nat) (w:World),JU P fs o (xs.toList.drop o) (ys.toList.drop o)=some b->(Op.eqFields (d+1) xs ys fs).run P w=.ok b w
 |[],o,b,d,w,h=>by
  unfold JU at h;split at h
  .cases h;simp[Op.eqFields]
  .cases h
 |f::fs,o,b,d,w,h=>by
  unfold JU at h;split at h
  .rename_i x xs' y ys' hx hy;split at h
   .rename_i hn ho;split at h
    .rename_i a ha;split at h
     .rename_i b' hb;cases h;have ho:=BY ho;have hn : f.name ≠ "_" := by intro e; rw[e] at hn; exact absurd hn (by decide)
      obtain⟨_,_,dd,hd,hg⟩:=J9 ha;have hx0:xs[o]?=some x:=by
       rw[<-acQ,<-afs o,<-ady,hx];rfl
      have hy0:ys[o]?=some y:=by
       rw[<-acQ,<-afs o,<-ady,hy];rfl
      have hxt:xs.toList.drop (o+1)=xs':=(by rw[<-afK,hx];rfl);have hyt:ys.toList.drop (o+1)=ys':=(by rw[<-afK,hy];rfl);have ih:=Kb (xs:=xs) (ys:=ys) fs (o+1) b' d w (by rw[hxt,hyt];exact hb);unfold Op.eqFields;rw[if_pos hn,ho];simp only[Sem.run_bind,Em hd hg hx0,Em hd hg hy0,Result.andThen_ok,Xx ha d w];cases a
      .simp
      .simp[ih]
     .cases h
    .cases h
   .cases h
  .cases h
theorem GJ:∀(fs:List Field) (o:Nat) (xs ys:List Value) (b:Bool),JU P fs o xs ys=some b->(∀v∈xs,cX v=true)/\(∀v∈ys,cX v=true)
 |[],o,xs,ys,b,h=>by
  unfold JU at h;split at h
  .exact⟨(λv hv=>absurd hv (by simp)),(λv hv=>absurd hv (by simp))⟩
  .cases h
 |f::fs,o,xs,ys,b,h=>by
  unfold JU at h;split at h
  .split at h
   .split at h
    .rename_i a ha;split at h
     .rename_i b' hb;obtain⟨h1,h2,_⟩:=J9 ha;obtain⟨h3,h4⟩:=GJ fs _ _ _ _ hb;refine⟨λv hv=>?_,λv hv=>?_⟩
      .rcases List.mem_cons.1 hv with rfl|hv
       .exact h1
       .exact h3 v hv
      .rcases List.mem_cons.1 hv with rfl|hv
       .exact h2
       .exact h4 v hv
     .cases h
    .cases h
   .cases h
  .cases h
theorem aS.OR {cs:Array Value}{v':Value}(hr:aS P ι (.agg cs) v')(hf:∀v∈cs.toList,cX v=true):v'=.agg cs:=by
 cases hr with
 |flat=>rfl
 |agg _ cs' hs hv=>
  congr 1
  apply agq;intro i;cases h1:cs[i]? with
  |none=>
   rw[Array.getElem?_eq_none_iff] at h1⊢;omega
  |some v=>
   have hi:i<cs'.size:=by rw[<-hs];exact (Array.getElem?_eq_some_iff.1 h1).1
   have h2:cs'[i]?=some cs'[i]:=adH hi;rw[h2];have:=(hv i v _ h1 h2).Ho (hf v (by rw[agE];exact afG h1));rw[this]
theorem Kc {a b:Option Addr}{r:Bool}(hx:Xb a b h=some (r,h1)):h1=h/\r=true/\∃x y,a=some x/\b=some y/\(Nat.beq x.block y.block&&Nat.beq x.off y.off)=true:=by
 unfold Xb at hx;cases a with
 |none=>cases hx
 |some x=>
  cases b with
  |none=>cases hx
  |some y=>
   simp only at hx;cases he:(Nat.beq x.block y.block&&Nat.beq x.off y.off) with
   |true=>rw[he] at hx;cases hx;exact⟨rfl,rfl,x,y,rfl,rfl,he⟩
   |false=>rw[he] at hx;cases hx
theorem Kd (R:Rel P W0 ι h w){op:BinOp}{t e:TypeId}{x y:Operand}{a b:Option Addr}{u1' u2' v:Value}(r1:aS P ι (.pointer a) u1')(r2:aS P ι (.pointer b) u2')(hd:P.underlying t=some (.pointer e)){n:Nat}(hs:bS P e=some n)
  (hx:(Act.ask Bool (Xb a b) λr=>wP op r).exec h=some (v,h1)):fC P W0 ι w (do eqGuard op t x y u1' u2';binOp op t u1' u2') v h1:=by
 simp only[Act.exec] at hx;split at hx
 .rename_i r h2 hr;obtain⟨rfl,rfl,a,b,rfl,rfl,he⟩:=Kc hr;obtain⟨a',rfl,ha⟩:=r1.FX;obtain⟨b',rfl,hb⟩:=r2.FX;rw[eqGuard_at_pointer];obtain⟨i,hi,_⟩:=Hn hs;rw[oA.same ha hb he];exact iT R (Tz hd hi _) rfl rfl hx
 .cases hx
theorem Mr (R:Rel P W0 ι h w){op:BinOp}{t:TypeId}{x y:Operand}{u1 u2 u1' u2' v:Value}(r1:aS P ι u1 u1')(r2:aS P ι u2 u2')
  (hy:u2=.nilIface->∃c,y=.const c) (hx:(Th P op t u1 u2).exec h=some (v,h1)):fC P W0 ι w (do eqGuard op t x y u1' u2';binOp op t u1' u2') v h1:=by
 unfold Th at hx;split at hx
 .obtain⟨c,rfl⟩:=hy rfl;obtain rfl:=r2.nilIface;exact FY R r1 hx
 .unfold Tg at hx;split at hx
  .obtain rfl:=r1.int;obtain rfl:=r2.int;rw[eqGuard_at_int];exact Tq R op t _ _ _ _ v hx
  .obtain rfl:=r1.str;obtain rfl:=r2.str;rw[eqGuard_at_string];exact Ts R op t _ _ v hx
  .obtain rfl:=r1.float;obtain rfl:=r2.float;rw[eqGuard_at_float];exact Tr R op t _ _ v hx
  .obtain rfl:=r1.bool;obtain rfl:=r2.bool;rw[eqGuard_at_bool];split at hx
   .rename_i hd;exact iT R (Tx hd _ _) rfl rfl hx
   .simp[Act.exec] at hx
  .obtain⟨a',c',rfl,hn⟩:=r1.slO;obtain⟨a2',c2',rfl,hn2⟩:=r2.slO;have:a2'=none:=by cases a2'<;>simp_all
   subst this;rw[eqGuard_at_slice];split at hx
   .rename_i hd;rw[<-hn] at hx;exact iT R (aa6 hd _ _ _ _ _) rfl rfl hx
   .simp[Act.exec] at hx
  .obtain⟨p',rfl,hn,_⟩:=r1.Xs;obtain⟨p2',rfl,hn2,_⟩:=r2.Xs;have:p2'=none:=by cases p2'<;>simp_all
   subst this;rw[eqGuard_at_pointer];split at hx
   .rename_i hd;rw[<-hn] at hx;exact iT R (Xw hd _) rfl rfl hx
   .simp[Act.exec] at hx
  .rename_i r _;cases r1 with
   |flat _ hf=>
    cases r with
    |some r=>simp[cX] at hf
    |none=>
     cases r2;rw[eqGuard_at_map];split at hx
     .rename_i hd;exact iT R (OQ hd _) rfl rfl hx
     .simp[Act.exec] at hx
   |map m r hr=>
    cases r2;rw[eqGuard_at_map];split at hx
    .rename_i hd;exact iT R (OQ hd (some r)) rfl rfl hx
    .simp[Act.exec] at hx
  .split at hx
   .rename_i fs hd hp hm;split at hx
    .rename_i b hb;obtain⟨f1,f2⟩:=GJ _ _ _ _ _ hb;obtain rfl:=r1.OR f1;obtain rfl:=r2.OR f2;have hfo:P.fieldsOf t=fs:=(by unfold Program.fieldsOf;rw[hd]);have he:∀w,(Op.equalIn 10000 t (.agg _) (.agg _)).run P w=.ok b w:=λw=>by
      rw[run_equalIn_struct w 9999 t _ _ (by rw[hfo];exact hd) hp,hfo];exact Kb fs.toList 0 b 9998 w hb
     unfold wP at hx;split at hx
     .cases hx;exact .ret (by rw[Sem.run_bind,run_eqGuard_agg w _ _ _ _ _ _ hm,Result.andThen_ok,run_eql_struct,he];rfl) .ofBool R
     .cases hx;exact .ret (by rw[Sem.run_bind,run_eqGuard_agg w _ _ _ _ _ _ hm,Result.andThen_ok,run_neq_struct,he];rfl) .ofBool R
     .simp[Act.exec] at hx
    .simp[Act.exec] at hx
   .simp[Act.exec] at hx
  .simp[Act.exec] at hx
theorem QG (R:Rel P W0 ι h w){op:UnOp}{x x' v:Value}(hr:aS P ι x x')(hx:(aun op x).exec h=some (v,h1)):fC P W0 ι w (Op.unary op x') v h1:=by
 unfold aun at hx;split at hx
 .cases hx;obtain rfl:=hr.int;exact .ret (by simp[Op.unary,Op.intArith]) .ofInt R
 .cases hx;obtain rfl:=hr.bool;exact .ret (by simp[Op.unary]) .ofBool R
 .cases hx;obtain rfl:=hr.float;exact .ret (by simp[Op.unary,aaZ]) .yo R
 .simp[Act.exec] at hx
theorem mW (s:ByteArray):(bR s).all cX=true:=by
 rw[adx];intro v hv;simp[bR] at hv;obtain⟨b,_,rfl⟩:=hv;rfl
theorem Ke (w:World)(cs:Array Value)(e:TypeId) :
  World.freeze { w with heap:=w.heap.push (.cells cs e (0,0)) } { block:=w.heap.size,off:=cs.size } 1={ w with heap:=w.heap.push (.cells cs e (cs.size,cs.size+1)) }:=by
 unfold World.freeze;rw[if_neg (by decide)]
 congr 1
 apply agq;intro i;rw[afU];by_cases hi:w.heap.size=i
 .subst hi;simp
 .simp[hi,afj];split<;>simp_all
theorem En (R:Rel P W0 ι h w){e:TypeId}(he:bS P e=some 1){s:ByteArray}{r:Sl}(hx:D9 e s h=some (r,h1)) :
  fC P W0 ι w (Conv.stringToBytes e s) (.slice r.a r.len r.cap) h1:=by
 unfold D9 at hx;split at hx
 .cases hx;rename_i hsz;have hge:s.size<=(Question.appendCap s.size 0 e).cut (w.tape w.drawn (.appendCap s.size 0 e)):=by simp[Question.cut]
  generalize hcap:(Question.appendCap s.size 0 e).cut (w.tape w.drawn (.appendCap s.size 0 e))=cap at hge;have R1:Rel P W0 ι h { w with drawn:=w.drawn+1 }:=R.of_heap rfl ⟨rfl,rfl⟩;have hlen:(bR s).length=s.size:=by simp[bR]
  obtain⟨ι',hle,hnew,R'⟩:=R1.new e (bR s) (bR s) (List.replicate (cap-s.size) (Value.int .u8 0)) (cap,cap+1)
   (by intro o ho;rw[hlen] at ho;simp at ho⊢;omega) (bA.flat (mW s)) (λv hv=>uP (List.all_eq_true.1 (mW s) v hv))
  refine⟨.slice (some ⟨w.heap.size,0,none⟩) s.size cap,_,ι',?_,?_,R',hle⟩
  .have hsz2:((bR s++List.replicate (cap-s.size) (Value.int .u8 0)).toArray).size=cap:=by simp[hlen];omega
   have hfr:=Ke { w with drawn:=w.drawn+1 } (bR s++List.replicate (cap-s.size) (Value.int .u8 0)).toArray e;rw[hsz2] at hfr;have hel:(s.data.map λb=>Value.int .u8 b.toNat)++Array.replicate (cap-s.size) (Value.int .u8 0)=(bR s++List.replicate (cap-s.size) (Value.int .u8 0)).toArray:=by
    apply adI;simp[bR]
   simp only[Conv.stringToBytes,Sem.run_bind,run_choose,Question.forced,aa1,if_false,Result.andThen_ok,hcap,hel,newRow,run_newObj,Sem.run_pure,markStringish,run_shape];simp[World.shape?,hsz2,hfr]
  .exact .slice _ _ _ _ _ _ rfl rfl hnew rfl rfl hge (.inl rfl) (λ_ _=>by simp[Ej he,hlen];omega)
 .cases hx
theorem rF (R:Rel P W0 ι h w){a a':Addr}(ha:oA ι a a'){n:Nat}{cs:List Value}(hc:aX h (some a) n=some cs) :
  ∃cs',bA P ι cs cs'/\cs.length=n/\(∀v∈cs,eQ v=true)/\(loadCells a' n).run P w=.ok cs'.toArray w/\(∀i v',cs'[i]?=some v'->w.cell? (a'.add i)=some v'):=by
 unfold aX at hc;split at hc
 .rename_i heq;cases heq
 .rename_i b heq;cases heq;split at hc
  .rename_i c g base e hb;split at hc
   .rename_i hfit;cases hc;obtain⟨l,e1,e2,e3,e4,e5⟩:=R.live _ c g base e hb;obtain⟨h1,h2,l',hl1,hl2,hl3⟩:=ha;rw[e1] at hl1;cases hl1;have hlen:((c.drop a.off).take n).length=n:=(by simp;omega);have key:∀i,i<n->∃v',w.cell? (a'.add i)=some v'/\∀v,c[a.off+i]?=some v->eQ v=true/\aS P ι v v':=by
     intro i hi;have hlt:a.off+i<c.length:=(by omega);obtain⟨v',hv',x⟩:=e5 (a.off+i) c[a.off+i] (by simp[hlt]);refine⟨v',?_,λv hv=>by rw[aaJ hlt] at hv;cases hv;exact x⟩;rw[add_eq h2,hl2,hl3,<-hv',age]
    have hch:∃f:Nat->Value,∀i,i<n->w.cell? (a'.add i)=some (f i)/\∀v,c[a.off+i]?=some v->eQ v=true/\aS P ι v (f i):=by
     refine⟨λi=>(w.cell? (a'.add i)).getD undef,λi hi=>?_⟩;obtain⟨v',hv',x⟩:=key i hi;simp only[hv',agA];exact⟨trivial,x⟩
    obtain⟨f,hf⟩:=hch;refine⟨(List.range n).map f,⟨by simp;omega,λi v v' hv hv'=>?_⟩,hlen,λv hv=>?_,run_loadCells w a' n f (λj hj=>(hf j hj).1),λi v' hv'=>?_⟩
    .rw[aeA] at hv;split at hv
     .rename_i hi;rw[ady] at hv;simp[hi] at hv';subst hv';exact ((hf i hi).2 v hv).2
     .cases hv
    .obtain⟨i,hi⟩:=List.mem_iff_getElem?.1 hv;rw[aeA] at hi;split at hi
     .rename_i hin;rw[ady] at hi;exact ((hf i hin).2 v hi).1
     .cases hi
    .by_cases hin:i<n
     .simp[hin] at hv';subst hv';exact (hf i hin).1
     .simp[hin] at hv'
   .cases hc
  .cases hc
theorem TA {s:Sl}{sz:Nat}{cs:List Value}(hx:Mg s sz h=some (cs,h1)):h1=h/\aX h s.a (s.len*sz)=some cs:=by
 unfold Mg at hx;split at hx
 .rename_i c hc;cases hx;exact⟨rfl,hc⟩
 .cases hx
structure Src (P:Program) (ι:fM) (h:af) (w:World) (size n:Nat) (x':Value) (new new':List Value):Prop where
 len:∀w',(Builtin.lenOf x').run P w'=.ok n w'
 cells:∀w',w'.heap=w.heap->(Builtin.firstCells size n x').run P w'=.ok new'.toArray w'
 rel:bA P ι new new'
 sc:∀v∈new,eQ v=true
theorem QH (he:w'.heap=w.heap)(a:Addr):w'.cell? a=w.cell? a:=by simp[World.cell?,he]
theorem tH {a':Addr}{n:Nat}{cs':List Value}(hl:cs'.length=n)(hc:∀(i:Nat) v',cs'[i]?=some v'->w.cell? (a'.add i)=some v')(he:w'.heap=w.heap) :
  (loadCells a' n).run P w'=.ok cs'.toArray w':=by
 have:=run_loadCells_list (P:=P) w' a' cs' (λj v hj=>by rw[QH he];exact hc j v hj)
 rwa [hl] at this
theorem Src.afZ (R:Rel P W0 ι h w){a:Option Addr}{n c:Nat}{x':Value}(hr:aS P ι (.slice a n c) x'){size:Nat}{cs:List Value}
  (hc:aX h a (n*size)=some cs):∃cs',Src P ι h w size n x' cs cs':=by
 cases hr with
 |flat _ hf=>
  cases a with
  |some a=>simp[cX] at hf
  |none=>
   simp[aX] at hc;obtain⟨h0,rfl⟩:=hc;exact⟨[],λw'=>by simp[Builtin.lenOf],λw' _=>by simp[Builtin.firstCells],.nil,by simp⟩
 |slice a a' n c c' l e1 e2 e3 e4 e5 e6 e7 e8=>
  obtain⟨cs',q1,q2,q3,q4,q5⟩:=rF R ⟨e1,e2,l,e3,e4,e5⟩ hc;exact⟨cs',λw'=>by simp[Builtin.lenOf],λw' he=>by simpa[Builtin.firstCells] using tH (by rw[<-q1.1,q2]) q5 he,q1,q3⟩
 |jg a a' c hce=>
  have:cs=[]:=by
   simp[aX] at hc;split at hc
   .simp at hc;exact hc.2
   .cases hc
  subst this;exact⟨[],λw'=>by simp[Builtin.lenOf],λw' _=>by simp[Builtin.firstCells,loadCells,loadCellsFrom],.nil,by simp⟩
theorem Src.ofStr (s:ByteArray):Src P ι h w 1 s.size (.string s) (bR s) (bR s):=
 ⟨λw'=>by simp[Builtin.lenOf],λw' _=>by
  simp only[Builtin.firstCells,Sem.run_pure]
  congr 1
  have:s.extract 0 s.size=s:=by
   rw[ByteArray.extract_zero_size]
  rw[this];apply adI;simp[bR],bA.flat (mW s),λv hv=>uP (List.all_eq_true.1 (mW s) v hv)⟩
theorem rS {t xT e ty:TypeId}{i:TypeInfo}(ht:P.underlying t=some (.slice e))(hxt:(∃e',P.underlying xT=some (.slice e'))\/P.underlying xT=some .string)(hi:P.info? e=some i)
  {n:Nat} {x':Value} {new new':List Value} (S:Src P ι h w i.size n x' new new') (base:Option Addr) (sLen sCap:Nat) (hroom:sLen+n<=sCap) {w1:World}
  (hst:(match base with|some a=>storeCells (a.add (sLen*i.size)) new' | none=>Pure.pure ()).run P w=.ok () w1) :
  (Builtin.append_ #[t,xT] ty #[.slice base sLen sCap,x']).run P w=.ok (.slice base (sLen+n) sCap) w1:=by
 have hc:=S.cells w rfl;cases base with
 |none=>
  simp at hst;subst hst;rcases hxt with⟨e',hd⟩|hd<;>simp[Builtin.append_,aL ht,aL hd,sizeOf,typeInfo,hi,S.len,hroom,hc]
 |some a=>
  simp only at hst;rcases hxt with⟨e',hd⟩|hd<;>simp[Builtin.append_,aL ht,aL hd,sizeOf,typeInfo,hi,S.len,hroom,hc,hst]
theorem za (z:Array Value)(n:Nat):(Builtin.zeroCells z n).size=n*z.size:=by simp[Builtin.zeroCells]
theorem Cp {t xT e ty:TypeId}{i:TypeInfo}{z:Value}(ht:P.underlying t=some (.slice e))(hxt:(∃e',P.underlying xT=some (.slice e'))\/P.underlying xT=some .string)(hi:P.info? e=some i)(hz:i.zero=some z)
  (hb:i.bytes<=4096) {n:Nat} {x':Value} {new new':List Value} (S:Src P ι h w i.size n x' new new') (base:Option Addr) (sLen sCap:Nat) (hroom:sCap<sLen+n) (hbig:sLen+n<=cK)
  {old':List Value} (hold:∀w',w'.heap=w.heap->(Builtin.firstCells i.size sLen (.slice base sLen sCap)).run P w'=.ok old'.toArray w') :
  ∃cap,sLen+n<=cap/\(Builtin.append_ #[t,xT] ty #[.slice base sLen sCap,x']).run P w =
   .ok (.slice (some ⟨w.heap.size,0,none⟩) (sLen+n) cap) { w with drawn:=w.drawn+1,heap:=w.heap.push (.cells ((old'++new')++(Builtin.zeroCells z.cells (cap-(sLen+n))).toList).toArray e) }:=by
 have hge:sLen+n<=(Question.appendCap (sLen+n) sCap e).cut (w.tape w.drawn (.appendCap (sLen+n) sCap e)):=by simp[Question.cut]
 refine⟨_,hge,?_⟩;have hn:¬(sLen+n<=sCap):=by omega
 unfold cK at hbig;have h63':¬(9223372036854775807<((sLen:Int)+(n:Int))):=by omega
 have h48':¬(281474976710656<Builtin.nextslicecap (sLen+n) sCap*i.bytes):=by
  have:=nextslicecap_le hroom;have h2:Builtin.nextslicecap (sLen+n) sCap*i.bytes<=(2*(sLen+n))*4096:=afV this hb;omega
 have hf:=S.cells { w with drawn:=w.drawn+1 } rfl;have hfo:=hold { w with drawn:=w.drawn+1 } rfl;simp at hf hfo;rcases hxt with⟨e',hd⟩|hd <;>
  simp[Builtin.append_,aL ht,aL hd,sizeOf,typeInfo,zeroValue,hi,hz,S.len,hn,h63',h48',Question.forced,newRow,hf,hfo]
 all_goals
  unfold World.alloc World.drew;simp only
  congr 3
  apply adI;simp[abp]
theorem aa7 {a:Addr}{c vs:List Value}{g base:Nat}{e:TypeId}(hb:h.get a.block=some (.cells c g base e))(hg:g≠0)(hfit:a.off+vs.length<=c.length)(hsc:vs.all eQ=true) :
  bG a vs h=some ((),h.rC a.block (aY c a.off vs) g base e):=by
 unfold bG;rw[hb];exact if_pos ⟨hg,hfit,hsc⟩
theorem Kf (R:Rel P W0 ι h w){a a':Addr}{l:Loc}(e1:a.spot=none)(e2:a'.spot=none)(e3:ι a.block=some l)(e4:a'.block=l.ar)(e5:a'.off=l.off+a.off)
  {c:List Value} {g base:Nat} (hblk:h.get a.block=some (.cells c g base l.elem)) (hg:g≠0) {k:Nat} {nr new new':List Value} (hold:aX h (some a) k=some nr)
  (hrel:bA P ι new new') (hsc:∀v∈new,eQ v=true) (hroom:a'.off+k+new.length<=l.size)
  (get':Nat->Option FO) (tip':Nat->Nat) (hsub:∀j ar,get' j=some ar->h.get j=some ar)
  (htip:∀b c g' base' e',get' b=some (.cells c g' base' e')->g'≠0->base'+c.length<=tip' g') (htipn:base+a.off+(nr++new).length<=tip' g)
  (hend:∀b c' base' e',get' b=some (.cells c' g base' e')->base'+c'.length<=base+a.off+k) :
  ∃w' ι',(storeCells (a'.add k) new').run P w=.ok () w'/\ι.le ι'/\ι' h.next=some ⟨l.ar,l.off+a.off,l.size,l.elem,false⟩ /\
   Rel P W0 ι' (h.ext h.next (h.next+1) get' (.cells (nr++new) g (base+a.off) l.elem) tip') w':=by
 obtain⟨l0,f1,f2,f3,f4,f5⟩:=R.live _ c g base l.elem hblk;rw[e3] at f1;cases f1;obtain⟨cc,fz,hh,q1,q2⟩:=R.loc _ l e3;have hro:l.ro=false:=by cases hr:l.ro with|false=>rfl|true=>exact absurd (f3.1.2 hr) hg
 have hone:∀v∈new',v.oneCell'=true:=by
  intro v' hv';obtain⟨i,hi⟩:=List.mem_iff_getElem?.1 hv';have hlt:i<new.length:=by have:=(List.getElem?_eq_some_iff.1 hi).1;have:=hrel.1;omega
  exact (hrel.2 i new[i] v' (by simp[hlt]) hi).OO (hsc _ (afl hlt))
 have hlen:=hrel.1;have hst:=pD P l.ar (a'.off+k) l.elem fz new' 0 cc w hh (by omega) ((q2 hro).2 ⟨_,l,c,g,base,l.elem,e3,rfl,hblk⟩) hone;have hadd:a'.add k=⟨l.ar,a'.off+k,none⟩:=by rw[add_eq e2,e4]
 have hsp:cc.toList.take (a'.off+k+0)++new'++cc.toList.drop (a'.off+k+0+new'.length)=aY cc.toList (l.off+a.off+k) new':=by
  simp[aY,e5]
 rw[<-hadd,hsp] at hst;have hfit:l.off+a.off+k+new'.length<=cc.toList.length:=by simp;omega
 have hstay:∀b c1 g1 base1 e1' l1,get' b=some (.cells c1 g1 base1 e1')->ι b=some l1->l1.ar=l.ar->g1=g/\l.off+base1=l1.off+base/\l1.off+c1.length<=l.off+a.off+k:=by
  intro b c1 g1 base1 e1' l1 hb hl1 hbl;obtain⟨p1,p2⟩:=R.dW a.block b l l1 c g base l.elem c1 g1 base1 e1' e3 hl1 hro hblk (hsub _ _ hb) hbl.symm;subst p1;have:=hend b c1 base1 e1' hb;exact⟨rfl,p2,by omega⟩
 have R1:Rel P W0 ι { h with get:=get' } (w.setRow l.ar (aY cc.toList (l.off+a.off+k) new').toArray):=by
  refine R.write get' l.ar l.size l.elem cc _ fz (q2 hro).1 hh (by simp[mz _ _ _ hfit]) (λb hb=>?_) (λb c1 g1 base1 e1' hb=>?_)
  .cases hq:get' b with
   |none=>rfl
   |some ar=>have:=(R.xh b hb).1;rw[hsub _ _ hq] at this;cases this
  .refine⟨g1,c1,hsub _ _ hb,rfl,rfl,λ_ _ _=>rfl,λl1 hl1 hbl i v hv=>?_⟩;obtain⟨_,_,p3⟩:=hstay b c1 g1 base1 e1' l1 hb hl1 hbl;obtain⟨l2,g1',g2',g3',g4',g5'⟩:=R.live b c1 g1 base1 e1' (hsub _ _ hb);rw[hl1] at g1';cases g1';obtain⟨v',x,y⟩:=g5' i v hv;have hi:=(List.getElem?_eq_some_iff.1 hv).1;refine⟨v',?_,y⟩;simp only[afF,qM _ _ _ _ hfit];rw[if_pos (by omega)];simp only[World.cell?,hbl,hh] at x;simpa using x
 have hget:=Eh l.ar (aY cc.toList (l.off+a.off+k) new').toArray cc l.elem fz hh;have hlold:nr.length=k/\(∀(i:Nat) v,nr[i]?=some v->i<k/\c[a.off+i]?=some v):=by
  simp only[aX,hblk] at hold;split at hold
  .cases hold;refine⟨by simp;omega,λi v hv=>?_⟩;rw[aeA] at hv;split at hv
   .rename_i hi;rw[ady] at hv;exact⟨hi,hv⟩
   .cases hv
  .cases hold
 have hcells:∀(i:Nat) v,(nr++new)[i]?=some v->∃v',World.cell? (w.setRow l.ar (aY cc.toList (l.off+a.off+k) new').toArray) ⟨l.ar,l.off+a.off+i,none⟩=some v'/\eQ v=true/\aS P ι v v':=by
  intro i v hv;have hok:=hlold.1;have hb0:(w.setRow l.ar (aY cc.toList (l.off+a.off+k) new').toArray).heap[l.ar]?=some (.cells (aY cc.toList (l.off+a.off+k) new').toArray l.elem fz):=by rw[hget,if_pos rfl]
  have hcl:World.cell? (w.setRow l.ar (aY cc.toList (l.off+a.off+k) new').toArray) ⟨l.ar,l.off+a.off+i,none⟩=(aY cc.toList (l.off+a.off+k) new')[l.off+a.off+i]?:=by
   simp[World.cell?,hb0]
  rw[hcl,qM _ _ _ _ hfit];rw[aeZ] at hv;split at hv
  .rename_i hi;obtain⟨p1,p2⟩:=hlold.2 i v hv;obtain⟨v',x,y⟩:=f5 _ v p2;refine⟨v',?_,y⟩;rw[if_pos (by omega)];simp only[World.cell?,hh] at x;simpa[age] using x
  .rename_i hi;obtain⟨v',x,y⟩:=hrel.get hv;have hi2:=(List.getElem?_eq_some_iff.1 x).1;refine⟨v',?_,hsc v (IN hv),y⟩;rw[if_neg (by omega),if_pos (by omega)];rw[<-x];congr 1;omega
 obtain⟨ι',hle,hnew,R2⟩:=R1.Xp ⟨l.ar,l.off+a.off,l.size,l.elem,false⟩ rfl (q2 hro).1 (cc:=(aY cc.toList (l.off+a.off+k) new').toArray) (fz:=fz)
  (by rw[hget,if_pos rfl]) (by simp[mz _ _ _ hfit,q1]) (λo ho=>(q2 hro).2 ⟨_,l,c,g,base,l.elem,e3,rfl,hblk⟩ o (by simpa[mz _ _ _ hfit] using ho)) g (base+a.off) (nr++new) tip'
  hcells (by simp[hlold.1];omega) (λb l1 c1 g1 base1 e1' hl1 hb hbl=>(by
   obtain⟨p1,p2,_⟩:=hstay b c1 g1 base1 e1' l1 hb hl1 hbl;exact⟨p1,by simp only;omega⟩)) hg (R.oi _ c g base l.elem hblk hg).2 htip htipn
 exact⟨_,ι',hst,hle,hnew,R2⟩
theorem Kg {strict:Bool}{s:Sl}{sz:Nat}{e:TypeId}{n:Nat}{new:List Value}{r:Sl×af}(hx:app strict s sz e n new h=some r):tB strict s sz e n new h=some r:=by
 unfold app at hx;split at hx
 .cases hx
 .exact hx
theorem Br (R:Rel P W0 ι h w){t xT e ty:TypeId}{i:TypeInfo}{z:Value}(ht:P.underlying t=some (.slice e))
  (hxt:(∃e',P.underlying xT=some (.slice e'))\/P.underlying xT=some .string) (hi:P.info? e=some i) (hz:zeroOf P e=some z) (hb:i.bytes<=4096)
  {s:Sl} {s' x':Value} (hr:aS P ι (.slice s.a s.len s.cap) s') {n:Nat} {new new':List Value} (S:Src P ι h w i.size n x' new new')
  {strict:Bool} {r:Sl} (hx:app strict s i.size e n new h=some (r,h1)) :
  fC P W0 ι w (Builtin.append_ #[t,xT] ty #[s',x']) (.slice r.a r.len r.cap) h1:=by
 obtain⟨hzf,hz1,hz2,i2,hi2,hz3,hz4⟩:=gE hz;rw[hi] at hi2;cases hi2;obtain⟨sa,sn,sc⟩:=s
 replace hx:=Kg hx
 simp only[tB] at hx;simp only at hr;have hsz:szT P e=i.size:=by rw[Ej hz2,hz4]
 split at hx
 ·-- nothing is appended
  rename_i hn0;subst hn0;cases sa with
  |none=>
   simp only at hx;split at hx
   .rename_i hc;cases hx;obtain⟨c1,c2,c3⟩:=hc;subst c1;subst c2;cases hr;exact .ret (rS ht hxt hi S none 0 0 (by omega) (by simp)) (.flat _ rfl) R
   .cases hx
  |some a=>
   simp only at hx;split at hx
   .rename_i hc;cases hx;subst hc;have hn':new'=[]:=abn S.rel.1.symm;subst hn';have hr0:=hr;cases hr with
    |flat _ hf=>simp[cX] at hf
    |slice _ a' _ _ c' l e1 e2 e3 e4 e5 e6 e7 e8=>
     exact .ret (rS ht hxt hi S (some a') _ c' (by omega) (by simp[storeCells])) hr0 R
    |jg _ a' _ hce=>
     exact .ret (rS ht hxt hi S (some a') _ 0 (by omega) (by simp[storeCells])) hr0 R
   .cases hx
 .rename_i hn0;split at hx
  .cases hx
  .rename_i hlim;have hlim:sn+n<=cK/\new.length=n*i.size:=afp λx=>hlim x;obtain⟨hbig,hnl⟩:=hlim;cases sa with
   |none=>
    simp only at hx;split at hx
    .rename_i hc;cases hx;obtain⟨c1,c2⟩:=hc;subst c1;subst c2;cases hr;obtain⟨cap,hcap,hrun⟩:=Cp (ty:=ty) ht hxt hi hz3 hb S none 0 0 (by omega) (by omega) (old':=[]) (λw' _=>by simp[Builtin.firstCells]);have R1:Rel P W0 ι h { w with drawn:=w.drawn+1 }:=R.of_heap rfl ⟨rfl,rfl⟩;obtain⟨ι',hle,hnew,R'⟩:=R1.new e new new' (Builtin.zeroCells z.cells (cap-(0+n))).toList (0,0) (by intro o _;simp) S.rel S.sc;rw[adr] at hcap hrun hnew R';refine⟨_,_,ι',hrun,?_,?_,hle⟩
     .refine .slice _ _ _ _ _ _ rfl rfl hnew rfl rfl hcap (.inl rfl) (λ_ _=>?_);simp only[hsz,<-S.rel.1,hnl,Array.length_toList,za,adr,<-hz4];rw[<-adv];exact adz _ (by omega)
     .simpa using R'
    .cases hx
   |some a=>
    simp only at hx;split at hx
    .rename_i nr c g base e1 hold hblk;have hgrow:∀(sCap:Nat) (a':Addr) (old':List Value) (get':Nat->Option FO) (tip':Nat->Nat) (g2 base2:Nat),
       (∀w',w'.heap=w.heap->(Builtin.firstCells i.size sn (.slice (some a') sn sCap)).run P w'=.ok old'.toArray w') ->
       bA P ι nr old'->(∀v∈nr,eQ v=true)->nr.length=sn*i.size->sCap<sn+n ->
       (∀j ar,get' j=some ar->h.get j=some ar)->g2≠0->(g2=h.next+1\/h.used (g2-1)=true) ->
       (∀b c g' base' e',get' b=some (.cells c g' base' e')->g'≠0->base'+c.length<=tip' g')->base2+(nr++new).length<=tip' g2 ->
       fC P W0 ι w (Builtin.append_ #[t,xT] ty #[.slice (some a') sn sCap,x']) (.slice (some ⟨h.next,0,none⟩) (sn+n) 0) (h.ext h.next (h.next+1) get' (.cells (nr++new) g2 base2 e) tip'):=by
      intro sCap a' old' get' tip' g2 base2 q1 q2 q3 q4 q5 q6 q7 q8 q9 q10;obtain⟨cap,hcap,hrun⟩:=Cp (ty:=ty) ht hxt hi hz3 hb S (some a') sn sCap q5 hbig q1;have R1:Rel P W0 ι h { w with drawn:=w.drawn+1 }:=R.of_heap rfl ⟨rfl,rfl⟩;obtain⟨ι',hle,hnew,R'⟩:=R1.Zz h.next (h.next+1) R.unused ⟨by omega,by omega⟩ get' tip' g2 base2 e (nr++new) (old'++new') (Builtin.zeroCells z.cells (cap-(sn+n))).toList (0,0) q6 q7 q8 q9 q10
       (by intro o _;simp) (q2.append S.rel) (λv hv=>(List.mem_append.1 hv).elim (q3 v) (S.sc v))
      refine⟨_,_,ι',hrun,?_,?_,hle⟩
      .refine .slice _ _ _ _ _ _ rfl rfl hnew rfl rfl hcap (.inl rfl) (λ_ _=>?_);have e3:(old'++new').length=(sn+n)*i.size:=(by rw[aaQ,<-q2.1,<-S.rel.1,q4,hnl,adv]);simp only[hsz,e3,Array.length_toList,za,adr,<-hz4];rw[<-adv];exact adz _ (by omega)
      .simpa using R'
     have hsrc:∀(a':Addr) (sCap:Nat),(oA ι a a'\/sn=0)->∃old',(∀w',w'.heap=w.heap->(Builtin.firstCells i.size sn (.slice (some a') sn sCap)).run P w'=.ok old'.toArray w') /\
       bA P ι nr old'/\(∀v∈nr,eQ v=true)/\nr.length=sn*i.size:=by
      intro a' sCap hor;rcases hor with ha|h0
      .obtain⟨cs',q1,q2,q3,q4,q5⟩:=rF R ha hold;exact⟨cs',λw' he=>by simpa[Builtin.firstCells] using tH (by rw[<-q1.1,q2]) q5 he,q1,q3,q2⟩
      .subst h0;have:nr=[]:=by
        simp only[aX,hblk] at hold;split at hold
        .simp at hold;exact hold
        .cases hold
       subst this;exact⟨[],λw' _=>by simp[Builtin.firstCells,loadCells,loadCellsFrom],.nil,by simp,by simp⟩
     have holdlen:nr.length=sn*i.size:=by
      simp only[aX,hblk] at hold;split at hold
      .cases hold;simp;omega
      .cases hold
     split at hx
     ·-- known room
      rename_i hroom;split at hx
      .rename_i hc;cases hx;obtain⟨hg,hfit,_⟩:=hc;cases hr with
       |flat _ hf=>simp[cX] at hf
       |jg _ a' _ hce=>omega
       |slice _ a' _ _ c' l f1 f2 f3 f4 f5 f6 f7 f8=>
        have hst:bG (a.plus (sn*i.size)) new h=some ((),h.rC a.block (aY c (a.off+sn*i.size) new) g base e1):=by
         exact aa7 (a:=a.plus (sn*i.size)) hblk hg (by simp only[Addr.plus];omega) (List.all_eq_true.2 S.sc)
        obtain⟨w',hs,R'⟩:=Bq R (oA.plus ⟨f1,f2,l,f3,f4,f5⟩ _) S.rel hst;refine⟨_,w',ι,rS ht hxt hi S (some a') sn c' (by omega) hs,?_,R',.refl _⟩;show aS P ι (.slice (some a) (sn+n) sc) _;exact .slice _ _ _ _ _ l f1 f2 f3 f4 f5 (by omega) f7 f8
      .cases hx
     .rename_i hroom;split at hx
      ·-- known to be full
       rename_i hcap;cases hx;have htip:∀g,(h.new e (nr++new)).oi g=if g=h.next+1 then (nr++new).length else h.oi g:=λg=>cQ _ _ _ _
       have fin:∀(a':Addr) (c':Nat),(oA ι a a'\/sn=0)->c'<sn+n->fC P W0 ι w (Builtin.append_ #[t,xT] ty #[.slice (some a') sn c',x']) (.slice (some ⟨h.next,0,none⟩) (sn+n) 0) (h.new e (nr++new)):=by
        intro a' c' ha hlt;obtain⟨old',p1,p2,p3,p4⟩:=hsrc a' c' ha;exact hgrow c' a' old' h.get (h.new e (nr++new)).oi (h.next+1) 0 p1 p2 p3 p4 hlt (λ_ _ x=>x) (by omega) (.inl rfl)
         (λb c g' base' e' hb hg'=>by
          obtain⟨h1,h2⟩:=R.oi b c g' base' e' hb hg';rw[htip,if_neg (λx=>by subst x;simp at h2;rw[R.unused] at h2;cases h2)];exact h1) (by rw[htip];simp)
       cases hr with
       |flat _ hf=>simp[cX] at hf
       |jg _ a' _ hce=>exact fin a' 0 (.inr rfl) (by omega)
       |slice _ a' _ _ c' l f1 f2 f3 f4 f5 f6 f7 f8=>exact fin a' c' (.inl ⟨f1,f2,l,f3,f4,f5⟩) (by omega)
      .rename_i hcap;have hcap:sc=0:=afp λx=>hcap x;subst hcap;split at hx
       .rename_i hc;obtain⟨hg,he1⟩:=hc;subst he1;have both:∀(get':Nat->Option FO) (tip':Nat->Nat),(∀j ar,get' j=some ar->h.get j=some ar) ->
          (∀b c g' base' e',get' b=some (.cells c g' base' e')->g'≠0->base'+c.length<=tip' g')->base+a.off+(nr++new).length<=tip' g ->
          (∀b c' base' e',get' b=some (.cells c' g base' e')->base'+c'.length<=base+a.off+sn*i.size) ->
          fC P W0 ι w (Builtin.append_ #[t,xT] ty #[s',x']) (.slice (some ⟨h.next,0,none⟩) (sn+n) 0) (h.ext h.next (h.next+1) get' (.cells (nr++new) g (base+a.off) e1) tip'):=by
         intro get' tip' q1 q2 q3 q4;have hgn:=(R.oi _ c g base e1 hblk hg).2;have grow:∀(a':Addr) (c':Nat),(oA ι a a'\/sn=0)->c'<sn+n->fC P W0 ι w (Builtin.append_ #[t,xT] ty #[.slice (some a') sn c',x']) (.slice (some ⟨h.next,0,none⟩) (sn+n) 0) (h.ext h.next (h.next+1) get' (.cells (nr++new) g (base+a.off) e1) tip'):=by
          intro a' c' ha hlt;obtain⟨old',p1,p2,p3,p4⟩:=hsrc a' c' ha;exact hgrow c' a' old' get' tip' g (base+a.off) p1 p2 p3 p4 hlt q1 hg (.inr hgn) q2 q3
         cases hr with
         |flat _ hf=>simp[cX] at hf
         |jg _ a' _ hce=>exact grow a' 0 (.inr rfl) (by omega)
         |slice _ a' _ _ c' l f1 f2 f3 f4 f5 f6 f7 f8=>
          by_cases hfit:sn+n<=c'
          .obtain⟨l0,g1,g2,g3,_,_⟩:=R.live _ c g base e1 hblk;rw[f3] at g1;cases g1;have hro:l.ro=false:=(by cases hr:l.ro with|false=>rfl|true=>exact absurd (g3.1.2 hr) hg);have hwf:=f8 hro (by omega);subst g2;have hroom2:a'.off+sn*i.size+new.length<=l.size:=by
            have:(sn+n)*i.size<=c'*i.size:=adz _ hfit;rw[adv] at this;rw[hsz] at hwf;omega
           obtain⟨w',ι',hs,hle,hnew,R'⟩:=Kf R f1 f2 f3 f4 f5 hblk hg hold S.rel S.sc hroom2 get' tip' q1 q2 q3 q4;refine⟨_,w',ι',rS ht hxt hi S (some a') sn c' hfit hs,?_,R',hle⟩;exact .slice _ _ _ _ _ _ rfl f2 hnew f4 (by simp only;omega) hfit (.inl rfl) (λ_ _=>hwf)
          .exact grow a' c' (.inl ⟨f1,f2,l,f3,f4,f5⟩) (by omega)
        split at hx
        .rename_i htip;cases hx;refine both h.get _ (λ_ _ x=>x) (λb c1 g' base' e' hb hg'=>?_) ?_ (λb c1 base' e' hb=>?_)
         .rw[cQ];have:=(R.oi b c1 g' base' e' hb hg').1;split
          .rename_i hgg;subst hgg;omega
          .exact this
         .rw[cQ,if_pos rfl];simp[holdlen];omega
         .have:=(R.oi b c1 g base' e' hb hg).1;omega
        .rename_i htip;split at hx
         .cases hx;have hk:∀j ar,(match h.get j with
            |some (.cells c' g' base' elem')=>cond (Nat.beq g' g&&Nat.blt (base+a.off+sn*i.size) (base'+c'.length)) none (some (.cells c' g' base' elem'))
            |o=>o)=some ar->h.get j=some ar/\(∀c' base' e',ar=.cells c' g base' e'->base'+c'.length<=base+a.off+sn*i.size):=by
           intro j ar hj;cases hq:h.get j with
           |none=>rw[hq] at hj;cases hj
           |some bl=>
            rw[hq] at hj;cases bl with
            |map es=>simp at hj;subst hj;exact⟨rfl,by intros;rename_i x;cases x⟩
            |iter s p=>simp at hj;subst hj;exact⟨rfl,by intros;rename_i x;cases x⟩
            |cells c' g' base' e'=>
             simp only at hj;cases hb2:(Nat.beq g' g&&Nat.blt (base+a.off+sn*i.size) (base'+c'.length)) with
             |true=>rw[hb2] at hj;cases hj
             |false=>
              rw[hb2] at hj;cases hj;refine⟨rfl,λc2 base2 e2 heq=>?_⟩;cases heq;refine afp λhlt=>?_;have hbl:Nat.blt (base+a.off+sn*i.size) (base'+c'.length)=true:=Nat.ble_eq_true_of_le (by omega);rw[aeP,hbl] at hb2;cases hb2
          refine both _ _ (λj ar hj=>(hk j ar hj).1) (λb c1 g' base' e' hb hg'=>?_) ?_ (λb c1 base' e' hb=>(hk b _ hb).2 _ _ _ rfl)
          .rw[cQ];obtain⟨p1,p2⟩:=hk b _ hb;have:=(R.oi b c1 g' base' e' p1 hg').1;split
           .rename_i hgg;subst hgg;have:=p2 _ _ _ rfl;omega
           .exact this
          .rw[cQ,if_pos rfl];simp[holdlen];omega
         .cases hx
       .cases hx
    .cases hx
end Go.Ago
