
import Derived.Test.YtpojbnjkkkiccaaGreatDoorAgoA
import Derived.Test.YtpojbnjkkkiccaaGreatDoorFact
import Derived.Laws.CopyRow
set_option linter.all false
namespace Go.Ago
open Go
structure Fz where
 get:Nat->Option Obj
 os:Os
 out:Array (Nat×ζ)
 QZ:List Deferred
 rd:Nat->Prop
instance:CoeFun Fz (λ_=>Nat->Option Obj):=⟨Fz.get⟩
structure Loc where
 ar:Nat
 off:Nat
 size:Nat
 elem:κ
 ro:Bool
structure gO where
 f:Nat->Option Loc
 mp:Nat->μ
instance:CoeFun gO (λ_=>Nat->Option Loc):=⟨gO.f⟩
def gO.emp:gO:=⟨λ_=>none,λ_=>none⟩
def gO.le (ι ι':gO):Prop:=(∀b l,ι b=some l->ι' b=some l)/\∀m r,ι.mp m=some r->ι'.mp m=some r
def gO.le.refl (ι:gO):ι.le ι:=⟨λ_ _ h=>h,λ_ _ h=>h⟩
theorem gO.le.trans {a b c:gO}(h:a.le b)(h':b.le c):a.le c:=⟨λx l e=>h'.1 x l (h.1 x l e),λx l e=>h'.2 x l (h.2 x l e)⟩
def szT (P:Program)(t:κ):Nat:=match P.info? t with
 |some i=>i.size
 |none=>0
def rO (ι:gO)(a a':Addr):Prop:=a.spot=none/\a'.spot=none/\∃l,ι a.block=some l/\a'.block=l.ar/\a'.off=l.off+a.off
inductive aN (P:Program) (ι:gO):ξ->ξ->Prop where
 |flat (v:ξ):dO v=true->aN P ι v v
 |ptr (a a':Addr):rO ι a a'->aN P ι (.pointer (some a)) (.pointer (some a'))
 |slice (a a':Addr) (n c c':Nat) (l:Loc):a.spot=none->a'.spot=none->ι a.block=some l->a'.block=l.ar->a'.off=l.off+a.off ->
   n<=c'->(c=0\/c=c'+1)->(l.ro=false->c=0->a'.off+c'*szT P l.elem<=l.size)->aN P ι (.slice (some a) n c) (.slice (some a') n c')
 |lP (a a':Addr) (c:Nat):(c=0\/c=1)->aN P ι (.slice (some a) 0 c) (.slice (some a') 0 0)
 |map (m r:Nat):ι.mp m=some r->aN P ι (.map (some m)) (.map (some r))
 |iface (t:κ) (v v':ξ):aN P ι v v'->aN P ι (.iface t v) (.iface t v')
 |agg (cs cs':ν):cs.size=cs'.size->(∀(i:Nat) v v',cs[i]?=some v->cs'[i]?=some v'->aN P ι v v')->aN P ι (.agg cs) (.agg cs')
 |tuple (cs cs':ν):cs.size=cs'.size->(∀(i:Nat) v v',cs[i]?=some v->cs'[i]?=some v'->aN P ι v v')->aN P ι (.tuple cs) (.tuple cs')
 |func (fn:Fn) (fs fs' cs cs':ν):fs.size=fs'.size->(∀(i:Nat) v v',fs[i]?=some v->fs'[i]?=some v'->aN P ι v v') ->
   cs.size=cs'.size->(∀(i:Nat) v v',cs[i]?=some v->cs'[i]?=some v'->aN P ι v v')->aN P ι (.func fn fs cs) (.func fn fs' cs')
variable {P:Program}{W0:Fz}{ι ι':gO}{h h':ai}{w w':World}
def rO.mono {a a'}(hr:rO ι a a')(hle:ι.le ι'):rO ι' a a':=by
 obtain⟨h1,h2,l,h3,h4,h5⟩:=hr;exact⟨h1,h2,l,hle.1 _ _ h3,h4,h5⟩
def aN.mono {v v'}(hr:aN P ι v v')(hle:ι.le ι'):aN P ι' v v':=by
 induction hr with
 |flat v hv=>exact .flat v hv
 |ptr a a' ha=>exact .ptr a a' (ha.mono hle)
 |slice a a' n c c' l h1 h2 h3 h4 h5 h6 h7 h8=>exact .slice a a' n c c' l h1 h2 (hle.1 _ _ h3) h4 h5 h6 h7 h8
 |lP a a' c hc=>exact .lP a a' c hc
 |map m r hr=>exact .map m r (hle.2 _ _ hr)
 |iface t v v' _ ih=>exact .iface t v v' ih
 |agg cs cs' hs _ ih=>exact .agg cs cs' hs ih
 |tuple cs cs' hs _ ih=>exact .tuple cs cs' hs ih
 |func fn fs fs' cs cs' hs _ hs' _ ih ih'=>exact .func fn fs fs' cs cs' hs ih hs' ih'
def aW (P:Program)(ι:gO)(l l':δ):Prop:=l.length=l'.length/\∀(i:Nat) v v',l[i]?=some v->l'[i]?=some v'->aN P ι v v'
def aW.mono {l l'}(hr:aW P ι l l')(hle:ι.le ι'):aW P ι' l l':=⟨hr.1,λi v v' a b=>(hr.2 i v v' a b).mono hle⟩
def aW.get {l l'}(hr:aW P ι l l'){i:Nat}{v}(hi:l[i]?=some v):∃v',l'[i]?=some v'/\aN P ι v v':=by
 have hlt:i<l'.length:=by
  have:=(List.getElem?_eq_some_iff.1 hi).1;have:=hr.1;omega
 exact⟨l'[i],by simp[hlt],hr.2 i v _ hi (by simp[hlt])⟩
def aW.nil:aW P ι [] []:=⟨rfl,by simp⟩
theorem aW.cons {v v'}{l l'}(hv:aN P ι v v')(hl:aW P ι l l'):aW P ι (v::l) (v'::l'):=by
 refine⟨by simp[hl.1],λi u u' a b=>?_⟩;cases i with
 |zero=>grind
 |succ i=>exact hl.2 i u u' a b
theorem aW.cons_inv {v}{l l'}(hl:aW P ι (v::l) l'):∃v' m,l'=v'::m/\aN P ι v v'/\aW P ι l m:=by
 cases l' with
 |nil=>simp[aW] at hl
 |cons v' m=>exact⟨v',m,rfl,hl.2 0 v v' rfl rfl,by have:=hl.1;simp at this;exact this,λi u u' a b=>hl.2 (i+1) u u' (by simpa using a) (by simpa using b)⟩
theorem aW.append {a a' b b'}(ha:aW P ι a a')(hb:aW P ι b b'):aW P ι (a++b) (a'++b'):=by
 induction a generalizing a' with
 |nil=>
  have:a'=[]:=by have:=ha.1;grind
  grind
 |cons v l ih=>
  grind [ha.cons_inv,aW.cons]
def aW.take {a a'}(ha:aW P ι a a') n:aW P ι (a.take n) (a'.take n):=by
 refine⟨by simp[ha.1],λi u u' x y=>?_⟩;rw[aop] at x y;split at x<;>simp_all;exact ha.2 i u u' x y
theorem aW.drop {a a'}(ha:aW P ι a a') n:aW P ι (a.drop n) (a'.drop n):=by
 refine⟨by simp[ha.1],λi u u' x y=>?_⟩;rw[al0] at x y;exact ha.2 _ u u' x y
theorem aW.aM {c c' vs vs'}(hc:aW P ι c c')(hv:aW P ι vs vs') o:aW P ι (aM c o vs) (aM c' o vs'):=by
 unfold Ago.aM;rw[<-hv.1];exact (aW.append (hc.take o) hv).append (hc.drop _)
def aW.flat {l}(hl:l.all dO=true):aW P ι l l:=by
 refine⟨rfl,λi u u' x y=>?_⟩;rw[x] at y;cases y;exact .flat u (List.all_eq_true.1 hl u (IN x))
def aN.TM {v v'}(hr:aN P ι v v')(hv:fk v=true):v'.oneCell'=true:=by
 cases hr with
 |flat v hf=>cases v<;>simp_all[dO,Value.oneCell']
 |agg=>simp[fk] at hv
 |tuple=>simp[fk] at hv
 |_=>rfl
def aN.of_flat {v}(hv:Ago.flat v=true):aN P ι v v:=by
 unfold Ago.flat at hv;split at hv
 .rename_i cs;exact .agg cs cs rfl λi u u' x y=>by
   rw[x] at y;cases y;exact .flat u (List.all_eq_true.1 hv u (IN (by simpa using x)))
 .rename_i vs;have:vs=#[]:=by simpa using hv
  subst this;exact .tuple _ _ rfl (by simp)
 .exact .iface _ _ _ (.flat _ hv)
 .exact .flat _ hv
def aN.cells {v v'}(hr:aN P ι v v'):aW P ι v.cells.toList v'.cells.toList:=by
 cases hr with
 |flat v hf=>cases v<;>first|(simp[dO] at hf;done)|exact aW.cons (.flat _ hf) aW.nil
 |agg cs cs' hs hv=>exact⟨by simpa[Value.cells] using hs,λi u u' x y=>hv i u u' (by simpa[Value.cells] using x) (by simpa[Value.cells] using y)⟩
 |ptr a a' ha=>exact aW.cons (.ptr _ _ ha) aW.nil
 |slice a a' n c c' l h1 h2 h3 h4 h5 h6 h7 h8=>exact aW.cons (.slice a a' n c c' l h1 h2 h3 h4 h5 h6 h7 h8) aW.nil
 |lP a a' c hc=>exact aW.cons (.lP a a' c hc) aW.nil
 |map m r hr=>exact aW.cons (.map m r hr) aW.nil
 |iface t v v' hv=>exact aW.cons (.iface t v v' hv) aW.nil
 |tuple cs cs' hs hv=>exact aW.cons (.tuple cs cs' hs hv) aW.nil
 |func fn fs fs' cs cs' a b c d=>exact aW.cons (.func fn fs fs' cs cs' a b c d) aW.nil
def lv (P:Program)(ι:gO)(E:Env)(tmps:ν):Prop:=∀i v,E i=some v->∃v',tmps[i]?=some v'/\aN P ι v v'
def lv.mono {E}{t}(hr:lv P ι E t)(hle:ι.le ι'):lv P ι' E t:=λi v hv=>
 let ⟨v',a,b⟩:=hr i v hv
 ⟨v',a,b.mono hle⟩
def yE (P:Program)(ι:gO)(t:κ):List H6->List MapEntry->Prop
 |[],[]=>True
 |e::r,e'::r'=>e'.key=e.key/\qW P t e.key=true/\aN P ι e.val e'.val/\e'.born=e.born/\yE P ι t r r'
 |_,_=>False
theorem yE.mono {t}(hle:ι.le ι'):∀{es} {es'},yE P ι t es es'->yE P ι' t es es'
 |[],[],_=>trivial
 |[],_::_,h=>h.elim
 |_::_,[],h=>h.elim
 |e::r,e'::r',h=>⟨h.1,h.2.1,h.2.2.1.mono hle,h.2.2.2.1,yE.mono hle h.2.2.2.2⟩
structure ac6 (P:Program) (W0:Fz) (ι:gO) (h:ai) (w:World):Prop where
 zN:∀m,h.used m=false->h.jz m=none/\ι.mp m=none
 loc:∀m r,ι.mp m=some r->W0 r=none/\∃es c,w.heap[r]?=some (.map es c)
 inj:∀m m' r,ι.mp m=some r->ι.mp m'=some r->m=m'
 live:∀m x,h.jz m=some x->∃r es',ι.mp m=some r/\w.heap[r]?=some (.map es' x.clock)/\yE P ι x.kt x.es es'.toList
theorem ac6.Da (M:ac6 P W0 ι h w)(hm:h'.jz=h.jz)(hn:∀m,h'.used m=false->h.used m=false)(hle:ι.le ι')(hmp:ι'.mp=ι.mp)
  (hw:∀(r:Nat) es c,w.heap[r]?=some (.map es c)->w'.heap[r]?=some (.map es c)):ac6 P W0 ι' h' w':=by
 refine⟨λm hx=>?_,λm r hx=>?_,λm m' r hx hy=>?_,λm x hx=>?_⟩
 .rw[hm,hmp];exact M.zN m (hn m hx)
 .rw[hmp] at hx;obtain⟨h1,es,c,h2⟩:=M.loc m r hx
  grind
 .rw[hmp] at hx hy;exact M.inj m m' r hx hy
 .rw[hm] at hx;obtain⟨r,es',h1,h2,h3⟩:=M.live m x hx;exact⟨r,es',by rw[hmp];exact h1,hw _ _ _ h2,h3.mono hle⟩
theorem map_push {o}:∀(r:Nat) es c,w.heap[r]?=some (.map es c)->(w.heap.push o)[r]?=some (.map es c):=by
 grind
def Fs (F:Fz):Prop:=∀w:World,(∀i o,F i=some o->w.heap[i]?=some o)->lr w
def Lv (ι:gO)(h:ai)(k:Nat):Prop:=∃b l c g base e,ι b=some l/\l.ar=k/\h.get b=some (.cells c g base e)
theorem Lv.of {k}(hv:Lv ι h' k)(hs:∀b c g base e,h'.get b=some (.cells c g base e)->∃c g base e,h.get b=some (.cells c g base e)):Lv ι h k:=by
 obtain⟨b,l,c,g,base,e,h1,h2,h3⟩:=hv;obtain⟨c,g,base,e,h4⟩:=hs b c g base e h3;exact⟨b,l,c,g,base,e,h1,h2,h4⟩
def Lv.to {k}(hv:Lv ι' h' k)(hs:∀b l c g base e,ι' b=some l->h'.get b=some (.cells c g base e)->l.ar=k->∃c g base e,ι b=some l/\h.get b=some (.cells c g base e)):Lv ι h k:=by
 obtain⟨b,l,c,g,base,e,h1,h2,h3⟩:=hv;obtain⟨c,g,base,e,h4,h5⟩:=hs b l c g base e h1 h3 h2;exact⟨b,l,c,g,base,e,h4,h2,h5⟩
structure Rel (P:Program) (W0:Fz) (ι:gO) (h:ai) (w:World):Prop where
 lA:∀i o,W0 i=some o->w.heap[i]?=some o
 zN:∀b,h.used b=false->h.get b=none/\ι b=none
 nx:∀b,h.next<=b->h.used b=false
 loc:∀b l,ι b=some l->∃cc fz,w.heap[l.ar]?=some (.cells cc l.elem fz)/\cc.size=l.size /\
  (l.ro=false->W0 l.ar=none/\(Lv ι h l.ar->∀o,o<cc.size->(decide (fz.1<=o)&&decide (o<fz.2))=false))
 live:∀b c g base e,h.get b=some (.cells c g base e)->∃l,ι b=some l/\l.elem=e/\((g=0↔l.ro=true)/\(g=b+1->l.off=0)/\(g=0->W0.rd l.ar\/W0 l.ar=none))/\l.off+c.length<=l.size /\
  (∀i v,c[i]?=some v->∃v',w.cell? ⟨l.ar,l.off+i,none⟩=some v'/\fk v=true/\aN P ι v v')
 jo:∀b b' l l' c g base e c' g' base' e',ι b=some l->ι b'=some l'->l.ro=false->h.get b=some (.cells c g base e)->h.get b'=some (.cells c' g' base' e') ->
  l.ar=l'.ar->g=g'/\l.off+base'=l'.off+base
 qI:∀b c g base e,h.get b=some (.cells c g base e)->g≠0->base+c.length<=h.qI g/\h.used (g-1)=true
 os:w.os=W0.os/\w.output=W0.out
 GL:Fs W0
 mp:ac6 P W0 ι h w
theorem Rel.cell (R:Rel P W0 ι h w){a a'}(ha:rO ι a a'){v}(hv:h.cell a=some v) :
  ∃v',w.cell? a'=some v'/\fk v=true/\aN P ι v v':=by
 unfold ai.cell at hv;split at hv
 .rename_i c g base e hg;obtain⟨l,hl,_,_,_,hc⟩:=R.live _ _ _ _ _ hg;obtain⟨_,hs,l',hl',hb,ho⟩:=ha;rw[hl] at hl';obtain⟨v',hv',x⟩:=hc _ _ hv;refine⟨v',?_,x⟩;cases a';simp_all
 .simp at hv
theorem rO.plus {a a'}(ha:rO ι a a') n:rO ι (a.plus n) (a'.add n):=by
 obtain⟨h1,h2,l,h3,h4,h5⟩:=ha;unfold Addr.plus Addr.add;split
 .subst_vars;exact⟨rfl,h2,l,h3,h4,by simpa using h5⟩
 .exact⟨rfl,rfl,l,h3,h4,by simp[h5];omega⟩
theorem add_eq {a:Addr}(hs:a.spot=none) n:a.add n=⟨a.block,a.off+n,none⟩:=by
 unfold Addr.add;split
 .cases a;simp_all
 .rfl
def Rel.of_heap (R:Rel P W0 ι h w)(he:w'.heap=w.heap)(ho:w'.os=w.os/\w'.output=w.output):Rel P W0 ι h w':=by
 have hc:∀a,w'.cell? a=w.cell? a:=λa=>by simp[World.cell?,he]
 exact⟨by rw[he];exact R.lA,R.zN,R.nx,by rw[he];exact R.loc,by simpa[hc] using R.live,R.jo,R.qI,⟨ho.1.trans R.os.1,ho.2.trans R.os.2⟩,R.GL,R.mp.Da rfl (λ_ x=>x) (.refl _) rfl λr es c hr=>by rw[he];exact hr⟩
theorem Rel.TN (R:Rel P W0 ι h w) o:Rel P W0 ι h { w with heap:=w.heap.push o }:=by
 have hcell:∀a v,w.cell? a=some v->World.cell? { w with heap:=w.heap.push o } a=some v:=by
  grind [World.cell?]
 refine⟨λi o hi=>?_,R.zN,R.nx,λb l hl=>?_,λb c g base e hb=>?_,R.jo,R.qI,R.os,R.GL,R.mp.Da rfl (λ_ x=>x) (.refl _) rfl map_push⟩
 .have:=R.lA i o hi
  grind
 .obtain⟨cc,fz,hh,rest⟩:=R.loc b l hl
  grind
 .obtain⟨l,h1,h2,h3,h4,h5⟩:=R.live b c g base e hb
  grind
def bf {α:Type}(i j:Nat)(x y:α):cond (Nat.beq i j) x y=if i=j then x else y:=by
 simp_all
def ai.ext (h:ai)(nm next':Nat)(get':Nat->Option MU)(ar:MU)(tip':Nat->Nat):ai:=
 { h with get:=λj=>cond (Nat.beq j nm) (some ar) (get' j),next:=next',qI:=tip',used:=λj=>cond (Nat.beq j nm) true (h.used j) }
def hold (R:Rel P W0 ι h w):∀b l,ι b=some l->l.ar<w.heap.size:=λb l hl=>
 let ⟨_,_,hh,_⟩:=R.loc b l hl
 (Array.getElem?_eq_some_iff.1 hh).1
theorem GK {o}:∀a v,w.cell? a=some v->World.cell? { w with heap:=w.heap.push o } a=some v:=by
 grind [World.cell?]
theorem Rel.ago (R:Rel P W0 ι h w) nm next' (hnm:h.used nm=false)(hnx:nm<next'/\h.next<=next') get' tip' g base e cs cs' extra fz
  (hsub:∀j ar,get' j=some ar->h.get j=some ar) (hg:g≠0) (hgn:g=nm+1\/h.used (g-1)=true)
  (htip:∀b c g' base' e',get' b=some (.cells c g' base' e')->g'≠0->base'+c.length<=tip' g') (htipn:base+cs.length<=tip' g)
  (hfz:∀o,o<cs'.length+extra.length->(decide (fz.1<=o)&&decide (o<fz.2))=false)
  (hcs:aW P ι cs cs') (hsc:∀v∈cs,fk v=true) :
  ∃ι',ι.le ι'/\ι' nm=some ⟨w.heap.size,0,cs'.length+extra.length,e,false⟩ /\
   Rel P W0 ι' (h.ext nm next' get' (.cells cs g base e) tip') { w with heap:=w.heap.push (.cells (cs'++extra).toArray e fz) }:=by
 have hn:=(R.zN nm hnm);have hle:ι.le ⟨λb=>if b=nm then some ⟨w.heap.size,0,cs'.length+extra.length,e,false⟩ else ι b,ι.mp⟩:=by
  refine⟨λb l hl=>?_,λ_ _ x=>x⟩
  grind
 refine⟨⟨λb=>if b=nm then some ⟨w.heap.size,0,cs'.length+extra.length,e,false⟩ else ι b,ι.mp⟩,hle,by simp,?_⟩;have hlt:∀i,i<w.heap.size->(w.heap.push (.cells (cs'++extra).toArray e fz))[i]?=w.heap[i]?:=λi hi=>by grind
 have hnew:(w.heap.push (.cells (cs'++extra).toArray e fz))[w.heap.size]?=some (.cells (cs'++extra).toArray e fz):=by simp
 have hget:∀b,(h.ext nm next' get' (.cells cs g base e) tip').get b=if b=nm then some (.cells cs g base e) else get' b:=λb=>bf _ _ _ _
 have hused:∀b,(h.ext nm next' get' (.cells cs g base e) tip').used b=if b=nm then true else h.used b:=λb=>bf _ _ _ _
 have hold:=hold R;have hF:W0 w.heap.size=none:=by
  cases hq:W0 w.heap.size with
  |none=>rfl
  |some o=>have:=(Array.getElem?_eq_some_iff.1 (R.lA _ o hq)).1;omega
 constructor
 .intro i o hi;have:=R.lA i o hi
  grind
 .intro b hb
  replace hb:=(hused b).symm.trans hb
  by_cases h1:b=nm
  .grind
  rw[AT h1] at hb;rw[hget];simp[h1];obtain⟨x,y⟩:=R.zN b hb;refine⟨?_,y⟩;cases hq:get' b with
  |none=>rfl
  |some ar=>grind
 .intro b hb;have hb':next'<=b:=hb
  refine (hused b).trans ?_;rw[AT (by omega)];exact R.nx b (by omega)
 .intro b l hl;by_cases hb:b=nm
  .grind
  .simp[hb] at hl;obtain⟨cc,fz',hh,q1,q2⟩:=R.loc b l hl;refine⟨cc,fz',by grind,q1,λx=>⟨(q2 x).1,λhv=>(q2 x).2 ?_⟩⟩;obtain⟨b2,l2,c2,g2,ba2,e2,p1,p2,p3⟩:=hv
   replace p1:(if b2=nm then some (⟨w.heap.size,0,cs'.length+extra.length,e,false⟩:Loc) else ι b2)=some l2:=p1
   rw[hget] at p3;by_cases hb2:b2=nm
   .grind
   .rw[AT hb2] at p1 p3;exact⟨b2,l2,c2,g2,ba2,e2,p1,p2,hsub _ _ p3⟩
 .intro b c g1 base1 e' hb;rw[hget] at hb;split at hb
  .rename_i hbn;subst hbn;simp at hb;obtain⟨rfl,rfl,rfl,rfl⟩:=hb;refine⟨⟨w.heap.size,0,cs'.length+extra.length,e,false⟩,by simp,rfl,⟨by simp[hg],λ_=>rfl,λx=>absurd x hg⟩,by simp[hcs.1],λi v hv=>?_⟩;obtain⟨v',hv',hr⟩:=hcs.get hv;refine⟨v',?_,hsc v (IN hv),hr.mono hle⟩
   grind [List.getElem?_eq_some_iff,World.cell?]
  .rename_i hbn;obtain⟨l,h1,h2,h3,h4,h5⟩:=R.live b c g1 base1 e' (hsub _ _ hb);exact⟨l,by simp[hbn,h1],h2,h3,h4,λi v hv=>let ⟨v',a,b,d⟩:=h5 i v hv;⟨v',GK _ _ a,b,d.mono hle⟩⟩
 .intro b b' l l' c g1 base1 e1 c' g' base' e1' hl hl' hro hb hb' hbl;rw[hget] at hb hb';by_cases x:b=nm<;>by_cases y:b'=nm
  .grind
  .grind
  .grind
  .simp[x] at hl hb;simp[y] at hl' hb';exact R.jo b b' l l' c g1 base1 e1 c' g' base' e1' hl hl' hro (hsub _ _ hb) (hsub _ _ hb') hbl
 .intro b c g1 base1 e1 hb hg1;rw[hget] at hb;split at hb
  .simp at hb;obtain⟨rfl,rfl,rfl,rfl⟩:=hb;refine⟨htipn,(hused _).trans ?_⟩
   grind
  .refine⟨htip b c g1 base1 e1 hb hg1,(hused _).trans ?_⟩;have:=(R.qI b c g1 base1 e1 (hsub _ _ hb) hg1).2
   grind
 .exact R.os
 .exact R.GL
 .exact R.mp.Da rfl (λm hm=>by
   grind) hle rfl map_push
theorem Rel.put (R:Rel P W0 ι h w) nm next' (hnm:h.used nm=false)(hnx:nm<next'/\h.next<=next') e cs cs' extra fz
  (hfz:∀o,o<cs'.length+extra.length->(decide (fz.1<=o)&&decide (o<fz.2))=false)
  (hcs:aW P ι cs cs') (hsc:∀v∈cs,fk v=true) :
  ∃ι',ι.le ι'/\ι' nm=some ⟨w.heap.size,0,cs'.length+extra.length,e,false⟩ /\
   Rel P W0 ι' (h.cM nm next' e cs) { w with heap:=w.heap.push (.cells (cs'++extra).toArray e fz) }:=by
 have htip:∀g,(h.cM nm next' e cs).qI g=if g=nm+1 then cs.length else h.qI g:=λg=>bf _ _ _ _
 have he:h.cM nm next' e cs=h.ext nm next' h.get (.cells cs (nm+1) 0 e) (h.cM nm next' e cs).qI:=by simp[ai.cM,ai.ext]
 rw[he];exact R.ago nm next' hnm hnx h.get (h.cM nm next' e cs).qI (nm+1) 0 e cs cs' extra fz (λ_ _ x=>x) (by omega) (.inl rfl)
  (λb c g' base' e' hb hg'=>by
   obtain⟨h1,h2⟩:=R.qI b c g' base' e' hb hg'
   grind) (by rw[htip];simp) hfz hcs hsc
def Rel.unused (R:Rel P W0 ι h w):h.used h.next=false:=R.nx _ (abi _)
theorem Rel.new (R:Rel P W0 ι h w) e cs cs' extra fz
  (hfz:∀o,o<cs'.length+extra.length->(decide (fz.1<=o)&&decide (o<fz.2))=false)
  (hcs:aW P ι cs cs') (hsc:∀v∈cs,fk v=true) :
  ∃ι',ι.le ι'/\ι' h.next=some ⟨w.heap.size,0,cs'.length+extra.length,e,false⟩ /\
   Rel P W0 ι' (h.new e cs) { w with heap:=w.heap.push (.cells (cs'++extra).toArray e fz) }:=
 R.put h.next (h.next+1) R.unused ⟨by omega,by omega⟩ e cs cs' extra fz hfz hcs hsc
def Rel.dP (R:Rel P W0 ι h w) n:Rel P W0 ι { h with next:=h.next+n } w:=
 ⟨R.lA,R.zN,λb hb=>R.nx b (by simp at hb;omega),R.loc,R.live,R.jo,R.qI,R.os,R.GL,R.mp.Da rfl (λ_ x=>x) (.refl _) rfl λ_ _ _ x=>x⟩
theorem Jm g cs lA t fr (hg:w.heap[g]?=some (.cells lA t fr)) i :
  (w.setRow g cs).heap[i]?=if i=g then some (.cells cs t fr) else w.heap[i]?:=by
 split
 .grind [setRow_heap]
 .simp[World.setRow]
  grind
theorem Rel.write (R:Rel P W0 ι h w) get' ar (size:Nat) elem cc cc' fz
  (hW:W0 ar=none) (hcc:w.heap[ar]?=some (.cells cc elem fz)) (hsz:cc'.size=cc.size)
  (hdom:∀b,h.used b=false->get' b=none)
  (hlive:∀b c g base e,get' b=some (.cells c g base e)->∃g0 c0,h.get b=some (.cells c0 g0 base e)/\g=g0/\c.length=c0.length /\
   (∀l,ι b=some l->l.ar≠ar->c=c0) /\
   (∀l,ι b=some l->l.ar=ar->∀i v,c[i]?=some v->∃v',cc'[l.off+i]?=some v'/\fk v=true/\aN P ι v v')) :
  Rel P W0 ι { h with get:=get' } (w.setRow ar cc'):=by
 have hget:=Jm ar cc' cc elem fz hcc;have hss:∀b c g base e,get' b=some (.cells c g base e)->∃c g base e,h.get b=some (.cells c g base e):=λb c g base e hb=>
  let ⟨g0,c0,h0,_⟩:=hlive b c g base e hb
  ⟨c0,g0,base,e,h0⟩
 constructor
 .intro i o hi;rw[hget,AT (λe=>by grind)];exact R.lA i o hi
 .intro b hb;exact⟨hdom b hb,(R.zN b hb).2⟩
 .exact R.nx
 .intro b l hl;obtain⟨c1,fz1,hh,h1,h2⟩:=R.loc b l hl;by_cases hb:l.ar=ar
  .rw[hb,hcc] at hh;cases hh;exact⟨cc',fz,by rw[hget,By hb],by omega,λx=>⟨(h2 x).1,λhv o ho=>(h2 x).2 (hv.of hss) o (by omega)⟩⟩
  .exact⟨c1,fz1,by grind,h1,λx=>⟨(h2 x).1,λhv=>(h2 x).2 (hv.of hss)⟩⟩
 .intro b c g base e hb;obtain⟨g0,c0,h0,rfl,hlen,hk,hwr⟩:=hlive b c g base e hb;obtain⟨l,h1,h2,h3,h4,h5⟩:=R.live b c0 g base e h0;refine⟨l,h1,h2,h3,by omega,λi v hv=>?_⟩;by_cases hbl:l.ar=ar
  .obtain⟨v',x,y⟩:=hwr l h1 hbl i v hv;exact⟨v',by simp only[World.cell?];rw[hget,By hbl];simpa using x,y⟩
  .have:=hk l h1 hbl;subst this;obtain⟨v',x,y⟩:=h5 i v hv;exact⟨v',by simp only[World.cell?] at x⊢;grind,y⟩
 .intro b b' l l' c g base e c' g' base' e' hl hl' hro hb hb' hbl;obtain⟨g0,c0,h0,rfl,_⟩:=hlive b c g base e hb;obtain⟨g0',c0',h0',rfl,_⟩:=hlive b' c' g' base' e' hb';exact R.jo b b' l l' c0 g base e c0' g' base' e' hl hl' hro h0 h0' hbl
 .intro b c g base e hb hg;obtain⟨g0,c0,h0,rfl,hlen,_⟩:=hlive b c g base e hb;have:=R.qI b c0 g base e h0 hg
  grind
 .exact R.os
 .exact R.GL
 .refine R.mp.Da rfl (λ_ x=>x) (.refl _) rfl λr es c hr=>?_
  grind
theorem oW c vs o (hf:o+vs.length<=c.length):(aM c o vs).length=c.length:=by
 simp[aM];omega
theorem uz c vs o i (hf:o+vs.length<=c.length):(aM c o vs)[i]? =
  if i<o then c[i]? else if i<o+vs.length then vs[i-o]? else c[i]?:=by
 unfold aM
 grind
theorem Rel.wj (R:Rel P W0 ι h w){b}{c}{g base}{e}(hb:h.get b=some (.cells c g base e))(hg:g≠0)
  {l} (hl:ι b=some l) {cc} {fz} (hcc:w.heap[l.ar]?=some (.cells cc l.elem fz)) {o} {vs vs'}
  (hfit:o+vs.length<=c.length) (hv:aW P ι vs vs') (hsc:∀v∈vs,fk v=true) :
  Rel P W0 ι (h.wj b (aM c o vs) g base e) (w.setRow l.ar (aM cc.toList (l.off+o) vs').toArray):=by
 obtain⟨l0,e1,e2,e3,e4,e5⟩:=R.live b c g base e hb;rw[hl] at e1;cases e1;obtain⟨c1,fz1,hh,h1,h2⟩:=R.loc b l hl;rw[hcc] at hh;cases hh;have hro:l.ro=false:=by grind
 have hlen:l.off+o+vs'.length<=cc.toList.length:=by have:=hv.1;simp;omega
 have hupd:∀j,(h.wj b (aM c o vs) g base e).get j=if j=b then some (.cells (aM c o vs) g base e) else (match h.get j with
   |some (.cells c' g' base' elem')=>if g'=g then none else some (.cells c' g' base' elem')
   |o=>o):=by
  intro j;show cond (Nat.beq j b) _ _=_;rw[bf];split
  .rfl
  .cases h.get j with
   |none=>rfl
   |some ar=>cases ar<;>simp[bf]
 refine R.write _ l.ar l.size l.elem cc _ fz (h2 hro).1 hcc (by grind [oW]) ?_ ?_
 .intro j hj;have hjb:j≠b:=λx=>by have:=(R.zN j hj).1;grind
  have:=hupd j;rw[AT hjb,(R.zN j hj).1] at this;exact this
 .intro j c2 g2 base2 e2' hj
  replace hj:=(hupd j).symm.trans hj
  by_cases hjb:j=b
  .subst hjb;simp at hj;obtain⟨rfl,rfl,rfl,rfl⟩:=hj;refine⟨g,c,hb,rfl,oW _ _ _ hfit,λl2 hl2 hne=>?_,λl2 hl2 _ i v hi=>?_⟩
   .grind
   .rw[hl] at hl2;cases hl2;rw[uz _ _ _ _ hfit] at hi;have hs:=uz cc.toList vs' (l.off+o) (l.off+i) hlen;simp only[aoY,hs];have hvl:=hv.1;by_cases x:i<o
    .rw[By x] at hi;obtain⟨v',y,z⟩:=e5 i v hi;refine⟨v',?_,z⟩;rw[By (by omega)];simpa[World.cell?,hcc] using y
    .rw[AT x] at hi;by_cases x2:i<o+vs.length
     .rw[By x2] at hi;obtain⟨v',y,z⟩:=hv.get hi
      grind
     .rw[AT x2] at hi;obtain⟨v',y,z⟩:=e5 i v hi;refine⟨v',?_,z⟩;rw[AT (by omega),AT (by omega)];simpa[World.cell?,hcc] using y
  .rw[AT hjb] at hj;cases hq:h.get j with
   |none=>rw[hq] at hj;simp at hj
   |some bl=>
    rw[hq] at hj;cases bl with
    |map=>simp at hj
    |iter=>simp at hj
    |cells c' g' base' elem'=>
     simp only at hj;split at hj
     .simp at hj
     .rename_i hgg;simp at hj;obtain⟨rfl,rfl,rfl,rfl⟩:=hj;refine⟨g',c',rfl,rfl,rfl,λ_ _ _=>rfl,λl2 hl2 hbl=>?_⟩;exact absurd ((R.jo b j l l2 c g base e c' g' base' elem' hl hl2 hro hb hq hbl.symm).1.symm) hgg
theorem Rel.LZ (R:Rel P W0 ι h w) nm next' (hnm:h.used nm=false)(hnx:nm<next'/\h.next<=next') nl (hro:nl.ro=false)(hW:W0 nl.ar=none){cc}{fz}(hcc:w.heap[nl.ar]?=some (.cells cc nl.elem fz))(hsz:cc.size=nl.size)
  (hfz:∀o,o<cc.size->(decide (fz.1<=o)&&decide (o<fz.2))=false) g base cs tip'
  (hcells:∀(i:Nat) v,cs[i]?=some v->∃v',w.cell? ⟨nl.ar,nl.off+i,none⟩=some v'/\fk v=true/\aN P ι v v') (hfit:nl.off+cs.length<=nl.size)
  (hal:∀b l c g' base' e',ι b=some l->h.get b=some (.cells c g' base' e')->l.ar=nl.ar->g'=g/\l.off+base=nl.off+base')
  (hg:g≠0) (hgn:(g=nm+1/\nl.off=0)\/h.used (g-1)=true)
  (htip:∀b c g' base' e',h.get b=some (.cells c g' base' e')->g'≠0->base'+c.length<=tip' g') (htipn:base+cs.length<=tip' g) :
  ∃ι',ι.le ι'/\ι' nm=some nl/\Rel P W0 ι' (h.ext nm next' h.get (.cells cs g base nl.elem) tip') w:=by
 have hn:=(R.zN nm hnm);have hle:ι.le ⟨λb=>if b=nm then some nl else ι b,ι.mp⟩:=by
  refine⟨λb l hl=>?_,λ_ _ x=>x⟩
  grind
 refine⟨⟨λb=>if b=nm then some nl else ι b,ι.mp⟩,hle,by simp,?_⟩;have hget:∀b,(h.ext nm next' h.get (.cells cs g base nl.elem) tip').get b=if b=nm then some (.cells cs g base nl.elem) else h.get b:=λb=>bf _ _ _ _
 have hused:∀b,(h.ext nm next' h.get (.cells cs g base nl.elem) tip').used b=if b=nm then true else h.used b:=λb=>bf _ _ _ _
 constructor
 .exact R.lA
 .intro b hb
  replace hb:=(hused b).symm.trans hb
  by_cases h1:b=nm
  .grind
  rw[AT h1] at hb;rw[hget];simp[h1];exact R.zN b hb
 .intro b hb;have hb':next'<=b:=hb
  refine (hused b).trans ?_;rw[AT (by omega)];exact R.nx b (by omega)
 .intro b l hl;by_cases hb:b=nm
  .grind
  .simp[hb] at hl;obtain⟨c1,fz1,hh,q1,q2⟩:=R.loc b l hl;refine⟨c1,fz1,hh,q1,λx=>⟨(q2 x).1,λhv=>?_⟩⟩;by_cases hk:l.ar=nl.ar
   .grind
   .refine (q2 x).2 ?_;obtain⟨b2,l2,c2,g2,ba2,e2,p1,p2,p3⟩:=hv
    replace p1:(if b2=nm then some nl else ι b2)=some l2:=p1
    rw[hget] at p3;by_cases hb2:b2=nm
    .grind
    .rw[AT hb2] at p1 p3;exact⟨b2,l2,c2,g2,ba2,e2,p1,p2,p3⟩
 .intro b c g1 base1 e' hb;rw[hget] at hb;split at hb
  .rename_i hbn;subst hbn;simp at hb;obtain⟨rfl,rfl,rfl,rfl⟩:=hb;exact⟨nl,by simp,rfl,⟨by simp[hg,hro],λx=>by grind,λx=>absurd x hg⟩,hfit,λi v hv=>let ⟨v',a,b,d⟩:=hcells i v hv;⟨v',a,b,d.mono hle⟩⟩
  .rename_i hbn;obtain⟨l,h1,h2,h3,h4,h5⟩:=R.live b c g1 base1 e' hb;exact⟨l,by simp[hbn,h1],h2,h3,h4,λi v hv=>let ⟨v',a,b,d⟩:=h5 i v hv;⟨v',a,b,d.mono hle⟩⟩
 .intro b b' l l' c g1 base1 e1 c' g' base' e1' hl hl' hlro hb hb' hbl;rw[hget] at hb hb';by_cases x:b=nm<;>by_cases y:b'=nm
  .grind
  .grind
  .grind
  .simp[x] at hl hb;simp[y] at hl' hb';exact R.jo b b' l l' c g1 base1 e1 c' g' base' e1' hl hl' hlro hb hb' hbl
 .intro b c g1 base1 e1 hb hg1;rw[hget] at hb;split at hb
  .simp at hb;obtain⟨rfl,rfl,rfl,rfl⟩:=hb;refine⟨htipn,(hused _).trans ?_⟩
   grind
  .refine⟨htip b c g1 base1 e1 hb hg1,(hused _).trans ?_⟩;have:=(R.qI b c g1 base1 e1 hb hg1).2
   grind
 .exact R.os
 .exact R.GL
 .exact R.mp.Da rfl (λm hm=>by
   grind) hle rfl λ_ _ _ x=>x
def Rel.ac7 (R:Rel P W0 ι h w) nl (hro:nl.ro=false)(hW:W0 nl.ar=none){cc}{fz}(hcc:w.heap[nl.ar]?=some (.cells cc nl.elem fz))(hsz:cc.size=nl.size)
  (hfz:∀o,o<cc.size->(decide (fz.1<=o)&&decide (o<fz.2))=false) g base cs tip'
  (hcells:∀(i:Nat) v,cs[i]?=some v->∃v',w.cell? ⟨nl.ar,nl.off+i,none⟩=some v'/\fk v=true/\aN P ι v v') (hfit:nl.off+cs.length<=nl.size)
  (hal:∀b l c g' base' e',ι b=some l->h.get b=some (.cells c g' base' e')->l.ar=nl.ar->g'=g/\l.off+base=nl.off+base')
  (hg:g≠0) (hgn:h.used (g-1)=true)
  (htip:∀b c g' base' e',h.get b=some (.cells c g' base' e')->g'≠0->base'+c.length<=tip' g') (htipn:base+cs.length<=tip' g) :
  ∃ι',ι.le ι'/\ι' h.next=some nl/\Rel P W0 ι' (h.ext h.next (h.next+1) h.get (.cells cs g base nl.elem) tip') w:=
 R.LZ h.next (h.next+1) R.unused ⟨by omega,by omega⟩ nl hro hW hcc hsz hfz g base cs tip' hcells hfit hal hg (.inr hgn) htip htipn
def Jn (F F':Fz):Prop:=(∀b o,F b=some o->F' b=some o)/\(F'.os=F.os/\∀b o,F b=some o->(F'.rd b↔F.rd b))/\F'.out=F.out/\F'.QZ=F.QZ
def Jn.refl F:Jn F F:=⟨λ_ _ x=>x,⟨rfl,λ_ _ _=>.rfl⟩,rfl,rfl⟩
theorem Jn.trans {a b c}(x:Jn a b)(y:Jn b c):Jn a c:=⟨λi o q=>y.1 i o (x.1 i o q),⟨y.2.1.1.trans x.2.1.1,λi o q=>(y.2.1.2 i o (x.1 i o q)).trans (x.2.1.2 i o q)⟩,y.2.2.1.trans x.2.2.1,y.2.2.2.trans x.2.2.2⟩
theorem Rel.shrink {F}(R:Rel P W0 ι h w)(hF:Jn F W0)(hlib:Fs F):Rel P F ι h w:=by
 refine⟨λi o hi=>R.lA i o (hF.1 i o hi),R.zN,R.nx,λb l hl=>?_,λb c g base e hb=>?_,R.jo,R.qI,⟨R.os.1.trans hF.2.1.1,R.os.2.trans hF.2.2.1⟩,hlib,⟨R.mp.zN,λm r hm=>⟨?_,(R.mp.loc m r hm).2⟩,R.mp.inj,R.mp.live⟩⟩
 .obtain⟨cc,fz,q1,q2,q3⟩:=R.loc b l hl;refine⟨cc,fz,q1,q2,λx=>⟨?_,(q3 x).2⟩⟩;cases hq:F l.ar with
  |none=>rfl
  |some o=>have:=hF.1 _ _ hq;grind
 .obtain⟨l,q1,q2,⟨q3,q4,q5⟩,q6⟩:=R.live b c g base e hb;refine⟨l,q1,q2,⟨q3,q4,λhg=>?_⟩,q6⟩;cases hq:F l.ar with
  |none=>exact .inr rfl
  |some o=>have:=hF.1 _ _ hq;have:=hF.2.1.2 _ _ hq;grind
 .cases hq:F r with
  |none=>rfl
  |some o=>have:=hF.1 _ _ hq;rw[(R.mp.loc m r hm).1] at this;cases this
def Lh (F:Fz)(b:Nat)(o:Obj)(q:Prop):Fz:={ F with get:=λi=>if i=b then some o else F i,rd:=λi=>if i=b then q else F.rd i }
theorem Rel.TO (R:Rel P W0 ι h w){b}{o}{q}(hb:w.heap[b]?=some o)(hne:∀n l,ι n=some l->l.ar≠b)(hnm:∀m r,ι.mp m=some r->r≠b):Rel P (Lh W0 b o q) ι h w:=by
 refine⟨λi o' hi=>?_,R.zN,R.nx,λn l hl=>?_,λn c g base e hn=>?_,R.jo,R.qI,R.os,λw1 hw1=>R.GL w1 λi o' hi=>?_,⟨R.mp.zN,λm r hm=>⟨?_,(R.mp.loc m r hm).2⟩,R.mp.inj,R.mp.live⟩⟩
 .replace hi:(if i=b then some o else W0 i)=some o':=hi
  split at hi
  .grind
  .exact R.lA i o' hi
 .obtain⟨cc,fz,q1,q2,q3⟩:=R.loc n l hl;exact⟨cc,fz,q1,q2,λx=>⟨by show (if l.ar=b then some o else W0 l.ar)=none;grind,(q3 x).2⟩⟩
 .obtain⟨l,q1,q2,⟨q3,q4,q5⟩,q6⟩:=R.live n c g base e hn;refine⟨l,q1,q2,⟨q3,q4,λhg=>?_⟩,q6⟩;have:=hne n l q1;simp only[Lh,AT this];exact q5 hg
 .by_cases hib:i=b
  .subst hib;have h1:=R.lA i o' hi;rw[hb] at h1;refine hw1 i o' ?_;show (if i=i then some o else W0 i)=some o';rw[By rfl];exact h1
  .refine hw1 i o' ?_;show (if i=b then some o else W0 i)=some o';rw[AT hib];exact hi
 .show (if r=b then some o else W0 r)=none;rw[AT (hnm m r hm)];exact (R.mp.loc m r hm).1
theorem Jn.add {F}{b}{o}{q}(hn:F b=none):Jn F (Lh F b o q):=⟨λi o' hi=>by
 show (if i=b then some o else F i)=some o'
 grind,⟨rfl,λi o' hi=>by
 show (if i=b then q else F.rd i)↔F.rd i
 grind⟩,rfl,rfl⟩
def VM (F:Fz)(b:Nat):Fz:={ F with get:=λi=>if i=b then none else F i }
theorem Jn.rem {F F'}{b}(hF:Jn F F')(hb:F b=none):Jn F (VM F' b):=⟨λi o hi=>by
 show (if i=b then none else F' i)=some o;have:=hF.1 i o hi
 grind,hF.2⟩
theorem Jn.GL {F F'}(hF:Jn F F')(hl:Fs F):Fs F':=λw hw=>hl w λi o hi=>hw i o (hF.1 i o hi)
theorem Rel.late {F}(R:Rel P F ι h w){b}{cs'}{e}(hb:F b=some (.cells cs' e (0,0)))(hrd:¬F.rd b)(hl:Fs (VM F b)){k}{cs}(hk:h.used k=false)(hkn:k<h.next)
  (hcs:aW P ι cs cs'.toList) (hsc:∀v∈cs,fk v=true) :
  ∃ι',ι.le ι'/\ι' k=some ⟨b,0,cs'.size,e,false⟩/\Rel P (VM F b) ι' (h.cM k h.next e cs) w:=by
 have R':Rel P (VM F b) ι h w:=by
  refine R.shrink ⟨λi o hi=>?_,⟨rfl,λ_ _ _=>.rfl⟩,rfl,rfl⟩ hl
  replace hi:(if i=b then none else F i)=some o:=hi
  grind
 have hbw:=R.lA b _ hb;have htip:∀g,(h.cM k h.next e cs).qI g=if g=k+1 then cs.length else h.qI g:=λg=>bf _ _ _ _
 have he:h.cM k h.next e cs=h.ext k h.next h.get (.cells cs (k+1) 0 e) (h.cM k h.next e cs).qI:=by simp[ai.cM,ai.ext]
 rw[he];refine R'.LZ k h.next hk ⟨hkn,abi _⟩ ⟨b,0,cs'.size,e,false⟩ rfl (By rfl) hbw rfl (by simp) (k+1) 0 cs _ (λi v hv=>?_) (by simpa using Nat.le_of_eq hcs.1) (λn l c g' base' e' hn hg hbl=>?_) (by omega) (.inl ⟨rfl,rfl⟩) (λn c g' base' e' hn hg=>?_) (by rw[htip];simp)
 .obtain⟨v',q1,q2⟩:=hcs.get hv;exact⟨v',by simpa[World.cell?,hbw] using q1,hsc v (IN hv),q2⟩
 .exfalso;obtain⟨l',q1,_,⟨q2,_,q3⟩,_⟩:=R.live n c g' base' e' hg;obtain⟨cc,fz,_,_,q4⟩:=R.loc n l hn
  grind
 .obtain⟨q1,q2⟩:=R.qI n c g' base' e' hn hg
  grind
def Rel.df {F}(R:Rel P F ι h w) D:Rel P { F with QZ:=D } ι h w:=⟨R.lA,R.zN,R.nx,R.loc,R.live,R.jo,R.qI,R.os,R.GL,⟨R.mp.zN,R.mp.loc,R.mp.inj,R.mp.live⟩⟩
end Go.Ago
