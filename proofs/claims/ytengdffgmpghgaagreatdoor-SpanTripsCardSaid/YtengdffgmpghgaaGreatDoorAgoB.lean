
import Derived.Test.YtengdffgmpghgaaGreatDoorAgoA
import Derived.Test.YtengdffgmpghgaaGreatDoorFact
import Derived.Laws.CopyRow
set_option linter.all false
namespace Go.Ago
open Go
structure Fz where
 get:Nat->Option Obj
 os:Os
 out:Array (Nat×ζ)
 MI:List Deferred
instance:CoeFun Fz (λ_=>Nat->Option Obj):=⟨Fz.get⟩
structure Loc where
 av:Nat
 off:Nat
 size:Nat
 elem:κ
 ro:Bool
structure eg where
 f:Nat->Option Loc
 mp:Nat->μ
instance:CoeFun eg (λ_=>Nat->Option Loc):=⟨eg.f⟩
def eg.emp:eg:=⟨λ_=>none,λ_=>none⟩
def eg.le (ι ι':eg):Prop:=(∀b l,ι b=some l->ι' b=some l)/\∀m r,ι.mp m=some r->ι'.mp m=some r
theorem eg.le.refl (ι:eg):ι.le ι:=⟨λ_ _ h=>h,λ_ _ h=>h⟩
theorem eg.le.trans {a b c:eg}(h:a.le b)(h':b.le c):a.le c:=⟨λx l e=>h'.1 x l (h.1 x l e),λx l e=>h'.2 x l (h.2 x l e)⟩
def szT (P:Program)(t:κ):Nat:=match P.info? t with
 |some i=>i.size
 |none=>0
def pH (ι:eg)(a a':Addr):Prop:=a.spot=none/\a'.spot=none/\∃l,ι a.block=some l/\a'.block=l.av/\a'.off=l.off+a.off
inductive aN (P:Program) (ι:eg):ξ->ξ->Prop where
 |flat (v:ξ):dz v=true->aN P ι v v
 |ptr (a a':Addr):pH ι a a'->aN P ι (.pointer (some a)) (.pointer (some a'))
 |slice (a a':Addr) (n c c':Nat) (l:Loc):a.spot=none->a'.spot=none->ι a.block=some l->a'.block=l.av->a'.off=l.off+a.off ->
   n<=c'->(c=0\/c=c'+1)->(l.ro=false->c=0->a'.off+c'*szT P l.elem<=l.size)->aN P ι (.slice (some a) n c) (.slice (some a') n c')
 |lA (a a':Addr) (c:Nat):(c=0\/c=1)->aN P ι (.slice (some a) 0 c) (.slice (some a') 0 0)
 |map (m r:Nat):ι.mp m=some r->aN P ι (.map (some m)) (.map (some r))
 |iface (t:κ) (v v':ξ):aN P ι v v'->aN P ι (.iface t v) (.iface t v')
 |agg (cs cs':ν):cs.size=cs'.size->(∀(i:Nat) v v',cs[i]?=some v->cs'[i]?=some v'->aN P ι v v')->aN P ι (.agg cs) (.agg cs')
 |tuple (cs cs':ν):cs.size=cs'.size->(∀(i:Nat) v v',cs[i]?=some v->cs'[i]?=some v'->aN P ι v v')->aN P ι (.tuple cs) (.tuple cs')
 |func (fn:Fn) (fs fs' cs cs':ν):fs.size=fs'.size->(∀(i:Nat) v v',fs[i]?=some v->fs'[i]?=some v'->aN P ι v v') ->
   cs.size=cs'.size->(∀(i:Nat) v v',cs[i]?=some v->cs'[i]?=some v'->aN P ι v v')->aN P ι (.func fn fs cs) (.func fn fs' cs')
variable {P:Program}{W0:Fz}{ι ι':eg}{h h':ab}{w w':World}
theorem pH.mono {a a':Addr}(hr:pH ι a a')(hle:ι.le ι'):pH ι' a a':=by
 obtain⟨h1,h2,l,h3,h4,h5⟩:=hr;exact⟨h1,h2,l,hle.1 _ _ h3,h4,h5⟩
theorem aN.mono {v v':ξ}(hr:aN P ι v v')(hle:ι.le ι'):aN P ι' v v':=by
 induction hr with
 |flat v hv=>exact .flat v hv
 |ptr a a' ha=>exact .ptr a a' (ha.mono hle)
 |slice a a' n c c' l h1 h2 h3 h4 h5 h6 h7 h8=>exact .slice a a' n c c' l h1 h2 (hle.1 _ _ h3) h4 h5 h6 h7 h8
 |lA a a' c hc=>exact .lA a a' c hc
 |map m r hr=>exact .map m r (hle.2 _ _ hr)
 |iface t v v' _ ih=>exact .iface t v v' ih
 |agg cs cs' hs _ ih=>exact .agg cs cs' hs ih
 |tuple cs cs' hs _ ih=>exact .tuple cs cs' hs ih
 |func fn fs fs' cs cs' hs _ hs' _ ih ih'=>exact .func fn fs fs' cs cs' hs ih hs' ih'
def bg (P:Program)(ι:eg)(l l':δ):Prop:=l.length=l'.length/\∀(i:Nat) v v',l[i]?=some v->l'[i]?=some v'->aN P ι v v'
theorem bg.mono {l l':δ}(hr:bg P ι l l')(hle:ι.le ι'):bg P ι' l l':=⟨hr.1,λi v v' a b=>(hr.2 i v v' a b).mono hle⟩
theorem bg.get {l l':δ}(hr:bg P ι l l'){i:Nat}{v:ξ}(hi:l[i]?=some v):∃v',l'[i]?=some v'/\aN P ι v v':=by
 have hlt:i<l'.length:=by
  have:=(List.getElem?_eq_some_iff.1 hi).1;have:=hr.1;omega
 exact⟨l'[i],by simp[hlt],hr.2 i v _ hi (by simp[hlt])⟩
theorem bg.nil:bg P ι [] []:=⟨rfl,by simp⟩
theorem bg.cons {v v':ξ}{l l':δ}(hv:aN P ι v v')(hl:bg P ι l l'):bg P ι (v::l) (v'::l'):=by
 refine⟨by simp[hl.1],λi u u' a b=>?_⟩;cases i with
 |zero=>simp at a b;subst a;subst b;exact hv
 |succ i=>simp at a b;exact hl.2 i u u' a b
theorem bg.cons_inv {v:ξ}{l l':δ}(hl:bg P ι (v::l) l'):∃v' m,l'=v'::m/\aN P ι v v'/\bg P ι l m:=by
 cases l' with
 |nil=>simp[bg] at hl
 |cons v' m=>exact⟨v',m,rfl,hl.2 0 v v' rfl rfl,by have:=hl.1;simp at this;exact this,λi u u' a b=>hl.2 (i+1) u u' (by simpa using a) (by simpa using b)⟩
theorem bg.append {a a' b b':δ}(ha:bg P ι a a')(hb:bg P ι b b'):bg P ι (a++b) (a'++b'):=by
 induction a generalizing a' with
 |nil=>
  have:a'=[]:=by have:=ha.1;simp at this;exact acu this.symm
  subst this;simpa using hb
 |cons v l ih=>
  grind [ha.cons_inv,bg.cons]
theorem bg.take {a a':δ}(ha:bg P ι a a')(n:Nat):bg P ι (a.take n) (a'.take n):=by
 refine⟨by simp[ha.1],λi u u' x y=>?_⟩;rw[ajT] at x y;split at x<;>simp_all;exact ha.2 i u u' x y
theorem bg.drop {a a':δ}(ha:bg P ι a a')(n:Nat):bg P ι (a.drop n) (a'.drop n):=by
 refine⟨by simp[ha.1],λi u u' x y=>?_⟩;rw[aeY] at x y;exact ha.2 _ u u' x y
theorem bg.bh {c c' vs vs':δ}(hc:bg P ι c c')(hv:bg P ι vs vs')(o:Nat):bg P ι (bh c o vs) (bh c' o vs'):=by
 unfold Ago.bh;rw[<-hv.1];exact (bg.append (hc.take o) hv).append (hc.drop _)
theorem bg.flat {l:δ}(hl:l.all dz=true):bg P ι l l:=by
 refine⟨rfl,λi u u' x y=>?_⟩;rw[x] at y;cases y;exact .flat u (List.all_eq_true.1 hl u (BY x))
theorem aN.Rp {v v':ξ}(hr:aN P ι v v')(hv:eB v=true):v'.oneCell'=true:=by
 cases hr with
 |flat v hf=>cases v<;>simp_all[dz,Value.oneCell']
 |agg=>simp[eB] at hv
 |tuple=>simp[eB] at hv
 |_=>rfl
theorem aN.of_flat {v:ξ}(hv:Ago.flat v=true):aN P ι v v:=by
 unfold Ago.flat at hv;split at hv
 .rename_i cs;exact .agg cs cs rfl λi u u' x y=>by
   rw[x] at y;cases y;exact .flat u (List.all_eq_true.1 hv u (BY (by simpa using x)))
 .rename_i vs;have:vs=#[]:=by simpa using hv
  subst this;exact .tuple _ _ rfl (by simp)
 .exact .iface _ _ _ (.flat _ hv)
 .exact .flat _ hv
theorem aN.cells {v v':ξ}(hr:aN P ι v v'):bg P ι v.cells.toList v'.cells.toList:=by
 cases hr with
 |flat v hf=>cases v<;>first|(simp[dz] at hf;done)|exact bg.cons (.flat _ hf) bg.nil
 |agg cs cs' hs hv=>exact⟨by simpa[Value.cells] using hs,λi u u' x y=>hv i u u' (by simpa[Value.cells] using x) (by simpa[Value.cells] using y)⟩
 |ptr a a' ha=>exact bg.cons (.ptr _ _ ha) bg.nil
 |slice a a' n c c' l h1 h2 h3 h4 h5 h6 h7 h8=>exact bg.cons (.slice a a' n c c' l h1 h2 h3 h4 h5 h6 h7 h8) bg.nil
 |lA a a' c hc=>exact bg.cons (.lA a a' c hc) bg.nil
 |map m r hr=>exact bg.cons (.map m r hr) bg.nil
 |iface t v v' hv=>exact bg.cons (.iface t v v' hv) bg.nil
 |tuple cs cs' hs hv=>exact bg.cons (.tuple cs cs' hs hv) bg.nil
 |func fn fs fs' cs cs' a b c d=>exact bg.cons (.func fn fs fs' cs cs' a b c d) bg.nil
def jW (P:Program)(ι:eg)(E:Env)(tmps:ν):Prop:=∀i v,E i=some v->∃v',tmps[i]?=some v'/\aN P ι v v'
theorem jW.mono {E:Env}{t:ν}(hr:jW P ι E t)(hle:ι.le ι'):jW P ι' E t:=λi v hv=>
 let ⟨v',a,b⟩:=hr i v hv
 ⟨v',a,b.mono hle⟩
theorem jW.emp {t:ν}:jW P ι Env.emp t:=λi v hv=>by simp[Env.emp] at hv
def we (P:Program)(ι:eg)(t:κ):List o6->List MapEntry->Prop
 |[],[]=>True
 |e::r,e'::r'=>e'.key=e.key/\o7 P t e.key=true/\aN P ι e.val e'.val/\e'.born=e.born/\we P ι t r r'
 |_,_=>False
theorem we.mono {t:κ}(hle:ι.le ι'):∀{es:List o6} {es':List MapEntry},we P ι t es es'->we P ι' t es es'
 |[],[],_=>trivial
 |[],_::_,h=>h.elim
 |_::_,[],h=>h.elim
 |e::r,e'::r',h=>⟨h.1,h.2.1,h.2.2.1.mono hle,h.2.2.2.1,we.mono hle h.2.2.2.2⟩
structure aat (P:Program) (W0:Fz) (ι:eg) (h:ab) (w:World):Prop where
 xq:∀m,h.used m=false->h.kZ m=none/\ι.mp m=none
 loc:∀m r,ι.mp m=some r->W0 r=none/\∃es c,w.heap[r]?=some (.map es c)
 inj:∀m m' r,ι.mp m=some r->ι.mp m'=some r->m=m'
 live:∀m x,h.kZ m=some x->∃r es',ι.mp m=some r/\w.heap[r]?=some (.map es' x.clock)/\we P ι x.kt x.es es'.toList
theorem aat.Gf (M:aat P W0 ι h w)(hm:h'.kZ=h.kZ)(hn:∀m,h'.used m=false->h.used m=false)(hle:ι.le ι')(hmp:ι'.mp=ι.mp)
  (hw:∀(r:Nat) es c,w.heap[r]?=some (.map es c)->w'.heap[r]?=some (.map es c)):aat P W0 ι' h' w':=by
 refine⟨λm hx=>?_,λm r hx=>?_,λm m' r hx hy=>?_,λm x hx=>?_⟩
 .rw[hm,hmp];exact M.xq m (hn m hx)
 .rw[hmp] at hx;obtain⟨h1,es,c,h2⟩:=M.loc m r hx;exact⟨h1,es,c,hw _ _ _ h2⟩
 .rw[hmp] at hx hy;exact M.inj m m' r hx hy
 .rw[hm] at hx;obtain⟨r,es',h1,h2,h3⟩:=M.live m x hx;exact⟨r,es',by rw[hmp];exact h1,hw _ _ _ h2,h3.mono hle⟩
theorem map_push {o:Obj}:∀(r:Nat) es c,w.heap[r]?=some (.map es c)->(w.heap.push o)[r]?=some (.map es c):=by
 grind
def Wj (F:Fz):Prop:=∀w:World,(∀i o,F i=some o->w.heap[i]?=some o)->kq w
def Lv (ι:eg)(h:ab)(k:Nat):Prop:=∃b l c g base e,ι b=some l/\l.av=k/\h.get b=some (.cells c g base e)
theorem Lv.of {k:Nat}(hv:Lv ι h' k)(hs:∀b c g base e,h'.get b=some (.cells c g base e)->∃c g base e,h.get b=some (.cells c g base e)):Lv ι h k:=by
 obtain⟨b,l,c,g,base,e,h1,h2,h3⟩:=hv;obtain⟨c,g,base,e,h4⟩:=hs b c g base e h3;exact⟨b,l,c,g,base,e,h1,h2,h4⟩
theorem Lv.to {k:Nat}(hv:Lv ι' h' k)(hs:∀b l c g base e,ι' b=some l->h'.get b=some (.cells c g base e)->l.av=k->∃c g base e,ι b=some l/\h.get b=some (.cells c g base e)):Lv ι h k:=by
 obtain⟨b,l,c,g,base,e,h1,h2,h3⟩:=hv;obtain⟨c,g,base,e,h4,h5⟩:=hs b l c g base e h1 h3 h2;exact⟨b,l,c,g,base,e,h4,h2,h5⟩
structure Rel (P:Program) (W0:Fz) (ι:eg) (h:ab) (w:World):Prop where
 na:∀i o,W0 i=some o->w.heap[i]?=some o
 xq:∀b,h.used b=false->h.get b=none/\ι b=none
 nx:∀b,h.next<=b->h.used b=false
 loc:∀b l,ι b=some l->∃cc fz,w.heap[l.av]?=some (.cells cc l.elem fz)/\cc.size=l.size /\
  (l.ro=false->W0 l.av=none/\(Lv ι h l.av->∀o,o<cc.size->(decide (fz.1<=o)&&decide (o<fz.2))=false))
 live:∀b c g base e,h.get b=some (.cells c g base e)->∃l,ι b=some l/\l.elem=e/\((g=0↔l.ro=true)/\(g=b+1->l.off=0))/\l.off+c.length<=l.size /\
  (∀i v,c[i]?=some v->∃v',w.cell? ⟨l.av,l.off+i,none⟩=some v'/\eB v=true/\aN P ι v v')
 eJ:∀b b' l l' c g base e c' g' base' e',ι b=some l->ι b'=some l'->l.ro=false->h.get b=some (.cells c g base e)->h.get b'=some (.cells c' g' base' e') ->
  l.av=l'.av->g=g'/\l.off+base'=l'.off+base
 ot:∀b c g base e,h.get b=some (.cells c g base e)->g≠0->base+c.length<=h.ot g/\h.used (g-1)=true
 os:w.os=W0.os/\w.output=W0.out
 EG:Wj W0
 mp:aat P W0 ι h w
theorem Rel.cell (R:Rel P W0 ι h w){a a':Addr}(ha:pH ι a a'){v:ξ}(hv:h.cell a=some v) :
  ∃v',w.cell? a'=some v'/\eB v=true/\aN P ι v v':=by
 unfold ab.cell at hv;split at hv
 .rename_i c g base e hg;obtain⟨l,hl,_,_,_,hc⟩:=R.live _ _ _ _ _ hg;obtain⟨_,hs,l',hl',hb,ho⟩:=ha;rw[hl] at hl';cases hl';obtain⟨v',hv',x⟩:=hc _ _ hv;refine⟨v',?_,x⟩;rw[<-hv']
  congr 1
  cases a';simp_all
 .simp at hv
theorem pH.plus {a a':Addr}(ha:pH ι a a')(n:Nat):pH ι (a.plus n) (a'.add n):=by
 obtain⟨h1,h2,l,h3,h4,h5⟩:=ha;unfold Addr.plus Addr.add;split
 .subst_vars;exact⟨rfl,h2,l,h3,h4,by simpa using h5⟩
 .exact⟨rfl,rfl,l,h3,h4,by simp[h5];omega⟩
theorem add_eq {a:Addr}(hs:a.spot=none)(n:Nat):a.add n=⟨a.block,a.off+n,none⟩:=by
 unfold Addr.add;split
 .subst_vars;cases a;simp_all
 .rfl
theorem Rel.of_heap (R:Rel P W0 ι h w)(he:w'.heap=w.heap)(ho:w'.os=w.os/\w'.output=w.output):Rel P W0 ι h w':=by
 have hc:∀a,w'.cell? a=w.cell? a:=λa=>by simp[World.cell?,he]
 exact⟨by rw[he];exact R.na,R.xq,R.nx,by rw[he];exact R.loc,by simpa only[hc] using R.live,R.eJ,R.ot,⟨ho.1.trans R.os.1,ho.2.trans R.os.2⟩,R.EG,R.mp.Gf rfl (λ_ x=>x) (.refl _) rfl λr es c hr=>by rw[he];exact hr⟩
theorem Rel.aau (R:Rel P W0 ι h w)(o:Obj):Rel P W0 ι h { w with heap:=w.heap.push o }:=by
 have hlt:∀i,i<w.heap.size->(w.heap.push o)[i]?=w.heap[i]?:=λi hi=>by rw[akp,AT (by omega)]
 have hcell:∀a v,w.cell? a=some v->World.cell? { w with heap:=w.heap.push o } a=some v:=by
  intro a v ha;have:a.block<w.heap.size:=by
   grind [World.cell?,Array.getElem?_eq_some_iff]
  grind [World.cell?]
 refine⟨λi o hi=>?_,R.xq,R.nx,λb l hl=>?_,λb c g base e hb=>?_,R.eJ,R.ot,R.os,R.EG,R.mp.Gf rfl (λ_ x=>x) (.refl _) rfl map_push⟩
 .have:=R.na i o hi
  grind
 .obtain⟨cc,fz,hh,rest⟩:=R.loc b l hl
  grind
 .obtain⟨l,h1,h2,h3,h4,h5⟩:=R.live b c g base e hb
  grind
theorem cK {α:Type}(i j:Nat)(x y:α):cond (Nat.beq i j) x y=if i=j then x else y:=by
 simp_all
def ab.ext (h:ab)(nm next':Nat)(get':Nat->Option B4)(av:B4)(tip':Nat->Nat):ab:=
 { h with get:=λj=>cond (Nat.beq j nm) (some av) (get' j),next:=next',ot:=tip',used:=λj=>cond (Nat.beq j nm) true (h.used j) }
theorem hold (R:Rel P W0 ι h w):∀b l,ι b=some l->l.av<w.heap.size:=λb l hl=>
 let ⟨_,_,hh,_⟩:=R.loc b l hl
 (Array.getElem?_eq_some_iff.1 hh).1
theorem Dd {o:Obj}:∀a v,w.cell? a=some v->World.cell? { w with heap:=w.heap.push o } a=some v:=by
 intro a v ha;have hlt:∀i,i<w.heap.size->(w.heap.push o)[i]?=w.heap[i]?:=λi hi=>by rw[akp,AT (by omega)]
 have:a.block<w.heap.size:=by
  grind [World.cell?,Array.getElem?_eq_some_iff]
 grind [World.cell?]
theorem Rel.adk (R:Rel P W0 ι h w)(nm next':Nat)(hnm:h.used nm=false)(hnx:nm<next'/\h.next<=next')(get':Nat->Option B4)(tip':Nat->Nat)(g base:Nat)(e:κ)(cs cs' extra:δ)(fz:Nat×Nat)
  (hsub:∀j av,get' j=some av->h.get j=some av) (hg:g≠0) (hgn:g=nm+1\/h.used (g-1)=true)
  (htip:∀b c g' base' e',get' b=some (.cells c g' base' e')->g'≠0->base'+c.length<=tip' g') (htipn:base+cs.length<=tip' g)
  (hfz:∀o,o<cs'.length+extra.length->(decide (fz.1<=o)&&decide (o<fz.2))=false)
  (hcs:bg P ι cs cs') (hsc:∀v∈cs,eB v=true) :
  ∃ι',ι.le ι'/\ι' nm=some ⟨w.heap.size,0,cs'.length+extra.length,e,false⟩ /\
   Rel P W0 ι' (h.ext nm next' get' (.cells cs g base e) tip') { w with heap:=w.heap.push (.cells (cs'++extra).toArray e fz) }:=by
 have hn:=(R.xq nm hnm);have hle:ι.le ⟨λb=>if b=nm then some ⟨w.heap.size,0,cs'.length+extra.length,e,false⟩ else ι b,ι.mp⟩:=by
  refine⟨λb l hl=>?_,λ_ _ x=>x⟩
  grind
 refine⟨⟨λb=>if b=nm then some ⟨w.heap.size,0,cs'.length+extra.length,e,false⟩ else ι b,ι.mp⟩,hle,by simp,?_⟩;have hlt:∀i,i<w.heap.size->(w.heap.push (.cells (cs'++extra).toArray e fz))[i]?=w.heap[i]?:=λi hi=>by rw[akp,AT (by omega)]
 have hnew:(w.heap.push (.cells (cs'++extra).toArray e fz))[w.heap.size]?=some (.cells (cs'++extra).toArray e fz):=by simp
 have hget:∀b,(h.ext nm next' get' (.cells cs g base e) tip').get b=if b=nm then some (.cells cs g base e) else get' b:=λb=>cK _ _ _ _
 have hused:∀b,(h.ext nm next' get' (.cells cs g base e) tip').used b=if b=nm then true else h.used b:=λb=>cK _ _ _ _
 have hold:=hold R;have hF:W0 w.heap.size=none:=by
  cases hq:W0 w.heap.size with
  |none=>rfl
  |some o=>have:=(Array.getElem?_eq_some_iff.1 (R.na _ o hq)).1;omega
 constructor
 .intro i o hi;have:=R.na i o hi
  grind
 .intro b hb
  replace hb:=(hused b).symm.trans hb
  by_cases h1:b=nm
  .rw[By h1] at hb;cases hb
  rw[AT h1] at hb;rw[hget];simp[h1];obtain⟨x,y⟩:=R.xq b hb;refine⟨?_,y⟩;cases hq:get' b with
  |none=>rfl
  |some av=>rw[hsub _ _ hq] at x;cases x
 .intro b hb;have hb':next'<=b:=hb
  refine (hused b).trans ?_;rw[AT (by omega)];exact R.nx b (by omega)
 .intro b l hl;by_cases hb:b=nm
  .grind
  .simp[hb] at hl;obtain⟨cc,fz',hh,q1,q2⟩:=R.loc b l hl;refine⟨cc,fz',by grind,q1,λx=>⟨(q2 x).1,λhv=>(q2 x).2 ?_⟩⟩;obtain⟨b2,l2,c2,g2,ba2,e2,p1,p2,p3⟩:=hv
   replace p1:(if b2=nm then some (⟨w.heap.size,0,cs'.length+extra.length,e,false⟩:Loc) else ι b2)=some l2:=p1
   rw[hget] at p3;by_cases hb2:b2=nm
   .grind
   .rw[AT hb2] at p1 p3;exact⟨b2,l2,c2,g2,ba2,e2,p1,p2,hsub _ _ p3⟩
 .intro b c g1 base1 e' hb;rw[hget] at hb;split at hb
  .rename_i hbn;subst hbn;simp at hb;obtain⟨rfl,rfl,rfl,rfl⟩:=hb;refine⟨⟨w.heap.size,0,cs'.length+extra.length,e,false⟩,by simp,rfl,⟨by simp[hg],λ_=>rfl⟩,by simp[hcs.1],λi v hv=>?_⟩;obtain⟨v',hv',hr⟩:=hcs.get hv;refine⟨v',?_,hsc v (BY hv),hr.mono hle⟩
   grind [List.getElem?_eq_some_iff,World.cell?]
  .rename_i hbn;obtain⟨l,h1,h2,h3,h4,h5⟩:=R.live b c g1 base1 e' (hsub _ _ hb);exact⟨l,by simp[hbn,h1],h2,h3,h4,λi v hv=>let ⟨v',a,b,d⟩:=h5 i v hv;⟨v',Dd _ _ a,b,d.mono hle⟩⟩
 .intro b b' l l' c g1 base1 e1 c' g' base' e1' hl hl' hro hb hb' hbl;rw[hget] at hb hb';by_cases x:b=nm<;>by_cases y:b'=nm
  .grind
  .grind
  .grind
  .simp[x] at hl hb;simp[y] at hl' hb';exact R.eJ b b' l l' c g1 base1 e1 c' g' base' e1' hl hl' hro (hsub _ _ hb) (hsub _ _ hb') hbl
 .intro b c g1 base1 e1 hb hg1;rw[hget] at hb;split at hb
  .simp at hb;obtain⟨rfl,rfl,rfl,rfl⟩:=hb;refine⟨htipn,(hused _).trans ?_⟩
   grind
  .refine⟨htip b c g1 base1 e1 hb hg1,(hused _).trans ?_⟩;have:=(R.ot b c g1 base1 e1 (hsub _ _ hb) hg1).2;split
   .rfl
   .exact this
 .exact R.os
 .exact R.EG
 .exact R.mp.Gf rfl (λm hm=>by
   grind) hle rfl map_push
theorem Rel.put (R:Rel P W0 ι h w)(nm next':Nat)(hnm:h.used nm=false)(hnx:nm<next'/\h.next<=next')(e:κ)(cs cs' extra:δ)(fz:Nat×Nat)
  (hfz:∀o,o<cs'.length+extra.length->(decide (fz.1<=o)&&decide (o<fz.2))=false)
  (hcs:bg P ι cs cs') (hsc:∀v∈cs,eB v=true) :
  ∃ι',ι.le ι'/\ι' nm=some ⟨w.heap.size,0,cs'.length+extra.length,e,false⟩ /\
   Rel P W0 ι' (h.cS nm next' e cs) { w with heap:=w.heap.push (.cells (cs'++extra).toArray e fz) }:=by
 have htip:∀g,(h.cS nm next' e cs).ot g=if g=nm+1 then cs.length else h.ot g:=λg=>cK _ _ _ _
 have he:h.cS nm next' e cs=h.ext nm next' h.get (.cells cs (nm+1) 0 e) (h.cS nm next' e cs).ot:=by simp[ab.cS,ab.ext]
 rw[he];exact R.adk nm next' hnm hnx h.get (h.cS nm next' e cs).ot (nm+1) 0 e cs cs' extra fz (λ_ _ x=>x) (by omega) (.inl rfl)
  (λb c g' base' e' hb hg'=>by
   obtain⟨h1,h2⟩:=R.ot b c g' base' e' hb hg'
   grind) (by rw[htip];simp) hfz hcs hsc
theorem Rel.unused (R:Rel P W0 ι h w):h.used h.next=false:=R.nx _ (aae _)
theorem Rel.new (R:Rel P W0 ι h w)(e:κ)(cs cs' extra:δ)(fz:Nat×Nat)
  (hfz:∀o,o<cs'.length+extra.length->(decide (fz.1<=o)&&decide (o<fz.2))=false)
  (hcs:bg P ι cs cs') (hsc:∀v∈cs,eB v=true) :
  ∃ι',ι.le ι'/\ι' h.next=some ⟨w.heap.size,0,cs'.length+extra.length,e,false⟩ /\
   Rel P W0 ι' (h.new e cs) { w with heap:=w.heap.push (.cells (cs'++extra).toArray e fz) }:=
 R.put h.next (h.next+1) R.unused ⟨by omega,by omega⟩ e cs cs' extra fz hfz hcs hsc
theorem Rel.eU (R:Rel P W0 ι h w)(n:Nat):Rel P W0 ι { h with next:=h.next+n } w:=
 ⟨R.na,R.xq,λb hb=>R.nx b (by simp only at hb;omega),R.loc,R.live,R.eJ,R.ot,R.os,R.EG,R.mp.Gf rfl (λ_ x=>x) (.refl _) rfl λ_ _ _ x=>x⟩
theorem Gg (g:Nat)(cs na:ν)(t:κ)(fr:Nat×Nat)(hg:w.heap[g]?=some (.cells na t fr))(i:Nat) :
  (w.setRow g cs).heap[i]?=if i=g then some (.cells cs t fr) else w.heap[i]?:=by
 split
 .rename_i hi;subst hi;exact setRow_heap w i na cs t fr hg
 .rename_i hi;simp only[World.setRow]
  grind
theorem Rel.write (R:Rel P W0 ι h w)(get':Nat->Option B4)(av:Nat)(size:Nat)(elem:κ)(cc cc':ν)(fz:Nat×Nat)
  (hW:W0 av=none) (hcc:w.heap[av]?=some (.cells cc elem fz)) (hsz:cc'.size=cc.size)
  (hdom:∀b,h.used b=false->get' b=none)
  (hlive:∀b c g base e,get' b=some (.cells c g base e)->∃g0 c0,h.get b=some (.cells c0 g0 base e)/\g=g0/\c.length=c0.length /\
   (∀l,ι b=some l->l.av≠av->c=c0) /\
   (∀l,ι b=some l->l.av=av->∀i v,c[i]?=some v->∃v',cc'[l.off+i]?=some v'/\eB v=true/\aN P ι v v')) :
  Rel P W0 ι { h with get:=get' } (w.setRow av cc'):=by
 have hget:=Gg av cc' cc elem fz hcc;have hss:∀b c g base e,get' b=some (.cells c g base e)->∃c g base e,h.get b=some (.cells c g base e):=λb c g base e hb=>
  let ⟨g0,c0,h0,_⟩:=hlive b c g base e hb
  ⟨c0,g0,base,e,h0⟩
 constructor
 .intro i o hi;rw[hget,AT (λe=>by rw[e,hW] at hi;cases hi)];exact R.na i o hi
 .intro b hb;exact⟨hdom b hb,(R.xq b hb).2⟩
 .exact R.nx
 .intro b l hl;obtain⟨c1,fz1,hh,h1,h2⟩:=R.loc b l hl;by_cases hb:l.av=av
  .rw[hb,hcc] at hh;cases hh;exact⟨cc',fz,by rw[hget,By hb],by omega,λx=>⟨(h2 x).1,λhv o ho=>(h2 x).2 (hv.of hss) o (by omega)⟩⟩
  .exact⟨c1,fz1,by rw[hget,AT hb];exact hh,h1,λx=>⟨(h2 x).1,λhv=>(h2 x).2 (hv.of hss)⟩⟩
 .intro b c g base e hb;obtain⟨g0,c0,h0,rfl,hlen,hk,hwr⟩:=hlive b c g base e hb;obtain⟨l,h1,h2,h3,h4,h5⟩:=R.live b c0 g base e h0;refine⟨l,h1,h2,h3,by omega,λi v hv=>?_⟩;by_cases hbl:l.av=av
  .obtain⟨v',x,y⟩:=hwr l h1 hbl i v hv;exact⟨v',by simp only[World.cell?];rw[hget,By hbl];simpa using x,y⟩
  .have:=hk l h1 hbl;subst this;obtain⟨v',x,y⟩:=h5 i v hv;exact⟨v',by simp only[World.cell?] at x⊢;rw[hget,AT hbl];exact x,y⟩
 .intro b b' l l' c g base e c' g' base' e' hl hl' hro hb hb' hbl;obtain⟨g0,c0,h0,rfl,_⟩:=hlive b c g base e hb;obtain⟨g0',c0',h0',rfl,_⟩:=hlive b' c' g' base' e' hb';exact R.eJ b b' l l' c0 g base e c0' g' base' e' hl hl' hro h0 h0' hbl
 .intro b c g base e hb hg;obtain⟨g0,c0,h0,rfl,hlen,_⟩:=hlive b c g base e hb;have:=R.ot b c0 g base e h0 hg;exact⟨by simp only;omega,this.2⟩
 .exact R.os
 .exact R.EG
 .refine R.mp.Gf rfl (λ_ x=>x) (.refl _) rfl λr es c hr=>?_
  grind
theorem mZ (c vs:δ)(o:Nat)(hf:o+vs.length<=c.length):(bh c o vs).length=c.length:=by
 simp[bh];omega
theorem rS (c vs:δ)(o i:Nat)(hf:o+vs.length<=c.length):(bh c o vs)[i]? =
  if i<o then c[i]? else if i<o+vs.length then vs[i-o]? else c[i]?:=by
 unfold bh;rw[ajs,ajs]
 grind
theorem Rel.sW (R:Rel P W0 ι h w){b:Nat}{c:δ}{g base:Nat}{e:κ}(hb:h.get b=some (.cells c g base e))(hg:g≠0)
  {l:Loc} (hl:ι b=some l) {cc:ν} {fz:Nat×Nat} (hcc:w.heap[l.av]?=some (.cells cc l.elem fz)) {o:Nat} {vs vs':δ}
  (hfit:o+vs.length<=c.length) (hv:bg P ι vs vs') (hsc:∀v∈vs,eB v=true) :
  Rel P W0 ι (h.sW b (bh c o vs) g base e) (w.setRow l.av (bh cc.toList (l.off+o) vs').toArray):=by
 obtain⟨l0,e1,e2,e3,e4,e5⟩:=R.live b c g base e hb;rw[hl] at e1;cases e1;obtain⟨c1,fz1,hh,h1,h2⟩:=R.loc b l hl;rw[hcc] at hh;cases hh;have hro:l.ro=false:=by grind
 have hlen:l.off+o+vs'.length<=cc.toList.length:=by have:=hv.1;simp;omega
 have hupd:∀j,(h.sW b (bh c o vs) g base e).get j=if j=b then some (.cells (bh c o vs) g base e) else (match h.get j with
   |some (.cells c' g' base' elem')=>if g'=g then none else some (.cells c' g' base' elem')
   |o=>o):=by
  intro j;show cond (Nat.beq j b) _ _=_;rw[cK];split
  .rfl
  .cases h.get j with
   |none=>rfl
   |some av=>cases av<;>simp[cK]
 refine R.write _ l.av l.size l.elem cc _ fz (h2 hro).1 hcc (by simp[mZ _ _ _ hlen]) ?_ ?_
 .intro j hj;have hjb:j≠b:=λx=>by have:=(R.xq j hj).1;rw[x,hb] at this;cases this
  have:=hupd j;rw[AT hjb,(R.xq j hj).1] at this;exact this
 .intro j c2 g2 base2 e2' hj
  replace hj:=(hupd j).symm.trans hj
  by_cases hjb:j=b
  .subst hjb;simp at hj;obtain⟨rfl,rfl,rfl,rfl⟩:=hj;refine⟨g,c,hb,rfl,mZ _ _ _ hfit,λl2 hl2 hne=>?_,λl2 hl2 _ i v hi=>?_⟩
   .rw[hl] at hl2;cases hl2;exact absurd rfl hne
   .rw[hl] at hl2;cases hl2;rw[rS _ _ _ _ hfit] at hi;have hs:=rS cc.toList vs' (l.off+o) (l.off+i) hlen;simp only[aj9,hs];have hvl:=hv.1;by_cases x:i<o
    .rw[By x] at hi;obtain⟨v',y,z⟩:=e5 i v hi;refine⟨v',?_,z⟩;rw[By (by omega)];simpa[World.cell?,hcc] using y
    .rw[AT x] at hi;by_cases x2:i<o+vs.length
     .rw[By x2] at hi;obtain⟨v',y,z⟩:=hv.get hi
      grind
     .rw[AT x2] at hi;obtain⟨v',y,z⟩:=e5 i v hi;refine⟨v',?_,z⟩;rw[AT (by omega),AT (by omega)];simpa[World.cell?,hcc] using y
  .rw[AT hjb] at hj;cases hq:h.get j with
   |none=>rw[hq] at hj;simp at hj
   |some bl=>
    rw[hq] at hj;cases bl with
    |map=>simp at hj
    |iter=>simp at hj
    |cells c' g' base' elem'=>
     simp only at hj;split at hj
     .simp at hj
     .rename_i hgg;simp at hj;obtain⟨rfl,rfl,rfl,rfl⟩:=hj;refine⟨g',c',rfl,rfl,rfl,λ_ _ _=>rfl,λl2 hl2 hbl=>?_⟩;exact absurd ((R.eJ b j l l2 c g base e c' g' base' elem' hl hl2 hro hb hq hbl.symm).1.symm) hgg
theorem Rel.aav (R:Rel P W0 ι h w)(nl:Loc)(hro:nl.ro=false)(hW:W0 nl.av=none){cc:ν}{fz:Nat×Nat}(hcc:w.heap[nl.av]?=some (.cells cc nl.elem fz))(hsz:cc.size=nl.size)
  (hfz:∀o,o<cc.size->(decide (fz.1<=o)&&decide (o<fz.2))=false) (g base:Nat) (cs:δ) (tip':Nat->Nat)
  (hcells:∀(i:Nat) v,cs[i]?=some v->∃v',w.cell? ⟨nl.av,nl.off+i,none⟩=some v'/\eB v=true/\aN P ι v v') (hfit:nl.off+cs.length<=nl.size)
  (hal:∀b l c g' base' e',ι b=some l->h.get b=some (.cells c g' base' e')->l.av=nl.av->g'=g/\l.off+base=nl.off+base')
  (hg:g≠0) (hgn:h.used (g-1)=true)
  (htip:∀b c g' base' e',h.get b=some (.cells c g' base' e')->g'≠0->base'+c.length<=tip' g') (htipn:base+cs.length<=tip' g) :
  ∃ι',ι.le ι'/\ι' h.next=some nl/\Rel P W0 ι' (h.ext h.next (h.next+1) h.get (.cells cs g base nl.elem) tip') w:=by
 have hn:=(R.xq h.next R.unused)
 have hle:ι.le ⟨λb=>if b=h.next then some nl else ι b,ι.mp⟩:=by
  refine⟨λb l hl=>?_,λ_ _ x=>x⟩
  grind
 refine⟨⟨λb=>if b=h.next then some nl else ι b,ι.mp⟩,hle,by simp,?_⟩
 have hget:∀b,(h.ext h.next (h.next+1) h.get (.cells cs g base nl.elem) tip').get b=if b=h.next then some (.cells cs g base nl.elem) else h.get b:=λb=>cK _ _ _ _
 have hused:∀b,(h.ext h.next (h.next+1) h.get (.cells cs g base nl.elem) tip').used b=if b=h.next then true else h.used b:=λb=>cK _ _ _ _
 constructor
 .exact R.na
 .intro b hb
  replace hb:=(hused b).symm.trans hb
  by_cases h1:b=h.next
  .rw[By h1] at hb;cases hb
  rw[AT h1] at hb;rw[hget];simp[h1];exact R.xq b hb
 .intro b hb;have hb':h.next+1<=b:=hb
  refine (hused b).trans ?_;rw[AT (by omega)];exact R.nx b (by omega)
 .intro b l hl;by_cases hb:b=h.next
  .grind
  .simp[hb] at hl;obtain⟨c1,fz1,hh,q1,q2⟩:=R.loc b l hl;refine⟨c1,fz1,hh,q1,λx=>⟨(q2 x).1,λhv=>?_⟩⟩;by_cases hk:l.av=nl.av
   .grind
   .refine (q2 x).2 ?_;obtain⟨b2,l2,c2,g2,ba2,e2,p1,p2,p3⟩:=hv
    replace p1:(if b2=h.next then some nl else ι b2)=some l2:=p1
    rw[hget] at p3;by_cases hb2:b2=h.next
    .rw[By hb2] at p1;cases p1;exact absurd p2.symm hk
    .rw[AT hb2] at p1 p3;exact⟨b2,l2,c2,g2,ba2,e2,p1,p2,p3⟩
 .intro b c g1 base1 e' hb;rw[hget] at hb;split at hb
  .rename_i hbn;subst hbn;simp at hb;obtain⟨rfl,rfl,rfl,rfl⟩:=hb;exact⟨nl,by simp,rfl,⟨by simp[hg,hro],λx=>by rw[x,Nat.add_sub_cancel,R.unused] at hgn;cases hgn⟩,hfit,λi v hv=>let ⟨v',a,b,d⟩:=hcells i v hv;⟨v',a,b,d.mono hle⟩⟩
  .rename_i hbn;obtain⟨l,h1,h2,h3,h4,h5⟩:=R.live b c g1 base1 e' hb;exact⟨l,by simp[hbn,h1],h2,h3,h4,λi v hv=>let ⟨v',a,b,d⟩:=h5 i v hv;⟨v',a,b,d.mono hle⟩⟩
 .intro b b' l l' c g1 base1 e1 c' g' base' e1' hl hl' hlro hb hb' hbl;rw[hget] at hb hb';by_cases x:b=h.next<;>by_cases y:b'=h.next
  .grind
  .grind
  .grind
  .simp[x] at hl hb;simp[y] at hl' hb';exact R.eJ b b' l l' c g1 base1 e1 c' g' base' e1' hl hl' hlro hb hb' hbl
 .intro b c g1 base1 e1 hb hg1;rw[hget] at hb;split at hb
  .simp at hb;obtain⟨rfl,rfl,rfl,rfl⟩:=hb;refine⟨htipn,(hused _).trans ?_⟩;split
   .rfl
   .exact hgn
  .refine⟨htip b c g1 base1 e1 hb hg1,(hused _).trans ?_⟩;have:=(R.ot b c g1 base1 e1 hb hg1).2;split
   .rfl
   .exact this
 .exact R.os
 .exact R.EG
 .exact R.mp.Gf rfl (λm hm=>by
   grind) hle rfl λ_ _ _ x=>x
def Rq (F F':Fz):Prop:=(∀b o,F b=some o->F' b=some o)/\F'.os=F.os/\F'.out=F.out/\F'.MI=F.MI
theorem Rq.refl (F:Fz):Rq F F:=⟨λ_ _ x=>x,rfl,rfl,rfl⟩
theorem Rq.trans {a b c:Fz}(x:Rq a b)(y:Rq b c):Rq a c:=⟨λi o q=>y.1 i o (x.1 i o q),y.2.1.trans x.2.1,y.2.2.1.trans x.2.2.1,y.2.2.2.trans x.2.2.2⟩
theorem Rel.shrink {F:Fz}(R:Rel P W0 ι h w)(hF:Rq F W0)(hlib:Wj F):Rel P F ι h w:=by
 refine⟨λi o hi=>R.na i o (hF.1 i o hi),R.xq,R.nx,λb l hl=>?_,R.live,R.eJ,R.ot,⟨R.os.1.trans hF.2.1,R.os.2.trans hF.2.2.1⟩,hlib,⟨R.mp.xq,λm r hm=>⟨?_,(R.mp.loc m r hm).2⟩,R.mp.inj,R.mp.live⟩⟩
 .obtain⟨cc,fz,q1,q2,q3⟩:=R.loc b l hl;refine⟨cc,fz,q1,q2,λx=>⟨?_,(q3 x).2⟩⟩;cases hq:F l.av with
  |none=>rfl
  |some o=>have:=hF.1 _ _ hq;rw[(q3 x).1] at this;cases this
 .cases hq:F r with
  |none=>rfl
  |some o=>have:=hF.1 _ _ hq;rw[(R.mp.loc m r hm).1] at this;cases this
def aaw (F:Fz)(b:Nat)(o:Obj):Fz:={ F with get:=λi=>if i=b then some o else F i }
theorem Rel.aax (R:Rel P W0 ι h w){b:Nat}{o:Obj}(hb:w.heap[b]?=some o)(hne:∀n l,ι n=some l->l.av≠b)(hnm:∀m r,ι.mp m=some r->r≠b):Rel P (aaw W0 b o) ι h w:=by
 refine⟨λi o' hi=>?_,R.xq,R.nx,λn l hl=>?_,R.live,R.eJ,R.ot,R.os,λw1 hw1=>R.EG w1 λi o' hi=>?_,⟨R.mp.xq,λm r hm=>⟨?_,(R.mp.loc m r hm).2⟩,R.mp.inj,R.mp.live⟩⟩
 .replace hi:(if i=b then some o else W0 i)=some o':=hi
  split at hi
  .rename_i e;subst e;cases hi;exact hb
  .exact R.na i o' hi
 .obtain⟨cc,fz,q1,q2,q3⟩:=R.loc n l hl;exact⟨cc,fz,q1,q2,λx=>⟨by show (if l.av=b then some o else W0 l.av)=none;rw[AT (hne n l hl)];exact (q3 x).1,(q3 x).2⟩⟩
 .by_cases hib:i=b
  .subst hib;have h1:=R.na i o' hi;rw[hb] at h1;refine hw1 i o' ?_;show (if i=i then some o else W0 i)=some o';rw[By rfl];exact h1
  .refine hw1 i o' ?_;show (if i=b then some o else W0 i)=some o';rw[AT hib];exact hi
 .show (if r=b then some o else W0 r)=none;rw[AT (hnm m r hm)];exact (R.mp.loc m r hm).1
theorem Rq.add {F:Fz}{b:Nat}{o:Obj}(hn:F b=none):Rq F (aaw F b o):=⟨λi o' hi=>by
 show (if i=b then some o else F i)=some o'
 grind,rfl,rfl,rfl⟩
theorem Rel.df {F:Fz}(R:Rel P F ι h w)(D:List Deferred):Rel P { F with MI:=D } ι h w:=⟨R.na,R.xq,R.nx,R.loc,R.live,R.eJ,R.ot,R.os,R.EG,⟨R.mp.xq,R.mp.loc,R.mp.inj,R.mp.live⟩⟩
end Go.Ago
