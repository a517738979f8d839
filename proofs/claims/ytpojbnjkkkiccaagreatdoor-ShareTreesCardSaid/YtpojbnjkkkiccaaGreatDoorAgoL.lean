
import Derived.Test.YtpojbnjkkkiccaaGreatDoorAgoI
set_option linter.all false
namespace Go.Ago
open Go Go.RowKit
variable {P:Program}{F:Fz}{ι ι':gO}{h h' h1:ai}{w w':World}
def Rel.below (R:Rel P F ι h w)(hb:Below w.heap.size w w'):Rel P F ι h w':=by
 have hlt:∀(i:Nat) o,w.heap[i]?=some o->w'.heap[i]?=some o:=λi o hi=>by
  rw[hb.block i (Array.getElem?_eq_some_iff.1 hi).1];exact hi
 have hcell:∀a v,w.cell? a=some v->w'.cell? a=some v:=by
  intro a v ha;unfold World.cell? at ha⊢;split at ha
  .rename_i hh;rw[hlt _ _ hh];exact ha
  .cases ha
 refine⟨λi o hi=>hlt i o (R.lA i o hi),R.zN,R.nx,λb l hl=>?_,λb c g base e hb'=>?_,R.jo,R.qI,⟨hb.os.trans R.os.1,hb.output.trans R.os.2⟩,R.GL,R.mp.Da rfl (λ_ x=>x) (.refl _) rfl λr es c hr=>hlt _ _ hr⟩
 .obtain⟨cc,fz,q1,q2⟩:=R.loc b l hl;exact⟨cc,fz,hlt _ _ q1,q2⟩
 .obtain⟨l,q1,q2,q3,q4,q5⟩:=R.live b c g base e hb';exact⟨l,q1,q2,q3,q4,λi v hv=>let ⟨v',a,b⟩:=q5 i v hv;⟨v',hcell _ _ a,b⟩⟩
def opq:M Nat:=λh=>some (h.next,{ h with next:=h.next+1,used:=λj=>cond (Nat.beq j h.next) true (h.used j) })
theorem Rel.opq (R:Rel P F ι h w){N}{cc}{el}{fz}(hN:w.heap[N]?=some (.cells cc el fz)) :
  ∃ι',ι.le ι'/\ι' h.next=some ⟨N,0,cc.size,el,true⟩/\Rel P F ι' { h with next:=h.next+1,used:=λj=>cond (Nat.beq j h.next) true (h.used j) } w:=by
 have hn:=R.zN h.next (R.nx _ (abi _))
 have hle:ι.le ⟨λb=>if b=h.next then some ⟨N,0,cc.size,el,true⟩ else ι b,ι.mp⟩:=by
  refine⟨λb l hl=>?_,λ_ _ x=>x⟩;have:b≠h.next:=λhe=>by rw[he,hn.2] at hl;cases hl
  simp[this,hl]
 refine⟨_,hle,by simp,?_⟩;constructor
 .exact R.lA
 .intro b hb;simp only[bf] at hb;by_cases h1:b=h.next
  .rw[By h1] at hb;cases hb
  .rw[AT h1] at hb;simp[h1];exact R.zN b hb
 .intro b hb;simp at hb;simp only[bf];rw[AT (by omega)];exact R.nx b (by omega)
 .intro b l hl;by_cases h1:b=h.next
  .simp[h1] at hl;subst hl;exact⟨cc,fz,hN,rfl,λh=>by cases h⟩
  .simp[h1] at hl;obtain⟨c1,f1,q1,q2,q3⟩:=R.loc b l hl;refine⟨c1,f1,q1,q2,λx=>⟨(q3 x).1,λhv=>(q3 x).2 (hv.to λb2 l2 c g base e p1 p2 _=>?_)⟩⟩;have p2:h.get b2=some (.cells c g base e):=p2;have n1:b2≠h.next:=λhe=>by rw[he,hn.1] at p2;cases p2
   simp[n1] at p1;exact⟨c,g,base,e,p1,p2⟩
 .intro b c g base e hb;obtain⟨l,q1,q2,q3,q4,q5⟩:=R.live b c g base e hb;exact⟨l,hle.1 _ _ q1,q2,q3,q4,λi v hv=>let ⟨v',a,b⟩:=q5 i v hv;⟨v',a,b.1,b.2.mono hle⟩⟩
 .intro b b' l l' c g base e c' g' base' e' hl hl' hro hb hb' hbl;have n1:b≠h.next:=λhe=>by rw[he,hn.1] at hb;cases hb
  have n2:b'≠h.next:=λhe=>by rw[he,hn.1] at hb';cases hb'
  simp[n1] at hl;simp[n2] at hl';exact R.jo b b' l l' c g base e c' g' base' e' hl hl' hro hb hb' hbl
 .intro b c g base e hb hg;obtain⟨q1,q2⟩:=R.qI b c g base e hb hg;refine⟨q1,?_⟩;simp only[bf];split
  .rfl
  .exact q2
 .exact R.os
 .exact R.GL
 .exact R.mp.Da rfl (λm hm=>by
   simp only[bf] at hm;split at hm
   .cases hm
   .exact hm) hle rfl λ_ _ _ x=>x
theorem aW.M9 {l l'}(hl:aW P ι l l')(hf:l.all dO=true):l'=l:=by
 apply amv;intro i;by_cases hi:i<l.length
 .have hi':i<l'.length:=by rw[<-hl.1];exact hi
  have h1:=hl.2 i l[i] l'[i] (aci hi) (aci hi');have hfi:dO l[i]=true:=List.all_eq_true.1 hf _ (anJ hi);rw[aci hi,aci hi'];generalize l[i]=v at *
  generalize l'[i]=v' at *
  cases h1<;>first|rfl|simp[dO] at hfi
 .have hlen:=hl.1;rw[ahW (by omega),ahW (by omega)]
def aW.mw {l}{vs}(hl:aW P ι l vs.toList)(hf:l.all dO=true):vs=l.toArray:=by
 rw[<-aW.M9 hl hf]
def kY {f}{vs}{v}(R:Rel P F ι h w)(hv:aN P ι v v)(hc:Calls P f vs w λe w'=>e=.returned v/\Below w.heap.size w w') :
  Calls P f vs w λe w'=>∃v' ι',e=.returned v'/\aN P ι' v v'/\Rel P F ι' h w'/\ι.le ι':=
 hc.mono λ_ _ hx=>⟨v,ι,hx.1,hv,R.below hx.2,.refl _⟩
end Go.Ago
