
import Derived.Test.YtmfkngdglbcngaaGreatDoorAgoZ
set_option linter.all false
namespace Go.Ago
open Go
variable {α β:Type}{h h1 h' h0:af}{k:Nat}
def Lp (k:Nat)(m:M α)(h:af)(Q:α->af->Prop):Prop:=Wp m h λx h1=>BP k m h x h1/\Q x h1
theorem Lp.mY {m:M α}{f:α->M β}{Q:β->af->Prop}(hm:Lp k m h λx h1=>Wp (f x) h1 Q):Wp (sh (Ago.mY [none] (B7 k m)) f) h Q:=by
 rw[ah];refine yq (YA (hm.mono λx h' hx=>⟨hx.1,λa ha=>?_,hx.2⟩));simp at ha
theorem Lp.bind {m:M α}{f:α->M β}{Q:β->af->Prop}(hm:Lp k m h λx h1=>Lp k (f x) h1 Q):Lp k (sh m f) h Q:=by
 obtain⟨x,h1,e1,b1,y,h2,e2,b2,q⟩:=hm;refine⟨y,h2,by simp only[sh,e1,e2],λh0 t cs f1 f2 f3 e=>?_,q⟩;obtain⟨h3,q1,q2,q3,q4,q5⟩:=b1 h0 t cs f1 f2 f3 e;obtain⟨h4,r1,r2,r3,r4,r5⟩:=b2 h3 t cs q2 q3 q4 q5
 grind [sh]
theorem Lp.pure {x:α}{Q:α->af->Prop}(q:Q x h):Lp k (AI x) h Q:=
 ⟨x,h,rfl,λh0 t cs f1 f2 f3 e=>⟨h0,rfl,f1,f2,f3,e⟩,q⟩
theorem Lp.of {m:M α}{Q:α->af->Prop}(hw:Wp m h Q)(hl:∀x h1,m h=some (x,h1)->BP k m h x h1):Lp k m h Q:=by
 obtain⟨x,h1,e,q⟩:=hw;exact⟨x,h1,e,hl x h1 e,q⟩
theorem Lp.step {m:M α}{f:α->M β}{Q:β->af->Prop}(hw:Wp (sh m AI) h λx h1=>Lp k (f x) h1 Q)(hl:∀x h1,m h=some (x,h1)->BP k m h x h1):Lp k (sh m f) h Q:=by
 refine Lp.bind (Lp.of ?_ hl);rw[ah] at hw;exact hw.mono λx h' hx=>by rw[ag] at hx;exact hx
theorem J9 {t:κ}{cs:δ}{n j:Nat}(hj:j≠k):(h.dA k n t cs).get j=h.get j:=gh hj
theorem BP.pm {m:M α}(hp:Pm m){x:α}(hx:m h=some (x,h1)):BP k m h x h1:=λh0 t cs f1 f2 f3 e=>by
 obtain⟨e1,e2⟩:=hp h x h1 hx;exact⟨h0,e2 h0,f1,f2,f3,e1.trans e⟩
theorem BP.rm {m:M α}{a:θ}(hp:Rm a m)(ha:∀b,a=some b->b.block≠k){x:α}(hx:m h=some (x,h1)):BP k m h x h1:=λh0 t cs f1 f2 f3 e=>by
 obtain⟨e1,e2⟩:=hp h x h1 hx
 grind [J9]
theorem Y9 {t e:κ}{cs c:δ}(hk:k<h0.next):(h0.dA k h0.next t cs).new e c=(h0.new e c).dA k (h0.new e c).next t cs:=by
 have hne:k≠h0.next:=by omega
 unfold af.new af.dA;simp only[af.mk.injEq,ag8,and_true];refine⟨?_,?_,?_⟩
 .funext j;cases q1:Nat.beq j h0.next
  .rfl
  .have e1:=aab q1;subst e1;simp[bD (Ne.symm hne)]
 .funext j;cases q1:Nat.beq j (h0.next+1)
  .rfl
  .have e1:=aab q1;subst e1;simp[bD (show h0.next+1≠k+1 by omega)]
 .funext j;cases q1:Nat.beq j h0.next<;>simp
theorem BP.aM {e:κ}{c:δ}{x:Nat}(hx:Ago.aM none e c h=some (x,h1)):BP k (Ago.aM none e c) h x h1:=λh0 t cs f1 f2 f3 eh=>by
 unfold Ago.aM at hx⊢;split at hx
 .rename_i hs;rw[AT hs];subst eh;simp only[abG,afr] at hx;obtain⟨rfl,rfl⟩:=hx;refine⟨h0.new e c,rfl,?_,?_,?_,Y9 f2⟩
  .simp only[af.new,af.dA,bD (show k≠h0.next by omega),af5];exact f1
  .show k<h0.next+1;omega
  .rw[af.new,gh (by omega)];exact f3
 .cases hx
theorem BP.vS {e:κ}{z:δ}{l c:Int}{x:Sl}(hx:Ago.vS none e z l c h=some (x,h1)):BP k (Ago.vS none e z l c) h x h1:=λh0 t cs f1 f2 f3 eh=>by
 unfold Ago.vS at hx⊢;split at hx
 .rename_i hc;rw[AT hc];split at hx
  .rename_i b h2 hb;obtain⟨h3,q1,q2,q3,q4,q5⟩:=BP.aM (k:=k) hb h0 t cs f1 f2 f3 eh;cases hx;exact⟨h3,by rw[q1],q2,q3,q4,q5⟩
  .cases hx
 .cases hx
theorem BP.bF {a:Addr}{vs:δ}(ha:a.block≠k)(hg:∀c g base e,h.get a.block=some (.cells c g base e)->g≠k+1){x:Unit}(hx:Ago.bF a vs h=some (x,h1)):BP k (Ago.bF a vs) h x h1:=λh0 t cs f1 f2 f3 eh=>by
 unfold Ago.bF at hx⊢;have e1:h0.get a.block=h.get a.block:=by rw[eh,J9 ha]
 split at hx
 .rename_i c g base e hgt;have hgk:=hg c g base e hgt;rw[e1,hgt];simp only;split at hx
  .rename_i hc;rw[AT hc];cases hx;have hnone:(h0.sr a.block (bf c a.off vs) g base e).get k=none:=by simp[af.sr,bD (Ne.symm ha),f3]
   refine⟨_,rfl,f1,f2,hnone,?_⟩;subst eh;unfold af.dA af.sr;simp only[af.mk.injEq,ag8,and_true];funext q;cases q1:Nat.beq q k
   .cases q2:Nat.beq q a.block<;>simp[q1]
   .have:=aab q1;subst this;simp[bD (Ne.symm ha),bD (Ne.symm hgk)]
  .cases hx
 .cases hx
theorem HV {a:θ}{n m:Nat}{t:κ}{cs:δ}(ha:∀b,a=some b->b.block≠k):aU (h0.dA k m t cs) a n=aU h0 a n:=by
 unfold aU;cases a with
 |none=>rfl
 |some b=>simp only[J9 (ha b rfl)]
theorem BP.xB {d s:Sl}{sz:Nat}(hs:∀b,s.a=some b->b.block≠k)(hd:∀b,d.a=some b->b.block≠k/\∀c g base e,h.get b.block=some (.cells c g base e)->g≠k+1){x:Nat}(hx:Ago.xB d s sz h=some (x,h1)) :
  BP k (Ago.xB d s sz) h x h1:=λh0 t cs f1 f2 f3 eh=>by
 unfold Ago.xB at hx⊢;have e1:aU h0 s.a (Nat.min s.len d.len*sz)=aU h s.a (Nat.min s.len d.len*sz):=by rw[eh,HV hs]
 rw[e1];split at hx
 .grind
 .rename_i c hn hc;split at hx
  .cases hx
  .rename_i a ha;split at hx
   .rename_i u h2 hst;cases hx;obtain⟨h3,q1,q2,q3,q4,q5⟩:=BP.bF (hd a ha).1 (hd a ha).2 hst h0 t cs f1 f2 f3 eh
    grind
   .cases hx
 .cases hx
theorem BP.GP {s:Sl}{sz:Nat}(hs:∀b,s.a=some b->b.block≠k){x:δ}(hx:Ago.GP s sz h=some (x,h1)):BP k (Ago.GP s sz) h x h1:=λh0 t cs f1 f2 f3 eh=>by
 unfold Ago.GP at hx⊢;rw[show aU h0 s.a (s.len*sz)=aU h s.a (s.len*sz) by rw[eh,HV hs]]
 grind
theorem BP.aN {a:Addr}{ls:List eN}(ha:a.block≠k){x:bS ls}(hx:Ago.aN ls a h=some (x,h1)):BP k (Ago.aN ls a) h x h1:=
 BP.rm (Rm.aN ls a) (λb hb=>by cases hb;exact ha) hx
theorem BP.ar {a:Addr}{l:eN}(ha:a.block≠k){x:l.den}(hx:Ago.ar l a h=some (x,h1)):BP k (Ago.ar l a) h x h1:=
 BP.rm (Rm.ar l a a rfl) (λb hb=>by cases hb;exact ha) hx
theorem Lp.wp {m:M α}{Q:α->af->Prop}(hm:Lp k m h Q):Wp m h Q:=hm.mono λ_ _ x=>x.2
theorem Lp.mono {m:M α}{Q Q':α->af->Prop}(hm:Lp k m h Q)(hq:∀x h',Q x h'->Q' x h'):Lp k m h Q':=Wp.mono hm λx h' hx=>⟨hx.1,hq x h' hx.2⟩
theorem CL {c:Prop}[Decidable c]{a b:M α}{Q:α->af->Prop}(h1:c->Lp k a h Q)(h2:¬c->Lp k b h Q):Lp k (if c then a else b) h Q:=by
 split
 .exact h1 ‹_›
 .exact h2 ‹_›
end Go.Ago
