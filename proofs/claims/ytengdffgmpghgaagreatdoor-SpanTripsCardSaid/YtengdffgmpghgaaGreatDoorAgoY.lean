
import Derived.Test.YtengdffgmpghgaaGreatDoorAgoZ
set_option linter.all false
namespace Go.Ago
open Go
variable {α β:Type}{h h1 h' h0:ab}{k:Nat}
def Lp (k:Nat)(m:M α)(h:ab)(Q:α->ab->Prop):Prop:=Wp m h λx h1=>BP k m h x h1/\Q x h1
theorem Lp.oo {m:M α}{f:α->M β}{Q:β->ab->Prop}(hm:Lp k m h λx h1=>Wp (f x) h1 Q):Wp (sh (Ago.oo [none] (Aq k m)) f) h Q:=by
 rw[ag];refine zg (aaS (hm.mono λx h' hx=>⟨hx.1,λa ha=>?_,hx.2⟩));simp at ha
theorem Lp.bind {m:M α}{f:α->M β}{Q:β->ab->Prop}(hm:Lp k m h λx h1=>Lp k (f x) h1 Q):Lp k (sh m f) h Q:=by
 obtain⟨x,h1,e1,b1,y,h2,e2,b2,q⟩:=hm;refine⟨y,h2,by simp only[sh,e1,e2],λh0 t cs f1 f2 f3 e=>?_,q⟩;obtain⟨h3,q1,q2,q3,q4,q5⟩:=b1 h0 t cs f1 f2 f3 e;obtain⟨h4,r1,r2,r3,r4,r5⟩:=b2 h3 t cs q2 q3 q4 q5
 grind [sh]
theorem Lp.pure {x:α}{Q:α->ab->Prop}(q:Q x h):Lp k (AI x) h Q:=
 ⟨x,h,rfl,λh0 t cs f1 f2 f3 e=>⟨h0,rfl,f1,f2,f3,e⟩,q⟩
theorem Lp.of {m:M α}{Q:α->ab->Prop}(hw:Wp m h Q)(hl:∀x h1,m h=some (x,h1)->BP k m h x h1):Lp k m h Q:=by
 obtain⟨x,h1,e,q⟩:=hw;exact⟨x,h1,e,hl x h1 e,q⟩
theorem Lp.step {m:M α}{f:α->M β}{Q:β->ab->Prop}(hw:Wp (sh m AI) h λx h1=>Lp k (f x) h1 Q)(hl:∀x h1,m h=some (x,h1)->BP k m h x h1):Lp k (sh m f) h Q:=by
 refine Lp.bind (Lp.of ?_ hl);rw[ag] at hw;exact hw.mono λx h' hx=>by rw[af] at hx;exact hx
theorem Ly {t:κ}{cs:δ}{n j:Nat}(hj:j≠k):(h.cS k n t cs).get j=h.get j:=fX hj
theorem BP.pm {m:M α}(hp:Pm m){x:α}(hx:m h=some (x,h1)):BP k m h x h1:=λh0 t cs f1 f2 f3 e=>by
 obtain⟨e1,e2⟩:=hp h x h1 hx;exact⟨h0,e2 h0,f1,f2,f3,e1.trans e⟩
theorem BP.rm {m:M α}{a:θ}(hp:Rm a m)(ha:∀b,a=some b->b.block≠k){x:α}(hx:m h=some (x,h1)):BP k m h x h1:=λh0 t cs f1 f2 f3 e=>by
 obtain⟨e1,e2⟩:=hp h x h1 hx;rcases e2 with e2|⟨b,hb,hn,e2⟩
 .exact⟨h0,e2 h0,f1,f2,f3,e1.trans e⟩
 .exact⟨h0,e2 h0 (gq.of (by rw[e,Ly (ha b hb)])),f1,f2,f3,e1.trans e⟩
theorem abJ {t e:κ}{cs c:δ}(hk:k<h0.next):(h0.cS k h0.next t cs).new e c=(h0.new e c).cS k (h0.new e c).next t cs:=by
 have hne:k≠h0.next:=by omega
 unfold ab.new ab.cS;simp only[xj,ab.mk.injEq,ahP,and_true];refine⟨?_,?_,?_⟩
 .funext j;cases q1:Nat.beq j h0.next
  .rfl
  .have e1:=IS q1;subst e1;simp[bw (Ne.symm hne)]
 .funext j;cases q1:Nat.beq j (h0.next+1)
  .rfl
  .have e1:=IS q1;subst e1;simp[bw (show h0.next+1≠k+1 by omega)]
 .funext j;cases q1:Nat.beq j h0.next<;>simp
theorem BP.aJ {e:κ}{c:δ}{x:Nat}(hx:Ago.aJ none e c h=some (x,h1)):BP k (Ago.aJ none e c) h x h1:=λh0 t cs f1 f2 f3 eh=>by
 unfold Ago.aJ at hx⊢;split at hx
 .rename_i hs;rw[By hs];subst eh;simp only[aai,aiJ] at hx;obtain⟨rfl,rfl⟩:=hx;refine⟨h0.new e c,rfl,?_,?_,?_,abJ f2⟩
  .simp only[ab.new,ab.cS,bw (show k≠h0.next by omega),ait];exact f1
  .show k<h0.next+1;omega
  .rw[ab.new,fX (by omega)];exact f3
 .cases hx
theorem BP.vG {e:κ}{z:δ}{l c:Int}{x:Sl}(hx:Ago.vG none e z l c h=some (x,h1)):BP k (Ago.vG none e z l c) h x h1:=λh0 t cs f1 f2 f3 eh=>by
 unfold Ago.vG at hx⊢;split at hx
 .rename_i hc;rw[By hc];split at hx
  .rename_i b h2 hb;obtain⟨h3,q1,q2,q3,q4,q5⟩:=BP.aJ (k:=k) hb h0 t cs f1 f2 f3 eh;cases hx;exact⟨h3,by rw[q1],q2,q3,q4,q5⟩
  .cases hx
 .cases hx
theorem BP.bD {a:Addr}{vs:δ}(ha:a.block≠k)(hg:∀c g base e,h.get a.block=some (.cells c g base e)->g≠k+1){x:Unit}(hx:Ago.bD a vs h=some (x,h1)):BP k (Ago.bD a vs) h x h1:=λh0 t cs f1 f2 f3 eh=>by
 unfold Ago.bD at hx⊢;have e1:h0.get a.block=h.get a.block:=by rw[eh,Ly ha]
 split at hx
 .rename_i c g base e hgt;have hgk:=hg c g base e hgt;rw[e1,hgt];simp only;split at hx
  .rename_i hc;rw[By hc];cases hx;have hnone:(h0.sW a.block (bh c a.off vs) g base e).get k=none:=by simp[ab.sW,bw (Ne.symm ha),f3]
   refine⟨_,rfl,f1,f2,hnone,?_⟩;subst eh;unfold ab.cS ab.sW;simp only[ab.mk.injEq,ahP,and_true];funext q;cases q1:Nat.beq q k
   .cases q2:Nat.beq q a.block<;>simp[q1]
   .have:=IS q1;subst this;simp[bw (Ne.symm ha),bw (Ne.symm hgk)]
  .cases hx
 .cases hx
theorem IZ {a:θ}{n m:Nat}{t:κ}{cs:δ}(ha:∀b,a=some b->b.block≠k):aX (h0.cS k m t cs) a n=aX h0 a n:=by
 unfold aX;cases a with
 |none=>rfl
 |some b=>simp only[Ly (ha b rfl)]
theorem BP.yl {d s:Sl}{sz:Nat}(hs:∀b,s.a=some b->b.block≠k)(hd:∀b,d.a=some b->b.block≠k/\∀c g base e,h.get b.block=some (.cells c g base e)->g≠k+1){x:Nat}(hx:Ago.yl d s sz h=some (x,h1)) :
  BP k (Ago.yl d s sz) h x h1:=λh0 t cs f1 f2 f3 eh=>by
 unfold Ago.yl at hx⊢;have e1:aX h0 s.a (Nat.min s.len d.len*sz)=aX h s.a (Nat.min s.len d.len*sz):=by rw[eh,IZ hs]
 rw[e1];split at hx
 .grind
 .rename_i c hn hc;split at hx
  .cases hx
  .rename_i a ha;split at hx
   .rename_i u h2 hst;cases hx;obtain⟨h3,q1,q2,q3,q4,q5⟩:=BP.bD (hd a ha).1 (hd a ha).2 hst h0 t cs f1 f2 f3 eh
    grind
   .cases hx
 .cases hx
theorem BP.OU {s:Sl}{sz:Nat}(hs:∀b,s.a=some b->b.block≠k){x:δ}(hx:Ago.OU s sz h=some (x,h1)):BP k (Ago.OU s sz) h x h1:=λh0 t cs f1 f2 f3 eh=>by
 unfold Ago.OU at hx⊢;rw[show aX h0 s.a (s.len*sz)=aX h s.a (s.len*sz) by rw[eh,IZ hs]]
 grind
theorem BP.aE {a:Addr}{ls:List eD}(ha:a.block≠k){x:eI ls}(hx:Ago.aE ls a h=some (x,h1)):BP k (Ago.aE ls a) h x h1:=
 BP.rm (Rm.aE ls a) (λb hb=>by cases hb;exact ha) hx
theorem BP.ak {a:Addr}{l:eD}(ha:a.block≠k){x:l.den}(hx:Ago.ak l a h=some (x,h1)):BP k (Ago.ak l a) h x h1:=
 BP.rm (Rm.ak l a a rfl (aae _)) (λb hb=>by cases hb;exact ha) hx
theorem Lp.wp {m:M α}{Q:α->ab->Prop}(hm:Lp k m h Q):Wp m h Q:=hm.mono λ_ _ x=>x.2
theorem Lp.mono {m:M α}{Q Q':α->ab->Prop}(hm:Lp k m h Q)(hq:∀x h',Q x h'->Q' x h'):Lp k m h Q':=Wp.mono hm λx h' hx=>⟨hx.1,hq x h' hx.2⟩
theorem DQ {c:Prop}[Decidable c]{a b:M α}{Q:α->ab->Prop}(h1:c->Lp k a h Q)(h2:¬c->Lp k b h Q):Lp k (if c then a else b) h Q:=by
 split
 .exact h1 ‹_›
 .exact h2 ‹_›
end Go.Ago
