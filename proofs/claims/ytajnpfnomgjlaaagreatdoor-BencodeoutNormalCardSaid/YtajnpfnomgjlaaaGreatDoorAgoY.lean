
import Derived.Test.YtajnpfnomgjlaaaGreatDoorAgoZ
set_option linter.all false
namespace Go.Ago
open Go
variable {α β:Type}{h h1 h' h0:ai}{k:Nat}
def Lp (k:Nat)(m:M α)(h:ai)(Q:α->ai->Prop):Prop:=Wp m h λx h1=>BP k m h x h1/\Q x h1
theorem Lp.k8 {m}{f:α->M β}{Q}(hm:Lp k m h λx h1=>Wp (f x) h1 Q):Wp (sh (Ago.k8 [none] (rH k m)) f) h Q:=by
 rw[ah];refine Dj (aaj (hm.mono λx h' hx=>⟨hx.1,λa ha=>?_,hx.2⟩));simp at ha
theorem Lp.bind {m}{f:α->M β}{Q}(hm:Lp k m h λx h1=>Lp k (f x) h1 Q):Lp k (sh m f) h Q:=by
 obtain⟨x,h1,e1,b1,y,h2,e2,b2,q⟩:=hm;refine⟨y,h2,by simp[sh,e1,e2],λh0 t cs f1 f2 f3 e=>?_,q⟩;obtain⟨h3,q1,q2,q3,q4,q5⟩:=b1 h0 t cs f1 f2 f3 e;obtain⟨h4,r1,r2,r3,r4,r5⟩:=b2 h3 t cs q2 q3 q4 q5
 grind [sh]
theorem Lp.pure {x:α}{Q}(q:Q x h):Lp k (AI x) h Q:=
 ⟨x,h,rfl,λh0 t cs f1 f2 f3 e=>⟨h0,rfl,f1,f2,f3,e⟩,q⟩
theorem Lp.of {m:M α}{Q}(hw:Wp m h Q)(hl:∀x h1,m h=some (x,h1)->BP k m h x h1):Lp k m h Q:=by
 obtain⟨x,h1,e,q⟩:=hw;exact⟨x,h1,e,hl x h1 e,q⟩
theorem Lp.step {m}{f:α->M β}{Q}(hw:Wp (sh m AI) h λx h1=>Lp k (f x) h1 Q)(hl:∀x h1,m h=some (x,h1)->BP k m h x h1):Lp k (sh m f) h Q:=by
 refine Lp.bind (Lp.of ?_ hl);rw[ah] at hw;exact hw.mono λx h' hx=>by rw[ag] at hx;exact hx
theorem Li {t cs n j}(hj:j≠k):(h.aX k n t cs).get j=h.get j:=ff hj
theorem BP.pm {m:M α}(hp:Pm m){x}(hx:m h=some (x,h1)):BP k m h x h1:=λh0 t cs f1 f2 f3 e=>by
 obtain⟨e1,e2⟩:=hp h x h1 hx
 grind
theorem BP.rm {m:M α}{a}(hp:Rm a m)(ha:∀b,a=some b->b.block≠k){x}(hx:m h=some (x,h1)):BP k m h x h1:=λh0 t cs f1 f2 f3 e=>by
 obtain⟨e1,e2⟩:=hp h x h1 hx;rcases e2 with e2|⟨b,hb,hn,e2⟩
 .grind
 .exact⟨h0,e2 h0 (gb.of (by rw[e,Li (ha b hb)])),f1,f2,f3,e1.trans e⟩
theorem aa3 {t e cs c}(hk:k<h0.next):(h0.aX k h0.next t cs).new e c=(h0.new e c).aX k (h0.new e c).next t cs:=by
 have hne:k≠h0.next:=by omega
 unfold ai.new ai.aX;simp only[nL,ai.mk.injEq,aim,and_true];refine⟨?_,?_,?_⟩
 .funext j;cases q1:Nat.beq j h0.next
  .rfl
  .have e1:=IS q1;subst e1;simp[bB (ai3 hne)]
 .funext j;cases q1:Nat.beq j (h0.next+1)
  .rfl
  .have e1:=IS q1;subst e1;simp[bB (show h0.next+1≠k+1 by omega)]
 .funext j;cases q1:Nat.beq j h0.next<;>simp
theorem BP.aF {e c x}(hx:Ago.aF none e c h=some (x,h1)):BP k (Ago.aF none e c) h x h1:=λh0 t cs f1 f2 f3 eh=>by
 unfold Ago.aF at hx⊢;split at hx
 .rename_i hs;rw[By hs];subst eh;simp at hx;obtain⟨rfl,rfl⟩:=hx;refine⟨h0.new e c,rfl,?_,?_,?_,aa3 f2⟩
  .simp[ai.new,ai.aX,bB (show k≠h0.next by omega),aii];exact f1
  .show k<h0.next+1;omega
  .rw[ai.new,ff (by omega)];exact f3
 .cases hx
theorem BP.qM {e z l c x}(hx:Ago.qM none e z l c h=some (x,h1)):BP k (Ago.qM none e z l c) h x h1:=λh0 t cs f1 f2 f3 eh=>by
 unfold Ago.qM at hx⊢;split at hx
 .rename_i hc;rw[By hc];split at hx
  .rename_i b h2 hb;obtain⟨h3,q1,q2,q3,q4,q5⟩:=BP.aF hb h0 t cs f1 f2 f3 eh
   grind
  .cases hx
 .cases hx
theorem BP.bh {a vs}(ha:a.block≠k)(hg:∀c g base e,h.get a.block=some (.cells c g base e)->g≠k+1){x}(hx:Ago.bh a vs h=some (x,h1)):BP k (Ago.bh a vs) h x h1:=λh0 t cs f1 f2 f3 eh=>by
 unfold Ago.bh at hx⊢;have e1:h0.get a.block=h.get a.block:=by rw[eh,Li ha]
 split at hx
 .rename_i c g base e hgt;have hgk:=hg c g base e hgt;rw[e1,hgt];simp only;split at hx
  .rename_i hc;rw[By hc];cases hx;have hnone:(h0.qf a.block (aU c a.off vs) g base e).get k=none:=by simp[ai.qf,bB (ai3 ha),f3]
   refine⟨_,rfl,f1,f2,hnone,?_⟩;subst eh;unfold ai.aX ai.qf;simp only[ai.mk.injEq,aim,and_true];funext q;cases q1:Nat.beq q k
   .simp_all
   .have:=IS q1;subst this;simp[bB (ai3 ha),bB (ai3 hgk)]
  .cases hx
 .cases hx
theorem Iz {a n m t cs}(ha:∀b,a=some b->b.block≠k):aQ (h0.aX k m t cs) a n=aQ h0 a n:=by
 unfold aQ;cases a with
 |none=>rfl
 |some b=>simp[Li (ha b rfl)]
theorem BP.rh {d s sz}(hs:∀b,s.a=some b->b.block≠k)(hd:∀b,d.a=some b->b.block≠k/\∀c g base e,h.get b.block=some (.cells c g base e)->g≠k+1){x}(hx:Ago.rh d s sz h=some (x,h1)) :
  BP k (Ago.rh d s sz) h x h1:=λh0 t cs f1 f2 f3 eh=>by
 unfold Ago.rh at hx⊢;have e1:aQ h0 s.a (Nat.min s.len d.len*sz)=aQ h s.a (Nat.min s.len d.len*sz):=by rw[eh,Iz hs]
 rw[e1];split at hx
 .grind
 .rename_i c hn hc;split at hx
  .cases hx
  .rename_i a ha;split at hx
   .rename_i u h2 hst;cases hx;obtain⟨h3,q1,q2,q3,q4,q5⟩:=BP.bh (hd a ha).1 (hd a ha).2 hst h0 t cs f1 f2 f3 eh
    grind
   .cases hx
 .cases hx
theorem BP.BW {s sz}(hs:∀b,s.a=some b->b.block≠k){x}(hx:Ago.BW s sz h=some (x,h1)):BP k (Ago.BW s sz) h x h1:=λh0 t cs f1 f2 f3 eh=>by
 unfold Ago.BW at hx⊢
 grind [aQ,Iz]
theorem BP.aE {a ls}(ha:a.block≠k){x}(hx:Ago.aE ls a h=some (x,h1)):BP k (Ago.aE ls a) h x h1:=
 BP.rm (Rm.aE ls a) (λb hb=>by cases hb;exact ha) hx
theorem BP.aq {a l}(ha:a.block≠k){x}(hx:Ago.aq l a h=some (x,h1)):BP k (Ago.aq l a) h x h1:=
 BP.rm (Rm.aq l a a rfl (abi _)) (λb hb=>by cases hb;exact ha) hx
theorem Lp.wp {m:M α}{Q}(hm:Lp k m h Q):Wp m h Q:=hm.mono λ_ _ x=>x.2
theorem Lp.mono {m:M α}{Q Q'}(hm:Lp k m h Q)(hq:∀x h',Q x h'->Q' x h'):Lp k m h Q':=Wp.mono hm λx h' hx=>⟨hx.1,hq x h' hx.2⟩
theorem DR {c}[Decidable c]{a b:M α}{Q}(h1:c->Lp k a h Q)(h2:¬c->Lp k b h Q):Lp k (if c then a else b) h Q:=by
 split
 .exact h1 ‹_›
 .exact h2 ‹_›
end Go.Ago
