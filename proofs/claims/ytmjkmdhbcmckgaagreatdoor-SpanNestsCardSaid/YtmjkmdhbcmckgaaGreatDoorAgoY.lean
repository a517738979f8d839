
import Derived.Test.YtmjkmdhbcmckgaaGreatDoorAgoZ
import Derived.Test.YtmjkmdhbcmckgaaGreatDoorAgoT
set_option linter.all false
namespace Go.Ago
open Go
variable {α β:Type}{h h1 h' h0:AHeap}{k:Nat}
def Lp (k:Nat)(m:M α)(h:AHeap)(Q:α→AHeap→Prop):Prop:=Wp m h fun x h1=>BP k m h x h1∧Q x h1
theorem Lp.chk {m:M α}{f:α→M β}{Q:β→AHeap→Prop}(hm:Lp k m h fun x h1=>Wp (f x) h1 Q):Wp (M.bind (Ago.chk [none] (chkB k m)) f) h Q:=by
 rw [Wp_bind]
 refine chk_Wp (Wp_chkB (hm.mono fun x h' hx=>⟨hx.1,fun a ha=>?_,hx.2⟩))
 simp at ha
theorem Lp.bind {m:M α}{f:α→M β}{Q:β→AHeap→Prop}(hm:Lp k m h fun x h1=>Lp k (f x) h1 Q):Lp k (M.bind m f) h Q:=by
 obtain⟨x,h1,e1,b1,y,h2,e2,b2,q⟩:=hm
 refine⟨y,h2,by simp only [M.bind,e1,e2],fun h0 t cs f1 f2 f3 e=>?_,q⟩
 obtain⟨h3,q1,q2,q3,q4,q5⟩:=b1 h0 t cs f1 f2 f3 e
 obtain⟨h4,r1,r2,r3,r4,r5⟩:=b2 h3 t cs q2 q3 q4 q5
 exact⟨h4,by simp only [M.bind,q1,r1],r2,r3,r4,r5⟩
theorem Lp.pure {x:α}{Q:α→AHeap→Prop}(q:Q x h):Lp k (M.pure x) h Q :=
 ⟨x,h,rfl,fun h0 t cs f1 f2 f3 e=>⟨h0,rfl,f1,f2,f3,e⟩,q⟩
theorem Lp.of {m:M α}{Q:α→AHeap→Prop}(hw:Wp m h Q)(hl:∀ x h1,m h=some (x,h1)→BP k m h x h1):Lp k m h Q:=by
 obtain⟨x,h1,e,q⟩:=hw
 exact⟨x,h1,e,hl x h1 e,q⟩
theorem Lp.step {m:M α}{f:α→M β}{Q:β→AHeap→Prop}(hw:Wp (M.bind m M.pure) h fun x h1=>Lp k (f x) h1 Q)(hl:∀ x h1,m h=some (x,h1)→BP k m h x h1):Lp k (M.bind m f) h Q:=by
 refine Lp.bind (Lp.of ?_ hl)
 rw [Wp_bind] at hw
 exact hw.mono fun x h' hx=>by rw [Wp_pure] at hx;exact hx
theorem put_get {t:TypeId}{cs:List Value}{n j:Nat}(hj:j≠k):(h.putB k n t cs).get j=h.get j:=putB_get_ne hj
theorem BP.pm {m:M α}(hp:Pm m){x:α}(hx:m h=some (x,h1)):BP k m h x h1:=fun h0 t cs f1 f2 f3 e=>by
 obtain⟨e1,e2⟩:=hp h x h1 hx
 exact⟨h0,e2 h0,f1,f2,f3,e1.trans e⟩
theorem BP.rm {m:M α}{a:Option Addr}(hp:Rm a m)(ha:∀ b,a=some b→b.block≠k){x:α}(hx:m h=some (x,h1)):BP k m h x h1:=fun h0 t cs f1 f2 f3 e=>by
 obtain⟨e1,e2⟩:=hp h x h1 hx
 rcases e2 with e2 | ⟨b,hb,hn,e2⟩
 ·exact⟨h0,e2 h0,f1,f2,f3,e1.trans e⟩
 ·exact⟨h0,e2 h0 (by rw [e,put_get (ha b hb)]),f1,f2,f3,e1.trans e⟩
theorem new_put {t e:TypeId}{cs c:List Value}(hk:k<h0.next):(h0.putB k h0.next t cs).new e c=(h0.new e c).putB k (h0.new e c).next t cs:=by
 have hne:k≠h0.next:=by omega
 unfold AHeap.new AHeap.putB
 simp only [AHeap.mk.injEq,true_and,and_true]
 refine⟨?_,?_,?_⟩
 ·funext j
  cases q1:Nat.beq j h0.next
  ·rfl
  ·have e1:=Nat.eq_of_beq_eq_true q1
   subst e1
   simp [beq_ne (Ne.symm hne)]
 ·funext j
  cases q1:Nat.beq j (h0.next+1)
  ·rfl
  ·have e1:=Nat.eq_of_beq_eq_true q1
   subst e1
   simp [beq_ne (show h0.next+1≠k+1 by omega)]
 ·funext j
  cases q1:Nat.beq j h0.next <;> simp
theorem BP.newB {e:TypeId}{c:List Value}{x:Nat}(hx:Ago.newB none e c h=some (x,h1)):BP k (Ago.newB none e c) h x h1:=fun h0 t cs f1 f2 f3 eh=>by
 unfold Ago.newB at hx ⊢
 split at hx
 ·rename_i hs
  rw [if_pos hs]
  subst eh
  simp only [Option.some.injEq,Prod.mk.injEq] at hx
  obtain⟨rfl,rfl⟩:=hx
  refine⟨h0.new e c,rfl,?_,?_,?_,new_put f2⟩
  ·simp only [AHeap.new,AHeap.putB,beq_ne (show k≠h0.next by omega),cond_false];exact f1
  ·show k<h0.next+1;omega
  ·rw [AHeap.new,putB_get_ne (by omega)];exact f3
 ·cases hx
theorem BP.mkS {e:TypeId}{z:List Value}{l c:Int}{x:Sl}(hx:Ago.mkS none e z l c h=some (x,h1)):BP k (Ago.mkS none e z l c) h x h1:=fun h0 t cs f1 f2 f3 eh=>by
 unfold Ago.mkS at hx ⊢
 split at hx
 ·rename_i hc
  rw [if_pos hc]
  split at hx
  ·rename_i b h2 hb
   obtain⟨h3,q1,q2,q3,q4,q5⟩:=BP.newB (k:=k) hb h0 t cs f1 f2 f3 eh
   cases hx
   exact⟨h3,by rw [q1],q2,q3,q4,q5⟩
  ·cases hx
 ·cases hx
theorem BP.stN {a:Addr}{vs:List Value}(ha:a.block≠k)(hg:∀ c g base e,h.get a.block=some (.cells c g base e)→g≠k+1){x:Unit}(hx:Ago.stN a vs h=some (x,h1)):BP k (Ago.stN a vs) h x h1:=fun h0 t cs f1 f2 f3 eh=>by
 unfold Ago.stN at hx ⊢
 have e1:h0.get a.block=h.get a.block:=by rw [eh,put_get ha]
 split at hx
 ·rename_i c g base e hgt
  have hgk:=hg c g base e hgt
  rw [e1,hgt]
  simp only
  split at hx
  ·rename_i hc
   rw [if_pos hc]
   cases hx
   have hnone:(h0.upd a.block (splice c a.off vs) g base e).get k=none:=by simp [AHeap.upd,beq_ne (Ne.symm ha),f3]
   refine⟨_,rfl,f1,f2,hnone,?_⟩
   subst eh
   unfold AHeap.putB AHeap.upd
   simp only [AHeap.mk.injEq,true_and,and_true]
   funext q
   cases q1:Nat.beq q k
   ·cases q2:Nat.beq q a.block <;> simp [q1]
   ·have:=Nat.eq_of_beq_eq_true q1
    subst this
    simp [beq_ne (Ne.symm ha),beq_ne (Ne.symm hgk)]
  ·cases hx
 ·cases hx
theorem cells_put {a:Option Addr}{n m:Nat}{t:TypeId}{cs:List Value}(ha:∀ b,a=some b→b.block≠k):cellsAt (h0.putB k m t cs) a n=cellsAt h0 a n:=by
 unfold cellsAt
 cases a with
 | none=>rfl
 | some b=>simp only [put_get (ha b rfl)]
theorem BP.copyS {d s:Sl}{sz:Nat}(hs:∀ b,s.a=some b→b.block≠k)(hd:∀ b,d.a=some b→b.block≠k∧∀ c g base e,h.get b.block=some (.cells c g base e)→g≠k+1){x:Nat}(hx:Ago.copyS d s sz h=some (x,h1)) :
  BP k (Ago.copyS d s sz) h x h1:=fun h0 t cs f1 f2 f3 eh=>by
 unfold Ago.copyS at hx ⊢
 have e1:cellsAt h0 s.a (Nat.min s.len d.len * sz)=cellsAt h s.a (Nat.min s.len d.len * sz):=by rw [eh,cells_put hs]
 rw [e1]
 split at hx
 ·rename_i hc
  cases hx
  exact⟨h0,rfl,f1,f2,f3,eh⟩
 ·rename_i c hn hc
  split at hx
  ·cases hx
  ·rename_i a ha
   split at hx
   ·rename_i u h2 hst
    cases hx
    obtain⟨h3,q1,q2,q3,q4,q5⟩:=BP.stN (hd a ha).1 (hd a ha).2 hst h0 t cs f1 f2 f3 eh
    refine⟨h3,?_,q2,q3,q4,q5⟩
    simp only [ha,q1]
   ·cases hx
 ·cases hx
theorem BP.rdS {s:Sl}{sz:Nat}(hs:∀ b,s.a=some b→b.block≠k){x:List Value}(hx:Ago.rdS s sz h=some (x,h1)):BP k (Ago.rdS s sz) h x h1:=fun h0 t cs f1 f2 f3 eh=>by
 unfold Ago.rdS at hx ⊢
 rw [show cellsAt h0 s.a (s.len * sz)=cellsAt h s.a (s.len * sz) by rw [eh,cells_put hs]]
 split at hx
 ·cases hx;exact⟨h0,rfl,f1,f2,f3,eh⟩
 ·cases hx
theorem BP.ldLs {a:Addr}{ls:List Leaf}(ha:a.block≠k){x:LsDen ls}(hx:Ago.ldLs ls a h=some (x,h1)):BP k (Ago.ldLs ls a) h x h1 :=
 BP.rm (Rm.ldLs ls a) (fun b hb=>by cases hb;exact ha) hx
theorem BP.ldL {a:Addr}{l:Leaf}(ha:a.block≠k){x:l.den}(hx:Ago.ldL l a h=some (x,h1)):BP k (Ago.ldL l a) h x h1 :=
 BP.rm (Rm.ldL l a a rfl) (fun b hb=>by cases hb;exact ha) hx
theorem Lp.wp {m:M α}{Q:α→AHeap→Prop}(hm:Lp k m h Q):Wp m h Q:=hm.mono fun _ _ x=>x.2
theorem Lp.mono {m:M α}{Q Q':α→AHeap→Prop}(hm:Lp k m h Q)(hq:∀ x h',Q x h'→Q' x h'):Lp k m h Q':=Wp.mono hm fun x h' hx=>⟨hx.1,hq x h' hx.2⟩
theorem Lp_ite {c:Prop}[Decidable c]{a b:M α}{Q:α→AHeap→Prop}(h1:c→Lp k a h Q)(h2:¬ c→Lp k b h Q):Lp k (if c then a else b) h Q:=by
 split
 ·exact h1 ‹_›
 ·exact h2 ‹_›
end Go.Ago
