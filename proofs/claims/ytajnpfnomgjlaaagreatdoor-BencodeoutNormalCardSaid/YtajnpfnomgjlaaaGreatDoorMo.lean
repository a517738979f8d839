
import Derived.Test.YtajnpfnomgjlaaaGreatDoorSh0
set_option linter.all false
namespace Go.Ago
open Go
variable {α β:Type}
theorem B4.bind {m}{f:α->M β}(hm:B4 m)(hf:∀a,B4 (f a)):B4 (sh m f):=by
 refine⟨λh k kt x h2 u e=>?_,λh x h1 e=>?_⟩
 .unfold sh at e⊢;cases he:m (h.wo k kt) with
  |none=>rw[he] at e;cases e
  |some p=>
   obtain⟨a,h3⟩:=p;rw[he] at e;obtain⟨h1,q1,q2,rfl⟩:=hm.1 h k kt a h3 u he;rw[q1];exact (hf a).1 h1 k kt x h2 q2 e
 .unfold sh at e;cases he:m h with
  |none=>rw[he] at e;cases e
  |some p=>
   obtain⟨a,h3⟩:=p;rw[he] at e;exact ((hf a).2 h3 x h1 e).trans (hm.2 h a h3 he)
theorem B4.pure (a:α):B4 (AI a):=⟨λh k kt x h2 u e=>by cases e;exact⟨h,rfl,u,rfl⟩,λh x h1 e=>by cases e;rfl⟩
theorem B4.same {m:M α}(hm:∀h k kt x h2,m (ai.wo h k kt)=some (x,h2)->h2=ai.wo h k kt/\m h=some (x,h))(hk:∀h x h1,m h=some (x,h1)->h1=h):B4 m:=
 ⟨λh k kt x h2 u e=>by
  obtain⟨rfl,e2⟩:=hm h k kt x h2 e;exact⟨h,e2,u,rfl⟩,λh x h1 e=>by rw[hk h x h1 e]⟩
theorem B4.aq l a:B4 (aq l a):=by
 refine .same (λh k kt x h2 e=>?_) λh x h1 e=>?_
 .unfold Ago.aq at e⊢;have:(h.wo k kt).cell a=h.cell a:=rfl;rw[this] at e;split at e
  .split at e
   .rename_i hu;cases e;exact⟨rfl,by simp ⟩
   .cases e
  .cases e
 .unfold Ago.aq at e;split at e
  .split at e
   .cases e;rfl
   .cases e
  .cases e
theorem B4.aE ls a:B4 (aE ls a):=by
 refine .same (λh k kt x h2 e=>?_) λh x h1 e=>?_
 .unfold Ago.aE at e⊢;have:aQ (h.wo k kt) (some a) ls.length=aQ h (some a) ls.length:=rfl;rw[this] at e;split at e
  .split at e
   .rename_i hu;cases e;exact⟨rfl,by simp ⟩
   .cases e
  .cases e
 .unfold Ago.aE at e;split at e
  .split at e
   .cases e;rfl
   .cases e
  .cases e
theorem cb {j k m:Nat}{b}:cond (Nat.beq j m) true (cond (Nat.beq j k) true b)=cond (Nat.beq j k) true (cond (Nat.beq j m) true b):=by
 cases Nat.beq j m<;>cases Nat.beq j k<;>rfl
theorem XH {h:ai}{k kt:Nat}(u:h.fresh k){k'}(hne:k≠k') t cs {nx}(hx:h.next<=nx):(h.aX k' nx t cs).fresh k/\(h.wo k kt).aX k' nx t cs=(h.aX k' nx t cs).wo k kt:=by
 obtain⟨u1,u2,u3,u4⟩:=u;have hb:Nat.beq k k'=false:=by cases q:Nat.beq k k'<;>grind [Nat.eq_of_beq_eq_true]
 refine⟨⟨by simp[ai.aX,hb,u1],by show k<nx;omega,u3,by simp[ai.aX,hb,u4]⟩,?_⟩;unfold ai.aX ai.wo ai.mE;simp only[ai.mk.injEq,aim,and_true];funext j;exact cb
theorem B4.aF nm t cs:B4 (aF nm t cs):=by
 refine⟨λh k kt x h2 u e=>?_,λh x h1 e=>?_⟩
 .unfold Ago.aF at e⊢;split at e
  .rename_i hs;rw[By hs];have hu:=u;obtain⟨u1,u2,u3,u4⟩:=u;cases nm with
   |none=>
    cases e;have:=XH (kt:=kt) hu (k':=h.next) (by omega) t cs (nx:=h.next+1) (by omega)
    exact⟨h.new t cs,rfl,this.1,this.2⟩
   |some k'=>
    simp only at e⊢;split at e
    .rename_i hc;obtain⟨c1,c2,c3⟩:=hc;cases e;have c1:cond (Nat.beq x k) true (h.used x)=false:=c1;have hne:k≠x:=λe=>(by rw[e,ahX] at c1;cases c1);have c4:h.used x=false:=by
      cases q:Nat.beq x k
      .rw[q] at c1;exact c1
      .rw[q] at c1;cases c1
     have:=XH (kt:=kt) hu hne t cs (nx:=h.next) (by omega)
     exact⟨_,by rw[By ⟨c4,c2,c3⟩],this.1,this.2⟩
    .cases e
  .cases e
 .unfold Ago.aF at e;split at e
  .cases nm with
   |none=>cases e;rfl
   |some k'=>
    simp only at e;split at e
    .cases e;rfl
    .cases e
  .cases e
theorem B4.dz r:B4 (Ago.dz r):=by
 refine⟨λh k kt x h2 u e=>?_,λh x h1 e=>?_⟩
 .cases e;obtain⟨u1,u2,u3,u4⟩:=u;exact⟨{ h with next:=h.next+r },rfl,⟨u1,by show k<h.next+r;omega,u3,u4⟩,rfl⟩
 .cases e;rfl
theorem B4.qM nm t z l c:B4 (qM nm t z l c):=by
 refine⟨λh k kt x h2 u e=>?_,λh x h1 e=>?_⟩
 .unfold Ago.qM at e⊢;split at e
  .rename_i hc;rw[By hc];split at e
   .rename_i b h3 hn;cases e;obtain⟨h1,q1,q2,q3⟩:=(B4.aF nm t _).1 h k kt b _ u hn;refine⟨h1,?_,q2,q3⟩;simp[q1]
   .cases e
  .cases e
 .unfold Ago.qM at e;split at e
  .split at e
   .rename_i b h3 hn;cases e;exact (B4.aF nm t _).2 _ _ _ hn
   .cases e
  .cases e
end Go.Ago
namespace Go.Sh
open Go Go.Ago Go.Proofs
theorem H0 n x:B4 (ux n x):=by
 unfold ux;exact .bind (.aF _ _ _) λ_=>.bind (.dz _) λ_=>.bind (.aE _ _) λ_=>.bind (.aq _ _) λ_=>.bind (.qM _ _ _ _ _) λ_=>.bind (.aF _ _ _) λ_=>.pure _
end Go.Sh
