
import Derived.Test.YtpojbnjkkkiccaaGreatDoorSh0
set_option linter.all false
namespace Go.Ago
open Go
variable {α β:Type}
def GA.bind {m:M α}{f:α->M β}(hm:GA m)(hf:∀a,GA (f a)):GA (sh m f):=by
 refine⟨λh k kt x h2 u e=>?_,λh x h1 e=>?_⟩
 .unfold sh at e⊢;cases he:m (h.Bt k kt) with
  |none=>rw[he] at e;cases e
  |some p=>
   obtain⟨a,h3⟩:=p;rw[he] at e;obtain⟨h1,q1,q2,rfl⟩:=hm.1 h k kt a h3 u he;rw[q1];exact (hf a).1 h1 k kt x h2 q2 e
 .unfold sh at e;cases he:m h with
  |none=>rw[he] at e;cases e
  |some p=>
   obtain⟨a,h3⟩:=p;rw[he] at e;exact ((hf a).2 h3 x h1 e).trans (hm.2 h a h3 he)
def GA.pure (a:α):GA (AI a):=⟨λh k kt x h2 u e=>by cases e;exact⟨h,rfl,u,rfl⟩,λh x h1 e=>by cases e;rfl⟩
theorem GA.same {m:M α}(hm:∀h k kt x h2,m (ai.Bt h k kt)=some (x,h2)->h2=ai.Bt h k kt/\m h=some (x,h))(hk:∀h x h1,m h=some (x,h1)->h1=h):GA m:=
 ⟨λh k kt x h2 u e=>by
  obtain⟨rfl,e2⟩:=hm h k kt x h2 e;exact⟨h,e2,u,rfl⟩,λh x h1 e=>by rw[hk h x h1 e]⟩
def GA.dL l a:GA (dL l a):=by
 refine .same (λh k kt x h2 e=>?_) λh x h1 e=>?_
 .unfold Ago.dL at e⊢;have:(h.Bt k kt).cell a=h.cell a:=rfl;rw[this] at e;split at e
  .split at e
   .rename_i hu;cases e;exact⟨rfl,by simp ⟩
   .cases e
  .cases e
 .unfold Ago.dL at e;split at e
  .split at e
   .cases e;rfl
   .cases e
  .cases e
def GA.cT ls a:GA (cT ls a):=by
 refine .same (λh k kt x h2 e=>?_) λh x h1 e=>?_
 .unfold Ago.cT at e⊢;have:bu (h.Bt k kt) (some a) ls.length=bu h (some a) ls.length:=rfl;rw[this] at e;split at e
  .split at e
   .rename_i hu;cases e;exact⟨rfl,by simp ⟩
   .cases e
  .cases e
 .unfold Ago.cT at e;split at e
  .split at e
   .cases e;rfl
   .cases e
  .cases e
def cb {j k m:Nat}{b}:cond (Nat.beq j m) true (cond (Nat.beq j k) true b)=cond (Nat.beq j k) true (cond (Nat.beq j m) true b):=by
 cases Nat.beq j m<;>cases Nat.beq j k<;>rfl
theorem aaM {h:ai}{k kt:Nat}(u:h.fresh k){k'}(hne:k≠k') t cs {nx}(hx:h.next<=nx):(h.cM k' nx t cs).fresh k/\(h.Bt k kt).cM k' nx t cs=(h.cM k' nx t cs).Bt k kt:=by
 obtain⟨u1,u2,u3,u4⟩:=u;have hb:Nat.beq k k'=false:=by cases q:Nat.beq k k'<;>grind [Nat.eq_of_beq_eq_true]
 refine⟨⟨by simp[ai.cM,hb,u1],by show k<nx;omega,u3,by simp[ai.cM,hb,u4]⟩,?_⟩;unfold ai.cM ai.Bt ai.o8;simp only[ai.mk.injEq,anX,and_true];funext j;exact cb
theorem GA.iI nm t cs:GA (iI nm t cs):=by
 refine⟨λh k kt x h2 u e=>?_,λh x h1 e=>?_⟩
 .unfold Ago.iI at e⊢;split at e
  .rename_i hs;rw[By hs];have hu:=u;obtain⟨u1,u2,u3,u4⟩:=u;cases nm with
   |none=>
    cases e;have:=aaM (kt:=kt) hu (k':=h.next) (by omega) t cs (nx:=h.next+1) (by omega)
    exact⟨h.new t cs,rfl,this.1,this.2⟩
   |some k'=>
    simp only at e⊢;split at e
    .rename_i hc;obtain⟨c1,c2,c3⟩:=hc;cases e;have c1:cond (Nat.beq x k) true (h.used x)=false:=c1;have hne:k≠x:=λe=>(by rw[e,al3] at c1;cases c1);have c4:h.used x=false:=by
      cases q:Nat.beq x k
      .rw[q] at c1;exact c1
      .rw[q] at c1;cases c1
     have:=aaM (kt:=kt) hu hne t cs (nx:=h.next) (by omega)
     exact⟨_,by rw[By ⟨c4,c2,c3⟩],this.1,this.2⟩
    .cases e
  .cases e
 .unfold Ago.iI at e;split at e
  .cases nm with
   |none=>cases e;rfl
   |some k'=>
    simp only at e;split at e
    .cases e;rfl
    .cases e
  .cases e
def GA.dP r:GA (Ago.dP r):=by
 refine⟨λh k kt x h2 u e=>?_,λh x h1 e=>?_⟩
 .cases e;obtain⟨u1,u2,u3,u4⟩:=u;exact⟨{ h with next:=h.next+r },rfl,⟨u1,by show k<h.next+r;omega,u3,u4⟩,rfl⟩
 .cases e;rfl
def GA.w9 nm t z l c:GA (w9 nm t z l c):=by
 refine⟨λh k kt x h2 u e=>?_,λh x h1 e=>?_⟩
 .unfold Ago.w9 at e⊢;split at e
  .rename_i hc;rw[By hc];split at e
   .rename_i b h3 hn;cases e;obtain⟨h1,q1,q2,q3⟩:=(GA.iI nm t _).1 h k kt b _ u hn;refine⟨h1,?_,q2,q3⟩;simp[q1]
   .cases e
  .cases e
 .unfold Ago.w9 at e;split at e
  .split at e
   .rename_i b h3 hn;cases e;exact (GA.iI nm t _).2 _ _ _ hn
   .cases e
  .cases e
end Go.Ago
namespace Go.Sh
open Go Go.Ago Go.Proofs
def LK n x:GA (th n x):=by
 unfold th;exact .bind (.iI _ _ _) λ_=>.bind (.dP _) λ_=>.bind (.cT _ _) λ_=>.bind (.dL _ _) λ_=>.bind (.w9 _ _ _ _ _) λ_=>.bind (.iI _ _ _) λ_=>.pure _
end Go.Sh
