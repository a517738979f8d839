
import Derived.Test.YthnfbcloepfooaaGreatDoorSh1
set_option linter.all false
namespace Go.Ago
open Go
variable {α β:Type}
theorem xK.bind {m:M α}{f:α->M β}(hm:xK m)(hf:∀a,xK (f a)):xK (AI m f):=by
 refine⟨λh k kt x h2 u e=>?_,λh x h1 e=>?_⟩
 .unfold AI at e⊢;cases he:m (h.sD k kt) with
  |none=>rw[he] at e;cases e
  |some p=>
   obtain⟨a,h3⟩:=p;rw[he] at e;obtain⟨h1,q1,q2,rfl⟩:=hm.1 h k kt a h3 u he;rw[q1];exact (hf a).1 h1 k kt x h2 q2 e
 .unfold AI at e;cases he:m h with
  |none=>rw[he] at e;cases e
  |some p=>
   obtain⟨a,h3⟩:=p;rw[he] at e;exact ((hf a).2 h3 x h1 e).trans (hm.2 h a h3 he)
theorem xK.pure (a:α):xK (AS a):=⟨λh k kt x h2 u e=>by cases e;exact⟨h,rfl,u,rfl⟩,λh x h1 e=>by cases e;rfl⟩
theorem xK.same {m:M α}(hm:∀h k kt x h2,m (af.sD h k kt)=some (x,h2)->h2=af.sD h k kt/\m h=some (x,h))(hk:∀h x h1,m h=some (x,h1)->h1=h):xK m:=
 ⟨λh k kt x h2 u e=>by
  obtain⟨rfl,e2⟩:=hm h k kt x h2 e;exact⟨h,e2,u,rfl⟩,λh x h1 e=>by rw[hk h x h1 e]⟩
theorem xK.ar (l:eh)(a:Addr):xK (ar l a):=by
 refine .same (λh k kt x h2 e=>?_) λh x h1 e=>?_
 .unfold Ago.ar at e⊢;have:(h.sD k kt).cell a=h.cell a:=rfl;rw[this] at e;split at e
  .split at e
   .rename_i hu;cases e;exact⟨rfl,by simp only[hu]⟩
   .cases e
  .cases e
 .unfold Ago.ar at e;split at e
  .split at e
   .cases e;rfl
   .cases e
  .cases e
theorem xK.bh (ls:List eh)(a:Addr):xK (bh ls a):=by
 refine .same (λh k kt x h2 e=>?_) λh x h1 e=>?_
 .unfold Ago.bh at e⊢;have:bj (h.sD k kt) (some a) ls.length=bj h (some a) ls.length:=rfl;rw[this] at e;split at e
  .split at e
   .rename_i hu;cases e;exact⟨rfl,by simp only[hu]⟩
   .cases e
  .cases e
 .unfold Ago.bh at e;split at e
  .split at e
   .cases e;rfl
   .cases e
  .cases e
theorem cb {j k m:Nat}{b:Bool}:cond (Nat.beq j m) true (cond (Nat.beq j k) true b)=cond (Nat.beq j k) true (cond (Nat.beq j m) true b):=by
 cases Nat.beq j m<;>cases Nat.beq j k<;>rfl
theorem QU {h:af}{k kt:Nat}(u:h.fresh k){k':Nat}(hne:k≠k')(t:κ)(cs:δ){nx:Nat}(hx:h.next<=nx):(h.bt k' nx t cs).fresh k/\(h.sD k kt).bt k' nx t cs=(h.bt k' nx t cs).sD k kt:=by
 obtain⟨u1,u2,u3,u4⟩:=u;have hb:Nat.beq k k'=false:=by cases q:Nat.beq k k'<;>grind [Nat.eq_of_beq_eq_true]
 refine⟨⟨by simp[af.bt,hb,u1],by show k<nx;omega,u3,by simp[af.bt,hb,u4]⟩,?_⟩;unfold af.bt af.sD af.iP;simp only[af.mk.injEq,aaY,and_true];funext j;exact cb
theorem xK.aJ (nm:μ)(t:κ)(cs:δ):xK (aJ nm t cs):=by
 refine⟨λh k kt x h2 u e=>?_,λh x h1 e=>?_⟩
 .unfold Ago.aJ at e⊢;split at e
  .rename_i hs;rw[BY hs];have hu:=u;obtain⟨u1,u2,u3,u4⟩:=u;cases nm with
   |none=>
    cases e;have:=QU (kt:=kt) hu (k':=h.next) (by omega) t cs (nx:=h.next+1) (by omega)
    exact⟨h.new t cs,rfl,this.1,this.2⟩
   |some k'=>
    simp only at e⊢;split at e
    .rename_i hc;obtain⟨c1,c2,c3⟩:=hc;cases e;have c1:cond (Nat.beq x k) true (h.used x)=false:=c1;have hne:k≠x:=λe=>(by rw[e,abe] at c1;cases c1);have c4:h.used x=false:=by
      cases q:Nat.beq x k
      .rw[q] at c1;exact c1
      .rw[q] at c1;cases c1
     have:=QU (kt:=kt) hu hne t cs (nx:=h.next) (by omega)
     exact⟨_,by rw[BY ⟨c4,c2,c3⟩],this.1,this.2⟩
    .cases e
  .cases e
 .unfold Ago.aJ at e;split at e
  .cases nm with
   |none=>cases e;rfl
   |some k'=>
    simp only at e;split at e
    .cases e;rfl
    .cases e
  .cases e
theorem xK.dT (r:Nat):xK (Ago.dT r):=by
 refine⟨λh k kt x h2 u e=>?_,λh x h1 e=>?_⟩
 .cases e;obtain⟨u1,u2,u3,u4⟩:=u;exact⟨{ h with next:=h.next+r },rfl,⟨u1,by show k<h.next+r;omega,u3,u4⟩,rfl⟩
 .cases e;rfl
theorem xK.pT (nm:μ)(t:κ)(z:δ)(l c:Int):xK (pT nm t z l c):=by
 refine⟨λh k kt x h2 u e=>?_,λh x h1 e=>?_⟩
 .unfold Ago.pT at e⊢;split at e
  .rename_i hc;rw[BY hc];split at e
   .rename_i b h3 hn;cases e;obtain⟨h1,q1,q2,q3⟩:=(xK.aJ nm t _).1 h k kt b _ u hn;refine⟨h1,?_,q2,q3⟩;simp only[q1]
   .cases e
  .cases e
 .unfold Ago.pT at e;split at e
  .split at e
   .rename_i b h3 hn;cases e;exact (xK.aJ nm t _).2 _ _ _ hn
   .cases e
  .cases e
end Go.Ago
namespace Go.Sh
open Go Go.Ago Go.Proofs
theorem DZ (n:Nat)(x:Sl×Int):xK (r8 n x):=by
 unfold r8;exact .bind (.aJ _ _ _) λ_=>.bind (.dT _) λ_=>.bind (.bh _ _) λ_=>.bind (.ar _ _) λ_=>.bind (.pT _ _ _ _ _) λ_=>.bind (.aJ _ _ _) λ_=>.pure _
end Go.Sh
