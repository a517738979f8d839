
import Derived.Test.YtlbigfjnapgioaaGreatDoorSh2
set_option linter.all false
namespace Go.Ago
open Go
variable {α β : Type}
theorem Anti.bind {m : M α} {f : α → M β} (hm : Anti m) (hf : ∀ a,Anti (f a)) : Anti (M.bind m f):=fun h k kt x h2 u n e=>by
 unfold M.bind at e ⊢
 cases he : m (h.mkm k kt) with
 | none=>rw [he] at e;cases e
 | some p =>
  obtain ⟨a,h3⟩:=p
  rw [he] at e
  obtain ⟨h1,q1,q2,q3,rfl⟩:=hm h k kt a h3 u n he
  rw [q1]
  exact hf a h1 k kt x h2 q2 q3 e
theorem Anti.pure (a : α) : Anti (M.pure a):=fun h k kt x h2 u n e=>by
 cases e;exact ⟨h,rfl,u,n,rfl⟩
theorem Anti.fail : Anti (M.fail : M α):=fun h k kt x h2 u n e=>by cases e
theorem Anti.same {m : M α} (hm : ∀ h k kt x h2,m (AHeap.mkm h k kt) = some (x,h2) → h2 = AHeap.mkm h k kt∧m h = some (x,h)) : Anti m:=fun h k kt x h2 u n e=>by
 obtain ⟨rfl,e2⟩:=hm h k kt x h2 e
 exact ⟨h,e2,u,n,rfl⟩
theorem Anti.ldL (l : Leaf) (a : Addr) : Anti (ldL l a):=.same fun h k kt x h2 e=>by
 unfold Ago.ldL at e ⊢
 have : (h.mkm k kt).cell a = h.cell a:=rfl
 rw [this] at e
 split at e
 ·split at e
  ·rename_i hu;cases e;exact ⟨rfl,by simp only [hu]⟩
  ·cases e
 ·cases e
theorem Anti.ldLs (ls : List Leaf) (a : Addr) : Anti (ldLs ls a):=.same fun h k kt x h2 e=>by
 unfold Ago.ldLs at e ⊢
 have : cellsAt (h.mkm k kt) (some a) ls.length = cellsAt h (some a) ls.length:=rfl
 rw [this] at e
 split at e
 ·split at e
  ·rename_i hu;cases e;exact ⟨rfl,by simp only [hu]⟩
  ·cases e
 ·cases e
theorem Anti.reserve (r : Nat) : Anti (Ago.reserve r):=fun h k kt x h2 u n e=>by
 cases e
 exact ⟨{ h with next:=h.next + r },rfl,u,by show k < h.next + r;omega,rfl⟩
theorem putB_mkm {h : AHeap} {k k' nx : Nat} (hk : k ≠ k') {kt t : TypeId} {cs : List Value} : (h.mkm k kt).putB k' nx t cs = (h.putB k' nx t cs).mkm k kt:=by
 unfold AHeap.putB AHeap.mkm AHeap.mset
 simp only [AHeap.mk.injEq,true_and,and_true]
 funext j
 cases e1 : Nat.beq j k
 ·rfl
 ·cases e2 : Nat.beq j k'
  ·rfl
  ·exact absurd ((Nat.eq_of_beq_eq_true e1).symm.trans (Nat.eq_of_beq_eq_true e2)) hk
theorem Anti.newB (nm : Option Nat) (t : TypeId) (cs : List Value) : Anti (newB nm t cs):=fun h k kt x h2 u n e=>by
 unfold Ago.newB at e ⊢
 split at e
 ·rename_i hs
  rw [if_pos hs]
  cases nm with
  | none =>
   simp only at e ⊢
   cases e
   have hne : k ≠ h.next:=by omega
   refine ⟨h.new t cs,rfl,?_,by show k < h.next + 1;omega,putB_mkm hne⟩
   show cond (Nat.beq k h.next) true (h.used k) = false
   rw [cond_beq,if_neg hne];exact u
  | some k' =>
   simp only at e ⊢
   split at e
   ·rename_i hc
    obtain ⟨c1,c2,c3⟩:=hc
    cases e
    have c1 : cond (Nat.beq x k) true (h.used x) = false:=c1
    rw [cond_beq] at c1
    split at c1
    ·cases c1
    rename_i hne
    have c2 : x < h.next:=c2
    refine ⟨h.putB x h.next t cs,?_,?_,n,putB_mkm (fun e=>hne e.symm)⟩
    ·rw [if_pos ⟨c1,c2,c3⟩]
    ·show cond (Nat.beq k x) true (h.used k) = false
     rw [cond_beq,if_neg (fun e=>hne e.symm)];exact u
   ·cases e
 ·cases e
theorem Anti.mkS (nm : Option Nat) (t : TypeId) (z : List Value) (l c : Int) : Anti (mkS nm t z l c):=fun h k kt x h2 u n e=>by
 unfold Ago.mkS at e ⊢
 split at e
 ·rename_i hc
  rw [if_pos hc]
  split at e
  ·rename_i b h3 hn
   cases e
   obtain ⟨h1,q1,q2,q3,q4⟩:=Anti.newB nm t _ h k kt b _ u n hn
   refine ⟨h1,?_,q2,q3,q4⟩
   simp only [q1]
  ·cases e
 ·cases e
end Go.Ago
namespace Go.Sh
open Go Go.Ago Go.Proofs
theorem canon_of_anti (n : Nat) (x : Sl × Int) : Anti (canon_of n x):=by
 unfold canon_of
 exact .bind (.newB _ _ _) fun _=>.bind (.reserve _) fun _=>.bind (.ldLs _ _) fun _=>.bind (.ldL _ _) fun _=>.bind (.mkS _ _ _ _ _) fun _=>.bind (.newB _ _ _) fun _=>.pure _
end Go.Sh
