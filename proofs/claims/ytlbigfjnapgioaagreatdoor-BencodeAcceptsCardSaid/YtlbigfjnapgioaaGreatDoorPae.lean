
import Derived.Test.YtlbigfjnapgioaaGreatDoorPab
import Derived.Test.YtlbigfjnapgioaaGreatDoorPad
set_option linter.all false
namespace Go.Sh
open Go Go.Ago Go.Proofs
variable {α : Type}
def kidL (i : Nat) : BTl → List Int
 | .nil=>[]
 | .cons v l=>(i : Int) :: kidL (i + nsp v) l
def kidD (i : Nat) : BTd → List Int
 | .nil=>[]
 | .cons _ v l=>(i : Int) :: kidD (i + nsp v) l
def hdS (o b : Nat) (par e kf kt : Int) (v : BTv) : SpanV:=⟨b,par,e,o,(o + (enc v).length : Nat),kf,kt,false,true⟩
def spt (o b i : Nat) : BTv → List SpanV
 | .int _=>[]
 | .str _=>[]
 | .list l=>spsL (o + 1) (b + 1) (i + 1) i 0 l
 | .map l=>spsD (o + 1) (b + 1) (i + 1) i 0 l
theorem spsE (o b i : Nat) (par e kf kt : Int) (v : BTv) : sps o b i par e kf kt v = hdS o b par e kf kt v :: spt o b i v:=by cases v <;> rfl
def In (i n : Nat) (x : SpanV) : Prop:=(i : Int) ≤ x.parent∧x.parent < ((i + n : Nat) : Int)
mutual
theorem parT : ∀ (v : BTv) (o b i : Nat),∀ x ∈ spt o b i v,In i (nsp v) x
 | .int _,o,b,i,x,hx=>by cases hx
 | .str _,o,b,i,x,hx=>by cases hx
 | .list l,o,b,i,x,hx=>by
  have:=parL l (o + 1) (b + 1) (i + 1) i 0 x hx
  unfold In at this ⊢
  rw [nsp]
  rcases this with h | h <;> omega
 | .map l,o,b,i,x,hx=>by
  have:=parD l (o + 1) (b + 1) (i + 1) i 0 x hx
  unfold In at this ⊢
  rw [nsp]
  rcases this with h | h <;> omega
theorem parL : ∀ (l : BTl) (o b i par k : Nat),∀ x ∈ spsL o b i par k l,x.parent = (par : Int) ∨ In i (nspL l) x
 | .nil,o,b,i,par,k,x,hx=>by cases hx
 | .cons v l,o,b,i,par,k,x,hx=>by
  rw [spsL,spsE] at hx
  rw [nspL]
  rcases List.mem_append.1 hx with hx | hx
  ·rcases List.mem_cons.1 hx with rfl | hx
   ·exact .inl rfl
   ·have:=parT v o b i x hx
    unfold In at this ⊢
    right;omega
  ·have:=parL l _ _ _ _ _ x hx
   unfold In at this ⊢
   rcases this with h | h
   ·exact .inl h
   ·right;omega
theorem parD : ∀ (l : BTd) (o b i par k : Nat),∀ x ∈ spsD o b i par k l,x.parent = (par : Int) ∨ In i (nspD l) x
 | .nil,o,b,i,par,k,x,hx=>by cases hx
 | .cons key v l,o,b,i,par,k,x,hx=>by
  rw [spsD,spsE] at hx
  rw [nspD]
  rcases List.mem_append.1 hx with hx | hx
  ·rcases List.mem_cons.1 hx with rfl | hx
   ·exact .inl rfl
   ·have:=parT v _ _ i x hx
    unfold In at this ⊢
    right;omega
  ·have:=parD l _ _ _ _ _ x hx
   unfold In at this ⊢
   rcases this with h | h
   ·exact .inl h
   ·right;omega
end
def PtS (S : List SpanV) (i : Nat) (seg : List SpanV) : Prop:=∃ P Q,S = P ++ (seg ++ Q)∧P.length = i∧(∀ x ∈ P,¬ In i seg.length x)∧∀ x ∈ Q,¬ In i seg.length x
theorem PtS.get {S seg : List SpanV} {i j : Nat} {x : SpanV} (p : PtS S i seg) (hx : seg[j]? = some x) : S[i + j]? = some x:=by
 obtain ⟨P,Q,h1,h2,_⟩:=p
 exact Pt.get ⟨P,Q,h1,h2⟩ hx
theorem PtS.tail {S seg : List SpanV} {i : Nat} {x : SpanV} (p : PtS S i (x :: seg)) (hx : x.parent < (i : Int)) : PtS S (i + 1) seg:=by
 obtain ⟨P,Q,h1,h2,h3,h4⟩:=p
 refine ⟨P ++ [x],Q,by rw [h1];simp,by simp [h2],fun y hy=>?_,fun y hy=>?_⟩
 ·rcases List.mem_append.1 hy with hy | hy
  ·have:=h3 y hy
   unfold In at this ⊢
   rw [List.length_cons] at this
   omega
  ·simp at hy
   subst hy
   unfold In;omega
 ·have:=h4 y hy
  unfold In at this ⊢
  rw [List.length_cons] at this
  omega
theorem PtS.left {S A B : List SpanV} {i : Nat} (p : PtS S i (A ++ B)) (hB : ∀ x ∈ B,¬ In i A.length x) : PtS S i A:=by
 obtain ⟨P,Q,h1,h2,h3,h4⟩:=p
 have mono : ∀ y,¬ In i (A ++ B).length y → ¬ In i A.length y:=fun y hy=>by
  unfold In at hy ⊢
  rw [List.length_append] at hy;omega
 refine ⟨P,B ++ Q,by rw [h1];simp,h2,fun y hy=>mono y (h3 y hy),fun y hy=>?_⟩
 rcases List.mem_append.1 hy with hy | hy
 ·exact hB y hy
 ·exact mono y (h4 y hy)
theorem PtS.right {S A B : List SpanV} {i : Nat} (p : PtS S i (A ++ B)) (hA : ∀ x ∈ A,¬ In (i + A.length) B.length x) : PtS S (i + A.length) B:=by
 obtain ⟨P,Q,h1,h2,h3,h4⟩:=p
 have mono : ∀ y,¬ In i (A ++ B).length y → ¬ In (i + A.length) B.length y:=fun y hy=>by
  unfold In at hy ⊢
  rw [List.length_append] at hy;omega
 refine ⟨P ++ A,Q,by rw [h1];simp,by simp [h2],fun y hy=>?_,fun y hy=>mono y (h4 y hy)⟩
 rcases List.mem_append.1 hy with hy | hy
 ·exact mono y (h3 y hy)
 ·exact hA y hy
theorem chl_nil {p : Int} : ∀ {l : List SpanV} {i : Nat},(∀ x ∈ l,x.parent ≠ p) → chl i l p = []
 | [],i,_=>rfl
 | x :: l,i,h=>by rw [chl,if_neg (h x (by simp)),chl_nil fun y hy=>h y (by simp [hy])]
theorem PtS.chl {S seg : List SpanV} {i q : Nat} (p : PtS S i seg) (h1 : i ≤ q) (h2 : q < i + seg.length) : Go.Sh.chl 0 S (q : Int) = Go.Sh.chl i seg (q : Int):=by
 obtain ⟨P,Q,e,e2,h3,h4⟩:=p
 rw [e,chl_append,chl_append,Nat.zero_add,e2]
 rw [chl_nil (l:=P),chl_nil (l:=Q),List.nil_append,List.append_nil]
 ·intro x hx hp
  refine h4 x hx ?_
  unfold In;omega
 ·intro x hx hp
  refine h3 x hx ?_
  unfold In;omega
theorem chl_V {o b i : Nat} {par e kf kt : Int} {v : BTv} {p : Int} (hp : p < (i : Int)) (he : par = p) : chl i (sps o b i par e kf kt v) p = [(i : Int)]:=by
 rw [spsE,chl,if_pos (show (hdS o b par e kf kt v).parent = p from he),chl_nil]
 intro x hx hq
 have:=parT v o b i x hx
 unfold In at this;omega
theorem chl_L : ∀ (l : BTl) (o b i par k : Nat),par < i → chl i (spsL o b i par k l) (par : Int) = kidL i l
 | .nil,o,b,i,par,k,_=>rfl
 | .cons v l,o,b,i,par,k,h=>by
  rw [spsL,chl_append,chl_V (by omega) rfl,sps_len,chl_L l _ _ _ _ _ (by omega)];rfl
theorem chl_D : ∀ (l : BTd) (o b i par k : Nat),par < i → chl i (spsD o b i par k l) (par : Int) = kidD i l
 | .nil,o,b,i,par,k,_=>rfl
 | .cons key v l,o,b,i,par,k,h=>by
  rw [spsD,chl_append,chl_V (by omega) rfl,sps_len,chl_D l _ _ _ _ _ (by omega)];rfl
theorem kidL_len : ∀ (l : BTl) (i b : Nat),(kidL i l).length = (idxL b l).length
 | .nil,i,b=>rfl
 | .cons v l,i,b=>by rw [kidL,idxL,List.length_cons,List.length_cons,kidL_len l]
theorem kidD_len : ∀ (l : BTd) (i b : Nat),(kidD i l).length = (valsD b l).length
 | .nil,i,b=>rfl
 | .cons _ v l,i,b=>by rw [kidD,valsD,List.length_cons,List.length_cons,kidD_len l]
theorem PtS.L {S : List SpanV} {o b i par k : Nat} {v : BTv} {l : BTl} (p : PtS S i (spsL o b i par k (.cons v l))) (hp : par < i) :
  PtS S i (sps o b i par k 0 0 v)∧PtS S (i + nsp v) (spsL (o + (enc v).length) (b + nsz v) (i + nsp v) par (k + 1) l):=by
 rw [spsL] at p
 have hl:=sps_len o b i par k 0 0 v
 refine ⟨p.left fun x hx=>?_,?_⟩
 ·have:=parL l _ _ _ _ _ x hx
  unfold In at this ⊢
  rw [hl]
  rcases this with h | h <;> omega
 ·have:=p.right fun x hx=>?_
  ·rw [hl] at this;exact this
  ·rw [hl]
   rw [spsE] at hx
   rcases List.mem_cons.1 hx with rfl | hx
   ·unfold In hdS;simp only;omega
   ·have:=parT v o b i x hx
    unfold In at this ⊢;omega
theorem PtS.D {S : List SpanV} {o b i par k : Nat} {key : ByteArray} {v : BTv} {l : BTd} (p : PtS S i (spsD o b i par k (.cons key v l))) (hp : par < i) :
  PtS S i (sps (o + (encS key).length) (b + 1) i par k o ((o + (encS key).length : Nat)) v)∧PtS S (i + nsp v) (spsD (o + (encS key).length + (enc v).length) (b + 1 + nsz v) (i + nsp v) par (k + 1) l):=by
 rw [spsD] at p
 have hl:=sps_len (o + (encS key).length) (b + 1) i par k o ((o + (encS key).length : Nat)) v
 refine ⟨p.left fun x hx=>?_,?_⟩
 ·have:=parD l _ _ _ _ _ x hx
  unfold In at this ⊢
  rw [hl]
  rcases this with h | h <;> omega
 ·have:=p.right fun x hx=>?_
  ·rw [hl] at this;exact this
  ·rw [hl]
   rw [spsE] at hx
   rcases List.mem_cons.1 hx with rfl | hx
   ·unfold In hdS;simp only;omega
   ·have:=parT v _ _ i x hx
    unfold In at this ⊢;omega
theorem kids_L {S : List SpanV} : ∀ (l : BTl) (o b i par k : Nat),PtS S i (spsL o b i par k l) → par < i → ∀ (t : Nat) (q : Int),(kidL i l)[t]? = some q → ∃ c,gt S q = some c∧c.entry = ((k + t : Nat) : Int)
 | .nil,o,b,i,par,k,p,hp,t,q,hq=>by simp [kidL] at hq
 | .cons v l,o,b,i,par,k,p,hp,t,q,hq=>by
  obtain ⟨p1,p2⟩:=p.L hp
  rw [kidL] at hq
  cases t with
  | zero =>
   simp at hq;subst hq
   rw [spsE] at p1
   exact ⟨_,by rw [gt_nat];exact p1.get (j:=0) rfl,by simp [hdS]⟩
  | succ t =>
   obtain ⟨c,h1,h2⟩:=kids_L l _ _ _ _ _ p2 (by omega) t q (by simpa using hq)
   exact ⟨c,h1,by rw [h2];congr 1;omega⟩
theorem kids_D {S : List SpanV} : ∀ (l : BTd) (o b i par k : Nat),PtS S i (spsD o b i par k l) → par < i → ∀ (t : Nat) (q : Int),(kidD i l)[t]? = some q → ∃ c,gt S q = some c∧c.entry = ((k + t : Nat) : Int)
 | .nil,o,b,i,par,k,p,hp,t,q,hq=>by simp [kidD] at hq
 | .cons key v l,o,b,i,par,k,p,hp,t,q,hq=>by
  obtain ⟨p1,p2⟩:=p.D hp
  rw [kidD] at hq
  cases t with
  | zero =>
   simp at hq;subst hq
   rw [spsE] at p1
   exact ⟨_,by rw [gt_nat];exact p1.get (j:=0) rfl,by simp [hdS]⟩
  | succ t =>
   obtain ⟨c,h1,h2⟩:=kids_D l _ _ _ _ _ p2 (by omega) t q (by simpa using hq)
   exact ⟨c,h1,by rw [h2];congr 1;omega⟩
theorem nst_L {S : List SpanV} : ∀ (l : BTl) (o b i par k : Nat) (a : Int),PtS S i (spsL o b i par k l) → par < i → a ≤ (o : Int) → ∃ a',nstL S false a (kidL i l) = some (some a')∧a' ≤ ((o + (encL l).length : Nat) : Int)
 | .nil,o,b,i,par,k,a,p,hp,ha=>⟨a,rfl,by simp [encL];omega⟩
 | .cons v l,o,b,i,par,k,a,p,hp,ha=>by
  obtain ⟨p1,p2⟩:=p.L hp
  rw [spsE] at p1
  have hg : gt S (i : Int) = some (hdS o b par k 0 0 v):=by rw [gt_nat];exact p1.get (j:=0) rfl
  obtain ⟨a',e1,e2⟩:=nst_L l _ _ _ _ _ (hdS o b par k 0 0 v).to p2 (by omega) (Int.le_refl _)
  refine ⟨a',?_,by rw [encL,List.length_append];omega⟩
  rw [kidL,nstL,hg]
  simp only
  rw [if_neg (by simp),if_neg (by show ¬ ((o : Int) < a);omega)]
  exact e1
theorem nst_D {S : List SpanV} : ∀ (l : BTd) (o b i par k : Nat) (a : Int),PtS S i (spsD o b i par k l) → par < i → a ≤ (o : Int) → ∃ a',nstL S true a (kidD i l) = some (some a')∧a' ≤ ((o + (encD l).length : Nat) : Int)
 | .nil,o,b,i,par,k,a,p,hp,ha=>⟨a,rfl,by simp [encD];omega⟩
 | .cons key v l,o,b,i,par,k,a,p,hp,ha=>by
  obtain ⟨p1,p2⟩:=p.D hp
  rw [spsE] at p1
  have hg : gt S (i : Int) = some (hdS (o + (encS key).length) (b + 1) par k o ((o + (encS key).length : Nat)) v):=by rw [gt_nat];exact p1.get (j:=0) rfl
  obtain ⟨a',e1,e2⟩:=nst_D l _ _ _ _ _ (hdS (o + (encS key).length) (b + 1) par k o ((o + (encS key).length : Nat)) v).to p2 (by omega) (Int.le_refl _)
  refine ⟨a',?_,by rw [encD,List.length_append,List.length_append];omega⟩
  rw [kidD,nstL,hg]
  simp only
  rw [if_pos trivial,if_neg (by show ¬ ((o : Int) < a);omega),if_neg (by show ¬ (((o + (encS key).length : Nat) : Int) < ((o + (encS key).length : Nat) : Int));omega)]
  exact e1
structure Lc (N : List NodeV) (S : List SpanV) (idx : Nat) (x : SpanV) : Prop where
 alias : x.alias = false
 whole : x.whole = true
 nd : ∃ nd,gt N x.node = some nd∧(chl 0 S (idx : Int)).length = nd.items.length∧∃ a,nstL S (decide (nd.kind = 10)) x.frm (chl 0 S (idx : Int)) = some (some a)∧a ≤ x.to
 kids : ∀ (t : Nat) (k : Int),(chl 0 S (idx : Int))[t]? = some k → ∃ c,gt S k = some c∧c.entry = (t : Int)
structure Pa (N : List NodeV) (S : List SpanV) (idx : Nat) (x : SpanV) : Prop where
 pos : 0 ≤ x.parent
 lt : x.parent < (idx : Int)
 ent : 0 ≤ x.entry
 ex : ∃ y nd,gt S x.parent = some y∧y.alias = false∧gt N y.node = some nd∧gt nd.items x.entry = some x.node∧(nd.kind = 10 ∨ x.kf = 0∧x.kt = 0)
theorem app_get {l r : List α} {j : Nat} {x : α} (hx : (l ++ r)[j]? = some x) : l[j]? = some x ∨ ∃ j',j = l.length + j'∧r[j']? = some x:=by
 rw [List.getElem?_append] at hx
 split at hx
 ·exact .inl hx
 ·exact .inr ⟨j - l.length,by omega,hx⟩
mutual
theorem lc_V {N : List NodeV} {S : List SpanV} : ∀ (v : BTv) (o b i : Nat) (par e kf kt : Int),Pt N b (nds b v) → PtS S i (sps o b i par e kf kt v) → par < (i : Int) → ∀ (j : Nat) x,(sps o b i par e kf kt v)[j]? = some x → Lc N S (i + j) x
 | .int t,o,b,i,par,e,kf,kt,pn,ps,hp,j,x,hx=>by
  rw [sps] at hx
  cases j with
  | succ j=>simp at hx
  | zero =>
   simp at hx;subst hx
   have hc : chl 0 S ((i + 0 : Nat) : Int) = []:=by
    have hs:=ps.chl (q:=i) (Nat.le_refl _) (by have:=sps_len o b i par e kf kt (.int t);rw [nsp] at this;omega)
    rw [sps,chl,if_neg (by show ¬ par = (i : Int);omega)] at hs
    exact hs
   exact ⟨rfl,rfl,⟨_,by rw [gt_nat];exact pn.cons.1,by rw [hc],(o : Int),by rw [hc];rfl,by simp only;omega⟩,fun t k hk=>by rw [hc] at hk;simp at hk⟩
 | .str t,o,b,i,par,e,kf,kt,pn,ps,hp,j,x,hx=>by
  rw [sps] at hx
  cases j with
  | succ j=>simp at hx
  | zero =>
   simp at hx;subst hx
   have hc : chl 0 S ((i + 0 : Nat) : Int) = []:=by
    have hs:=ps.chl (q:=i) (Nat.le_refl _) (by have:=sps_len o b i par e kf kt (.str t);rw [nsp] at this;omega)
    rw [sps,chl,if_neg (by show ¬ par = (i : Int);omega)] at hs
    exact hs
   exact ⟨rfl,rfl,⟨_,by rw [gt_nat];exact pn.cons.1,by rw [hc],(o : Int),by rw [hc];rfl,by simp only;omega⟩,fun t k hk=>by rw [hc] at hk;simp at hk⟩
 | .list l,o,b,i,par,e,kf,kt,pn,ps,hp,j,x,hx=>by
  rw [nds] at pn
  have hc : chl 0 S ((i + 0 : Nat) : Int) = kidL (i + 1) l:=by
   show chl 0 S (i : Int) = _
   rw [ps.chl (Nat.le_refl _) (by have:=sps_len o b i par e kf kt (.list l);rw [nsp] at this;omega),sps,chl,if_neg (by show ¬ par = (i : Int);omega),chl_L l _ _ _ _ _ (by omega)]
  rw [sps] at ps hx
  have ps2:=ps.tail hp
  cases j with
  | zero =>
   simp at hx;subst hx
   obtain ⟨a',e1,e2⟩:=nst_L l _ _ _ _ _ (o : Int) ps2 (by omega) (by omega)
   refine ⟨rfl,rfl,⟨_,by rw [gt_nat];exact pn.cons.1,by rw [hc];exact kidL_len l _ _,a',by rw [hc];exact e1,?_⟩,fun t k hk=>?_⟩
   ·simp only [enc,List.length_cons,List.length_append,List.length_nil];omega
   ·rw [hc] at hk
    obtain ⟨c,h1,h2⟩:=kids_L l _ _ _ _ _ ps2 (by omega) t k hk
    exact ⟨c,h1,by rw [h2,Nat.zero_add]⟩
  | succ j =>
   have:=lc_L l _ _ _ _ _ pn.cons.2 ps2 (by omega) j x (by simpa using hx)
   rw [show i + (j + 1) = i + 1 + j by omega];exact this
 | .map l,o,b,i,par,e,kf,kt,pn,ps,hp,j,x,hx=>by
  rw [nds] at pn
  have hc : chl 0 S ((i + 0 : Nat) : Int) = kidD (i + 1) l:=by
   show chl 0 S (i : Int) = _
   rw [ps.chl (Nat.le_refl _) (by have:=sps_len o b i par e kf kt (.map l);rw [nsp] at this;omega),sps,chl,if_neg (by show ¬ par = (i : Int);omega),chl_D l _ _ _ _ _ (by omega)]
  rw [sps] at ps hx
  have ps2:=ps.tail hp
  cases j with
  | zero =>
   simp at hx;subst hx
   obtain ⟨a',e1,e2⟩:=nst_D l _ _ _ _ _ (o : Int) ps2 (by omega) (by omega)
   refine ⟨rfl,rfl,⟨_,by rw [gt_nat];exact pn.cons.1,by rw [hc];exact kidD_len l _ _,a',by rw [hc];exact e1,?_⟩,fun t k hk=>?_⟩
   ·simp only [enc,List.length_cons,List.length_append,List.length_nil];omega
   ·rw [hc] at hk
    obtain ⟨c,h1,h2⟩:=kids_D l _ _ _ _ _ ps2 (by omega) t k hk
    exact ⟨c,h1,by rw [h2,Nat.zero_add]⟩
  | succ j =>
   have:=lc_D l _ _ _ _ _ pn.cons.2 ps2 (by omega) j x (by simpa using hx)
   rw [show i + (j + 1) = i + 1 + j by omega];exact this
theorem lc_L {N : List NodeV} {S : List SpanV} : ∀ (l : BTl) (o b i par k : Nat),Pt N b (ndsL b l) → PtS S i (spsL o b i par k l) → par < i → ∀ (j : Nat) x,(spsL o b i par k l)[j]? = some x → Lc N S (i + j) x
 | .nil,o,b,i,par,k,pn,ps,hp,j,x,hx=>by simp [spsL] at hx
 | .cons v l,o,b,i,par,k,pn,ps,hp,j,x,hx=>by
  obtain ⟨p1,p2⟩:=ps.L hp
  rw [ndsL] at pn
  obtain ⟨n1,n2⟩:=pn.split
  rw [nds_len] at n2
  rw [spsL] at hx
  rcases app_get hx with hx | ⟨j',rfl,hx2⟩
  ·exact lc_V v _ _ _ _ _ _ _ n1 p1 (by omega) j x hx
  ·rw [sps_len,← Nat.add_assoc]
   exact lc_L l _ _ _ _ _ n2 p2 (by omega) j' x hx2
theorem lc_D {N : List NodeV} {S : List SpanV} : ∀ (l : BTd) (o b i par k : Nat),Pt N b (ndsD b l) → PtS S i (spsD o b i par k l) → par < i → ∀ (j : Nat) x,(spsD o b i par k l)[j]? = some x → Lc N S (i + j) x
 | .nil,o,b,i,par,k,pn,ps,hp,j,x,hx=>by simp [spsD] at hx
 | .cons key v l,o,b,i,par,k,pn,ps,hp,j,x,hx=>by
  obtain ⟨p1,p2⟩:=ps.D hp
  rw [ndsD] at pn
  obtain ⟨n1,n2⟩:=pn.cons.2.split
  rw [nds_len] at n2
  rw [spsD] at hx
  rcases app_get hx with hx | ⟨j',rfl,hx2⟩
  ·exact lc_V v _ _ _ _ _ _ _ n1 p1 (by omega) j x hx
  ·rw [sps_len,← Nat.add_assoc]
   exact lc_D l _ _ _ _ _ n2 p2 (by omega) j' x hx2
end
mutual
theorem pa_T {N : List NodeV} {S : List SpanV} : ∀ (v : BTv) (o b i : Nat) (par e kf kt : Int),Pt N b (nds b v) → PtS S i (sps o b i par e kf kt v) → par < (i : Int) → ∀ (j : Nat) x,(spt o b i v)[j]? = some x → Pa N S (i + 1 + j) x
 | .int t,o,b,i,par,e,kf,kt,pn,ps,hp,j,x,hx=>by simp [spt] at hx
 | .str t,o,b,i,par,e,kf,kt,pn,ps,hp,j,x,hx=>by simp [spt] at hx
 | .list l,o,b,i,par,e,kf,kt,pn,ps,hp,j,x,hx=>by
  rw [nds] at pn
  rw [sps] at ps
  have hy:=ps.get (j:=0) rfl
  exact pa_L l _ _ _ _ _ pn.cons.2 (ps.tail hp) (by omega) ⟨_,_,by rw [gt_nat];exact hy,rfl,by rw [gt_nat];exact pn.cons.1,fun t q hq=>by rw [Nat.zero_add,gt_nat];exact hq⟩ j x hx
 | .map l,o,b,i,par,e,kf,kt,pn,ps,hp,j,x,hx=>by
  rw [nds] at pn
  rw [sps] at ps
  have hy:=ps.get (j:=0) rfl
  exact pa_D l _ _ _ _ _ pn.cons.2 (ps.tail hp) (by omega) ⟨_,_,by rw [gt_nat];exact hy,rfl,by rw [gt_nat];exact pn.cons.1,rfl,fun t q hq=>by rw [Nat.zero_add,gt_nat];exact hq⟩ j x hx
theorem pa_L {N : List NodeV} {S : List SpanV} : ∀ (l : BTl) (o b i par k : Nat),Pt N b (ndsL b l) → PtS S i (spsL o b i par k l) → par < i → (∃ y nd,gt S (par : Int) = some y∧y.alias = false∧gt N y.node = some nd∧∀ (t : Nat) q,(idxL b l)[t]? = some q → gt nd.items ((k + t : Nat) : Int) = some q) →
  ∀ (j : Nat) x,(spsL o b i par k l)[j]? = some x → Pa N S (i + j) x
 | .nil,o,b,i,par,k,pn,ps,hp,hy,j,x,hx=>by simp [spsL] at hx
 | .cons v l,o,b,i,par,k,pn,ps,hp,hy,j,x,hx=>by
  obtain ⟨p1,p2⟩:=ps.L hp
  rw [ndsL] at pn
  obtain ⟨n1,n2⟩:=pn.split
  rw [nds_len] at n2
  obtain ⟨y,nd,y1,y2,y3,y4⟩:=hy
  rw [spsL] at hx
  rcases app_get hx with hx | ⟨j',rfl,hx2⟩
  ·rw [spsE] at hx
   cases j with
   | zero =>
    simp at hx;subst hx
    exact ⟨by simp only [hdS];omega,by simp only [hdS];omega,by simp only [hdS];omega,y,nd,y1,y2,y3,y4 0 _ rfl,.inr ⟨rfl,rfl⟩⟩
   | succ j =>
    have:=pa_T v _ _ _ _ _ _ _ n1 p1 (by omega) j x (by simpa using hx)
    rw [show i + (j + 1) = i + 1 + j by omega];exact this
  ·rw [sps_len,← Nat.add_assoc]
   exact pa_L l _ _ _ _ _ n2 p2 (by omega) ⟨y,nd,y1,y2,y3,fun t q hq=>by
    have:=y4 (t + 1) q (by simpa [idxL] using hq)
    rw [show k + 1 + t = k + (t + 1) by omega];exact this⟩ j' x hx2
theorem pa_D {N : List NodeV} {S : List SpanV} : ∀ (l : BTd) (o b i par k : Nat),Pt N b (ndsD b l) → PtS S i (spsD o b i par k l) → par < i → (∃ y nd,gt S (par : Int) = some y∧y.alias = false∧gt N y.node = some nd∧nd.kind = 10∧∀ (t : Nat) q,(valsD b l)[t]? = some q → gt nd.items ((k + t : Nat) : Int) = some q) →
  ∀ (j : Nat) x,(spsD o b i par k l)[j]? = some x → Pa N S (i + j) x
 | .nil,o,b,i,par,k,pn,ps,hp,hy,j,x,hx=>by simp [spsD] at hx
 | .cons key v l,o,b,i,par,k,pn,ps,hp,hy,j,x,hx=>by
  obtain ⟨p1,p2⟩:=ps.D hp
  rw [ndsD] at pn
  obtain ⟨n1,n2⟩:=pn.cons.2.split
  rw [nds_len] at n2
  obtain ⟨y,nd,y1,y2,y3,y5,y4⟩:=hy
  rw [spsD] at hx
  rcases app_get hx with hx | ⟨j',rfl,hx2⟩
  ·rw [spsE] at hx
   cases j with
   | zero =>
    simp at hx;subst hx
    exact ⟨by simp only [hdS];omega,by simp only [hdS];omega,by simp only [hdS];omega,y,nd,y1,y2,y3,y4 0 _ rfl,.inl y5⟩
   | succ j =>
    have:=pa_T v _ _ _ _ _ _ _ n1 p1 (by omega) j x (by simpa using hx)
    rw [show i + (j + 1) = i + 1 + j by omega];exact this
  ·rw [sps_len,← Nat.add_assoc]
   exact pa_D l _ _ _ _ _ n2 p2 (by omega) ⟨y,nd,y1,y2,y3,y5,fun t q hq=>by
    have:=y4 (t + 1) q (by simpa [valsD] using hq)
    rw [show k + 1 + t = k + (t + 1) by omega];exact this⟩ j' x hx2
end
end Go.Sh
set_option linter.all false
namespace Go.Sh
open Go Go.Ago Go.Proofs
variable {α : Type}
mutual
theorem nsp_le : ∀ (v : BTv),nsp v ≤ nsz v
 | .int _=>Nat.le_refl _
 | .str _=>Nat.le_refl _
 | .list l=>by have:=nspL_le l;rw [nsp,nsz];omega
 | .map l=>by have:=nspD_le l;rw [nsp,nsz];omega
theorem nspL_le : ∀ (l : BTl),nspL l ≤ nszL l
 | .nil=>Nat.le_refl _
 | .cons v l=>by have:=nsp_le v;have:=nspL_le l;rw [nspL,nszL];omega
theorem nspD_le : ∀ (l : BTd),nspD l ≤ nszD l
 | .nil=>Nat.le_refl _
 | .cons k v l=>by have:=nsp_le v;have:=nspD_le l;rw [nspD,nszD];omega
end
def ksAll (N : List NodeV) : List Int:=N.flatMap NodeV.keys
theorem ksAll_app (A B : List NodeV) : ksAll (A ++ B) = ksAll A ++ ksAll B:=List.flatMap_append
theorem ksAll_cons (x : NodeV) (A : List NodeV) : ksAll (x :: A) = x.keys ++ ksAll A:=List.flatMap_cons
def ndAll (S : List SpanV) : List Int:=S.map SpanV.node
theorem ndAll_app (A B : List SpanV) : ndAll (A ++ B) = ndAll A ++ ndAll B:=List.map_append
theorem ndAll_cons (x : SpanV) (A : List SpanV) : ndAll (x :: A) = x.node :: ndAll A:=rfl
mutual
theorem cs_V : ∀ (v : BTv) (o b i : Nat) (par e kf kt : Int) (j : Nat),(ndAll (sps o b i par e kf kt v)).count (j : Int) + (ksAll (nds b v)).count (j : Int) = if b ≤ j∧j < b + nsz v then 1 else 0
 | .int t,o,b,i,par,e,kf,kt,j=>by
  rw [sps,nds,ndAll_cons,List.count_cons,cnt_one,nsz]
  show (0 + _) + 0 = _
  split <;> split <;> omega
 | .str t,o,b,i,par,e,kf,kt,j=>by
  rw [sps,nds,ndAll_cons,List.count_cons,cnt_one,nsz]
  show (0 + _) + 0 = _
  split <;> split <;> omega
 | .list l,o,b,i,par,e,kf,kt,j=>by
  have ih:=cs_L l (o + 1) (b + 1) (i + 1) i 0 j
  rw [sps,nds,ndAll_cons,List.count_cons,cnt_one,ksAll_cons,nsz]
  show (_ + _) + (ksAll _).count _ = _
  split <;> split at ih <;> split <;> omega
 | .map l,o,b,i,par,e,kf,kt,j=>by
  have ih:=cs_D l (o + 1) (b + 1) (i + 1) i 0 j
  rw [sps,nds,ndAll_cons,List.count_cons,cnt_one,ksAll_cons,List.count_append,nsz]
  simp only
  split <;> split at ih <;> split <;> omega
theorem cs_L : ∀ (l : BTl) (o b i par k j : Nat),(ndAll (spsL o b i par k l)).count (j : Int) + (ksAll (ndsL b l)).count (j : Int) = if b ≤ j∧j < b + nszL l then 1 else 0
 | .nil,o,b,i,par,k,j=>by rw [spsL,ndsL,nszL,if_neg (by omega)];rfl
 | .cons v l,o,b,i,par,k,j=>by
  have i1:=cs_V v o b i par k 0 0 j
  have i2:=cs_L l (o + (enc v).length) (b + nsz v) (i + nsp v) par (k + 1) j
  rw [spsL,ndsL,ndAll_app,ksAll_app,List.count_append,List.count_append,nszL]
  split at i1 <;> split at i2 <;> split <;> omega
theorem cs_D : ∀ (l : BTd) (o b i par k j : Nat),(ndAll (spsD o b i par k l)).count (j : Int) + ((keysD b l).count (j : Int) + (ksAll (ndsD b l)).count (j : Int)) = if b ≤ j∧j < b + nszD l then 1 else 0
 | .nil,o,b,i,par,k,j=>by rw [spsD,keysD,ndsD,nszD,if_neg (by omega)];rfl
 | .cons key v l,o,b,i,par,k,j=>by
  have i1:=cs_V v (o + (encS key).length) (b + 1) i par k o ((o + (encS key).length : Nat)) j
  have i2:=cs_D l (o + (encS key).length + (enc v).length) (b + 1 + nsz v) (i + nsp v) par (k + 1) j
  rw [spsD,keysD,ndsD,ndAll_app,ksAll_cons,ksAll_app,List.count_append,List.count_append,List.count_append,List.count_cons,cnt_one,nszD]
  show _ + (_ + _ + (0 + _)) = _
  split <;> split at i1 <;> split at i2 <;> split <;> omega
end
theorem vis_leafM {N : List NodeV} {y : Int} (hy : Leafy N y) (k : Nat) (M : Nat → Bool) : vis (k + 2) N y (mk N.length M) = some (mk N.length fun i=>M i || decide ((i : Int) = y)):=by
 obtain ⟨j,x,rfl,h1,h2,h3⟩:=hy
 rw [vis,mk_gt (lt_of_get h1)]
 cases hM : M j with
 | true =>
  refine congrArg some (mk_ext fun i _=>?_)
  by_cases e : i = j
  ·subst e;rw [hM];rfl
  ·have : decide ((i : Int) = (j : Int)) = false:=decide_eq_false (by omega)
   rw [this,Bool.or_false]
 | false =>
  simp only [gt_nat,h1,h2,h3]
  rw [visL,Int.toNat_natCast,mk_set]
  simp only
  rw [visL]
  refine congrArg some (mk_ext fun i _=>?_)
  by_cases e : i = j
  ·subst e;simp
  ·rw [if_neg e]
   have : decide ((i : Int) = (j : Int)) = false:=decide_eq_false (by omega)
   rw [this,Bool.or_false]
theorem visA_leafM {N : List NodeV} (k : Nat) : ∀ (xs : List Int) (M : Nat → Bool),(∀ y ∈ xs,Leafy N y) → visA (k + 2) N xs (mk N.length M) = some (mk N.length fun i=>M i || decide ((i : Int) ∈ xs))
 | [],M,_=>by
  rw [visA]
  refine congrArg some (mk_ext fun i _=>by simp)
 | x :: xs,M,h=>by
  rw [visA,vis_leafM (h x (by simp)) k M]
  simp only [Option.bind_some]
  rw [visA_leafM k xs _ fun y hy=>h y (by simp [hy])]
  refine congrArg some (mk_ext fun i _=>?_)
  rw [Bool.or_assoc]
  congr 1
  simp
theorem inK_leafM {N : List NodeV} (k : Nat) : ∀ (X : List NodeV) (M : Nat → Bool),(∀ x ∈ X,∀ y ∈ x.keys,Leafy N y) → inK (k + 2) N X (mk N.length M) = some (mk N.length fun i=>M i || decide ((i : Int) ∈ ksAll X))
 | [],M,_=>by
  rw [inK]
  refine congrArg some (mk_ext fun i _=>by simp [ksAll])
 | x :: xs,M,h=>by
  rw [inK,visA_leafM k x.keys M (h x (by simp))]
  simp only [Option.bind_some]
  rw [inK_leafM k xs _ fun y hy=>h y (by simp [hy])]
  refine congrArg some (mk_ext fun i _=>?_)
  rw [Bool.or_assoc,ksAll_cons]
  congr 1
  simp
theorem ordP_id {S : List SpanV} {ks : List Int} (hk : ∀ (t : Nat) (k : Int),ks[t]? = some k → ∃ c,gt S k = some c∧c.entry = (t : Int)) : ∀ (n t : Nat),ks.length - t = n → t ≤ ks.length → ordP S (ks.take t ++ List.replicate (ks.length - t) 0) (ks.drop t) = some ks:=by
 intro n
 induction n with
 | zero =>
  intro t h1 h2
  have : t = ks.length:=by omega
  subst this
  simp [ordP]
 | succ n ih =>
  intro t h1 h2
  obtain ⟨k,hkt⟩:=getI (l:=ks) (i:=t) (by omega)
  obtain ⟨c,c1,c2⟩:=hk t k hkt
  rw [drop_cons hkt,ordP,c1]
  simp only
  rw [c2,if_pos ⟨by omega,by rw [List.length_append,List.length_take,List.length_replicate];omega⟩,Int.toNat_natCast,fill hkt]
  exact ih (t + 1) (by omega) (by omega)
theorem met2_ok {S : List SpanV} : ∀ (ks : List Int) (t0 : Nat) (m : List Bool),(∀ (t : Nat) (k : Int),ks[t]? = some k → ∃ c,gt S k = some c∧c.entry = ((t0 + t : Nat) : Int)) → t0 + ks.length ≤ m.length → (∀ j b,t0 ≤ j → m[j]? = some b → b = false) → ∃ r,met2 S m ks = some (some r)
 | [],t0,m,_,_,_=>⟨m,rfl⟩
 | k :: ks,t0,m,hk,hl,hm=>by
  obtain ⟨c,c1,c2⟩:=hk 0 k rfl
  rw [Nat.add_zero] at c2
  rw [List.length_cons] at hl
  obtain ⟨b,hb⟩:=getI (l:=m) (i:=t0) (by omega)
  have:=hm t0 b (Nat.le_refl _) hb
  subst this
  rw [met2,c1]
  simp only
  rw [c2,gt_nat,hb]
  simp only
  rw [Int.toNat_natCast]
  refine met2_ok ks (t0 + 1) _ (fun t k h=>?_) (by simp;omega) fun j b h1 h2=>?_
  ·obtain ⟨c,h1,h2⟩:=hk (t + 1) k (by simpa using h)
   exact ⟨c,h1,by rw [h2];congr 1;omega⟩
  ·rw [List.getElem?_set,if_neg (by omega)] at h2
   exact hm j b (by omega) h2
theorem nst0_ok {N : List NodeV} {S : List SpanV} : ∀ (xs : List SpanV) (i : Nat),(∀ (j : Nat) x,xs[j]? = some x → Lc N S (i + j) x) → nst0 N S i xs = some true
 | [],i,_=>rfl
 | x :: xs,i,h=>by
  have c:=h 0 x rfl
  rw [Nat.add_zero] at c
  have ih:=nst0_ok xs (i + 1) fun j y hy=>by
   have:=h (j + 1) y (by simpa using hy)
   rw [show i + 1 + j = i + (j + 1) by omega];exact this
  obtain ⟨nd,n1,n2,a,a1,a2⟩:=c.nd
  have ho:=ordP_id c.kids (chl 0 S (i : Int)).length 0 (by omega) (by omega)
  simp only [List.take_zero,List.nil_append,Nat.sub_zero,List.drop_zero] at ho
  rw [nst0,if_neg (by rw [c.whole,c.alias];simp),n1]
  simp only
  rw [ho]
  simp only
  rw [a1]
  simp only
  rw [if_neg (by omega)]
  exact ih
theorem occ0_ok {N : List NodeV} {S : List SpanV} : ∀ (xs : List SpanV) (i : Nat),(∀ (j : Nat) x,xs[j]? = some x → Pa N S (i + 1 + j) x) → occ0 N S i xs = some true
 | [],i,_=>rfl
 | x :: xs,i,h=>by
  have c:=h 0 x rfl
  have ih:=occ0_ok xs (i + 1) fun j y hy=>by
   have:=h (j + 1) y (by simpa using hy)
   rw [show i + 1 + 1 + j = i + 1 + (j + 1) by omega];exact this
  obtain ⟨y,nd,y1,y2,y3,y4,y5⟩:=c.ex
  have hp:=c.pos
  have hl:=c.lt
  have he:=c.ent
  have hlt:=lt_of_get (gt_some y4).2
  rw [occ0,if_neg (by omega),if_neg (by omega),y1]
  simp only
  rw [y2,if_neg (by simp),y3]
  simp only
  rw [if_neg (by omega),if_neg (by omega),y4]
  simp only
  exact ih
theorem occ1_ok {N : List NodeV} {S : List SpanV} : ∀ (xs : List SpanV) (i : Nat) (d r : List Int),(∀ (j : Nat) x,xs[j]? = some x → Lc N S (i + j) x) → bumps (ndAll xs) d = some r → occ1 N S i xs d = some (some r)
 | [],i,d,r,_,hr=>by cases hr;rfl
 | x :: xs,i,d,r,h,hr=>by
  have c:=h 0 x rfl
  rw [Nat.add_zero] at c
  rw [ndAll_cons,bumps] at hr
  obtain ⟨nd,n1,n2,_⟩:=c.nd
  cases hb : bump d x.node with
  | none=>rw [hb] at hr;cases hr
  | some d1 =>
  rw [hb] at hr
  simp only [Option.bind_some] at hr
  have ih:=occ1_ok xs (i + 1) d1 r (fun j y hy=>by
   have:=h (j + 1) y (by simpa using hy)
   rw [show i + 1 + j = i + (j + 1) by omega];exact this) hr
  obtain ⟨m,hm⟩:=met2_ok (S:=S) (chl 0 S (i : Int)) 0 (List.replicate nd.items.length false) (fun t k hk=>by
   obtain ⟨c,h1,h2⟩:=c.kids t k hk
   exact ⟨c,h1,by rw [h2,Nat.zero_add]⟩) (by simp;omega) fun j b _ hb=>List.eq_of_mem_replicate (List.mem_of_getElem? hb)
  rw [occ1,c.alias,if_neg (by simp),hb]
  simp only
  rw [n1]
  simp only
  rw [hm]
  simp only
  rw [if_pos n2]
  exact ih
theorem occ3_ok : ∀ (bs : List Bool) (ds : List Int),(∀ (j : Nat) b d,bs[j]? = some b → ds[j]? = some d → d = if b then 0 else 1) → occ3 bs ds = true
 | [],ds,_=>rfl
 | b :: bs,[],_=>rfl
 | b :: bs,d :: ds,h=>by
  have h0:=h 0 b d rfl rfl
  rw [occ3,if_neg,occ3_ok bs ds fun j b d h1 h2=>h (j + 1) b d (by simpa using h1) (by simpa using h2)]
  cases b <;> simp_all
mutual
theorem rg_V : ∀ (v : BTv) (o b i : Nat) (par e kf kt : Int),∀ x ∈ sps o b i par e kf kt v,(o : Int) ≤ x.frm∧x.frm ≤ x.to∧x.to ≤ ((o + (enc v).length : Nat) : Int)∧(x.kf = kf∧x.kt = kt ∨ 0 ≤ x.kf∧x.kf ≤ x.kt∧x.kt ≤ ((o + (enc v).length : Nat) : Int))
 | .int t,o,b,i,par,e,kf,kt,x,hx=>by
  rw [sps,List.mem_singleton] at hx;subst hx
  exact ⟨by simp only;omega,by simp only;omega,by simp only;omega,.inl ⟨rfl,rfl⟩⟩
 | .str t,o,b,i,par,e,kf,kt,x,hx=>by
  rw [sps,List.mem_singleton] at hx;subst hx
  exact ⟨by simp only;omega,by simp only;omega,by simp only;omega,.inl ⟨rfl,rfl⟩⟩
 | .list l,o,b,i,par,e,kf,kt,x,hx=>by
  rw [sps] at hx
  rcases List.mem_cons.1 hx with rfl | hx
  ·exact ⟨by simp only;omega,by simp only;omega,by simp only;omega,.inl ⟨rfl,rfl⟩⟩
  ·obtain ⟨h1,h2,h3,h4⟩:=rg_L l _ _ _ _ _ x hx
   have : (enc (.list l)).length = 1 + (encL l).length + 1:=by simp only [enc,List.length_cons,List.length_append,List.length_nil];omega
   refine ⟨by omega,h2,by omega,.inr ?_⟩
   rcases h4 with ⟨h4,h5⟩ | ⟨h4,h5,h6⟩ <;> omega
 | .map l,o,b,i,par,e,kf,kt,x,hx=>by
  rw [sps] at hx
  rcases List.mem_cons.1 hx with rfl | hx
  ·exact ⟨by simp only;omega,by simp only;omega,by simp only;omega,.inl ⟨rfl,rfl⟩⟩
  ·obtain ⟨h1,h2,h3,h4⟩:=rg_D l _ _ _ _ _ x hx
   have : (enc (.map l)).length = 1 + (encD l).length + 1:=by simp only [enc,List.length_cons,List.length_append,List.length_nil];omega
   refine ⟨by omega,h2,by omega,.inr ?_⟩
   omega
theorem rg_L : ∀ (l : BTl) (o b i par k : Nat),∀ x ∈ spsL o b i par k l,(o : Int) ≤ x.frm∧x.frm ≤ x.to∧x.to ≤ ((o + (encL l).length : Nat) : Int)∧(x.kf = 0∧x.kt = 0 ∨ 0 ≤ x.kf∧x.kf ≤ x.kt∧x.kt ≤ ((o + (encL l).length : Nat) : Int))
 | .nil,o,b,i,par,k,x,hx=>by cases hx
 | .cons v l,o,b,i,par,k,x,hx=>by
  rw [spsL] at hx
  have hl : (encL (.cons v l)).length = (enc v).length + (encL l).length:=by rw [encL,List.length_append]
  rcases List.mem_append.1 hx with hx | hx
  ·obtain ⟨h1,h2,h3,h4⟩:=rg_V v _ _ _ _ _ _ _ x hx
   refine ⟨h1,h2,by omega,?_⟩
   rcases h4 with ⟨h4,h5⟩ | ⟨h4,h5,h6⟩
   ·exact .inl ⟨h4,h5⟩
   ·exact .inr ⟨h4,h5,by omega⟩
  ·obtain ⟨h1,h2,h3,h4⟩:=rg_L l _ _ _ _ _ x hx
   refine ⟨by omega,h2,by omega,?_⟩
   rcases h4 with ⟨h4,h5⟩ | ⟨h4,h5,h6⟩
   ·exact .inl ⟨h4,h5⟩
   ·exact .inr ⟨h4,h5,by omega⟩
theorem rg_D : ∀ (l : BTd) (o b i par k : Nat),∀ x ∈ spsD o b i par k l,(o : Int) ≤ x.frm∧x.frm ≤ x.to∧x.to ≤ ((o + (encD l).length : Nat) : Int)∧0 ≤ x.kf∧x.kf ≤ x.kt∧x.kt ≤ ((o + (encD l).length : Nat) : Int)
 | .nil,o,b,i,par,k,x,hx=>by cases hx
 | .cons key v l,o,b,i,par,k,x,hx=>by
  rw [spsD] at hx
  have hl : (encD (.cons key v l)).length = (encS key).length + ((enc v).length + (encD l).length):=by rw [encD,List.length_append,List.length_append]
  rcases List.mem_append.1 hx with hx | hx
  ·obtain ⟨h1,h2,h3,h4⟩:=rg_V v _ _ _ _ _ _ _ x hx
   refine ⟨by omega,h2,by omega,?_⟩
   rcases h4 with ⟨h4,h5⟩ | ⟨h4,h5,h6⟩ <;> omega
  ·obtain ⟨h1,h2,h3,h4⟩:=rg_D l _ _ _ _ _ x hx
   omega
end
theorem rng0_ok {sz : Int} {N : List NodeV} {S : List SpanV} : ∀ (xs : List SpanV),(∀ x ∈ xs,0 ≤ x.frm∧x.frm ≤ x.to∧x.to ≤ sz∧0 ≤ x.kf∧x.kf ≤ x.kt∧x.kt ≤ sz) → (∀ x ∈ xs,∃ e,entOf N S x = some e∧(e = true ∨ x.kf = 0∧x.kt = 0)) → rng0 sz N S xs = some true
 | [],_,_=>rfl
 | x :: xs,h,g=>by
  obtain ⟨h1,h2,h3,h4,h5,h6⟩:=h x (by simp)
  obtain ⟨e,e1,e2⟩:=g x (by simp)
  rw [rng0,if_neg (by omega),if_neg (by omega),if_neg (by omega),if_neg (by omega),if_neg (by omega),if_neg (by omega),e1]
  simp only
  rw [if_neg (by rcases e2 with rfl | ⟨e2,e3⟩ <;> simp_all)]
  exact rng0_ok xs (fun y hy=>h y (by simp [hy])) fun y hy=>g y (by simp [hy])
theorem spCheck_tree {v : BTv} {s : ByteArray} (h : okV 0 v) (hn : nsz v ≤ 4096) (hs : s.size ≤ 65536) (he : s.data.toList = enc v) {k : Nat} (hk : 33 * (nsz v + 4) ≤ k) : spCheck k 5 s (nds 0 v) 0 (sps 0 0 0 (-1) 0 0 0 v) [] = some 0:=by
 have hp:=nsz_pos v
 have hsz : (enc v).length = s.size:=by rw [← he,size_toList]
 have ps : PtS (sps 0 0 0 (-1) 0 0 0 v) 0 (sps 0 0 0 (-1) 0 0 0 v):=⟨[],[],by simp,rfl,by simp,by simp⟩
 have pn : Pt (nds 0 v) 0 (nds 0 v):=Pt.self _
 have lc:=lc_V v 0 0 0 (-1) 0 0 0 pn ps (by omega)
 have pa:=pa_T v 0 0 0 (-1) 0 0 0 pn ps (by omega)
 have lc0 : ∀ (j : Nat) x,(sps 0 0 0 (-1) 0 0 0 v)[j]? = some x → Lc (nds 0 v) (sps 0 0 0 (-1) 0 0 0 v) (0 + j) x:=lc
 have hoc : occs k (nds 0 v) 0 (sps 0 0 0 (-1) 0 0 0 v) = some true:=by
  unfold occs
  rw [gcheck_tree h hn hk]
  simp only
  rw [if_neg (by simp)]
  have hE:=spsE 0 0 0 (-1) 0 0 0 v
  have e0 : occ0 (nds 0 v) (sps 0 0 0 (-1) 0 0 0 v) 0 (spt 0 0 0 v) = some true:=occ0_ok _ 0 pa
  have hb : bumps (ndAll (sps 0 0 0 (-1) 0 0 0 v)) (List.replicate (nds 0 v).length 0) = some (mk (nds 0 v).length fun i=>(((ndAll (sps 0 0 0 (-1) 0 0 0 v)).count (i : Int) : Nat) : Int)):=by
   have q1 : ∀ y ∈ ndAll (sps 0 0 0 (-1) 0 0 0 v),∃ j : Nat,y = j∧j < (nds 0 v).length:=fun y hy=>by
    obtain ⟨x,hx,rfl⟩:=List.mem_map.1 hy
    obtain ⟨j,hj⟩:=List.mem_iff_getElem?.1 hx
    obtain ⟨nd,n1,_⟩:=(lc j x hj).nd
    obtain ⟨g1,g2⟩:=gt_some n1
    exact ⟨x.node.toNat,by omega,lt_of_get g2⟩
   have q2 : 0 + (ndAll (sps 0 0 0 (-1) 0 0 0 v)).length < 4611686018427387904:=by
    have:=sps_len 0 0 0 (-1) 0 0 0 v
    have:=nsp_le v
    unfold ndAll
    rw [List.length_map];omega
   rw [mk_rep,bumps_mk _ _ 0 q1 (fun _=>⟨by omega,by omega⟩) q2]
   exact congrArg some (mk_ext fun i _=>by simp)
  have e1:=occ1_ok _ 0 _ _ lc0 hb
  obtain ⟨k,rfl⟩ : ∃ m,k = m + 2:=⟨k - 2,by omega⟩
  have e2:=inK_leafM (N:=nds 0 v) k (nds 0 v) (fun _=>false) (keys_leaf v 0 pn)
  rw [← mk_rep] at e2
  have e3 : occ3 (mk (nds 0 v).length fun i=>false || decide ((i : Int) ∈ ksAll (nds 0 v))) (mk (nds 0 v).length fun i=>((ndAll (sps 0 0 0 (-1) 0 0 0 v)).count (i : Int) : Int)) = true:=by
   refine occ3_ok _ _ fun j b d h1 h2=>?_
   have hlt:=lt_of_get h1
   rw [mk_len] at hlt
   rw [mk_get hlt] at h1 h2
   have c:=cs_V v 0 0 0 (-1) 0 0 0 j
   rw [nds_len] at hlt
   rw [if_pos (by omega)] at c
   rw [← Option.some.inj h1,← Option.some.inj h2]
   by_cases hm : (j : Int) ∈ ksAll (nds 0 v)
   ·have:=List.count_pos_iff.2 hm
    have : decide ((j : Int) ∈ ksAll (nds 0 v)) = true:=decide_eq_true hm
    rw [this]
    simp;omega
   ·have h0:=List.count_eq_zero.2 hm
    have : decide ((j : Int) ∈ ksAll (nds 0 v)) = false:=decide_eq_false hm
    rw [this]
    simp;omega
  rw [hE] at e0 e1 e3 ⊢
  simp only
  rw [if_neg (by simp [hdS]),if_neg (by simp [hdS]),if_neg (by simp [hdS]),if_neg (by simp [hdS]),e0]
  simp only
  rw [e1]
  simp only
  rw [e2]
  simp only
  rw [e3]
 have hrg : rngs s (nds 0 v) (sps 0 0 0 (-1) 0 0 0 v) [] = some true:=by
  unfold rngs
  rw [rng0_ok _ (fun x hx=>?_) fun x hx=>?_]
  ·rfl
  ·obtain ⟨h1,h2,h3,h4⟩:=rg_V v 0 0 0 (-1) 0 0 0 x hx
   rcases h4 with ⟨h4,h5⟩ | ⟨h4,h5,h6⟩ <;> omega
  ·rw [spsE] at hx
   rcases List.mem_cons.1 hx with rfl | hx
   ·exact ⟨false,by unfold entOf;rw [if_neg (by show ¬ (0 : Int) ≤ -1;omega)],.inr ⟨rfl,rfl⟩⟩
   ·obtain ⟨j,hj⟩:=List.mem_iff_getElem?.1 hx
    have c:=pa j x hj
    obtain ⟨y,nd,y1,y2,y3,y4,y5⟩:=c.ex
    refine ⟨decide (nd.kind = 10),?_,y5.imp (fun e=>by simp [e]) id⟩
    unfold entOf
    rw [if_pos c.pos,y1]
    simp only
    rw [y3]
 unfold spCheck
 rw [if_neg (by omega),if_neg (by omega),hoc]
 simp only
 rw [hrg]
 simp only
 rw [nst0_ok _ 0 lc0]
end Go.Sh
