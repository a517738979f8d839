
import Derived.Test.YtlbigfjnapgioaaGreatDoorPaa
import Derived.Test.YtlbigfjnapgioaaGreatDoorGmPa
import Derived.Test.YtlbigfjnapgioaaGreatDoorBu
set_option linter.all false
namespace Go.Sh
open Go Go.Ago Go.Proofs
variable {α β : Type}
def Pt {α : Type} (N : List α) (b : Nat) (l : List α) : Prop:=∃ P S,N = P ++ (l ++ S)∧P.length = b
theorem Pt.split {N l r : List α} {b : Nat} (p : Pt N b (l ++ r)) : Pt N b l∧Pt N (b + l.length) r:=by
 obtain ⟨P,S,h1,h2⟩:=p
 exact ⟨⟨P,r ++ S,by rw [h1,List.append_assoc],h2⟩,⟨P ++ l,S,by rw [h1];simp,by simp [h2]⟩⟩
theorem Pt.cons {N r : List α} {b : Nat} {x : α} (p : Pt N b (x :: r)) : N[b]? = some x∧Pt N (b + 1) r:=by
 have h:=Pt.split (l:=[x]) (r:=r) p
 refine ⟨?_,h.2⟩
 obtain ⟨P,S,h1,h2⟩:=p
 rw [h1,← h2];simp
theorem Pt.le {N l : List α} {b : Nat} (p : Pt N b l) : b + l.length ≤ N.length:=by
 obtain ⟨P,S,h1,h2⟩:=p
 rw [h1];simp;omega
theorem Pt.get {N l : List α} {b i : Nat} {x : α} (p : Pt N b l) (hx : l[i]? = some x) : N[b + i]? = some x:=by
 obtain ⟨P,S,h1,h2⟩:=p
 have hlt:=lt_of_get hx
 rw [h1,← h2,List.getElem?_append_right (by omega),Nat.add_sub_cancel_left,List.getElem?_append_left hlt,hx]
theorem Pt.self (l : List α) : Pt l 0 l:=⟨[],[],by simp,rfl⟩
def mk (n : Nat) (M : Nat → α) : List α:=(List.range n).map M
theorem mk_len (n : Nat) (M : Nat → α) : (mk n M).length = n:=by simp [mk]
theorem mk_get {n : Nat} {M : Nat → α} {i : Nat} (hi : i < n) : (mk n M)[i]? = some (M i):=by simp [mk,hi]
theorem mk_gt {n : Nat} {M : Nat → α} {i : Nat} (hi : i < n) : gt (mk n M) (i : Int) = some (M i):=by
 unfold gt;rw [if_pos (by omega),Int.toNat_natCast,mk_get hi]
theorem mk_ext {n : Nat} {M M' : Nat → α} (h : ∀ i,i < n → M i = M' i) : mk n M = mk n M':=by
 unfold mk
 exact List.map_congr_left fun i hi=>h i (by simpa using hi)
theorem mk_set {n : Nat} {M : Nat → α} {i : Nat} {v : α} : (mk n M).set i v = mk n fun j=>if j = i then v else M j:=by
 apply List.ext_getElem?
 intro j
 rw [List.getElem?_set,mk_len]
 by_cases hj : j < n
 ·rw [mk_get hj]
  by_cases e : i = j
  ·subst e;rw [if_pos rfl,if_pos hj,mk_get hj,if_pos rfl]
  ·rw [if_neg e,mk_get hj,if_neg (fun x=>e x.symm)]
 ·rw [List.getElem?_eq_none (by rw [mk_len];omega),List.getElem?_eq_none (l:=mk n fun j=>if j = i then v else M j) (by rw [mk_len];omega)]
  split
  ·rename_i e;subst e;rw [if_neg hj]
  ·rfl
theorem mk_rep (n : Nat) (v : α) : List.replicate n v = mk n fun _=>v:=by
 unfold mk
 rw [List.map_const']
 simp
theorem gt_nat {l : List α} {i : Nat} : gt l (i : Int) = l[i]?:=by unfold gt;rw [if_pos (by omega),Int.toNat_natCast]
def kpD (b : Nat) : BTd → Nat → Bool
 | .nil,_=>false
 | .cons _ v l,j=>decide (j = b) || kpD (b + 1 + nsz v) l j
def vpD (b : Nat) : BTd → Nat → Bool
 | .nil,_=>false
 | .cons _ v l,j=>decide (b + 1 ≤ j∧j < b + 1 + nsz v) || vpD (b + 1 + nsz v) l j
theorem kv_range : ∀ (b : Nat) (l : BTd) (j : Nat),(kpD b l j || vpD b l j) = decide (b ≤ j∧j < b + nszD l)
 | b,.nil,j=>by
  rw [nszD,decide_eq_false (by omega)];rfl
 | b,.cons k v l,j=>by
  have ih:=kv_range (b + 1 + nsz v) l j
  rw [kpD,vpD,nszD]
  have e : (decide (j = b) || kpD (b + 1 + nsz v) l j || (decide (b + 1 ≤ j∧j < b + 1 + nsz v) || vpD (b + 1 + nsz v) l j)) = (decide (j = b) || decide (b + 1 ≤ j∧j < b + 1 + nsz v) || (kpD (b + 1 + nsz v) l j || vpD (b + 1 + nsz v) l j)):=by
   cases decide (j = b) <;> cases kpD (b + 1 + nsz v) l j <;> simp
  rw [e,ih,← Bool.decide_or,← Bool.decide_or]
  exact decide_eq_decide.2 (by omega)
theorem kv_disj : ∀ (b : Nat) (l : BTd) (j : Nat),kpD b l j = true → vpD b l j = false
 | b,.nil,j,_=>rfl
 | b,.cons k v l,j,h=>by
  rw [kpD] at h
  rw [vpD]
  by_cases e : j = b
  ·subst e
   have h2 : vpD (j + 1 + nsz v) l j = false:=by
    have:=kv_range (j + 1 + nsz v) l j
    rw [show decide (j + 1 + nsz v ≤ j∧j < j + 1 + nsz v + nszD l) = false from decide_eq_false (by omega)] at this
    exact (Bool.or_eq_false_iff.1 this).2
   rw [h2];simp;omega
  ·rw [decide_eq_false e,Bool.false_or] at h
   rw [kv_disj _ _ _ h]
   have:=kv_range (b + 1 + nsz v) l j
   rw [h,Bool.true_or] at this
   have:=of_decide_eq_true this.symm
   simp;omega
theorem visL_keys {N : List NodeV} : ∀ (l : BTd) (b k : Nat) (M : Nat → Bool),Pt N b (ndsD b l) → (∀ j,b ≤ j → j < b + nszD l → M j = false) → 2 * nszD l + 1 ≤ k →
  visL k N (keysD b l) (mk N.length M) = some (mk N.length fun j=>M j || kpD b l j)
 | .nil,b,k,M,_,_,hk=>by
  obtain ⟨k,rfl⟩ : ∃ m,k = m + 1:=⟨k - 1,by omega⟩
  rw [keysD,visL]
  exact congrArg some (mk_ext fun i _=>by simp [kpD])
 | .cons key v l,b,k,M,p,hM,hk=>by
  rw [nszD] at hk hM
  have hp:=nsz_pos v
  obtain ⟨k,rfl⟩ : ∃ m,k = m + 3:=⟨k - 3,by omega⟩
  rw [ndsD] at p
  have hl:=p.le
  obtain ⟨p1,p2⟩:=p.cons
  have p3:=p2.split.2
  rw [nds_len] at p3
  rw [keysD,visL,vis]
  have hb : b < N.length:=lt_of_get p1
  rw [mk_gt hb,hM b (by omega) (by omega),gt_nat,p1]
  simp only
  rw [visL,Int.toNat_natCast,mk_set]
  simp only
  rw [visL]
  simp only
  rw [visL_keys l (b + 1 + nsz v) _ _ p3 (fun j h1 h2=>by rw [if_neg (by omega)];exact hM j (by omega) (by omega)) (by omega)]
  refine congrArg some (mk_ext fun i _=>?_)
  rw [kpD]
  by_cases e : i = b
  ·subst e;simp
  ·simp [e]
mutual
theorem vis_tree {N : List NodeV} : ∀ (v : BTv) (b k : Nat) (M : Nat → Bool),Pt N b (nds b v) → (∀ j,b ≤ j → j < b + nsz v → M j = false) → 2 * nsz v ≤ k →
  vis k N b (mk N.length M) = some (mk N.length fun j=>M j || decide (b ≤ j∧j < b + nsz v))
 | .int t,b,k,M,p,hM,hk=>by
  rw [nsz] at hk
  obtain ⟨k,rfl⟩ : ∃ m,k = m + 2:=⟨k - 2,by omega⟩
  rw [nds] at p
  obtain ⟨p1,_⟩:=p.cons
  rw [vis,mk_gt (lt_of_get p1),hM b (by omega) (by rw [nsz];omega),gt_nat,p1]
  simp only
  rw [visL,Int.toNat_natCast,mk_set]
  simp only
  rw [visL]
  refine congrArg some (mk_ext fun i _=>?_)
  rw [nsz]
  by_cases e : i = b
  ·subst e;simp
  ·rw [if_neg e,decide_eq_false (by omega),Bool.or_false]
 | .str t,b,k,M,p,hM,hk=>by
  rw [nsz] at hk
  obtain ⟨k,rfl⟩ : ∃ m,k = m + 2:=⟨k - 2,by omega⟩
  rw [nds] at p
  obtain ⟨p1,_⟩:=p.cons
  rw [vis,mk_gt (lt_of_get p1),hM b (by omega) (by rw [nsz];omega),gt_nat,p1]
  simp only
  rw [visL,Int.toNat_natCast,mk_set]
  simp only
  rw [visL]
  refine congrArg some (mk_ext fun i _=>?_)
  rw [nsz]
  by_cases e : i = b
  ·subst e;simp
  ·rw [if_neg e,decide_eq_false (by omega),Bool.or_false]
 | .list l,b,k,M,p,hM,hk=>by
  rw [nsz] at hk hM
  obtain ⟨k,rfl⟩ : ∃ m,k = m + 2:=⟨k - 2,by omega⟩
  rw [nds] at p
  obtain ⟨p1,p2⟩:=p.cons
  rw [vis,mk_gt (lt_of_get p1),hM b (by omega) (by omega),gt_nat,p1]
  simp only
  rw [visL,Int.toNat_natCast,mk_set]
  simp only
  rw [visL_tree l (b + 1) (k + 1) _ p2 (fun j h1 h2=>by rw [if_neg (by omega)];exact hM j (by omega) (by omega)) (by omega)]
  refine congrArg some (mk_ext fun i _=>?_)
  rw [nsz]
  by_cases e : i = b
  ·subst e;simp;omega
  ·rw [if_neg e]
   congr 1
   exact decide_eq_decide.2 (by omega)
 | .map l,b,k,M,p,hM,hk=>by
  rw [nsz] at hk hM
  obtain ⟨k,rfl⟩ : ∃ m,k = m + 2:=⟨k - 2,by omega⟩
  rw [nds] at p
  obtain ⟨p1,p2⟩:=p.cons
  rw [vis,mk_gt (lt_of_get p1),hM b (by omega) (by omega),gt_nat,p1]
  simp only
  rw [Int.toNat_natCast,mk_set,visL_keys l (b + 1) (k + 1) _ p2 (fun j h1 h2=>by rw [if_neg (by omega)];exact hM j (by omega) (by omega)) (by omega)]
  simp only
  rw [visV_tree l (b + 1) (k + 1) _ p2 (fun j h=>by
   have h2:=kv_range (b + 1) l j
   rw [h,Bool.or_true] at h2
   have h2:=of_decide_eq_true h2.symm
   rw [if_neg (by omega),hM j (by omega) (by omega),Bool.false_or]
   cases hq : kpD (b + 1) l j with
   | false=>rfl
   | true=>rw [kv_disj _ _ _ hq] at h;cases h) (by omega)]
  refine congrArg some (mk_ext fun i _=>?_)
  rw [nsz,Bool.or_assoc,kv_range]
  by_cases e : i = b
  ·subst e;simp;omega
  ·rw [if_neg e]
   congr 1
   exact decide_eq_decide.2 (by omega)
theorem visL_tree {N : List NodeV} : ∀ (l : BTl) (b k : Nat) (M : Nat → Bool),Pt N b (ndsL b l) → (∀ j,b ≤ j → j < b + nszL l → M j = false) → 2 * nszL l + 1 ≤ k →
  visL k N (idxL b l) (mk N.length M) = some (mk N.length fun j=>M j || decide (b ≤ j∧j < b + nszL l))
 | .nil,b,k,M,p,hM,hk=>by
  obtain ⟨k,rfl⟩ : ∃ m,k = m + 1:=⟨k - 1,by omega⟩
  rw [idxL,visL]
  refine congrArg some (mk_ext fun i _=>?_)
  rw [nszL,decide_eq_false (by omega),Bool.or_false]
 | .cons v l,b,k,M,p,hM,hk=>by
  rw [nszL] at hk hM
  have hp:=nsz_pos v
  obtain ⟨k,rfl⟩ : ∃ m,k = m + 1:=⟨k - 1,by omega⟩
  rw [ndsL] at p
  obtain ⟨p1,p2⟩:=p.split
  rw [nds_len] at p2
  rw [idxL,visL,vis_tree v b k M p1 (fun j h1 h2=>hM j h1 (by omega)) (by omega)]
  simp only
  rw [visL_tree l (b + nsz v) k _ p2 (fun j h1 h2=>by rw [hM j (by omega) (by omega),decide_eq_false (by omega)];rfl) (by omega)]
  refine congrArg some (mk_ext fun i _=>?_)
  rw [nszL,Bool.or_assoc,← Bool.decide_or]
  congr 1
  exact decide_eq_decide.2 (by omega)
theorem visV_tree {N : List NodeV} : ∀ (l : BTd) (b k : Nat) (M : Nat → Bool),Pt N b (ndsD b l) → (∀ j,vpD b l j = true → M j = false) → 2 * nszD l + 1 ≤ k →
  visL k N (valsD b l) (mk N.length M) = some (mk N.length fun j=>M j || vpD b l j)
 | .nil,b,k,M,p,hM,hk=>by
  obtain ⟨k,rfl⟩ : ∃ m,k = m + 1:=⟨k - 1,by omega⟩
  rw [valsD,visL]
  exact congrArg some (mk_ext fun i _=>by simp [vpD])
 | .cons key v l,b,k,M,p,hM,hk=>by
  rw [nszD] at hk
  have hp:=nsz_pos v
  obtain ⟨k,rfl⟩ : ∃ m,k = m + 1:=⟨k - 1,by omega⟩
  rw [ndsD] at p
  obtain ⟨_,p2⟩:=p.cons
  obtain ⟨p1,p2⟩:=p2.split
  rw [nds_len] at p2
  rw [valsD,visL,vis_tree v (b + 1) k M p1 (fun j h1 h2=>hM j (by rw [vpD,decide_eq_true (by omega),Bool.true_or])) (by omega)]
  simp only
  rw [visV_tree l (b + 1 + nsz v) k _ p2 (fun j h=>by
   rw [hM j (by rw [vpD,h,Bool.or_true])]
   have h2:=kv_range (b + 1 + nsz v) l j
   rw [h,Bool.or_true] at h2
   have h2:=of_decide_eq_true h2.symm
   rw [decide_eq_false (by omega)];rfl) (by omega)]
  refine congrArg some (mk_ext fun i _=>?_)
  rw [vpD,Bool.or_assoc]
end
end Go.Sh
set_option linter.all false
namespace Go.Sh
open Go Go.Ago Go.Proofs
variable {α β : Type}
theorem form_str (t : ByteArray) : formP ⟨if u8 t then 5 else 6,t,false,[],[]⟩ = some true:=by
 unfold formP
 cases hu : u8 t with
 | false=>simp [scalP]
 | true =>
  unfold u8 at hu
  rw [Option.isNone_iff_eq_none] at hu
  simp [scalP,hu,ckErr]
theorem form_key {t : ByteArray} (hu : u8 t = true) : formP ⟨5,t,false,[],[]⟩ = some true:=by
 have:=form_str t
 rw [hu] at this;exact this
theorem keysD_len : ∀ (b : Nat) (l : BTd),(keysD b l).length = (valsD b l).length
 | b,.nil=>rfl
 | b,.cons k v l=>by rw [keysD,valsD,List.length_cons,List.length_cons,keysD_len]
mutual
theorem forms : ∀ (v : BTv) (b d : Nat),okV d v → ∀ x ∈ nds b v,formP x = some true
 | .int t,b,d,h,x,hx=>by
  rw [nds,List.mem_singleton] at hx
  subst hx
  have:=h.2
  unfold formP
  simp [scalP,this]
 | .str t,b,d,h,x,hx=>by
  rw [nds,List.mem_singleton] at hx
  subst hx
  exact form_str t
 | .list l,b,d,h,x,hx=>by
  rw [nds] at hx
  rcases List.mem_cons.1 hx with rfl | hx
  ·unfold formP;simp [eqS_rfl]
  ·exact formsL l (b + 1) (d + 1) h.2 x hx
 | .map l,b,d,h,x,hx=>by
  rw [nds] at hx
  rcases List.mem_cons.1 hx with rfl | hx
  ·unfold formP;simp [eqS_rfl,keysD_len]
  ·exact formsD l (b + 1) (d + 1) _ h.2 x hx
theorem formsL : ∀ (l : BTl) (b d : Nat),okL d l → ∀ x ∈ ndsL b l,formP x = some true
 | .nil,b,d,h,x,hx=>by rw [ndsL] at hx;cases hx
 | .cons v l,b,d,h,x,hx=>by
  rw [ndsL] at hx
  rcases List.mem_append.1 hx with hx | hx
  ·exact forms v b d h.1 x hx
  ·exact formsL l _ d h.2 x hx
theorem formsD : ∀ (l : BTd) (b d : Nat) (last : Option ByteArray),okD d last l → ∀ x ∈ ndsD b l,formP x = some true
 | .nil,b,d,last,h,x,hx=>by rw [ndsD] at hx;cases hx
 | .cons k v l,b,d,last,h,x,hx=>by
  rw [ndsD] at hx
  rcases List.mem_cons.1 hx with rfl | hx
  ·exact form_key h.2.1
  ·rcases List.mem_append.1 hx with hx | hx
   ·exact forms v _ d h.2.2.2.1 x hx
   ·exact formsD l _ d _ h.2.2.2.2 x hx
end
theorem gA_true : ∀ {ms : List Bool} {N : List NodeV},ms.length = N.length → (∀ m ∈ ms,m = true) → (∀ x ∈ N,formP x = some true) → gA ms N = some true
 | [],[],_,_,_=>rfl
 | m :: ms,x :: xs,hl,h1,h2=>by
  rw [gA,h1 m (by simp),if_neg (by simp),h2 x (by simp)]
  exact gA_true (by simpa using hl) (fun m hm=>h1 m (by simp [hm])) fun x hx=>h2 x (by simp [hx])
def refs (x : NodeV) : List Int:=x.keys ++ x.items
def refsL (N : List NodeV) : List Int:=N.flatMap refs
theorem refsL_app (N M : List NodeV) : refsL (N ++ M) = refsL N ++ refsL M:=List.flatMap_append
theorem refsL_cons (x : NodeV) (N : List NodeV) : refsL (x :: N) = refs x ++ refsL N:=List.flatMap_cons
theorem cnt_one (b j : Nat) : (if (b : Int) == (j : Int) then 1 else 0) = if j = b then 1 else 0:=by
 by_cases h : j = b
 ·subst h;simp
 ·rw [if_neg h,if_neg];simp;omega
mutual
theorem cnt_tree : ∀ (v : BTv) (b j : Nat),(refsL (nds b v)).count (j : Int) = if b < j∧j < b + nsz v then 1 else 0
 | .int t,b,j=>by rw [nds,nsz,if_neg (by omega)];rfl
 | .str t,b,j=>by rw [nds,nsz,if_neg (c:=b < j∧j < b + 1) (by omega)];rfl
 | .list l,b,j=>by
  have ih:=cntL_tree l (b + 1) j
  rw [nds,refsL_cons,nsz,List.count_append]
  show (([] ++ idxL (b + 1) l).count (j : Int)) + _ = _
  rw [List.nil_append,ih]
  split <;> split <;> omega
 | .map l,b,j=>by
  have ih:=cntD_tree l (b + 1) j
  rw [nds,refsL_cons,nsz,List.count_append]
  show ((keysD (b + 1) l ++ valsD (b + 1) l).count (j : Int)) + _ = _
  rw [List.count_append,ih]
  split <;> split <;> omega
theorem cntL_tree : ∀ (l : BTl) (b j : Nat),(idxL b l).count (j : Int) + (refsL (ndsL b l)).count (j : Int) = if b ≤ j∧j < b + nszL l then 1 else 0
 | .nil,b,j=>by rw [idxL,ndsL,nszL,if_neg (by omega)];rfl
 | .cons v l,b,j=>by
  have ih:=cntL_tree l (b + nsz v) j
  have i2:=cnt_tree v b j
  have hp:=nsz_pos v
  rw [idxL,ndsL,nszL,refsL_app,List.count_append,List.count_cons,cnt_one,i2]
  by_cases e : j = b
  ·rw [if_pos e,if_neg (by omega)]
   rw [if_neg (by omega)] at ih
   rw [if_pos (by omega)];omega
  ·rw [if_neg e]
   split <;> split at ih <;> split <;> omega
theorem cntD_tree : ∀ (l : BTd) (b j : Nat),(keysD b l).count (j : Int) + (valsD b l).count (j : Int) + (refsL (ndsD b l)).count (j : Int) = if b ≤ j∧j < b + nszD l then 1 else 0
 | .nil,b,j=>by rw [keysD,valsD,ndsD,nszD,if_neg (by omega)];rfl
 | .cons k v l,b,j=>by
  have ih:=cntD_tree l (b + 1 + nsz v) j
  have i2:=cnt_tree v (b + 1) j
  have hp:=nsz_pos v
  rw [keysD,valsD,ndsD,nszD,refsL_cons,refsL_app,List.count_append,List.count_append,List.count_cons,List.count_cons,cnt_one,cnt_one,i2]
  show _ + _ + (0 + _) = _
  by_cases e : j = b
  ·rw [if_pos e,if_neg (by omega),if_neg (by omega)]
   rw [if_neg (by omega)] at ih
   rw [if_pos (by omega)];omega
  ·rw [if_neg e]
   by_cases e2 : j = b + 1
   ·rw [if_pos e2,if_neg (by omega)]
    rw [if_neg (by omega)] at ih
    rw [if_pos (by omega)];omega
   ·rw [if_neg e2]
    split <;> split at ih <;> split <;> omega
end
theorem ref_in {v : BTv} {b : Nat} {y : Int} (hy : y ∈ refsL (nds b v)) (h0 : 0 ≤ y) : ∃ j : Nat,y = j∧b < j∧j < b + nsz v:=by
 obtain ⟨j,rfl⟩:=Int.eq_ofNat_of_zero_le h0
 refine ⟨j,rfl,?_⟩
 have h1:=cnt_tree v b j
 have h2 : 0 < (refsL (nds b v)).count (j : Int):=List.count_pos_iff.2 hy
 rw [h1] at h2
 split at h2
 ·assumption
 ·omega
mutual
theorem ref_nn : ∀ (v : BTv) (b : Nat),∀ y ∈ refsL (nds b v),(0 : Int) ≤ y
 | .int t,b,y,hy=>by rw [nds] at hy;cases hy
 | .str t,b,y,hy=>by rw [nds] at hy;cases hy
 | .list l,b,y,hy=>by
  rw [nds,refsL_cons] at hy
  rcases List.mem_append.1 hy with hy | hy
  ·exact refL_nn l _ y (.inl hy)
  ·exact refL_nn l _ y (.inr hy)
 | .map l,b,y,hy=>by
  rw [nds,refsL_cons] at hy
  rcases List.mem_append.1 hy with hy | hy
  ·rcases List.mem_append.1 hy with hy | hy
   ·exact refD_nn l _ y (.inl hy)
   ·exact refD_nn l _ y (.inr (.inl hy))
  ·exact refD_nn l _ y (.inr (.inr hy))
theorem refL_nn : ∀ (l : BTl) (b : Nat) (y : Int),y ∈ idxL b l ∨ y ∈ refsL (ndsL b l) → (0 : Int) ≤ y
 | .nil,b,y,hy=>by rcases hy with hy | hy <;> cases hy
 | .cons v l,b,y,hy=>by
  rw [idxL,ndsL,refsL_app] at hy
  rcases hy with hy | hy
  ·rcases List.mem_cons.1 hy with rfl | hy
   ·omega
   ·exact refL_nn l _ y (.inl hy)
  ·rcases List.mem_append.1 hy with hy | hy
   ·exact ref_nn v _ y hy
   ·exact refL_nn l _ y (.inr hy)
theorem refD_nn : ∀ (l : BTd) (b : Nat) (y : Int),y ∈ keysD b l ∨ y ∈ valsD b l ∨ y ∈ refsL (ndsD b l) → (0 : Int) ≤ y
 | .nil,b,y,hy=>by rcases hy with hy | hy | hy <;> cases hy
 | .cons k v l,b,y,hy=>by
  rw [keysD,valsD,ndsD,refsL_cons,refsL_app] at hy
  rcases hy with hy | hy | hy
  ·rcases List.mem_cons.1 hy with rfl | hy
   ·omega
   ·exact refD_nn l _ y (.inl hy)
  ·rcases List.mem_cons.1 hy with rfl | hy
   ·omega
   ·exact refD_nn l _ y (.inr (.inl hy))
  ·rcases List.mem_append.1 hy with hy | hy
   ·cases hy
   ·rcases List.mem_append.1 hy with hy | hy
    ·exact ref_nn v _ y hy
    ·exact refD_nn l _ y (.inr (.inr hy))
end
theorem ref_mem {N : List NodeV} {x : NodeV} (hx : x ∈ N) {y : Int} (hy : y ∈ refs x) : y ∈ refsL N:=List.mem_flatMap.2 ⟨x,hx,hy⟩
theorem ref_range {v : BTv} {b : Nat} {x : NodeV} (hx : x ∈ nds b v) {y : Int} (hy : y ∈ refs x) : ∃ j : Nat,y = j∧b < j∧j < b + nsz v :=
 ref_in (ref_mem hx hy) (ref_nn v b y (ref_mem hx hy))
theorem inds_tree (v : BTv) : inds (nds 0 v) 0 = true:=by
 unfold inds
 have hp:=nsz_pos v
 rw [Bool.and_eq_true,List.all_eq_true]
 refine ⟨by unfold okIx;rw [nds_len];simp;omega,fun x hx=>?_⟩
 rw [Bool.and_eq_true,List.all_eq_true,List.all_eq_true]
 have key : ∀ y ∈ refs x,okIx (nds 0 v).length y = true:=fun y hy=>by
  obtain ⟨j,rfl,h1,h2⟩:=ref_range hx hy
  unfold okIx;rw [nds_len];simp;omega
 exact ⟨fun y hy=>key y (List.mem_append_left _ hy),fun y hy=>key y (List.mem_append_right _ hy)⟩
theorem bump_mk {n : Nat} {C : Nat → Int} {j : Nat} (hj : j < n) (h0 : 0 ≤ C j) (h1 : C j < 4611686018427387904) : bump (mk n C) (j : Int) = some (mk n fun i=>C i + if i = j then 1 else 0):=by
 unfold bump
 rw [mk_gt hj]
 simp only [Option.map_some]
 rw [Int.toNat_natCast,mk_set,wrap1 (by omega) (by omega)]
 refine congrArg some (mk_ext fun i _=>?_)
 by_cases e : i = j
 ·subst e;simp
 ·simp [e]
theorem bumps_mk {n : Nat} : ∀ (xs : List Int) (C : Nat → Int) (K : Nat),(∀ y ∈ xs,∃ j : Nat,y = j∧j < n) → (∀ i,0 ≤ C i∧C i ≤ K) → K + xs.length < 4611686018427387904 → bumps xs (mk n C) = some (mk n fun i=>C i + (xs.count (i : Int) : Nat))
 | [],C,K,_,_,_=>congrArg some (mk_ext fun i _=>by simp)
 | x :: xs,C,K,h1,h2,h3=>by
  obtain ⟨j,rfl,hj⟩:=h1 x (by simp)
  have hc:=h2 j
  rw [List.length_cons] at h3
  rw [bumps,bump_mk hj hc.1 (by omega)]
  simp only [Option.bind_some]
  rw [bumps_mk xs _ (K + 1) (fun y hy=>h1 y (by simp [hy])) (fun i=>by have:=h2 i;split <;> omega) (by omega)]
  refine congrArg some (mk_ext fun i _=>?_)
  rw [List.count_cons,cnt_one]
  split <;> simp <;> omega
theorem cnts_mk {n : Nat} : ∀ (N : List NodeV) (C : Nat → Int) (K : Nat),(∀ y ∈ refsL N,∃ j : Nat,y = j∧j < n) → (∀ i,0 ≤ C i∧C i ≤ K) → K + (refsL N).length < 4611686018427387904 → cnts N (mk n C) = some (mk n fun i=>C i + ((refsL N).count (i : Int) : Nat))
 | [],C,K,_,_,_=>congrArg some (mk_ext fun i _=>by simp [refsL])
 | x :: N,C,K,h1,h2,h3=>by
  rw [refsL_cons] at h1 h3
  unfold refs at h1 h3
  simp only [List.length_append] at h3
  rw [cnts,bumps_mk x.keys C K (fun y hy=>h1 y (by simp [hy])) h2 (by omega)]
  simp only [Option.bind_some]
  have le : ∀ (l : List Int) (i : Nat),l.count (i : Int) ≤ l.length:=fun l i=>List.count_le_length
  rw [bumps_mk x.items _ (K + x.keys.length) (fun y hy=>h1 y (by simp [hy])) (fun i=>by have:=h2 i;have:=le x.keys i;omega) (by omega)]
  simp only [Option.bind_some]
  rw [cnts_mk N _ (K + x.keys.length + x.items.length) (fun y hy=>h1 y (by simp [hy])) (fun i=>by have:=h2 i;have:=le x.keys i;have:=le x.items i;omega) (by omega)]
  refine congrArg some (mk_ext fun i _=>?_)
  rw [refsL_cons,List.count_append]
  unfold refs
  rw [List.count_append]
  omega
mutual
theorem refs_len : ∀ (v : BTv) (b : Nat),(refsL (nds b v)).length + 1 = nsz v
 | .int t,b=>rfl
 | .str t,b=>rfl
 | .list l,b=>by
  have:=refsL_len l (b + 1)
  rw [nds,refsL_cons,List.length_append,nsz]
  show (([] : List Int) ++ idxL (b + 1) l).length + _ + 1 = _
  rw [List.nil_append];omega
 | .map l,b=>by
  have:=refsD_len l (b + 1)
  rw [nds,refsL_cons,List.length_append,nsz]
  show (keysD (b + 1) l ++ valsD (b + 1) l).length + _ + 1 = _
  rw [List.length_append];omega
theorem refsL_len : ∀ (l : BTl) (b : Nat),(idxL b l).length + (refsL (ndsL b l)).length = nszL l
 | .nil,b=>rfl
 | .cons v l,b=>by
  have h1:=refs_len v b
  have h2:=refsL_len l (b + nsz v)
  rw [idxL,ndsL,refsL_app,List.length_append,List.length_cons,nszL];omega
theorem refsD_len : ∀ (l : BTd) (b : Nat),(keysD b l).length + (valsD b l).length + (refsL (ndsD b l)).length = nszD l
 | .nil,b=>rfl
 | .cons k v l,b=>by
  have h1:=refs_len v (b + 1)
  have h2:=refsD_len l (b + 1 + nsz v)
  rw [keysD,valsD,ndsD,refsL_cons,refsL_app,List.length_append,List.length_append,List.length_cons,List.length_cons,nszD]
  show _ + _ + (0 + _) = _
  omega
end
theorem cnt_ones {v : BTv} (hn : nsz v ≤ 1073741823) : cnt (nds 0 v) 0 = some (mk (nds 0 v).length fun _=>1):=by
 have hp:=nsz_pos v
 have hl:=refs_len v 0
 unfold cnt
 rw [mk_rep,show (0 : Int) = ((0 : Nat) : Int) from rfl,bump_mk (by rw [nds_len];omega) (by omega) (by omega)]
 simp only [Option.bind_some]
 rw [cnts_mk _ _ 1 (fun y hy=>?_) (fun i=>by split <;> omega) (by omega)]
 ·refine congrArg some (mk_ext fun i hi=>?_)
  rw [nds_len] at hi
  rw [cnt_tree]
  by_cases e : i = 0
  ·subst e;simp
  ·rw [if_neg e,if_pos (by omega)];rfl
 ·obtain ⟨j,rfl,h1,h2⟩:=ref_in hy (ref_nn v 0 y hy)
  exact ⟨j,rfl,by rw [nds_len];omega⟩
theorem gB_ones : ∀ (ks : List Bool) (c : List Int),(∀ x ∈ c,x = 1) → gB ks c = true
 | [],c,_=>by cases c <;> rfl
 | _ :: _,[],_=>rfl
 | b :: bs,x :: c,h=>by
  rw [gB,h x (by simp),if_neg (by simp)]
  exact gB_ones bs c fun y hy=>h y (by simp [hy])
def Leafy (N : List NodeV) (y : Int) : Prop:=∃ (j : Nat) (x : NodeV),y = j∧N[j]? = some x∧x.keys = []∧x.items = []
theorem vis_leaf {N : List NodeV} {y : Int} (hy : Leafy N y) (k : Nat) (M : Nat → Bool) : ∃ M',vis (k + 2) N y (mk N.length M) = some (mk N.length M'):=by
 obtain ⟨j,x,rfl,h1,h2,h3⟩:=hy
 rw [vis,mk_gt (lt_of_get h1)]
 cases hM : M j with
 | true=>exact ⟨M,rfl⟩
 | false =>
  simp only [gt_nat,h1,h2,h3]
  rw [visL,Int.toNat_natCast,mk_set]
  simp only
  rw [visL]
  exact ⟨_,rfl⟩
theorem visA_leaf {N : List NodeV} (k : Nat) : ∀ (xs : List Int) (M : Nat → Bool),(∀ y ∈ xs,Leafy N y) → ∃ M',visA (k + 2) N xs (mk N.length M) = some (mk N.length M')
 | [],M,_=>⟨M,rfl⟩
 | x :: xs,M,h=>by
  obtain ⟨M1,e1⟩:=vis_leaf (h x (by simp)) k M
  obtain ⟨M2,e2⟩:=visA_leaf k xs M1 fun y hy=>h y (by simp [hy])
  exact ⟨M2,by rw [visA,e1];exact e2⟩
theorem inK_leaf {N : List NodeV} (k : Nat) : ∀ (X : List NodeV) (M : Nat → Bool),(∀ x ∈ X,∀ y ∈ x.keys,Leafy N y) → ∃ M',inK (k + 2) N X (mk N.length M) = some (mk N.length M')
 | [],M,_=>⟨M,rfl⟩
 | x :: xs,M,h=>by
  obtain ⟨M1,e1⟩:=visA_leaf k x.keys M (h x (by simp))
  obtain ⟨M2,e2⟩:=inK_leaf k xs M1 fun y hy=>h y (by simp [hy])
  exact ⟨M2,by rw [inK,e1];exact e2⟩
theorem keys_leafD {N : List NodeV} : ∀ (l : BTd) (b : Nat),Pt N b (ndsD b l) → ∀ y ∈ keysD b l,Leafy N y
 | .nil,b,p,y,hy=>by cases hy
 | .cons k v l,b,p,y,hy=>by
  rw [ndsD] at p
  obtain ⟨p1,p2⟩:=p.cons
  have p3:=p2.split.2
  rw [nds_len] at p3
  rw [keysD] at hy
  rcases List.mem_cons.1 hy with rfl | hy
  ·exact ⟨b,_,rfl,p1,rfl,rfl⟩
  ·exact keys_leafD l _ p3 y hy
mutual
theorem keys_leaf {N : List NodeV} : ∀ (v : BTv) (b : Nat),Pt N b (nds b v) → ∀ x ∈ nds b v,∀ y ∈ x.keys,Leafy N y
 | .int t,b,p,x,hx,y,hy=>by rw [nds,List.mem_singleton] at hx;subst hx;cases hy
 | .str t,b,p,x,hx,y,hy=>by rw [nds,List.mem_singleton] at hx;subst hx;cases hy
 | .list l,b,p,x,hx,y,hy=>by
  rw [nds] at hx p
  rcases List.mem_cons.1 hx with rfl | hx
  ·cases hy
  ·exact keysL_leaf l _ p.cons.2 x hx y hy
 | .map l,b,p,x,hx,y,hy=>by
  rw [nds] at hx p
  rcases List.mem_cons.1 hx with rfl | hx
  ·exact keys_leafD l _ p.cons.2 y hy
  ·exact keysD_leaf l _ p.cons.2 x hx y hy
theorem keysL_leaf {N : List NodeV} : ∀ (l : BTl) (b : Nat),Pt N b (ndsL b l) → ∀ x ∈ ndsL b l,∀ y ∈ x.keys,Leafy N y
 | .nil,b,p,x,hx,y,hy=>by rw [ndsL] at hx;cases hx
 | .cons v l,b,p,x,hx,y,hy=>by
  rw [ndsL] at hx p
  obtain ⟨p1,p2⟩:=p.split
  rw [nds_len] at p2
  rcases List.mem_append.1 hx with hx | hx
  ·exact keys_leaf v b p1 x hx y hy
  ·exact keysL_leaf l _ p2 x hx y hy
theorem keysD_leaf {N : List NodeV} : ∀ (l : BTd) (b : Nat),Pt N b (ndsD b l) → ∀ x ∈ ndsD b l,∀ y ∈ x.keys,Leafy N y
 | .nil,b,p,x,hx,y,hy=>by rw [ndsD] at hx;cases hx
 | .cons k v l,b,p,x,hx,y,hy=>by
  rw [ndsD] at hx p
  have p2:=p.cons.2
  obtain ⟨p1,p3⟩:=p2.split
  rw [nds_len] at p3
  rcases List.mem_cons.1 hx with rfl | hx
  ·cases hy
  ·rcases List.mem_append.1 hx with hx | hx
   ·exact keys_leaf v _ p1 x hx y hy
   ·exact keysD_leaf l _ p3 x hx y hy
end
end Go.Sh
set_option linter.all false
namespace Go.Sh
open Go Go.Ago Go.Proofs
theorem bl_irr : ∀ (a : List UInt8),Op.bytesLess a a = false
 | []=>rfl
 | x :: a=>by
  rw [Op.bytesLess,bl_irr a];simp
theorem bl_trans : ∀ {a b c : List UInt8},Op.bytesLess a b = true → Op.bytesLess b c = true → Op.bytesLess a c = true
 | _,[],_,h,_=>by rw [Op.bytesLess] at h;cases h
 | _,_ :: _,[],_,h=>by rw [Op.bytesLess] at h;cases h
 | [],y :: b,z :: c,_,_=>rfl
 | x :: a,y :: b,z :: c,h1,h2=>by
  rw [Op.bytesLess] at h1 h2 ⊢
  simp only [Bool.or_eq_true,Bool.and_eq_true,decide_eq_true_eq,beq_iff_eq] at h1 h2 ⊢
  rcases h1 with h1 | ⟨rfl,h1⟩
  ·rcases h2 with h2 | ⟨rfl,h2⟩
   ·exact .inl (UInt8.lt_trans h1 h2)
   ·exact .inl h1
  ·rcases h2 with h2 | ⟨rfl,h2⟩
   ·exact .inl h2
   ·exact .inr ⟨rfl,bl_trans h1 h2⟩
theorem bl_total : ∀ {a b : List UInt8},Op.bytesLess a b = false → a ≠ b → Op.bytesLess b a = true
 | [],[],_,h=>absurd rfl h
 | [],_ :: _,h,_=>by rw [Op.bytesLess] at h;cases h
 | _ :: _,[],_,_=>rfl
 | x :: a,y :: b,h,hne=>by
  rw [Op.bytesLess] at h ⊢
  simp only [Bool.or_eq_false_iff,decide_eq_false_iff_not,Bool.and_eq_false_imp,beq_iff_eq] at h
  simp only [Bool.or_eq_true,Bool.and_eq_true,decide_eq_true_eq,beq_iff_eq]
  by_cases e : x = y
  ·subst e
   exact .inr ⟨rfl,bl_total (h.2 rfl) fun e=>hne (by rw [e])⟩
  ·refine .inl ?_
   have:=h.1
   rcases UInt8.lt_or_lt_of_ne e with h1 | h1
   ·exact absurd h1 this
   ·exact h1
theorem lt_of_not_ltB {k t : ByteArray} (h : ltB k t = false) : ltS t k = true:=by
 unfold ltB at h
 rw [Bool.or_eq_false_iff] at h
 unfold ltS at h ⊢
 refine bl_total h.1 fun e=>?_
 have:=h.2
 unfold eqS at this
 rw [e] at this
 simp at this
theorem lt_ne {a b : ByteArray} (h : ltS a b = true) : eqS b a = false:=by
 cases hq : eqS b a with
 | false=>rfl
 | true =>
  unfold ltS at h
  unfold eqS at hq
  rw [beq_iff_eq] at hq
  rw [hq,bl_irr] at h;cases h
theorem lt_tr {a b c : ByteArray} (h1 : ltS a b = true) (h2 : ltS b c = true) : ltS a c = true:=bl_trans h1 h2
theorem twK_tree {N : List NodeV} {k : Nat} : ∀ (l : BTd) (b d : Nat) (last : Option ByteArray) (met : List Int),Pt N b (ndsD b l) → okD d last l →
  (∀ y ∈ met,∃ n t,gt N y = some n∧last = some t∧(n.text = t ∨ ltS n.text t = true)) → twK k N met (keysD b l) = some false
 | .nil,b,d,last,met,_,_,_=>rfl
 | .cons key v l,b,d,last,met,p,h,hm=>by
  rw [ndsD] at p
  obtain ⟨p1,p2⟩:=p.cons
  have p3:=p2.split.2
  rw [nds_len] at p3
  have hg : gt N (b : Int) = some ⟨5,key,false,[],[]⟩:=by rw [gt_nat];exact p1
  have hlt : ∀ y ∈ met,∃ n,gt N y = some n∧ltS n.text key = true:=fun y hy=>by
   obtain ⟨n,t,h1,h2,h3⟩:=hm y hy
   refine ⟨n,h1,?_⟩
   have:=lt_of_not_ltB (h.2.2.1 t h2)
   rcases h3 with h3 | h3
   ·rw [h3];exact this
   ·exact lt_tr h3 this
  rw [keysD,twK,hg]
  have hf : met.filter (isKey N 5 key) = []:=by
   rw [List.filter_eq_nil_iff]
   intro y hy
   obtain ⟨n,h1,h2⟩:=hlt y hy
   unfold isKey
   rw [h1]
   simp only [lt_ne h2,Bool.and_false]
   simp
  simp only [hf]
  rw [twC]
  simp only
  refine twK_tree l _ d _ _ p3 h.2.2.2.2 fun y hy=>?_
  rcases List.mem_append.1 hy with hy | hy
  ·obtain ⟨n,h1,h2⟩:=hlt y hy
   exact ⟨n,key,h1,rfl,.inr h2⟩
  ·rw [List.mem_singleton] at hy
   subst hy
   exact ⟨_,key,hg,rfl,.inl rfl⟩
theorem twN_app {k : Nat} {N : List NodeV} : ∀ {X Y : List NodeV},twN k N X = some false → twN k N Y = some false → twN k N (X ++ Y) = some false
 | [],Y,_,h=>h
 | x :: X,Y,h1,h2=>by
  rw [twN] at h1
  show twN k N (x :: (X ++ Y)) = _
  rw [twN]
  split at h1
  ·cases h1
  ·cases h1
  ·exact twN_app h1 h2
theorem twN_nokeys {k : Nat} {N : List NodeV} {x : NodeV} (hx : x.keys = []) : twN k N [x] = some false:=by
 rw [twN,hx];rfl
mutual
theorem twN_tree {N : List NodeV} {k : Nat} : ∀ (v : BTv) (b d : Nat),Pt N b (nds b v) → okV d v → twN k N (nds b v) = some false
 | .int t,b,d,p,h=>twN_nokeys rfl
 | .str t,b,d,p,h=>twN_nokeys rfl
 | .list l,b,d,p,h=>by
  rw [nds] at p ⊢
  exact twN_app (X:=[_]) (twN_nokeys rfl) (twNL_tree l _ _ p.cons.2 h.2)
 | .map l,b,d,p,h=>by
  rw [nds] at p ⊢
  refine twN_app (X:=[_]) ?_ (twND_tree l _ _ _ p.cons.2 h.2)
  rw [twN]
  simp only
  rw [twK_tree l _ _ _ [] p.cons.2 h.2 (by simp)]
  rfl
theorem twNL_tree {N : List NodeV} {k : Nat} : ∀ (l : BTl) (b d : Nat),Pt N b (ndsL b l) → okL d l → twN k N (ndsL b l) = some false
 | .nil,b,d,p,h=>rfl
 | .cons v l,b,d,p,h=>by
  rw [ndsL] at p ⊢
  obtain ⟨p1,p2⟩:=p.split
  rw [nds_len] at p2
  exact twN_app (twN_tree v _ _ p1 h.1) (twNL_tree l _ _ p2 h.2)
theorem twND_tree {N : List NodeV} {k : Nat} : ∀ (l : BTd) (b d : Nat) (last : Option ByteArray),Pt N b (ndsD b l) → okD d last l → twN k N (ndsD b l) = some false
 | .nil,b,d,last,p,h=>rfl
 | .cons key v l,b,d,last,p,h=>by
  rw [ndsD] at p ⊢
  have p2:=p.cons.2
  obtain ⟨p1,p3⟩:=p2.split
  rw [nds_len] at p3
  exact twN_app (X:=[_]) (twN_nokeys rfl) (twN_app (twN_tree v _ _ p1 h.2.2.2.1) (twND_tree l _ _ _ p3 h.2.2.2.2))
end
end Go.Sh
set_option linter.all false
namespace Go.Sh
open Go Go.Ago Go.Proofs
def sh (b : Nat) (x : NodeV) : NodeV:={ x with keys:=x.keys.map (· - (b : Int)),items:=x.items.map (· - (b : Int)) }
structure SpanOK (N : List NodeV) (src : List UInt8) (x : SpanV) : Prop where
 ex : ∃ (v : BTv) (d nb f : Nat),okV d v∧x.node = nb∧Pt N nb (nds nb v)∧x.frm = f∧x.to = ((f + (enc v).length : Nat) : Int)∧Pt src f (enc v)
 whole : x.whole = true
 alias : x.alias = false
end Go.Sh
set_option linter.all false
namespace Go.Sh
open Go Go.Ago Go.Proofs
structure FS where
 I : Nat → Int
 L : Nat → Int
 C : Nat → Int
 O : Nat → Bool
 stk : List Nat
 ds : List Nat
def FS.ts (m : Nat) (F : FS) : TS:=⟨((F.ds.length + F.stk.length : Nat) : Int),Go.Sh.mk m F.I,Go.Sh.mk m F.L,Go.Sh.mk m F.C,Go.Sh.mk m F.O,F.stk.map Int.ofNat,List.replicate F.ds.length 1⟩
def Dag (N : List NodeV) (H : Nat → Nat) : Prop:=∀ i x,N[i]? = some x → ∀ y ∈ refs x,∃ j : Nat,y = j∧j < N.length∧H j < H i
structure TI (N : List NodeV) (F : FS) : Prop where
 nd : (F.ds ++ F.stk).Nodup
 lt : ∀ j ∈ F.ds ++ F.stk,j < N.length
 I : ∀ j,j < N.length → (F.I j ≠ 0 ↔ j ∈ F.ds ++ F.stk)
 Ib : ∀ j,j < N.length → F.I j ≤ ((F.ds.length + F.stk.length : Nat) : Int)
 O : ∀ j,j < N.length → (F.O j = true ↔ j ∈ F.stk)
 C : ∀ (i j : Nat),F.ds[i]? = some j → F.C j = i∧∀ x,N[j]? = some x → ∀ y ∈ refs x,∃ (i' j' : Nat),i' < i∧F.ds[i']? = some j'∧y = j'
theorem nodup_le : ∀ (m : Nat) (l : List Nat),l.Nodup → (∀ j ∈ l,j < m) → l.length ≤ m
 | 0,[],_,_=>Nat.le_refl _
 | 0,a :: _,_,h=>absurd (h a (by simp)) (by omega)
 | m + 1,l,hn,h=>by
  have h1 : (l.erase m).length ≤ m:=nodup_le m _ (hn.erase m) fun j hj=>by
   have h2:=h j (List.mem_of_mem_erase hj)
   have h3 : j ≠ m:=fun e=>by
    subst e
    exact hn.not_mem_erase hj
   omega
  have:=List.length_erase (a:=m) (l:=l)
  split at this <;> omega
theorem TI.le {N : List NodeV} {F : FS} (t : TI N F) : F.ds.length + F.stk.length ≤ N.length:=by
 have:=nodup_le _ _ t.nd t.lt
 simpa using this
theorem set_self {n : Nat} {M : Nat → Int} {i : Nat} : (mk n M).set i (M i) = mk n M:=by
 rw [mk_set]
 exact mk_ext fun j _=>by split <;> simp_all
structure TP (N : List NodeV) (F F' : FS) : Prop where
 inv : TI N F'
 stk : F'.stk = F.stk
 ds : ∃ r,F'.ds = F.ds ++ r
 keep : ∀ j,j ∈ F.ds ++ F.stk → F'.I j = F.I j∧F'.L j = F.L j
theorem TP.refl {N : List NodeV} {F : FS} (t : TI N F) : TP N F F:=⟨t,rfl,⟨[],by simp⟩,fun _ _=>⟨rfl,rfl⟩⟩
theorem TP.trans {N : List NodeV} {F G K : FS} (a : TP N F G) (b : TP N G K) : TP N F K:=by
 obtain ⟨r,hr⟩:=a.ds
 obtain ⟨q,hq⟩:=b.ds
 refine ⟨b.inv,b.stk.trans a.stk,⟨r ++ q,by rw [hq,hr,List.append_assoc]⟩,fun j hj=>?_⟩
 have h1:=a.keep j hj
 have h2:=b.keep j (by
  rw [hr,a.stk]
  rcases List.mem_append.1 hj with h | h
  ·simp [h]
  ·simp [h])
 exact ⟨h2.1.trans h1.1,h2.2.trans h1.2⟩
theorem push_eq {N : List NodeV} {F : FS} (t : TI N F) (hm : N.length < 1073741824) {a : Nat} (ha : a < N.length) (hI : F.I a = 0) :
  tPush (a : Int) (F.ts N.length) = some (FS.ts N.length { F with I:=fun j=>if j = a then ((F.ds.length + F.stk.length + 1 : Nat) : Int) else F.I j,L:=fun j=>if j = a then ((F.ds.length + F.stk.length + 1 : Nat) : Int) else F.L j,O:=fun j=>if j = a then true else F.O j,stk:=F.stk ++ [a] }):=by
 have hle:=t.le
 unfold tPush
 rw [if_pos ⟨by simp [FS.ts,bigN];omega,by simp [FS.ts,bigN];omega,by simp only [FS.ts];rw [mk_gt ha];rfl,by simp only [FS.ts];rw [mk_gt ha];rfl,by simp only [FS.ts];rw [mk_gt ha];rfl⟩]
 simp only [FS.ts,Int.toNat_natCast,mk_set]
 rw [wrap1 (by omega) (by omega)]
 simp only [List.map_append,List.length_append,List.length_singleton]
 congr 1
theorem push_TI {N : List NodeV} {F : FS} (t : TI N F) {a : Nat} (ha : a < N.length) (hI : F.I a = 0) (L : Nat → Int) :
  TI N { F with I:=fun j=>if j = a then ((F.ds.length + F.stk.length + 1 : Nat) : Int) else F.I j,L:=L,O:=fun j=>if j = a then true else F.O j,stk:=F.stk ++ [a] }:=by
 have hna : a ∉ F.ds ++ F.stk:=fun h=>(t.I a ha).2 h hI
 refine ⟨?_,?_,fun j hj=>?_,fun j hj=>?_,fun j hj=>?_,t.C⟩
 ·rw [← List.append_assoc,List.nodup_append]
  exact ⟨t.nd,by simp,fun x hx y hy=>by rw [List.mem_singleton] at hy;subst hy;exact fun e=>hna (e ▸ hx)⟩
 ·intro j hj
  rw [← List.append_assoc] at hj
  rcases List.mem_append.1 hj with h | h
  ·exact t.lt j h
  ·rw [List.mem_singleton] at h;subst h;exact ha
 ·simp only
  rw [← List.append_assoc]
  by_cases e : j = a
  ·subst e;rw [if_pos rfl];simp;omega
  ·rw [if_neg e,t.I j hj];simp [e]
 ·simp only [List.length_append,List.length_singleton]
  have:=t.Ib j hj
  split <;> omega
 ·simp only
  by_cases e : j = a
  ·subst e;simp
  ·rw [if_neg e,t.O j hj];simp [e]
theorem pop_eq {N : List NodeV} {F : FS} (t : TI N F) (hm : N.length < 1073741824) {a : Nat} {s0 : List Nat} (hs : F.stk = s0 ++ [a]) (k : Nat) :
  tp (k + 1) (a : Int) (F.ts N.length) 0 = some (⟨((F.ds.length + F.stk.length : Nat) : Int),mk N.length F.I,mk N.length F.L,mk N.length fun j=>if j = a then (F.ds.length : Int) else F.C j,mk N.length fun j=>if j = a then false else F.O j,s0.map Int.ofNat,List.replicate F.ds.length 1⟩,1):=by
 have ha : a < N.length:=t.lt a (by rw [hs];simp)
 have hle:=t.le
 have hlast : (F.ts N.length).stk.getLast? = some (a : Int):=by simp [FS.ts,hs]
 rw [tp,hlast]
 simp only
 rw [if_pos ⟨by simp only [FS.ts];rw [mk_gt ha];rfl,by simp only [FS.ts];rw [mk_gt ha];rfl,by simp [FS.ts,bigN];omega⟩,if_pos trivial]
 simp only [FS.ts,Int.toNat_natCast,mk_set,hs,List.map_append,List.length_replicate]
 rw [wrap1 (by omega) (by omega)]
 simp
theorem tl_dag {N : List NodeV} {H : Nat → Nat} (D : Dag N H) {a : Nat} {x : NodeV} (hx : N[a]? = some x) {g : Nat}
  (ih : ∀ (b k : Nat) (F : FS),H b < H a → b < N.length → F.I b = 0 → TI N F → (∀ j ∈ F.stk,H b < H j) → g ≤ k → ∃ F',tv k N b (F.ts N.length) = some (F'.ts N.length)∧TP N F F'∧b ∈ F'.ds∧F'.L b = ((F.ds.length + F.stk.length + 1 : Nat) : Int)) :
  ∀ (xs : List Int) (k : Nat) (F : FS) (n1 : Int),(∀ y ∈ xs,y ∈ refs x) → TI N F → a ∈ F.stk → (∀ j ∈ F.stk,H a ≤ H j) → F.L a = n1 → n1 ≤ ((F.ds.length + F.stk.length : Nat) : Int) → xs.length + 2 + g ≤ k →
   ∃ F',tl k N a xs (F.ts N.length) = some (F'.ts N.length)∧TP N F F'∧∀ y ∈ xs,∃ j : Nat,y = j∧j ∈ F'.ds
 | [],k,F,n1,_,t,_,_,_,_,hk=>by
  obtain ⟨k,rfl⟩ : ∃ m,k = m + 1:=⟨k - 1,by omega⟩
  exact ⟨F,by rw [tl],TP.refl t,by simp⟩
 | y :: ys,k,F,n1,hr,t,ha,hS,hL,hn,hk=>by
  rw [List.length_cons] at hk
  obtain ⟨k,rfl⟩ : ∃ m,k = m + 2:=⟨k - 2,by omega⟩
  obtain ⟨b,rfl,hb,hH⟩:=D a x hx y (hr y (by simp))
  have haN : a < N.length:=lt_of_get hx
  have step : ∃ F1,ts (k + 1) N a b (F.ts N.length) = some (F1.ts N.length)∧TP N F F1∧b ∈ F1.ds:=by
   rw [ts]
   have e1 : gt (F.ts N.length).ix (b : Int) = some (F.I b):=mk_gt hb
   rw [e1]
   simp only
   by_cases h0 : F.I b = 0
   ·rw [if_pos h0]
    obtain ⟨F1,f1,f2,f3,f4⟩:=ih b k F hH hb h0 t (fun j hj=>Nat.lt_of_lt_of_le hH (hS j hj)) (by omega)
    rw [f1]
    simp only
    have e2 : gt (F1.ts N.length).lo (b : Int) = some (F1.L b):=mk_gt hb
    rw [e2]
    simp only
    unfold tLow
    have e3 : gt (F1.ts N.length).lo (a : Int) = some (F1.L a):=mk_gt haN
    rw [e3]
    simp only
    have hLa : F1.L a = n1:=by rw [(f2.keep a (by simp [ha])).2,hL]
    have hmn : mn (F1.L a) (F1.L b) = F1.L a:=by
     unfold mn
     rw [if_neg]
     rw [f4,hLa];omega
    rw [hmn]
    refine ⟨F1,?_,f2,f3⟩
    simp only [FS.ts,Int.toNat_natCast,set_self]
   ·rw [if_neg h0]
    have hin:=(t.I b hb).1 h0
    have hns : b ∉ F.stk:=fun h=>by have:=hS b h;omega
    have hO : F.O b = false:=by
     cases hq : F.O b with
     | false=>rfl
     | true=>exact absurd ((t.O b hb).1 hq) hns
    have e2 : gt (F.ts N.length).on (b : Int) = some (F.O b):=mk_gt hb
    rw [e2,hO]
    refine ⟨F,rfl,TP.refl t,?_⟩
    rcases List.mem_append.1 hin with h | h
    ·exact h
    ·exact absurd h hns
  obtain ⟨F1,f1,f2,f3⟩:=step
  have hlen : F.ds.length + F.stk.length ≤ F1.ds.length + F1.stk.length:=by
   obtain ⟨r,hr⟩:=f2.ds
   rw [hr,f2.stk,List.length_append];omega
  obtain ⟨F2,g1,g2,g3⟩:=tl_dag D hx ih ys (k + 1) F1 n1 (fun z hz=>hr z (by simp [hz])) f2.inv (by rw [f2.stk];exact ha) (by rw [f2.stk];exact hS) (by rw [(f2.keep a (by simp [ha])).2,hL]) (by omega) (by omega)
  refine ⟨F2,by rw [tl,f1];exact g1,f2.trans g2,fun z hz=>?_⟩
  rcases List.mem_cons.1 hz with rfl | hz
  ·obtain ⟨r,hr⟩:=g2.ds
   exact ⟨b,rfl,by rw [hr];simp [f3]⟩
  ·exact g3 z hz
theorem tv_dag {N : List NodeV} {H : Nat → Nat} (D : Dag N H) (hm : N.length < 1073741824) {W : Nat} (hW : ∀ x ∈ N,x.keys.length ≤ W∧x.items.length ≤ W) :
  ∀ (h a k : Nat) (F : FS),H a < h → a < N.length → F.I a = 0 → TI N F → (∀ j ∈ F.stk,H a < H j) → h * (W + 4) ≤ k → ∃ F',tv k N a (F.ts N.length) = some (F'.ts N.length)∧TP N F F'∧a ∈ F'.ds∧F'.L a = ((F.ds.length + F.stk.length + 1 : Nat) : Int)
 | 0,a,k,F,hh,_,_,_,_,_=>by omega
 | h + 1,a,k,F,hh,ha,hI,t,hS,hk=>by
  have hk2 : (h + 1) * (W + 4) = h * (W + 4) + W + 4:=by rw [Nat.add_mul];omega
  obtain ⟨k,rfl⟩ : ∃ m,k = m + 1:=⟨k - 1,by omega⟩
  obtain ⟨x,hx⟩:=getI ha
  have hw:=hW x (List.mem_of_getElem? hx)
  have ih : ∀ (b k : Nat) (F : FS),H b < H a → b < N.length → F.I b = 0 → TI N F → (∀ j ∈ F.stk,H b < H j) → h * (W + 4) ≤ k → ∃ F',tv k N b (F.ts N.length) = some (F'.ts N.length)∧TP N F F'∧b ∈ F'.ds∧F'.L b = ((F.ds.length + F.stk.length + 1 : Nat) : Int) :=
   fun b k F hb=>tv_dag D hm hW h b k F (by omega)
  rw [tv,push_eq t hm ha hI]
  have t1:=push_TI t ha hI (fun j=>if j = a then ((F.ds.length + F.stk.length + 1 : Nat) : Int) else F.L j)
  generalize hF1 : ({ F with I:=fun j=>if j = a then ((F.ds.length + F.stk.length + 1 : Nat) : Int) else F.I j,L:=fun j=>if j = a then ((F.ds.length + F.stk.length + 1 : Nat) : Int) else F.L j,O:=fun j=>if j = a then true else F.O j,stk:=F.stk ++ [a] } : FS) = F1 at t1 ⊢
  have s1 : F1.stk = F.stk ++ [a]:=by rw [← hF1]
  have d1 : F1.ds = F.ds:=by rw [← hF1]
  have L1 : F1.L a = ((F.ds.length + F.stk.length + 1 : Nat) : Int):=by rw [← hF1];simp
  have I1 : F1.I a = ((F.ds.length + F.stk.length + 1 : Nat) : Int):=by rw [← hF1];simp
  have keep1 : ∀ j,j ∈ F.ds ++ F.stk → F1.I j = F.I j∧F1.L j = F.L j:=fun j hj=>by
   have hne : j ≠ a:=fun e=>(t.I a ha).2 (e ▸ hj) hI
   rw [← hF1];simp [hne]
  have S1 : ∀ j ∈ F1.stk,H a ≤ H j:=fun j hj=>by
   rw [s1] at hj
   rcases List.mem_append.1 hj with h | h
   ·exact Nat.le_of_lt (hS j h)
   ·rw [List.mem_singleton] at h;subst h;exact Nat.le_refl _
  simp only [gt_nat,hx]
  obtain ⟨F2,f1,f2,f3⟩:=tl_dag D hx ih x.keys k F1 _ (fun y hy=>List.mem_append_left _ hy) t1 (by rw [s1];simp) S1 L1 (by rw [s1,d1];simp;omega) (by omega)
  rw [f1]
  simp only
  have len2 : F1.ds.length + F1.stk.length ≤ F2.ds.length + F2.stk.length:=by
   obtain ⟨r,hr⟩:=f2.ds
   rw [hr,f2.stk,List.length_append];omega
  have a1 : a ∈ F1.stk:=by rw [s1];simp
  obtain ⟨F3,g1,g2,g3⟩:=tl_dag D hx ih x.items k F2 ((F.ds.length + F.stk.length + 1 : Nat) : Int) (fun y hy=>List.mem_append_right _ hy) f2.inv (by rw [f2.stk];exact a1) (by rw [f2.stk];exact S1) (by rw [(f2.keep a (by simp [a1])).2,L1])
   (by rw [s1,d1] at len2;simp at len2;omega) (by omega)
  rw [g1]
  simp only
  have P3:=f2.trans g2
  have e1 : (F3.ts N.length).lo[a]? = some (F3.L a):=mk_get ha
  have e2 : (F3.ts N.length).ix[a]? = some (F3.I a):=mk_get ha
  have k3:=P3.keep a (by simp [a1])
  rw [e1,e2]
  simp only
  rw [k3.1,k3.2,L1,I1,if_neg (by simp)]
  obtain ⟨k,rfl⟩ : ∃ m,k = m + 1:=⟨k - 1,by omega⟩
  have s3 : F3.stk = F.stk ++ [a]:=by rw [P3.stk,s1]
  have t3:=P3.inv
  have hle3:=t3.le
  rw [pop_eq t3 hm s3 k]
  simp only
  rw [if_pos (by simp [bigN];omega)]
  obtain ⟨r,hr⟩:=P3.ds
  have hna : a ∉ F3.ds:=fun h=>by
   have:=t3.nd
   rw [s3,List.nodup_append] at this
   exact this.2.2 a h a (by simp) rfl
  refine ⟨⟨F3.I,F3.L,fun j=>if j = a then (F3.ds.length : Int) else F3.C j,fun j=>if j = a then false else F3.O j,F.stk,F3.ds ++ [a]⟩,?_,⟨⟨?_,?_,fun j hj=>?_,fun j hj=>?_,fun j hj=>?_,fun i j hij=>?_⟩,rfl,⟨r ++ [a],by simp only;rw [hr,d1,List.append_assoc]⟩,fun j hj=>?_⟩,by simp,?_⟩
  ·simp only [FS.ts,s3,List.length_append,List.length_singleton]
   congr 1
   ·congr 1
    ·congr 1;omega
    ·rw [List.replicate_succ']
  ·have:=t3.nd
   rw [s3] at this
   refine this.perm ?_
   rw [List.append_assoc]
   exact List.Perm.append_left _ List.perm_append_comm
  ·intro j hj
   refine t3.lt j ?_
   rw [s3]
   simp only [List.mem_append,List.mem_singleton] at hj ⊢
   rcases hj with (h | h) | h
   ·exact .inl h
   ·exact .inr (.inr h)
   ·exact .inr (.inl h)
  ·simp only
   rw [t3.I j hj,s3]
   simp only [List.mem_append,List.mem_singleton]
   constructor
   ·rintro (h | h | h)
    ·exact .inl (.inl h)
    ·exact .inr h
    ·exact .inl (.inr h)
   ·rintro ((h | h) | h)
    ·exact .inl h
    ·exact .inr (.inr h)
    ·exact .inr (.inl h)
  ·simp only [List.length_append,List.length_singleton]
   have:=t3.Ib j hj
   rw [s3,List.length_append,List.length_singleton] at this
   omega
  ·simp only
   by_cases e : j = a
   ·subst e
    rw [if_pos rfl]
    simp only [Bool.false_eq_true,false_iff]
    exact fun h=>absurd (hS j h) (by omega)
   ·rw [if_neg e,t3.O j hj,s3]
    simp [e]
  ·simp only at hij ⊢
   have idx : ∀ {l : List Nat} {j : Nat},j ∈ l → ∃ i : Nat,i < l.length∧l[i]? = some j:=fun {l} {j} hj=>by
    obtain ⟨i,hi⟩:=List.mem_iff_getElem?.1 hj
    exact ⟨i,lt_of_get hi,hi⟩
   by_cases hi : i < F3.ds.length
   ·rw [List.getElem?_append_left hi] at hij
    have hne : j ≠ a:=fun e=>hna (e ▸ List.mem_of_getElem? hij)
    obtain ⟨c1,c2⟩:=t3.C i j hij
    rw [if_neg hne]
    refine ⟨c1,fun z hz y hy=>?_⟩
    obtain ⟨i',j',h1,h2,h3⟩:=c2 z hz y hy
    exact ⟨i',j',h1,by rw [List.getElem?_append_left (by omega)];exact h2,h3⟩
   ·have hlt:=lt_of_get hij
    rw [List.length_append,List.length_singleton] at hlt
    have : i = F3.ds.length:=by omega
    subst this
    rw [List.getElem?_append_right (Nat.le_refl _),Nat.sub_self] at hij
    have hj : j = a:=by simpa using hij.symm
    subst hj
    rw [if_pos rfl]
    refine ⟨rfl,fun z hz y hy=>?_⟩
    rw [hx] at hz;cases hz
    have : ∃ b : Nat,y = b∧b ∈ F3.ds:=by
     rcases List.mem_append.1 hy with h | h
     ·obtain ⟨b,h1,h2⟩:=f3 y h
      obtain ⟨q,hq⟩:=g2.ds
      exact ⟨b,h1,by rw [hq];simp [h2]⟩
     ·exact g3 y h
    obtain ⟨b,rfl,hb⟩:=this
    obtain ⟨i',h1,h2⟩:=idx hb
    exact ⟨i',b,h1,by rw [List.getElem?_append_left h1];exact h2,rfl⟩
  ·simp only
   have h1:=keep1 j hj
   have h2:=P3.keep j (by
    rw [d1,s1]
    rcases List.mem_append.1 hj with h | h
    ·simp [h]
    ·simp [h])
   exact ⟨h2.1.trans h1.1,h2.2.trans h1.2⟩
  ·simp only
   rw [k3.2,L1]
end Go.Sh
set_option linter.all false
namespace Go.Sh
open Go Go.Ago Go.Proofs
structure BI (p : Nat) (R : Nat → Nat) (c : Nat) (B : Nat → Int) : Prop where
 nn : ∀ e,e < p → 0 ≤ B e
 lo : ∀ e,e < c → B e ≤ R e + 1
 at' : B c ≤ R c
 hi : ∀ e,c < e → e < p → B e = 0
theorem dR_ok {m p c : Nat} {C : Nat → Int} {R : Nat → Nat} (hc : c < p) : ∀ (xs : List Int) (B : Nat → Int) (a : Bool),(∀ y ∈ xs,∃ (j d : Nat),y = j∧j < m∧C j = d∧d < c∧R d + 1 ≤ R c) → BI p R c B →
  ∃ B',dR (mk m C) (c : Int) xs (mk p B) a = some (mk p B',a)∧BI p R c B'
 | [],B,a,_,h=>⟨B,rfl,h⟩
 | y :: ys,B,a,hy,h=>by
  obtain ⟨j,d,rfl,h1,h2,h3,h4⟩:=hy y (by simp)
  have e1 : gt (mk m C) (j : Int) = some (d : Int):=by rw [mk_gt h1,h2]
  rw [dR,e1]
  simp only
  rw [if_neg (by omega),mk_gt hc,mk_gt (show d < p by omega)]
  simp only
  rw [Int.toNat_natCast,mk_set]
  refine dR_ok hc ys _ a (fun z hz=>hy z (by simp [hz])) ?_
  have b1:=h.nn c hc
  have b2:=h.nn d (by omega)
  have b3:=h.lo d h3
  have b4:=h.at'
  have hmx : 0 ≤ mx (B c) (B d)∧mx (B c) (B d) ≤ R c:=by unfold mx;split <;> omega
  refine ⟨fun e he=>?_,fun e he=>?_,?_,fun e he he2=>?_⟩
  ·split
   ·exact hmx.1
   ·exact h.nn e he
  ·rw [if_neg (by omega)];exact h.lo e he
  ·rw [if_pos rfl];exact hmx.2
  ·rw [if_neg (by omega)];exact h.hi e he he2
theorem dM_ok {N : List NodeV} {p c : Nat} {C : Nat → Int} {R : Nat → Nat} (hc : c < p) : ∀ (is : List Int) (B : Nat → Int) (a : Bool),
  (∀ (i : Int),i ∈ is → ∃ (j : Nat) (x : NodeV),i = (j : Int)∧N[j]? = some x∧∀ y ∈ refs x,∃ (j d : Nat),y = j∧j < N.length∧C j = d∧d < c∧R d + 1 ≤ R c) → BI p R c B →
  ∃ B',dM N (mk N.length C) (c : Int) is (mk p B) a = some (mk p B',a)∧BI p R c B'
 | [],B,a,_,h=>⟨B,rfl,h⟩
 | i :: is,B,a,hi,h=>by
  obtain ⟨j,x,rfl,h1,h2⟩:=hi i (by simp)
  obtain ⟨B1,e1,b1⟩:=dR_ok hc x.keys B a (fun y hy=>h2 y (List.mem_append_left _ hy)) h
  obtain ⟨B2,e2,b2⟩:=dR_ok hc x.items B1 a (fun y hy=>h2 y (List.mem_append_right _ hy)) b1
  rw [dM,gt_nat,h1]
  simp only
  rw [e1]
  simp only
  rw [e2]
  exact dM_ok hc is B2 a (fun z hz=>hi z (by simp [hz])) b2
theorem dC_ok {N : List NodeV} {p : Nat} {C : Nat → Int} {R : Nat → Nat} (hR : ∀ c,R c < 1073741824) : ∀ (r : List (List Int × Int)) (c : Nat) (B : Nat → Int) (a : Bool),c + r.length = p →
  (∀ (i : Nat) (q : List Int × Int),r[i]? = some q → q.2 = 1∧∀ (z : Int),z ∈ q.1 → ∃ (j : Nat) (x : NodeV),z = (j : Int)∧N[j]? = some x∧∀ y ∈ refs x,∃ (j d : Nat),y = j∧j < N.length∧C j = d∧d < c + i∧R d + 1 ≤ R (c + i)) →
  (∀ e,e < p → 0 ≤ B e) → (∀ e,e < c → B e ≤ R e + 1) → (∀ e,c ≤ e → e < p → B e = 0) →
  ∃ B',dC N (mk N.length C) c r (mk p B) a = some (mk p B',a)∧∀ e,e < p → 0 ≤ B' e∧B' e ≤ R e + 1
 | [],c,B,a,hl,_,h1,h2,_=>⟨B,rfl,fun e he=>⟨h1 e he,h2 e (by simp at hl;omega)⟩⟩
 | (xs,sz) :: r,c,B,a,hl,hq,h1,h2,h3=>by
  rw [List.length_cons] at hl
  have hc : c < p:=by omega
  obtain ⟨q1,q2⟩:=hq 0 (xs,sz) rfl
  have q1 : sz = 1:=q1
  subst q1
  obtain ⟨B1,e1,b1⟩:=dM_ok (N:=N) (C:=C) hc xs B a (by simpa using q2) ⟨h1,h2,by rw [h3 c (Nat.le_refl _) hc];omega,fun e he he2=>h3 e (by omega) he2⟩
  rw [dC,e1]
  simp only
  rw [mk_gt hc]
  simp only
  have n1:=b1.nn c hc
  have n2:=b1.at'
  have n3:=hR c
  rw [mk_set,wrap1 (by omega) (by omega)]
  refine dC_ok hR r (c + 1) _ a (by omega) (fun i q hi=>?_) (fun e he=>?_) (fun e he=>?_) fun e he he2=>?_
  ·have:=hq (i + 1) q (by simpa using hi)
   rw [show c + (i + 1) = c + 1 + i by omega] at this
   exact this
  ·split
   ·omega
   ·exact b1.nn e he
  ·split
   ·rename_i e;subst e;omega
   ·exact b1.lo e (by omega)
  ·rw [if_neg (by omega)];exact b1.hi e (by omega) he2
theorem mem_ok {C : Nat → Int} {p : Nat} : ∀ (cs : List Int) (i : Nat) (X : List (List Int)),X.length = p → (∀ (k : Nat) v,cs[k]? = some v → ∃ d : Nat,v = d∧d < p∧C (i + k) = d) → (∀ (c : Nat) xs,X[c]? = some xs → ∀ z ∈ xs,∃ j : Nat,z = j∧j < i∧C j = c) →
  ∃ Y,mem i cs X = some Y∧Y.length = p∧∀ (c : Nat) xs,Y[c]? = some xs → ∀ z ∈ xs,∃ j : Nat,z = j∧j < i + cs.length∧C j = c
 | [],i,X,hX,_,h=>⟨X,rfl,hX,by simpa using h⟩
 | v :: cs,i,X,hX,hv,h=>by
  obtain ⟨d,rfl,h1,h2⟩:=hv 0 v rfl
  rw [Nat.add_zero] at h2
  obtain ⟨xs,hx⟩:=getI (l:=X) (i:=d) (by omega)
  rw [mem,gt_nat,hx]
  simp only
  rw [Int.toNat_natCast]
  obtain ⟨Y,e,hY,hz⟩:=mem_ok (C:=C) (p:=p) cs (i + 1) (X.set d (xs ++ [(i : Int)])) (by simpa using hX) (fun k w hk=>by
   obtain ⟨d,e1,e2,e3⟩:=hv (k + 1) w (by simpa using hk)
   exact ⟨d,e1,e2,by rw [show i + 1 + k = i + (k + 1) by omega];exact e3⟩) (fun c ys hy z hz=>by
   rw [List.getElem?_set] at hy
   split at hy
   ·rename_i ec
    subst ec
    split at hy
    ·cases hy
     rcases List.mem_append.1 hz with hz | hz
     ·obtain ⟨j,j1,j2,j3⟩:=h d xs hx z hz
      exact ⟨j,j1,by omega,j3⟩
     ·rw [List.mem_singleton] at hz
      exact ⟨i,hz,by omega,h2⟩
    ·cases hy
   ·obtain ⟨j,j1,j2,j3⟩:=h c ys hy z hz
    exact ⟨j,j1,by omega,j3⟩)
  exact ⟨Y,e,hY,fun c ys hy z hz'=>by
   obtain ⟨j,j1,j2,j3⟩:=hz c ys hy z hz'
   exact ⟨j,j1,by simp;omega,j3⟩⟩
end Go.Sh
set_option linter.all false
namespace Go.Sh
open Go Go.Ago Go.Proofs
mutual
def dpV (b d : Nat) : BTv → Nat → Nat
 | .int _,_=>d
 | .str _,_=>d
 | .list l,j=>if j = b then d else dpL (b + 1) (d + 1) l j
 | .map l,j=>if j = b then d else dpD (b + 1) (d + 1) l j
def dpL (b d : Nat) : BTl → Nat → Nat
 | .nil,_=>d
 | .cons v l,j=>if j < b + nsz v then dpV b d v j else dpL (b + nsz v) d l j
def dpD (b d : Nat) : BTd → Nat → Nat
 | .nil,_=>d
 | .cons _ v l,j=>if j = b then d else if j < b + 1 + nsz v then dpV (b + 1) d v j else dpD (b + 1 + nsz v) d l j
end
theorem dpV_root (b d : Nat) (v : BTv) : dpV b d v b = d:=by
 cases v <;> simp [dpV]
theorem dpL_idx : ∀ (l : BTl) (b d : Nat),∀ y ∈ idxL b l,∃ j : Nat,y = j∧b ≤ j∧j < b + nszL l∧dpL b d l j = d
 | .nil,b,d,y,hy=>by cases hy
 | .cons v l,b,d,y,hy=>by
  have hp:=nsz_pos v
  rw [idxL] at hy
  rcases List.mem_cons.1 hy with rfl | hy
  ·exact ⟨b,rfl,Nat.le_refl _,by rw [nszL];omega,by rw [dpL,if_pos (by omega),dpV_root]⟩
  ·obtain ⟨j,h1,h2,h3,h4⟩:=dpL_idx l _ d y hy
   exact ⟨j,h1,by omega,by rw [nszL];omega,by rw [dpL,if_neg (by omega),h4]⟩
theorem dpD_keys : ∀ (l : BTd) (b d : Nat),∀ y ∈ keysD b l ++ valsD b l,∃ j : Nat,y = j∧b ≤ j∧j < b + nszD l∧dpD b d l j = d
 | .nil,b,d,y,hy=>by cases hy
 | .cons k v l,b,d,y,hy=>by
  have hp:=nsz_pos v
  rw [keysD,valsD] at hy
  have ih:=dpD_keys l (b + 1 + nsz v) d y
  have up : y ∈ keysD (b + 1 + nsz v) l ++ valsD (b + 1 + nsz v) l → ∃ j : Nat,y = j∧b ≤ j∧j < b + nszD (.cons k v l)∧dpD b d (.cons k v l) j = d:=fun h=>by
   obtain ⟨j,h1,h2,h3,h4⟩:=ih h
   exact ⟨j,h1,by omega,by rw [nszD];omega,by rw [dpD,if_neg (by omega),if_neg (by omega),h4]⟩
  rcases List.mem_append.1 hy with hy | hy
  ·rcases List.mem_cons.1 hy with rfl | hy
   ·exact ⟨b,rfl,Nat.le_refl _,by rw [nszD];omega,by rw [dpD,if_pos rfl]⟩
   ·exact up (List.mem_append_left _ hy)
  ·rcases List.mem_cons.1 hy with rfl | hy
   ·exact ⟨b + 1,rfl,by omega,by rw [nszD];omega,by rw [dpD,if_neg (by omega),if_pos (by omega),dpV_root]⟩
   ·exact up (List.mem_append_right _ hy)
theorem okV_le : ∀ {d : Nat} {v : BTv},okV d v → d ≤ 32
 | d,.int _,h=>h.1
 | d,.str _,h=>h
 | d,.list _,h=>h.1
 | d,.map _,h=>h.1
theorem okL_le : ∀ {d : Nat} {l : BTl},okL d l → l ≠ .nil → d ≤ 32
 | d,.nil,_,h=>absurd rfl h
 | d,.cons v l,h,_=>okV_le h.1
theorem okD_le : ∀ {d : Nat} {o : Option ByteArray} {l : BTd},okD d o l → l ≠ .nil → d ≤ 32
 | d,o,.nil,_,h=>absurd rfl h
 | d,o,.cons k v l,h,_=>h.1
def Dp (f : Nat → Nat) (lo hi at' : Nat) (x : NodeV) : Prop:=f at' ≤ 32∧∀ y ∈ refs x,∃ j : Nat,y = j∧lo ≤ j∧j < hi∧f j = f at' + 1∧f j ≤ 32
mutual
theorem dp_tree : ∀ (v : BTv) (b d : Nat),okV d v → ∀ (i : Nat) x,(nds b v)[i]? = some x → Dp (dpV b d v) b (b + nsz v) (b + i) x
 | .int t,b,d,h,i,x,hx=>by
  rw [nds] at hx
  have hi:=lt_of_get hx
  have : i = 0:=by simpa using hi
  subst this
  have hx : _ = x:=Option.some.inj hx
  subst hx
  exact ⟨by rw [dpV];exact h.1,fun y hy=>by cases hy⟩
 | .str t,b,d,h,i,x,hx=>by
  rw [nds] at hx
  have hi:=lt_of_get hx
  have : i = 0:=by simpa using hi
  subst this
  have hx : _ = x:=Option.some.inj hx
  subst hx
  exact ⟨by rw [dpV];exact h,fun y hy=>by cases hy⟩
 | .list l,b,d,h,i,x,hx=>by
  rw [nds] at hx
  cases i with
  | zero =>
   have hx : _ = x:=Option.some.inj hx
   subst hx
   refine ⟨by rw [Nat.add_zero,dpV_root];exact h.1,fun y hy=>?_⟩
   have hy : y ∈ idxL (b + 1) l:=by simpa [refs] using hy
   obtain ⟨j,h1,h2,h3,h4⟩:=dpL_idx l (b + 1) (d + 1) y hy
   have hd:=okL_le h.2 (fun e=>by subst e;cases hy)
   have e : dpV b d (.list l) j = d + 1:=by rw [dpV,if_neg (by omega),h4]
   exact ⟨j,h1,by omega,by rw [nsz];omega,by rw [e];show d + 1 = dpV b d _ b + 1;rw [dpV_root],by rw [e];exact hd⟩
  | succ i =>
   rw [List.getElem?_cons_succ] at hx
   obtain ⟨a1,a2⟩:=dpL_tree l (b + 1) (d + 1) h.2 i x hx
   have e0 : dpV b d (.list l) (b + (i + 1)) = dpL (b + 1) (d + 1) l (b + 1 + i):=by rw [dpV,if_neg (by omega),show b + (i + 1) = b + 1 + i by omega]
   refine ⟨by rw [e0];exact a1,fun y hy=>?_⟩
   obtain ⟨j,h1,h2,h3,h4,h5⟩:=a2 y hy
   have e : dpV b d (.list l) j = dpL (b + 1) (d + 1) l j:=by rw [dpV,if_neg (by omega)]
   exact ⟨j,h1,by omega,by rw [nsz];omega,by rw [e,e0,h4],by rw [e];exact h5⟩
 | .map l,b,d,h,i,x,hx=>by
  rw [nds] at hx
  cases i with
  | zero =>
   have hx : _ = x:=Option.some.inj hx
   subst hx
   refine ⟨by rw [Nat.add_zero,dpV_root];exact h.1,fun y hy=>?_⟩
   obtain ⟨j,h1,h2,h3,h4⟩:=dpD_keys l (b + 1) (d + 1) y hy
   have hd:=okD_le h.2 (fun e=>by subst e;cases hy)
   have e : dpV b d (.map l) j = d + 1:=by rw [dpV,if_neg (by omega),h4]
   exact ⟨j,h1,by omega,by rw [nsz];omega,by rw [e];show d + 1 = dpV b d _ b + 1;rw [dpV_root],by rw [e];exact hd⟩
  | succ i =>
   rw [List.getElem?_cons_succ] at hx
   obtain ⟨a1,a2⟩:=dpD_tree l (b + 1) (d + 1) _ h.2 i x hx
   have e0 : dpV b d (.map l) (b + (i + 1)) = dpD (b + 1) (d + 1) l (b + 1 + i):=by rw [dpV,if_neg (by omega),show b + (i + 1) = b + 1 + i by omega]
   refine ⟨by rw [e0];exact a1,fun y hy=>?_⟩
   obtain ⟨j,h1,h2,h3,h4,h5⟩:=a2 y hy
   have e : dpV b d (.map l) j = dpD (b + 1) (d + 1) l j:=by rw [dpV,if_neg (by omega)]
   exact ⟨j,h1,by omega,by rw [nsz];omega,by rw [e,e0,h4],by rw [e];exact h5⟩
theorem dpL_tree : ∀ (l : BTl) (b d : Nat),okL d l → ∀ (i : Nat) x,(ndsL b l)[i]? = some x → Dp (dpL b d l) b (b + nszL l) (b + i) x
 | .nil,b,d,h,i,x,hx=>by rw [ndsL] at hx;simp at hx
 | .cons v l,b,d,h,i,x,hx=>by
  rw [ndsL] at hx
  by_cases hi : i < nsz v
  ·rw [List.getElem?_append_left (by rw [nds_len];exact hi)] at hx
   obtain ⟨a1,a2⟩:=dp_tree v b d h.1 i x hx
   have e : ∀ j,j < b + nsz v → dpL b d (.cons v l) j = dpV b d v j:=fun j hj=>by rw [dpL,if_pos hj]
   refine ⟨by rw [e _ (by omega)];exact a1,fun y hy=>?_⟩
   obtain ⟨j,h1,h2,h3,h4,h5⟩:=a2 y hy
   exact ⟨j,h1,h2,by rw [nszL];omega,by rw [e j h3,e _ (by omega),h4],by rw [e j h3];exact h5⟩
  ·rw [List.getElem?_append_right (by rw [nds_len];omega),nds_len] at hx
   obtain ⟨a1,a2⟩:=dpL_tree l (b + nsz v) d h.2 (i - nsz v) x hx
   have e : ∀ j,b + nsz v ≤ j → dpL b d (.cons v l) j = dpL (b + nsz v) d l j:=fun j hj=>by rw [dpL,if_neg (by omega)]
   rw [show b + nsz v + (i - nsz v) = b + i by omega] at a1 a2
   refine ⟨by rw [e _ (by omega)];exact a1,fun y hy=>?_⟩
   obtain ⟨j,h1,h2,h3,h4,h5⟩:=a2 y hy
   exact ⟨j,h1,by omega,by rw [nszL];omega,by rw [e j h2,e _ (by omega),h4],by rw [e j h2];exact h5⟩
theorem dpD_tree : ∀ (l : BTd) (b d : Nat) (o : Option ByteArray),okD d o l → ∀ (i : Nat) x,(ndsD b l)[i]? = some x → Dp (dpD b d l) b (b + nszD l) (b + i) x
 | .nil,b,d,o,h,i,x,hx=>by rw [ndsD] at hx;simp at hx
 | .cons k v l,b,d,o,h,i,x,hx=>by
  rw [ndsD] at hx
  cases i with
  | zero =>
   have hx : _ = x:=Option.some.inj hx
   subst hx
   exact ⟨by rw [Nat.add_zero,dpD,if_pos rfl];exact h.1,fun y hy=>by cases hy⟩
  | succ i =>
   rw [List.getElem?_cons_succ] at hx
   by_cases hi : i < nsz v
   ·rw [List.getElem?_append_left (by rw [nds_len];exact hi)] at hx
    obtain ⟨a1,a2⟩:=dp_tree v (b + 1) d h.2.2.2.1 i x hx
    have e : ∀ j,b + 1 ≤ j → j < b + 1 + nsz v → dpD b d (.cons k v l) j = dpV (b + 1) d v j:=fun j hj hj2=>by rw [dpD,if_neg (by omega),if_pos hj2]
    rw [show b + 1 + i = b + (i + 1) by omega] at a1 a2
    refine ⟨by rw [e _ (by omega) (by omega)];exact a1,fun y hy=>?_⟩
    obtain ⟨j,h1,h2,h3,h4,h5⟩:=a2 y hy
    exact ⟨j,h1,by omega,by rw [nszD];omega,by rw [e j h2 h3,e _ (by omega) (by omega),h4],by rw [e j h2 h3];exact h5⟩
   ·rw [List.getElem?_append_right (by rw [nds_len];omega),nds_len] at hx
    obtain ⟨a1,a2⟩:=dpD_tree l (b + 1 + nsz v) d _ h.2.2.2.2 (i - nsz v) x hx
    have e : ∀ j,b + 1 + nsz v ≤ j → dpD b d (.cons k v l) j = dpD (b + 1 + nsz v) d l j:=fun j hj=>by rw [dpD,if_neg (by omega),if_neg (by omega)]
    rw [show b + 1 + nsz v + (i - nsz v) = b + (i + 1) by omega] at a1 a2
    refine ⟨by rw [e _ (by omega)];exact a1,fun y hy=>?_⟩
    obtain ⟨j,h1,h2,h3,h4,h5⟩:=a2 y hy
    exact ⟨j,h1,by omega,by rw [nszD];omega,by rw [e j h2,e _ (by omega),h4],by rw [e j h2];exact h5⟩
end
def rk (v : BTv) (j : Nat) : Nat:=32 - dpV 0 0 v j
theorem dag_tree {v : BTv} (h : okV 0 v) : Dag (nds 0 v) (rk v):=by
 intro i x hx y hy
 obtain ⟨a1,a2⟩:=dp_tree v 0 0 h i x hx
 obtain ⟨j,h1,h2,h3,h4,h5⟩:=a2 y hy
 refine ⟨j,h1,by rw [nds_len];omega,?_⟩
 unfold rk
 rw [Nat.zero_add] at h4 a1
 omega
end Go.Sh
set_option linter.all false
namespace Go.Sh
open Go Go.Ago Go.Proofs
mutual
theorem all_in {N : List NodeV} {S : Nat → Prop} (hc : ∀ j x, S j → N[j]? = some x → ∀ y ∈ refs x, ∃ j' : Nat, y = (j' : Int) ∧ S j') : ∀ (v : BTv) (b : Nat), Pt N b (nds b v) → S b → ∀ j, b ≤ j → j < b + nsz v → S j
  | .int t, b, p, hs, j, h1, h2 => by rw [nsz] at h2; have : j = b := by omega
                                      subst this; exact hs
  | .str t, b, p, hs, j, h1, h2 => by rw [nsz] at h2; have : j = b := by omega
                                      subst this; exact hs
  | .list l, b, p, hs, j, h1, h2 => by
    rw [nsz] at h2
    rw [nds] at p
    by_cases e : j = b
    · subst e; exact hs
    · refine allL_in hc l (b + 1) p.cons.2 (fun y hy => hc b _ hs p.cons.1 y ?_) j (by omega) (by omega)
      simpa [refs] using hy
  | .map l, b, p, hs, j, h1, h2 => by
    rw [nsz] at h2
    rw [nds] at p
    by_cases e : j = b
    · subst e; exact hs
    · exact allD_in hc l (b + 1) p.cons.2 (fun y hy => hc b _ hs p.cons.1 y hy) j (by omega) (by omega)
theorem allL_in {N : List NodeV} {S : Nat → Prop} (hc : ∀ j x, S j → N[j]? = some x → ∀ y ∈ refs x, ∃ j' : Nat, y = (j' : Int) ∧ S j') : ∀ (l : BTl) (b : Nat), Pt N b (ndsL b l) → (∀ y ∈ idxL b l, ∃ j' : Nat, y = (j' : Int) ∧ S j') → ∀ j, b ≤ j → j < b + nszL l → S j
  | .nil, b, p, hs, j, h1, h2 => by rw [nszL] at h2; omega
  | .cons v l, b, p, hs, j, h1, h2 => by
    rw [nszL] at h2
    rw [ndsL] at p
    rw [idxL] at hs
    obtain ⟨p1, p2⟩ := p.split
    rw [nds_len] at p2
    by_cases e : j < b + nsz v
    · obtain ⟨j', e1, e2⟩ := hs b (by simp)
      have : j' = b := by omega
      subst this
      exact all_in hc v j' p1 e2 j h1 e
    · exact allL_in hc l _ p2 (fun y hy => hs y (by simp [hy])) j (by omega) (by omega)
theorem allD_in {N : List NodeV} {S : Nat → Prop} (hc : ∀ j x, S j → N[j]? = some x → ∀ y ∈ refs x, ∃ j' : Nat, y = (j' : Int) ∧ S j') : ∀ (l : BTd) (b : Nat), Pt N b (ndsD b l) → (∀ y ∈ keysD b l ++ valsD b l, ∃ j' : Nat, y = (j' : Int) ∧ S j') → ∀ j, b ≤ j → j < b + nszD l → S j
  | .nil, b, p, hs, j, h1, h2 => by rw [nszD] at h2; omega
  | .cons k v l, b, p, hs, j, h1, h2 => by
    rw [nszD] at h2
    rw [ndsD] at p
    rw [keysD, valsD] at hs
    have p0 := p.cons.2
    obtain ⟨p1, p2⟩ := p0.split
    rw [nds_len] at p2
    by_cases e : j = b
    · subst e
      obtain ⟨j', e1, e2⟩ := hs j (by simp)
      have : j' = j := by omega
      subst this; exact e2
    · by_cases e2 : j < b + 1 + nsz v
      · obtain ⟨j', e1, e3⟩ := hs ((b + 1 : Nat) : Int) (by simp)
        have : j' = b + 1 := by omega
        subst this
        exact all_in hc v _ p1 e3 j (by omega) e2
      · exact allD_in hc l _ p2 (fun y hy => hs y (by
          rcases List.mem_append.1 hy with h | h
          · simp [h]
          · simp [h])) j (by omega) (by omega)
end
theorem comp_tree {v : BTv} (h : okV 0 v) (hm : nsz v < 1073741824) {k : Nat} (hk : 33 * (nsz v + 4) ≤ k) : ∃ F : FS,comp k (nds 0 v) 0 = some (mk (nds 0 v).length F.C,List.replicate F.ds.length 1)∧TI (nds 0 v) F∧∀ j,j < nsz v → j ∈ F.ds:=by
 have hl:=nds_len 0 v
 have hp:=nsz_pos v
 let F0 : FS:=⟨fun _=>0,fun _=>0,fun _=>-1,fun _=>false,[],[]⟩
 have t0 : TI (nds 0 v) F0:=⟨by simp [F0],by simp [F0],fun j _=>by simp [F0],fun j _=>by simp [F0],fun j _=>by simp [F0],fun i j hij=>by simp [F0] at hij⟩
 have e0 : tInit (nds 0 v).length = F0.ts (nds 0 v).length:=by
  unfold tInit FS.ts
  simp only [mk_rep,F0]
  simp
  rfl
 have hW : ∀ x ∈ nds 0 v,x.keys.length ≤ nsz v∧x.items.length ≤ nsz v:=fun x hx=>by
  have h1:=refs_len v 0
  have h2 : (refs x).length ≤ (refsL (nds 0 v)).length:=(List.sublist_flatten_of_mem (List.mem_map_of_mem hx)).length_le
  unfold refs at h2
  rw [List.length_append] at h2
  omega
 obtain ⟨F,f1,f2,f3,_⟩:=tv_dag (dag_tree h) (by omega) hW 33 0 k F0 (by unfold rk;omega) (by omega) rfl t0 (by simp [F0]) hk
 refine ⟨F,?_,f2.inv,fun j hj=>?_⟩
 ·unfold comp
  rw [e0,show (0 : Int) = ((0 : Nat) : Int) from rfl,f1]
  rfl
 ·refine all_in (N:=nds 0 v) (S:=fun j=>j ∈ F.ds) (fun j x hj hx y hy=>?_) v 0 (Pt.self _) f3 j (by omega) (by omega)
  obtain ⟨i,hi⟩:=List.mem_iff_getElem?.1 hj
  obtain ⟨i',j',_,h2,h3⟩:=(f2.inv.C i j hi).2 x hx y hy
  exact ⟨j',h3,List.mem_of_getElem? h2⟩
theorem dep_tree {v : BTv} (h : okV 0 v) (hm : nsz v < 1073741824) {k : Nat} (hk : 33 * (nsz v + 4) ≤ k) : ∃ d,dep k (nds 0 v) 0 = some (d,true)∧d ≤ 32:=by
 obtain ⟨F,f1,t,f2⟩:=comp_tree h hm hk
 have hl:=nds_len 0 v
 have hp:=nsz_pos v
 have hle:=t.le
 have hidx : ∀ j,j < (nds 0 v).length → ∃ i : Nat,F.ds[i]? = some j∧F.C j = (i : Int)∧i < F.ds.length:=fun j hj=>by
  obtain ⟨i,hi⟩:=List.mem_iff_getElem?.1 (f2 j (by omega))
  exact ⟨i,hi,(t.C i j hi).1,lt_of_get hi⟩
 obtain ⟨Y,y1,y2,y3⟩:=mem_ok (C:=F.C) (p:=F.ds.length) (mk (nds 0 v).length F.C) 0 (List.replicate F.ds.length []) (by simp) (fun k w hk=>by
  have hlt:=lt_of_get hk
  rw [mk_len] at hlt
  rw [mk_get hlt] at hk
  obtain ⟨i,i1,i2,i3⟩:=hidx k hlt
  exact ⟨i,by rw [← Option.some.inj hk,i2],i3,by rw [Nat.zero_add,i2]⟩) (fun c xs hx z hz=>by
  have:=List.eq_of_mem_replicate (List.mem_of_getElem? hx)
  subst this;cases hz)
 have hR : ∀ c : Nat,rk v (F.ds[c]?.getD 0) < 1073741824:=fun c=>by unfold rk;omega
 obtain ⟨B,b1,b2⟩:=dC_ok (N:=nds 0 v) (p:=F.ds.length) (C:=F.C) (R:=fun c : Nat=>rk v (F.ds[c]?.getD 0)) hR (Y.zip (List.replicate F.ds.length 1)) 0 (fun _=>0) true (by simp [y2]) (fun i q hq=>by
  rw [List.getElem?_zip_eq_some] at hq
  obtain ⟨q1,q2⟩:=hq
  refine ⟨List.eq_of_mem_replicate (List.mem_of_getElem? q2),fun z hz=>?_⟩
  obtain ⟨j,j1,j2,j3⟩:=y3 i q.1 q1 z hz
  rw [Nat.zero_add,mk_len] at j2
  obtain ⟨i0,i1,i2,i3⟩:=hidx j j2
  have : i0 = i:=by omega
  subst this
  obtain ⟨x,hx⟩:=getI j2
  refine ⟨j,x,j1,hx,fun y hy=>?_⟩
  obtain ⟨i',j',k1,k2,k3⟩:=(t.C i0 j i1).2 x hx y hy
  obtain ⟨j'',d1,d2,d3⟩:=dag_tree h j x hx y hy
  have : j'' = j':=by omega
  subst this
  refine ⟨j'',i',d1,d2,(t.C i' j'' k2).1,by omega,?_⟩
  rw [Nat.zero_add,k2,i1]
  exact d3) (fun _ _=>by omega) (fun _ h=>by omega) (fun _ _ _=>rfl)
 obtain ⟨i0,i1,i2,i3⟩:=hidx 0 (by omega)
 have b3:=b2 i0 i3
 have b4 : rk v (F.ds[i0]?.getD 0) ≤ 32:=by unfold rk;omega
 refine ⟨B i0 - 1,?_,by have:=b3.2;omega⟩
 unfold dep
 rw [f1]
 simp only [List.length_replicate]
 rw [if_pos (by omega),y1]
 simp only
 rw [mk_rep F.ds.length (0 : Int),b1]
 simp only
 rw [show (0 : Int) = ((0 : Nat) : Int) from rfl,mk_gt (by omega),i2]
 simp only
 rw [mk_gt i3]
 simp only
 rw [IntWalk.i64_in _ ⟨by omega,by omega⟩]
theorem gcheck_tree {v : BTv} (h : okV 0 v) (hn : nsz v ≤ 4096) {k : Nat} (hk : 33 * (nsz v + 4) ≤ k) : gcheck k (nds 0 v) 0 = some 0:=by
 have hl:=nds_len 0 v
 have hp:=nsz_pos v
 obtain ⟨k,rfl⟩ : ∃ m,k = m + 2:=⟨k - 2,by omega⟩
 unfold gcheck
 rw [if_neg (by omega),if_neg (by omega),inds_tree,if_neg (by simp)]
 have hv:=vis_tree (N:=nds 0 v) v 0 (k + 2) (fun _=>false) (Pt.self _) (fun _ _ _=>rfl) (by omega)
 rw [mk_rep,show (0 : Int) = ((0 : Nat) : Int) from rfl,hv]
 simp only
 rw [gA_true (by rw [mk_len]) (fun m hm=>by
  obtain ⟨i,hi⟩:=List.mem_iff_getElem?.1 hm
  have hlt:=lt_of_get hi
  rw [mk_len] at hlt
  rw [mk_get hlt] at hi
  rw [← Option.some.inj hi]
  simp;omega) (forms v 0 0 h)]
 simp only
 rw [show ((0 : Nat) : Int) = 0 from rfl,cnt_ones (by omega)]
 simp only
 obtain ⟨M,e⟩:=inK_leaf (N:=nds 0 v) k (nds 0 v) (fun _=>false) (keys_leaf v 0 (Pt.self _))
 rw [e]
 simp only
 rw [gB_ones _ _ (fun x hx=>by
  obtain ⟨i,hi⟩:=List.mem_iff_getElem?.1 hx
  have hlt:=lt_of_get hi
  rw [mk_len] at hlt
  rw [mk_get hlt] at hi
  exact (Option.some.inj hi).symm),if_neg (by simp),twN_tree v 0 0 (Pt.self _) h]
 simp only
 obtain ⟨d,e1,e2⟩:=dep_tree h (by omega) hk
 rw [e1]
 simp only
 rw [if_neg (by omega)]
end Go.Sh
