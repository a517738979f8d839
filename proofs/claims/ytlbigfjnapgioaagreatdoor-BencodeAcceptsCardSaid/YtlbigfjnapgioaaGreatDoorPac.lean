
import Derived.Test.YtlbigfjnapgioaaGreatDoorGmPa
import Derived.Test.YtlbigfjnapgioaaGreatDoorSh3
import Derived.Test.YtlbigfjnapgioaaGreatDoorHaPa
import Derived.Test.YtlbigfjnapgioaaGreatDoorPab
set_option linter.all false
namespace Go.Ago
open Go
variable {α β : Type} {h h' h0 : AHeap} {L : List Own}
theorem Z.appE (z : Z h0 h L) (i : Nat) {b0 sz n : Nat} {e : TypeId} {new : List Value} {f : Sl → M β} {Q : β → AHeap → Prop} (hi : L[i]? = some (.blk b0 [] e)) (hn : n ≠ 0) (hl : new.length = n * sz) (hb : n ≤ bigN)
  (q : ∀ b' h',Z h0 h' (.blk b' new e :: L) → Wp (f ⟨some ⟨b',0,none⟩,n,0⟩) h' Q) : Wp (M.bind (Ago.app false ⟨some ⟨b0,0,none⟩,0,1⟩ sz e n new) f) h Q:=by
 rw [Wp_bind]
 have l : LB h b0 [] e:=z.get i hi
 refine ⟨⟨some ⟨h.next,0,none⟩,n,0⟩,h.new e new,?_,q h.next _ (z.add (Fr.new z.wf) (o:=.blk h.next new e) LB.new (.inr (Nat.lt_succ_self _)))⟩
 unfold Ago.app app0
 simp only [Bool.false_and,Nat.zero_add,Nat.zero_mul]
 rw [if_neg hn,if_neg (by simp [hb,hl])]
 simp [cellsAt,l.get]
 omega
theorem Z.rdS (z : Z h0 h L) (i : Nat) {b o n c sz : Nat} {e : TypeId} {cs : List Value} {f : List Value → M β} {Q : β → AHeap → Prop} (hi : L[i]? = some (.blk b cs e)) (ho : o + n * sz ≤ cs.length)
  (q : Wp (f ((cs.drop o).take (n * sz))) h Q) : Wp (M.bind (rdS ⟨some ⟨b,o,none⟩,n,c⟩ sz) f) h Q:=by
 rw [Wp_bind]
 have l : LB h b cs e:=z.get i hi
 exact ⟨_,h,by unfold Ago.rdS;simp only [cellsAt,l.get];rw [if_pos ho],q⟩
end Go.Ago
namespace Go.Sh
open Go Go.Ago Go.Proofs
variable {α β : Type} {h h' h0 : AHeap} {L : List Own} {Q : β → AHeap → Prop}
theorem ixO {b o n cap : Nat} {k : Int} {sz : Nat} (h1 : 0 ≤ k) (h2 : k < (n : Int)) {f : Addr → M β} (q : Wp (f ⟨b,o + k.toNat * sz,none⟩) h Q) : Wp (M.bind (idxA ⟨some ⟨b,o,none⟩,n,cap⟩ k sz) f) h Q:=by
 rw [Wp_bind,Wp_idxA]
 exact ⟨_,rfl,h1,h2,q⟩
def mgL (lt : Int → Int → Option Bool) : Nat → List Int → List Int → Option (List Int)
 | 0,_,_=>some []
 | n + 1,l :: ls,[]=>(mgL lt n ls []).map (l :: ·)
 | n + 1,[],r :: rs=>(mgL lt n [] rs).map (r :: ·)
 | n + 1,l :: ls,r :: rs=>match lt r l with
  | none=>none
  | some true=>(mgL lt n (l :: ls) rs).map (r :: ·)
  | some false=>(mgL lt n ls (r :: rs)).map (l :: ·)
 | _ + 1,[],[]=>none
def mgS (lt : Int → Int → Option Bool) : Nat → List Int → Option (List Int)
 | 0,_=>none
 | k + 1,xs=>if xs.length < 2 then some xs else match mgS lt k (xs.take (xs.length / 2)) with
  | none=>none
  | some a=>match mgS lt k (xs.drop (xs.length / 2)) with
   | none=>none
   | some b=>mgL lt xs.length a b
theorem mgL_len {lt : Int → Int → Option Bool} : ∀ {n : Nat} {a b r : List Int},mgL lt n a b = some r → r.length = n
 | 0,a,b,r,he=>by rw [mgL] at he;cases he;rfl
 | n + 1,a,b,r,he=>by
  have fin : ∀ {o : Option (List Int)} {x : Int},o.map (x :: ·) = some r → (∀ r',o = some r' → r'.length = n) → r.length = n + 1:=by
   intro o x he hr
   cases o with
   | none=>cases he
   | some r'=>cases he;rw [List.length_cons,hr r' rfl]
  cases a with
  | nil =>
   cases b with
   | nil=>rw [mgL] at he;cases he
   | cons y b=>rw [mgL] at he;exact fin he fun r'=>mgL_len
  | cons x a =>
   cases b with
   | nil=>rw [mgL] at he;exact fin he fun r'=>mgL_len
   | cons y b =>
    rw [mgL] at he
    split at he
    ·cases he
    ·exact fin he fun r'=>mgL_len
    ·exact fin he fun r'=>mgL_len
theorem mgS_len {lt : Int → Int → Option Bool} : ∀ {k : Nat} {xs r : List Int},mgS lt k xs = some r → r.length = xs.length
 | 0,xs,r,he=>by cases he
 | k + 1,xs,r,he=>by
  rw [mgS] at he
  split at he
  ·cases he;rfl
  ·split at he
   ·cases he
   ·split at he
    ·cases he
    ·exact mgL_len he
theorem set_out {out : List Int} {i : Nat} {v : Int} {res : List Int} (hi : i < out.length) : (out.set i v).take (i + 1) ++ res = out.take i ++ v :: res:=by
 rw [List.take_add_one,List.getElem?_set_self hi,List.take_set_of_le (Nat.le_refl _)]
 simp
section
variable {lt : Int → Int → Option Bool} {f : Value} {K : Nat}
theorem mg_L0 (hless : ∀ {n : Nat} {h : AHeap} {P : List Own} {x y : Int} {r : Bool},K ≤ n → lt x y = some r → Z h0 h (P ++ L) → Wp (share_merge_D43 n f x y) h fun b h'=>b = r∧Z h0 h' (P ++ L)) {bl br b m c0 : Nat} {ls rs : List Int} (hm : m < 1073741824) {P : List Own} :
  ∀ (n i p q : Nat) (out res : List Int) (h : AHeap) (c2 c3 : Nat),m - i + K < n → i ≤ m → p ≤ ls.length → q ≤ rs.length → out.length = m → mgL lt (m - i) (ls.drop p) (rs.drop q) = some res →
   Z h0 h (.blk b (out.map vi) T_i64 :: .blk bl (ls.map vi) T_i64 :: .blk br (rs.map vi) T_i64 :: (P ++ L)) →
   Wp (share_merge_L0 n ⟨some ⟨b,0,none⟩,m,c0⟩ f ⟨some ⟨bl,p,none⟩,ls.length - p,c2⟩ ⟨some ⟨br,q,none⟩,rs.length - q,c3⟩ (m : Int) (i : Int)) h fun _ h' =>
    Z h0 h' (.blk b ((out.take i ++ res).map vi) T_i64 :: .blk bl (ls.map vi) T_i64 :: .blk br (rs.map vi) T_i64 :: (P ++ L)):=by
 intro n
 induction n with
 | zero=>intro i p q out res h c2 c3 h1;omega
 | succ n ih =>
  intro i p q out res h c2 c3 h1 h2 hp hq ho hv z
  rw [share_merge_L0_succ]
  unfold share_merge_L0_B
  by_cases hi : i < m
  ·rw [if_pos (by simp;omega)]
   obtain ⟨k,hk⟩ : ∃ k,m - i = k + 1:=⟨m - i - 1,by omega⟩
   have hk' : m - (i + 1) = k:=by omega
   rw [hk] at hv
   have J1 : ∀ {h : AHeap} (x : Int),ls[p]? = some x → Z h0 h (.blk b (out.map vi) T_i64 :: .blk bl (ls.map vi) T_i64 :: .blk br (rs.map vi) T_i64 :: (P ++ L)) → (mgL lt k (ls.drop (p + 1)) (rs.drop q)).map (x :: ·) = some res →
     Wp (share_merge_L0_J1_B (Cl_share_merge.at n) n ⟨some ⟨b,0,none⟩,m,c0⟩ f ⟨some ⟨bl,p,none⟩,ls.length - p,c2⟩ ⟨some ⟨br,q,none⟩,rs.length - q,c3⟩ (i : Int) (m : Int) (i : Int)) h fun _ h' =>
      Z h0 h' (.blk b ((out.take i ++ res).map vi) T_i64 :: .blk bl (ls.map vi) T_i64 :: .blk br (rs.map vi) T_i64 :: (P ++ L)):=by
    intro h x hx z hv
    have hlt:=lt_of_get hx
    cases hr : mgL lt k (ls.drop (p + 1)) (rs.drop q) with
    | none=>rw [hr] at hv;cases hv
    | some r2 =>
    rw [hr] at hv;cases hv
    unfold share_merge_L0_J1_B
    refine ixO (by omega) (by omega) ?_
    refine z.ld 1 (l:=li) (x:=x) ?_ rfl (by show (ls.map vi)[p + 0 * 1]? = _;rw [Nat.zero_mul,Nat.add_zero,List.getElem?_map,hx];rfl) rfl
    refine ixO (by omega) (by omega) ?_
    rw [Wp_bind]
    refine Wp_sliceL (by decide) (by simp only;omega) (by simp only;omega) (by have l : LB h bl _ _:=z.get 1 rfl;simp [elemOk,l.get]) ?_
    have e0 : (0 + (i : Int).toNat * 1) = i:=by omega
    rw [e0]
    refine z.stAC 0 (xs:=out) (enc:=vi) (v:=x) (by omega) (fun a ha=>?_) fun h3 z=>?_
    ·simp only [List.mem_singleton,Option.some.injEq] at ha
     subst ha
     exact z.nbO 0 1 rfl rfl (by omega)
    rw [up1 h2 (by omega)]
    have:=ih (i + 1) (p + 1) q (out.set i x) r2 h3 (c2 - if c2 = 0 then 0 else (1 : Int).toNat) c3 (by omega) (by omega) (by omega) hq (by simpa using ho) (by rw [hk'];exact hr) z
    rw [set_out (by omega)] at this
    exact this
   have J0 : ∀ {h : AHeap} (x : Int),rs[q]? = some x → Z h0 h (.blk b (out.map vi) T_i64 :: .blk bl (ls.map vi) T_i64 :: .blk br (rs.map vi) T_i64 :: (P ++ L)) → (mgL lt k (ls.drop p) (rs.drop (q + 1))).map (x :: ·) = some res →
     Wp (share_merge_L0_J0_B (Cl_share_merge.at n) n ⟨some ⟨b,0,none⟩,m,c0⟩ f ⟨some ⟨bl,p,none⟩,ls.length - p,c2⟩ ⟨some ⟨br,q,none⟩,rs.length - q,c3⟩ (i : Int) (m : Int) (i : Int)) h fun _ h' =>
      Z h0 h' (.blk b ((out.take i ++ res).map vi) T_i64 :: .blk bl (ls.map vi) T_i64 :: .blk br (rs.map vi) T_i64 :: (P ++ L)):=by
    intro h x hx z hv
    have hlt:=lt_of_get hx
    cases hr : mgL lt k (ls.drop p) (rs.drop (q + 1)) with
    | none=>rw [hr] at hv;cases hv
    | some r2 =>
    rw [hr] at hv;cases hv
    unfold share_merge_L0_J0_B
    refine ixO (by omega) (by omega) ?_
    refine z.ld 2 (l:=li) (x:=x) ?_ rfl (by show (rs.map vi)[q + 0 * 1]? = _;rw [Nat.zero_mul,Nat.add_zero,List.getElem?_map,hx];rfl) rfl
    refine ixO (by omega) (by omega) ?_
    rw [Wp_bind]
    refine Wp_sliceL (by decide) (by simp only;omega) (by simp only;omega) (by have l : LB h br _ _:=z.get 2 rfl;simp [elemOk,l.get]) ?_
    have e0 : (0 + (i : Int).toNat * 1) = i:=by omega
    rw [e0]
    refine z.stAC 0 (xs:=out) (enc:=vi) (v:=x) (by omega) (fun a ha=>?_) fun h3 z=>?_
    ·simp only [List.mem_singleton,Option.some.injEq] at ha
     subst ha
     exact z.nbO 0 2 rfl rfl (by omega)
    rw [up1 h2 (by omega)]
    have:=ih (i + 1) p (q + 1) (out.set i x) r2 h3 c2 (c3 - if c3 = 0 then 0 else (1 : Int).toNat) (by omega) (by omega) hp (by omega) (by simpa using ho) (by rw [hk'];exact hr) z
    rw [set_out (by omega)] at this
    exact this
   by_cases c1 : q = rs.length
   ·rw [if_pos (by simp;omega)]
    have e2 : rs.drop q = []:=List.drop_eq_nil_of_le (by omega)
    by_cases c2' : p < ls.length
    ·obtain ⟨x,hx⟩:=getI c2'
     rw [drop_cons hx,e2,mgL] at hv
     exact J1 x hx z (by rw [e2];exact hv)
    ·have e1 : ls.drop p = []:=List.drop_eq_nil_of_le (by omega)
     rw [e1,e2,mgL] at hv;cases hv
   ·rw [if_neg (by simp;omega)]
    obtain ⟨y,hy⟩:=getI (l:=rs) (i:=q) (by omega)
    by_cases c2' : p < ls.length
    ·rw [if_pos (by simp;omega)]
     obtain ⟨x,hx⟩:=getI c2'
     rw [drop_cons hx,drop_cons hy,mgL] at hv
     refine ixO (by omega) (by omega) (ixO (by omega) (by omega) ?_)
     refine z.ld 2 (l:=li) (x:=y) ?_ rfl (by show (rs.map vi)[q + 0 * 1]? = _;rw [Nat.zero_mul,Nat.add_zero,List.getElem?_map,hy];rfl) rfl
     refine z.ld 1 (l:=li) (x:=x) ?_ rfl (by show (ls.map vi)[p + 0 * 1]? = _;rw [Nat.zero_mul,Nat.add_zero,List.getElem?_map,hx];rfl) rfl
     cases hl : lt y x with
     | none=>rw [hl] at hv;cases hv
     | some r =>
     rw [hl] at hv
     rw [Wp_bind]
     refine (hless (P:=_ :: _ :: _ :: P) (n:=n) (by omega) hl z).mono fun b' h3 hb=>?_
     obtain ⟨rfl,z⟩:=hb
     cases b' with
     | true =>
      rw [if_neg (by simp)]
      exact J0 y hy z (by rw [drop_cons hx];exact hv)
     | false =>
      rw [if_pos (by rfl)]
      exact J1 x hx z (by rw [drop_cons hy];exact hv)
    ·rw [if_neg (by simp;omega)]
     have e1 : ls.drop p = []:=List.drop_eq_nil_of_le (by omega)
     rw [e1,drop_cons hy,mgL] at hv
     exact J0 y hy z (by rw [e1];exact hv)
  ·rw [if_neg (by simp;omega),Wp_pure]
   have e : m - i = 0:=by omega
   rw [e,mgL] at hv
   cases hv
   have : out.take i = out:=List.take_of_length_le (by omega)
   rw [this,List.append_nil];exact z
theorem merge_wp (hless : ∀ {n : Nat} {h : AHeap} {P : List Own} {x y : Int} {r : Bool},K ≤ n → lt x y = some r → Z h0 h (P ++ L) → Wp (share_merge_D43 n f x y) h fun b h'=>b = r∧Z h0 h' (P ++ L)) :
  ∀ (k n : Nat) (xs r : List Int) (b c0 : Nat) (h : AHeap) (P : List Own),xs.length < 1073741824 → xs.length + K + k + 2 < n → mgS lt k xs = some r → Z h0 h (.blk b (xs.map vi) T_i64 :: (P ++ L)) →
   Wp (share_merge n ⟨some ⟨b,0,none⟩,xs.length,c0⟩ f) h fun _ h'=>Z h0 h' (.blk b (r.map vi) T_i64 :: (P ++ L)):=by
 intro k
 induction k with
 | zero=>intro n xs r b c0 h P _ _ hv;cases hv
 | succ k ih =>
  intro n xs r b c0 h P hB hn hv z
  obtain ⟨n,rfl⟩ : ∃ m,n = m + 1:=⟨n - 1,by omega⟩
  rw [share_merge_succ]
  unfold share_merge_B
  rw [mgS] at hv
  by_cases c1 : xs.length < 2
  ·rw [if_pos c1] at hv;cases hv
   rw [if_pos (by simp;omega),Wp_pure];exact z
  rw [if_neg c1] at hv
  rw [if_neg (by simp;omega)]
  cases ha : mgS lt k (xs.take (xs.length / 2)) with
  | none=>rw [ha] at hv;cases hv
  | some as' =>
  rw [ha] at hv
  simp only at hv
  cases hb : mgS lt k (xs.drop (xs.length / 2)) with
  | none=>rw [hb] at hv;cases hv
  | some bs =>
  rw [hb] at hv
  simp only at hv
  have hal:=mgS_len ha
  have hbl:=mgS_len hb
  rw [List.length_take] at hal
  rw [List.length_drop] at hbl
  have hmid : IntKind.i64.wrap (((xs.length : Nat) : Int).tdiv 2) = ((xs.length / 2 : Nat) : Int):=by
   have : ((xs.length : Nat) : Int).tdiv 2 = ((xs.length / 2 : Nat) : Int):=rfl
   rw [this]
   exact IntWalk.i64_in _ ⟨by omega,by omega⟩
  simp only [hmid]
  have hck : ∀ {γ : Type} {g : Unit → M γ} {h : AHeap} {R : γ → AHeap → Prop},Wp (g ()) h R → Wp (M.bind (ckM (decide ((2 : Int) ≠ 0))) g) h R:=fun q=>by
   rw [Wp_bind];exact ⟨(),_,rfl,q⟩
  refine z.new fun b0 h1 z _=>hck ?_
  rw [Wp_bind]
  refine Wp_sliceL (by decide) (by omega) (by simp only;omega) (by have l : LB h1 b _ _:=z.get 1 rfl;simp [elemOk,l.get]) ?_
  refine z.rdS 1 (b:=b) (o:=0) (n:=xs.length / 2) rfl (by simp;omega) ?_
  refine z.appE 0 rfl (by show xs.length / 2 ≠ 0;omega) (by simp;omega) (by show xs.length / 2 ≤ bigN;unfold bigN;omega) fun bl h2 z=>?_
  refine z.new fun b5 h3 z _=>hck ?_
  rw [Wp_bind]
  refine Wp_sliceL (by omega) (by omega) (by simp only;omega) (by have l : LB h3 b _ _:=z.get 3 rfl;simp [elemOk,l.get]) ?_
  have e5 : (0 + ((xs.length / 2 : Nat) : Int).toNat * 1) = xs.length / 2:=by omega
  refine z.rdS 3 (b:=b) (o:=0 + ((xs.length / 2 : Nat) : Int).toNat * 1) (n:=xs.length - xs.length / 2) rfl (by rw [e5];simp;omega) ?_
  refine z.appE 0 rfl (by show xs.length - xs.length / 2 ≠ 0;omega) (by rw [e5];simp;omega) (by show xs.length - xs.length / 2 ≤ bigN;unfold bigN;omega) fun br h4 z=>?_
  rw [e5] at z
  have ez1 : ((xs.map vi).drop 0).take (xs.length / 2 * 1) = (xs.take (xs.length / 2)).map vi:=by simp [List.map_take]
  have ez2 : ((xs.map vi).drop (xs.length / 2)).take ((xs.length - xs.length / 2) * 1) = (xs.drop (xs.length / 2)).map vi:=by rw [← List.map_drop,List.take_of_length_le (by simp)]
  rw [ez2] at z
  have z : Z h0 h4 (.blk br ((xs.drop (xs.length / 2)).map vi) T_i64 :: .blk b5 [] T_i64 :: .blk bl ((xs.take (xs.length / 2)).map vi) T_i64 :: .blk b0 [] T_i64 :: .blk b (xs.map vi) T_i64 :: (P ++ L)):=by
   rw [← ez1];exact z
  have z:=Z.permBy (pre:=[_,_,_,_,_]) z [2,0,4,1,3] (by simp only [List.length_cons,List.length_nil];decide)
  have l1 : (xs.take (xs.length / 2)).length = xs.length / 2:=by rw [List.length_take];omega
  have l2 : (xs.drop (xs.length / 2)).length = xs.length - xs.length / 2:=by rw [List.length_drop]
  rw [Wp_bind]
  have i1:=ih n (xs.take (xs.length / 2)) as' bl 0 h4 (_ :: _ :: _ :: _ :: P) (by omega) (by omega) ha z
  rw [l1] at i1
  refine i1.mono fun _ h5 z=>?_
  have z:=Z.permBy (pre:=[_,_,_,_,_]) z [1,0,2,3,4] (by simp only [List.length_cons,List.length_nil];decide)
  rw [Wp_bind]
  have i2:=ih n (xs.drop (xs.length / 2)) bs br 0 h5 (_ :: _ :: _ :: _ :: P) (by omega) (by omega) hb z
  rw [l2] at i2
  refine i2.mono fun _ h6 z=>?_
  have z:=Z.permBy (pre:=[_,_,_,_,_]) z [2,1,0,3,4] (by simp only [List.length_cons,List.length_nil];decide)
  rw [Wp_bind]
  have i3:=mg_L0 hless (bl:=bl) (br:=br) (b:=b) (m:=xs.length) (c0:=c0) (ls:=as') (rs:=bs) hB (P:=_ :: _ :: P) n 0 0 0 xs r h6 0 0 (by omega) (by omega) (by omega) (by omega) rfl (by simpa using hv) z
  rw [hal,hbl,Nat.sub_zero,Nat.sub_zero,Nat.min_eq_left (by omega)] at i3
  refine i3.mono fun _ h7 z=>?_
  rw [Wp_pure]
  have z:=Z.permBy (pre:=[_,_,_,_,_]) z [3,4,1,2,0] (by simp only [List.length_cons,List.length_nil];decide)
  exact z.drop.drop.drop.drop
end
end Go.Sh
set_option linter.all false
namespace Go.Ago
open Go
variable {α β : Type} {h h' h0 : AHeap} {L : List Own}
theorem beq_cond_ne {γ : Type} {j k : Nat} (hn : j ≠ k) (a b : γ) : cond (Nat.beq j k) a b = b:=by rw [cond_beq,if_neg hn]
theorem Fr.mkm {X : Nat → Prop} (hw : WF h0) (a : Fr X h0 h) {k : Nat} (hk : h0.next ≤ k) (hk2 : k < h.next) {kt : TypeId} : Fr X h0 (h.mkm k kt):=by
 refine ⟨⟨a.wf.get,fun j hj=>?_,a.wf.grp,fun j hj=>?_⟩,a.next,a.cells,a.tip,fun j hj=>?_,a.none,fun j x hj hx=>?_⟩
 ·have hj : h.next ≤ j:=hj
  show cond (Nat.beq j k) true (h.used j) = false
  rw [beq_cond_ne (by omega)];exact a.wf.used j hj
 ·have hj : h.next ≤ j:=hj
  show cond (Nat.beq j k) _ (h.mget j) = Option.none
  rw [beq_cond_ne (by omega)];exact a.wf.maps j hj
 ·show cond (Nat.beq j k) true (h.used j) = _
  rw [beq_cond_ne (by omega)];exact a.used j hj
 ·have:=hw.mlt hj
  show cond (Nat.beq j k) _ (h.mget j) = _
  rw [beq_cond_ne (by omega)];exact a.maps j x hj hx
theorem Own.ok_mkm {o : Own} {k : Nat} {kt : TypeId} (hk : o.ok h) (hne : o.grp ≠ k + 1) : o.ok (h.mkm k kt):=by
 cases o with
 | blk b cs e=>exact ⟨(show LB h b cs e from hk).get⟩
 | sl s sz e cs g=>exact hk
 | ps s sz e cs g=>exact hk
 | map m kt2 fn n =>
  obtain ⟨c,es,h1,h2⟩:=MB.ex hk
  refine ⟨c,es,?_,h2⟩
  show cond (Nat.beq m k) _ (h.mget m) = _
  rw [beq_cond_ne (fun e=>hne (by rw [e];rfl))];exact h1
 | free k2 =>
  have hn : k2 ≠ k:=fun e=>hne (by rw [e];rfl)
  refine ⟨?_,hk.2⟩
  show cond (Nat.beq k2 k) true (h.used k2) = false
  rw [beq_cond_ne hn];exact hk.1
theorem Z.mnewAt (z : Z h0 h L) (i : Nat) {k : Nat} {kt : TypeId} {f : Nat → M β} {Q : β → AHeap → Prop}
  (q : ∀ h',Z h0 h' (L.set i (.map k kt (fun _=>none) 0)) → Wp (f k) h' Q) (hi : L[i]? = some (.free k):=by rfl) : Wp (M.bind (mpNewAt k kt) f) h Q:=by
 rw [Wp_bind]
 have hmem:=List.mem_of_getElem? hi
 have hf : Free h k:=(z.own _ hmem).1
 refine ⟨k,h.mkm k kt,by unfold mpNewAt;rw [if_pos ⟨hf.1,hf.2.1⟩],q _ ?_⟩
 have hg : h0.next < k + 1:=(z.own _ hmem).2.resolve_left (by simp [Own.grp])
 have ho : ∀ j y,L[j]? = some y → j ≠ i → y.grp ≠ k + 1:=fun j y hj hne e=>by
  have:=pw_get grp_sym z.dist hj hi hne e
  rw [e] at this;omega
 refine ⟨z.wf0,z.fr.mkm z.wf0 (by omega) hf.2.1,fun x hx=>?_,pw_set grp_sym z.dist fun j y hj hne e2=>absurd e2.symm (ho j y hj hne)⟩
 obtain ⟨j,hj⟩:=List.mem_iff_getElem?.1 hx
 rw [List.getElem?_set] at hj
 split at hj
 ·split at hj
  ·cases hj
   refine ⟨⟨0,[],?_,trivial,fun _=>rfl,rfl⟩,.inr hg⟩
   show cond (Nat.beq k k) _ (h.mget k) = _
   rw [beq_self];rfl
  ·cases hj
 ·rename_i hne
  have hmy:=List.mem_of_getElem? hj
  exact ⟨Own.ok_mkm (z.own x hmy).1 (ho j x hj fun e2=>hne e2.symm),(z.own x hmy).2⟩
theorem Z.appN (z : Z h0 h L) {st : Bool} {sz n : Nat} {e : TypeId} {new : List Value} {f : Sl → M β} {Q : β → AHeap → Prop} (hn : n ≠ 0) (hl : new.length = n * sz) (hb : n ≤ bigN)
  (q : ∀ b' h',Z h0 h' (.blk b' new e :: L) → Wp (f ⟨some ⟨b',0,none⟩,n,0⟩) h' Q) : Wp (M.bind (Ago.app st ⟨none,0,0⟩ sz e n new) f) h Q:=by
 rw [Wp_bind]
 refine ⟨⟨some ⟨h.next,0,none⟩,n,0⟩,h.new e new,?_,q h.next _ (z.add (Fr.new z.wf) (o:=.blk h.next new e) LB.new (.inr (Nat.lt_succ_self _)))⟩
 have hx : (h.get h.next) = none:=z.wf.get _ (Nat.le_refl _)
 unfold Ago.app app0
 simp only [hx,Option.isSome_none,Bool.and_false,Nat.zero_add]
 rw [if_neg hn,if_neg (by simp [hb,hl])]
 simp
theorem Wp_nnS {a : Addr} {f : Addr → M β} {Q : β → AHeap → Prop} (q : Wp (f a) h Q) : Wp (M.bind (nn (some a)) f) h Q:=by
 rw [Wp_bind];exact ⟨a,h,rfl,q⟩
end Go.Ago
namespace Go.Sh
open Go Go.Ago Go.Proofs
variable {α β : Type} {h h' h0 : AHeap} {L : List Own} {Q : β → AHeap → Prop}
def LN (t : ByteArray) : NodeV:=⟨5,t,false,[],[]⟩
theorem LN_nds {t : ByteArray} (hu : u8 t = true) : nds 0 (.str t) = [LN t]:=by rw [nds,if_pos hu];rfl
theorem LN_check {t : ByteArray} (hu : u8 t = true) {k : Nat} (hk : 200 ≤ k) : gcheck k [LN t] 0 = some 0:=by
 rw [← LN_nds hu]
 exact gcheck_tree (Nat.zero_le _) (by rw [nsz];decide) (by rw [nsz];omega)
theorem LN_dep {t : ByteArray} (hu : u8 t = true) {k : Nat} (hk : 200 ≤ k) : ∃ d,dep k [LN t] 0 = some (d,true):=by
 rw [← LN_nds hu]
 obtain ⟨d,h1,_⟩:=dep_tree (v:=.str t) (Nat.zero_le _) (by rw [nsz];decide) (k:=k) (by rw [nsz];omega)
 exact ⟨d,h1⟩
theorem LN_Bd (t : ByteArray) : Bd [LN t] 1:=⟨Nat.le_refl _,by decide,fun x hx=>by rw [List.mem_singleton] at hx;subst hx;exact ⟨Nat.zero_le _,Nat.zero_le _⟩⟩
theorem Depth_wp {s : Sl} {root : Int} {N : List NodeV} (z : Z h0 h L) (G : GrR h0 s N) {B : Nat} (hB : Bd N B) (ht : ∀ x ∈ N,x.text.size ≤ 65536) {k n : Nat} (hn : k + 4 * B + 65600 < n) (hv : gcheck k N root = some 0) {d : Int} {a : Bool} (hd : dep k N root = some (d,a)) :
  Wp (graph_Depth n (s,root)) h fun x h'=>x = (d,a)∧Z h0 h' L:=by
 unfold graph_Depth
 refine z.new fun x0 h1 z _=>?_
 refine z.lds 0 (ls:=[.sl,li]) (x:=(s,root)) ?_
 rw [Wp_bind]
 refine (Check_wp z G hB ht hn hv).mono fun y h2 hy=>?_
 obtain ⟨rfl,z⟩:=hy
 rw [if_neg (by simp)]
 refine z.lds 0 (ls:=[.sl,li]) (x:=(s,root)) ?_
 rw [Wp_bind]
 refine (depth_wp z G hB (k:=k) (by omega) (by omega) hd).mono fun y h3 hy=>?_
 obtain ⟨rfl,z⟩:=hy
 rw [Wp_pure];exact ⟨rfl,z.drop⟩
theorem acyclic_wp {s : Sl} {root : Int} {N : List NodeV} (z : Z h0 h L) (G : GrR h0 s N) {B : Nat} (hB : Bd N B) (ht : ∀ x ∈ N,x.text.size ≤ 65536) {k n : Nat} (hn : k + 4 * B + 65600 < n) (hv : gcheck k N root = some 0) {d : Int} (hd : dep k N root = some (d,true)) :
  Wp (canon_acyclic n (s,root)) h fun x h'=>x = 0∧Z h0 h' L:=by
 unfold canon_acyclic
 refine z.new fun x0 h1 z _=>?_
 refine z.lds 0 (ls:=[.sl,li]) (x:=(s,root)) ?_
 rw [Wp_bind]
 refine (Check_wp z G hB ht hn hv).mono fun y h2 hy=>?_
 obtain ⟨rfl,z⟩:=hy
 rw [if_neg (by simp)]
 refine z.lds 0 (ls:=[.sl,li]) (x:=(s,root)) ?_
 rw [Wp_bind]
 refine (Depth_wp z G hB ht hn hv hd).mono fun y h3 hy=>?_
 obtain ⟨rfl,z⟩:=hy
 rw [if_neg (by simp),Wp_pure];exact ⟨rfl,z.drop⟩
theorem of_wp {s : Sl} {root : Int} (z : Z h0 h L) (hb : s.len ≤ bigN) {n : Nat} :
  Wp (canon_of n (s,root)) h fun r h'=>∃ x5 b4,r = some (adr x5)∧Z h0 h' (.blk x5 [vsl s,vi root,vsl (arr b4 s.len)] T_canon_table :: .blk b4 (List.replicate s.len vsl0) T_sl_i64 :: L):=by
 unfold canon_of
 refine z.new fun x0 h1 z _=>z.reserve [4,6] (by decide) (by decide) fun nb h2 z=>?_
 refine z.lds 2 (ls:=[.sl,li]) (x:=(s,root)) ?_
 refine z.ld 2 (o:=0) (l:=.sl) (x:=s) ?_
 refine z.mkAt 0 (by omega) (by omega) fun h3 z=>?_
 refine z.newAt 1 (cs:=[vsl s,vi root,vsl (arr (nb + 4) s.len)]) fun h4 z=>?_
 rw [Wp_pure]
 refine ⟨nb + 6,nb + 4,rfl,?_⟩
 rw [Int.toNat_natCast] at z
 rw [rep_flat] at z
 have z:=Z.permBy (pre:=[_,_,_]) z [1,0,2] (by simp only [List.length_cons,List.length_nil];decide)
 exact z.sub (List.Sublist.cons₂ _ (List.Sublist.cons₂ _ (List.sublist_cons_self _ _)))
theorem eqS_ne {a b : ByteArray} (hn : a ≠ b) : eqS a b = false:=by
 cases he : eqS a b with
 | false=>rfl
 | true=>exact absurd (eqS_of he) hn
theorem cmp_ne : ∀ {a b : List UInt8},a ≠ b → Lib.compareBytes a b ≠ 0
 | [],[],h=>absurd rfl h
 | [],_ :: _,h=>by unfold Lib.compareBytes;decide
 | _ :: _,[],h=>by unfold Lib.compareBytes;decide
 | a :: as',b :: bs,h=>by
  unfold Lib.compareBytes
  by_cases h1 : a < b
  ·rw [if_pos h1];decide
  rw [if_neg h1]
  by_cases h2 : b < a
  ·rw [if_pos h2];decide
  rw [if_neg h2]
  have : a = b:=UInt8.le_antisymm (UInt8.not_lt.1 h2) (UInt8.not_lt.1 h1)
  subst this
  exact cmp_ne fun e=>h (by rw [e])
theorem toList_ne {a b : ByteArray} (hn : a ≠ b) : a.data.toList ≠ b.data.toList:=fun e=>hn (by
 cases a;cases b
 simp only at e
 congr 1
 exact Array.toList_inj.1 e)
theorem differ_leaf {s1 s2 s3 s4 : Sl} {t1 t2 : ByteArray} {x1 x2 : Nat} {e1 e2 : TypeId} {r1 r2 : Int} {i j : Nat} (z : Z h0 h L) (h1 : L[i]? = some (.blk x1 [vsl s1,vi r1,vsl s3] e1)) (h2 : L[j]? = some (.blk x2 [vsl s2,vi r2,vsl s4] e2)) (G1 : GrR h0 s1 [LN t1]) (G2 : GrR h0 s2 [LN t2]) (hne : t1 ≠ t2) {n : Nat} (hn : 1 ≤ n) {m : Option Nat} :
  Wp (canon_differ n (some (adr x1)) 0 (some (adr x2)) 0 m) h fun r h'=>r = Lib.compareBytes t1.data.toList t2.data.toList∧Z h0 h' L:=by
 obtain ⟨n,rfl⟩ : ∃ m,n = m + 1:=⟨n - 1,by omega⟩
 rw [canon_differ_succ]
 unfold canon_differ_B
 refine Wp_nnS (Wp_nnS ?_)
 refine z.ld i (o:=0 + 0 + 0) (l:=.sl) (x:=s1) ?_ h1 rfl rfl
 refine G1.at z (k:=0) (by omega) rfl fun a ka ia na _ _=>?_
 refine z.ld j (o:=0 + 0 + 0) (l:=.sl) (x:=s2) ?_ h2 rfl rfl
 refine G2.at z (k:=0) (by omega) rfl fun b kb ib nb _ _=>?_
 refine Wp_nnS (Wp_nnS (na.ldK (nb.ldK ?_)))
 rw [if_neg (by simp [LN])]
 refine Wp_nnS (Wp_nnS (na.ldK (nb.ldK ?_)))
 rw [if_neg (by simp [LN])]
 refine Wp_nnS (Wp_nnS (na.ldO (nb.ldO ?_)))
 rw [if_neg (by simp [LN])]
 refine Wp_nnS (Wp_nnS (Wp_nnS (na.ldK (na.ldT (nb.ldT ?_)))))
 have hs : Wp (canon_scalar n (LN t1).kind t1 t2) h fun r h'=>r = Lib.compareBytes t1.data.toList t2.data.toList∧h' = h:=by
  unfold canon_scalar
  rw [if_neg (by rw [eqS_ne hne];simp),if_neg (by simp [LN]),if_neg (by simp [LN]),if_neg (by simp [LN]),Wp_bind]
  unfold strings_Compare
  rw [Wp_pure,Wp_pure]
  exact ⟨rfl,rfl⟩
 rw [Wp_bind]
 refine hs.mono fun y h3 hy=>?_
 obtain ⟨rfl,rfl⟩:=hy
 rw [if_pos (by simpa using cmp_ne (toList_ne hne)),Wp_pure]
 exact ⟨rfl,z⟩
theorem compare_leaf {s1 s2 s3 s4 : Sl} {t1 t2 : ByteArray} {x1 x2 : Nat} {e1 e2 : TypeId} {r1 r2 : Int} {i j q : Nat} (z : Z h0 h L) (h1 : L[i]? = some (.blk x1 [vsl s1,vi r1,vsl s3] e1)) (h2 : L[j]? = some (.blk x2 [vsl s2,vi r2,vsl s4] e2)) {mm : Nat} (h3 : L[q]? = some (.map mm T_ar2_i64 (fun _=>none) 0)) (G1 : GrR h0 s1 [LN t1]) (G2 : GrR h0 s2 [LN t2]) (hne : t1 ≠ t2) {n : Nat} (hn : 2 ≤ n) :
  Wp (canon_compare n (some (adr x1)) 0 (some (adr x2)) 0 (some mm)) h fun r h'=>r = Lib.compareBytes t1.data.toList t2.data.toList∧∃ f' n',Z h0 h' (L.set q (.map mm T_ar2_i64 f' n')):=by
 obtain ⟨n,rfl⟩ : ∃ m,n = m + 1:=⟨n - 1,by omega⟩
 rw [canon_compare_succ]
 unfold canon_compare_B
 refine z.mget q h3 (fun v hv=>by cases hv) fun _=>?_
 rw [if_neg (by simp),Wp_bind]
 refine (differ_leaf z h1 h2 G1 G2 hne (by omega)).mono fun y h4 hy=>?_
 obtain ⟨rfl,z⟩:=hy
 rw [if_pos (by rfl)]
 refine z.mset q h3 fun h5 n5 z=>?_
 rw [Wp_pure]
 exact ⟨rfl,_,_,z⟩
theorem Compare_leaf {s1 s2 : Sl} {t1 t2 : ByteArray} (z : Z h0 h L) (G1 : GrR h0 s1 [LN t1]) (G2 : GrR h0 s2 [LN t2]) (u1 : u8 t1 = true) (u2 : u8 t2 = true) (b1 : t1.size ≤ 65536) (b2 : t2.size ≤ 65536) (hne : t1 ≠ t2) {n : Nat} (hn : 66000 < n) :
  Wp (canon_Compare n (s1,0) (s2,0)) h fun r h'=>r = (Lib.compareBytes t1.data.toList t2.data.toList,0)∧Z h0 h' L:=by
 have T1 : ∀ x ∈ [LN t1],x.text.size ≤ 65536:=fun x hx=>by rw [List.mem_singleton] at hx;subst hx;exact b1
 have T2 : ∀ x ∈ [LN t2],x.text.size ≤ 65536:=fun x hx=>by rw [List.mem_singleton] at hx;subst hx;exact b2
 obtain ⟨d1,dd1⟩:=LN_dep u1 (k:=200) (Nat.le_refl _)
 obtain ⟨d2,dd2⟩:=LN_dep u2 (k:=200) (Nat.le_refl _)
 have g1:=LN_check u1 (k:=200) (Nat.le_refl _)
 have g2:=LN_check u2 (k:=200) (Nat.le_refl _)
 have l1 : s1.len = 1:=G1.len
 have l2 : s2.len = 1:=G2.len
 unfold canon_Compare
 refine z.new fun x0 h1 z _=>z.new fun x1 h2 z _=>?_
 refine z.lds 1 (ls:=[.sl,li]) (x:=(s1,0)) ?_
 rw [Wp_bind]
 refine (Check_wp z G1 (LN_Bd t1) T1 (by omega) g1).mono fun y h3 hy=>?_
 obtain ⟨rfl,z⟩:=hy
 rw [if_neg (by simp)]
 refine z.lds 0 (ls:=[.sl,li]) (x:=(s2,0)) ?_
 rw [Wp_bind]
 refine (Check_wp z G2 (LN_Bd t2) T2 (by omega) g2).mono fun y h3 hy=>?_
 obtain ⟨rfl,z⟩:=hy
 rw [if_neg (by simp)]
 refine z.lds 1 (ls:=[.sl,li]) (x:=(s1,0)) ?_
 rw [Wp_bind]
 refine (acyclic_wp z G1 (LN_Bd t1) T1 (by omega) g1 dd1).mono fun y h3 hy=>?_
 obtain ⟨rfl,z⟩:=hy
 rw [if_neg (by simp)]
 refine z.lds 0 (ls:=[.sl,li]) (x:=(s2,0)) ?_
 rw [Wp_bind]
 refine (acyclic_wp z G2 (LN_Bd t2) T2 (by omega) g2 dd2).mono fun y h3 hy=>?_
 obtain ⟨rfl,z⟩:=hy
 rw [if_neg (by simp)]
 unfold canon_Compare_J0
 refine z.reserve [8] (by decide) (by decide) fun nb h4 z=>?_
 refine z.lds 2 (ls:=[.sl,li]) (x:=(s1,0)) ?_
 refine z.ld 2 (o:=1) (l:=li) (x:=0) ?_
 refine z.lds 1 (ls:=[.sl,li]) (x:=(s2,0)) ?_
 refine z.ld 1 (o:=1) (l:=li) (x:=0) ?_
 refine z.mnewAt 0 fun h5 z=>?_
 have keep : ∀ {c : List (Option Addr)} {P : Option Addr → AHeap → Prop},(∀ a,some a ∈ c → a.block = x0 ∨ a.block = x1) → (∀ r h',P r h' → ∃ X,Z h0 h' X∧.blk x0 [vsl s1,vi 0] T_api_Graph ∈ X∧.blk x1 [vsl s2,vi 0] T_api_Graph ∈ X) → (∃ X,Z h0 h5 X∧.blk x0 [vsl s1,vi 0] T_api_Graph ∈ X∧.blk x1 [vsl s2,vi 0] T_api_Graph ∈ X) → True:=fun _ _ _=>trivial
 have hch : ∀ {c : List (Option Addr)} {P : Option Addr → AHeap → Prop} {h5 : AHeap} {X : List Own},Z h0 h5 X → .blk x0 [vsl s1,vi 0] T_api_Graph ∈ X → .blk x1 [vsl s2,vi 0] T_api_Graph ∈ X → (∀ a,some a ∈ c → a.block = x0 ∨ a.block = x1) →
   (∀ r h',P r h' → ∃ X',Z h0 h' X'∧.blk x0 [vsl s1,vi 0] T_api_Graph ∈ X'∧.blk x1 [vsl s2,vi 0] T_api_Graph ∈ X') → ∀ a,some a ∈ c → ∃ cs e,LB h5 a.block cs e∧∀ r h',P r h' → LB h' a.block cs e:=by
  intro c P h5 X z m0 m1 hc hP a ha
  rcases hc a ha with e | e
  ·refine ⟨_,_,by rw [e];exact (z.own _ m0).1,fun r h' hp=>?_⟩
   obtain ⟨X',z',q0,q1⟩:=hP r h' hp
   rw [e];exact (z'.own _ q0).1
  ·refine ⟨_,_,by rw [e];exact (z.own _ m1).1,fun r h' hp=>?_⟩
   obtain ⟨X',z',q0,q1⟩:=hP r h' hp
   rw [e];exact (z'.own _ q1).1
 have hof1:=of_wp (s:=s1) (root:=0) z (by rw [l1];decide) (n:=n)
 refine chk_call (hch z (by simp) (by simp) (by intro a ha;simp at ha;rcases ha with rfl | rfl | rfl <;> simp [Addr.plus]) fun r h' hp=>?_) hof1 fun r h6 hr=>?_
 ·obtain ⟨x5,b4,_,z'⟩:=hp
  exact ⟨_,z',by simp,by simp⟩
 obtain ⟨x5,b4,rfl,z⟩:=hr
 have hof2:=of_wp (s:=s2) (root:=0) z (by rw [l2];decide) (n:=n)
 refine chk_call (hch z (by simp) (by simp) (by intro a ha;simp at ha;rcases ha with rfl | rfl <;> simp [Addr.plus]) fun r h' hp=>?_) hof2 fun r h7 hr=>?_
 ·obtain ⟨x6,b6,_,z'⟩:=hp
  exact ⟨_,z',by simp,by simp⟩
 obtain ⟨x6,b6,rfl,z⟩:=hr
 rw [Wp_bind]
 refine (compare_leaf (i:=2) (j:=0) (q:=4) z rfl rfl rfl G1 G2 hne (by omega)).mono fun y h8 hy=>?_
 obtain ⟨rfl,f',n',z⟩:=hy
 rw [Wp_pure]
 exact ⟨rfl,z.drop.drop.drop.drop.drop.drop.drop⟩
def leafC (t : ByteArray) : List Value:=[vi 5,.string t,.bool false,vsl0,vsl0]
theorem leaf_GrR {b c : Nat} {t : ByteArray} {e : TypeId} (l : LB h b (leafC t) e) : GrR h ⟨some ⟨b,0,none⟩,1,c⟩ [LN t] :=
 ⟨[⟨5,t,false,sl0,[],0,sl0,[],0⟩],b + 1,rfl,LB.rsl (cs:=leafC t) l rfl,fun x hx=>by
  rw [List.mem_singleton] at hx;subst hx
  exact ⟨⟨0,RSl.nil rfl⟩,⟨0,RSl.nil rfl⟩⟩⟩
theorem key_leaf {s : Sl} {root : Int} {N : List NodeV} (z : Z h0 h L) (G : GrR h0 s N) {a : Int} {t : ByteArray} (hx : gt N a = some (LN t)) {n : Nat} (hn : 2 ≤ n) :
  Wp (share_key n (s,root) a) h fun r h'=>∃ b,r = (⟨some ⟨b,0,none⟩,1,0⟩,0)∧Z h0 h' (.blk b (leafC t) T_api_Node :: L):=by
 obtain ⟨n,rfl⟩ : ∃ m,n = m + 2:=⟨n - 2,by omega⟩
 obtain ⟨g1,g2⟩:=gt_some hx
 unfold share_key
 refine z.new fun x0 h1 z _=>z.new fun x1 h2 z _=>z.new fun x2 h3 z _=>z.new fun x3 h4 z _=>z.st 0 fun h5 z=>?_
 refine z.ld 0 (o:=0) (l:=.raw) ?_
 unfold share_key_D8
 rw [Wp_bind,if_pos (by rfl),Wp_bind]
 refine Wp_asFn (c:=(adr x2,adr x0,adr x3)) rfl ?_
 rw [share_key_1_succ]
 unfold share_key_1_B
 refine z.ld 1 (o:=0) (l:=.sl) (x:=sl0) ?_
 refine z.ld 3 (o:=0) (l:=.sl) (x:=s) ?_
 refine G.at z g1 g2 fun aa ks is nd ik ii=>nd.lds ?_
 refine z.node (x:=LN t) (ks:=ks) (is:=is) fun x4 h6 z=>?_
 refine z.ld 2 (o:=0) (l:=.sl) (x:=sl0) ?_
 refine z.ld 0 (o:=0) (l:=li) (x:=5) ?_
 refine z.ld 0 (o:=1) (l:=.str) (x:=t) ?_
 refine z.ld 0 (o:=2) (l:=.bool) (x:=false) ?_
 refine z.appN (by decide) rfl (by decide) fun b h7 z=>?_
 refine z.st 3 (o:=0) (cs':=[vsl ⟨some ⟨b,0,none⟩,1,0⟩,vi 0]) fun h8 z=>?_
 refine z.ld 1 (o:=3) (l:=.sl) (x:=ks) ?_
 have hkl : ks.len = 0:=ik.len
 have hil : is.len = 0:=ii.len
 have hL0 : ∀ {h : AHeap},Wp (share_key_1_L0 (n + 1) (adr x2) (adr x3) ((0 : Nat) : Int) (adr x4) sl0 sl0 ks ((0 : Nat) : Int) 0) h fun r h'=>r = sl0∧h' = h:=by
  intro h
  rw [share_key_1_L0_succ]
  unfold share_key_1_L0_B
  rw [if_neg (by decide),Wp_pure];exact ⟨rfl,rfl⟩
 have hL1 : ∀ {h : AHeap},Wp (share_key_1_L1 (n + 1) (adr x2) (adr x3) ((0 : Nat) : Int) sl0 sl0 is ((0 : Nat) : Int) 0) h fun r h'=>r = sl0∧h' = h:=by
  intro h
  rw [share_key_1_L1_succ]
  unfold share_key_1_L1_B
  rw [if_neg (by decide),Wp_pure];exact ⟨rfl,rfl⟩
 rw [hkl,Wp_bind]
 refine hL0.mono fun y h9 hy=>?_
 obtain ⟨rfl,rfl⟩:=hy
 refine z.ld 1 (o:=4) (l:=.sl) (x:=is) ?_
 rw [hil,Wp_bind]
 refine hL1.mono fun y h10 hy=>?_
 obtain ⟨rfl,rfl⟩:=hy
 refine z.ld 3 (o:=0) (l:=.sl) (x:=⟨some ⟨b,0,none⟩,1,0⟩) ?_
 refine ixB (by decide) (by decide) ?_
 refine z.ld 3 (o:=0) (l:=.sl) (x:=⟨some ⟨b,0,none⟩,1,0⟩) ?_
 refine z.stC 0 (b:=b) (o:=0 * 5 + 3) (cs:=leafC t) (cs':=leafC t) (fun a ha=>?_) (fun h9 z=>?_) (ho:=by show 0 * 5 + 3 + 1 ≤ 5;decide)
 ·simp only [List.mem_singleton,Option.some.injEq] at ha
  subst ha
  exact z.nbO 0 3 rfl rfl (by omega)
 refine ixB (by decide) (by decide) ?_
 refine z.st 0 (o:=0 * 5 + 4) (cs:=leafC t) (cs':=leafC t) (fun h10 z=>?_) (ho:=by show 0 * 5 + 4 + 1 ≤ 5;decide)
 rw [Wp_pure]
 have hx2:=z
 refine z.lds 3 (ls:=[.sl,li]) (x:=(⟨some ⟨b,0,none⟩,1,0⟩,0)) ?_
 have z:=Z.permBy (pre:=[_,_,_,_,_]) z [4,0,1,2,3] (by simp only [List.length_cons,List.length_nil];decide)
 refine z.st 0 (o:=0) (cs':=[vsl ⟨some ⟨b,0,none⟩,1,0⟩,vi 0]) fun h11 z=>?_
 refine z.lds 0 (ls:=[.sl,li]) (x:=(⟨some ⟨b,0,none⟩,1,0⟩,0)) ?_
 rw [Wp_pure]
 refine ⟨b,rfl,z.sub ?_⟩
 exact List.Sublist.cons _ (List.Sublist.cons₂ _ (List.Sublist.cons _ (List.Sublist.cons _ (List.Sublist.cons _ (List.sublist_cons_self _ _)))))
end Go.Sh
set_option linter.all false
namespace Go.Sh
open Go Go.Ago Go.Proofs
variable {α β : Type} {h h' h0 : AHeap} {L : List Own} {Q : β → AHeap → Prop}
def iota (m : Nat) : List Int:=(List.range m).map (fun i : Nat=>(i : Int))
theorem iota_len (m : Nat) : (iota m).length = m:=by simp [iota]
theorem iota_get {m i : Nat} (hi : i < m) : (iota m)[i]? = some (i : Int):=by simp [iota,hi]
theorem iota_mem {m : Nat} {x : Int} (hx : x ∈ iota m) : 0 ≤ x∧x < (m : Int):=by
 obtain ⟨i,hi,rfl⟩:=List.mem_map.1 hx
 rw [List.mem_range] at hi
 omega
theorem iota_nodup (m : Nat) : (iota m).Nodup:=by
 unfold iota
 exact List.pairwise_map.2 (List.nodup_range.imp fun {a b} hne he=>hne (by omega))
theorem mgL_some {lt : Int → Int → Option Bool} : ∀ (n : Nat) (a b : List Int),n = a.length + b.length → (∀ x ∈ b,∀ y ∈ a,(lt x y).isSome = true) → ∃ r,mgL lt n a b = some r∧r.Perm (a ++ b)
 | 0,a,b,hn,_=>by
  have ha : a = []:=List.eq_nil_of_length_eq_zero (by omega)
  have hb : b = []:=List.eq_nil_of_length_eq_zero (by omega)
  subst ha;subst hb
  exact ⟨[],rfl,List.Perm.refl _⟩
 | n + 1,[],[],hn,_=>by simp at hn
 | n + 1,l :: ls,[],hn,hl=>by
  obtain ⟨r,h1,h2⟩:=mgL_some n ls [] (by simp at hn ⊢;omega) (fun x hx=>by cases hx)
  exact ⟨l :: r,by rw [mgL,h1];rfl,h2.cons l⟩
 | n + 1,[],r :: rs,hn,hl=>by
  obtain ⟨q,h1,h2⟩:=mgL_some n [] rs (by simp at hn ⊢;omega) (fun x hx y hy=>by cases hy)
  exact ⟨r :: q,by rw [mgL,h1];rfl,h2.cons r⟩
 | n + 1,l :: ls,r :: rs,hn,hl=>by
  rw [mgL]
  cases hq : lt r l with
  | none=>have:=hl r (by simp) l (by simp);rw [hq] at this;cases this
  | some b =>
   cases b with
   | true =>
    obtain ⟨q,h1,h2⟩:=mgL_some n (l :: ls) rs (by simp at hn ⊢;omega) (fun x hx y hy=>hl x (by simp [hx]) y hy)
    exact ⟨r :: q,by rw [h1];rfl,(h2.cons r).trans List.perm_middle.symm⟩
   | false =>
    obtain ⟨q,h1,h2⟩:=mgL_some n ls (r :: rs) (by simp at hn ⊢;omega) (fun x hx y hy=>hl x hx y (by simp [hy]))
    exact ⟨l :: q,by rw [h1];rfl,h2.cons l⟩
theorem mgS_some {lt : Int → Int → Option Bool} : ∀ (k : Nat) (xs : List Int),xs.length < k → (∀ x ∈ xs,∀ y ∈ xs,x ≠ y → (lt x y).isSome = true) → xs.Nodup → ∃ r,mgS lt k xs = some r∧r.Perm xs
 | 0,xs,hk,_,_=>by omega
 | k + 1,xs,hk,hl,hn=>by
  rw [mgS]
  by_cases c : xs.length < 2
  ·rw [if_pos c];exact ⟨xs,rfl,List.Perm.refl _⟩
  rw [if_neg c]
  have hsub1 : List.Sublist (xs.take (xs.length / 2)) xs:=List.take_sublist _ _
  have hsub2 : List.Sublist (xs.drop (xs.length / 2)) xs:=List.drop_sublist _ _
  obtain ⟨a,a1,a2⟩:=mgS_some k (xs.take (xs.length / 2)) (by rw [List.length_take];omega) (fun x hx y hy=>hl x (hsub1.subset hx) y (hsub1.subset hy)) (hn.sublist hsub1)
  obtain ⟨b,b1,b2⟩:=mgS_some k (xs.drop (xs.length / 2)) (by rw [List.length_drop];omega) (fun x hx y hy=>hl x (hsub2.subset hx) y (hsub2.subset hy)) (hn.sublist hsub2)
  rw [a1,b1]
  simp only
  have hd : (xs.take (xs.length / 2) ++ xs.drop (xs.length / 2)).Nodup:=by rw [List.take_append_drop];exact hn
  obtain ⟨r,r1,r2⟩:=mgL_some (lt:=lt) xs.length a b (by rw [a2.length_eq,b2.length_eq,List.length_take,List.length_drop];omega) (fun x hx y hy=>by
   have hx':=b2.mem_iff.1 hx
   have hy':=a2.mem_iff.1 hy
   refine hl x (hsub2.subset hx') y (hsub1.subset hy') fun e=>?_
   subst e
   exact (List.nodup_append.1 hd).2.2 x hy' x hx' rfl)
  refine ⟨r,r1,r2.trans ((a2.append b2).trans ?_)⟩
  rw [List.take_append_drop]
structure TK (N : List NodeV) (x : NodeV) (ts : List ByteArray) : Prop where
 len : x.keys.length = ts.length
 len2 : x.items.length = ts.length
 get : ∀ (i : Nat) t,ts[i]? = some t → ∃ k,x.keys[i]? = some k∧gt N k = some (LN t)
 ok : ∀ t ∈ ts,u8 t = true∧t.size ≤ 65536
 ne : ∀ (i j : Nat) s t,ts[i]? = some s → ts[j]? = some t → i ≠ j → s ≠ t
def ltK (ts : List ByteArray) (x y : Int) : Option Bool:=match gt ts x,gt ts y with
 | some s,some t=>if eqS s t then none else some (decide (Lib.compareBytes s.data.toList t.data.toList < 0))
 | _,_=>none
structure KY where
 b : Nat
 t : ByteArray
def KY.s (k : KY) : Sl:=⟨some ⟨k.b,0,none⟩,1,0⟩
def KY.own (k : KY) : Own:=.blk k.b (leafC k.t) T_api_Node
def gc : Option KY → List Value
 | none=>[vsl0,vi 0]
 | some k=>[vsl k.s,vi 0]
theorem gc_len (x : Option KY) : (gc x).length = 2:=by cases x <;> rfl
section
variable {s : Sl} {root : Int} {N : List NodeV} {ts : List ByteArray}
theorem less_wp {K : List KY} (hK : K.map KY.t = ts) (hok : ∀ t ∈ ts,u8 t = true∧t.size ≤ 65536) {c9 bk m : Nat} (hm : m = K.length) {M : List Own} (m1 : .blk c9 [vsl (arr bk m)] T_sl_api_Graph ∈ M) (m2 : .blk bk ((K.map some).flatMap gc) T_api_Graph ∈ M) (m3 : ∀ k ∈ K,KY.own k ∈ M)
  {n : Nat} {P : List Own} {x y : Int} {r : Bool} (hn : 66001 ≤ n) (hl : ltK ts x y = some r) (z : Z h0 h (P ++ M)) :
  Wp (share_merge_D43 n (Value.func (Fn.func F_share_sorted_1) #[] #[pv c9]) x y) h fun b h'=>b = r∧Z h0 h' (P ++ M):=by
 unfold ltK at hl
 cases hx : gt ts x with
 | none=>rw [hx] at hl;cases hl
 | some s' =>
 cases hy : gt ts y with
 | none=>rw [hx,hy] at hl;cases hl
 | some t =>
 rw [hx,hy] at hl
 simp only at hl
 split at hl
 ·cases hl
 rename_i hne
 cases hl
 have get : ∀ {i : Int} {q : ByteArray},gt ts i = some q → ∃ k,0 ≤ i∧i < (m : Int)∧K[i.toNat]? = some k∧k.t = q:=by
  intro i q hq
  obtain ⟨g1,g2⟩:=gt_some hq
  rw [← hK,List.getElem?_map] at g2
  cases hk : K[i.toNat]? with
  | none=>rw [hk] at g2;cases g2
  | some k =>
   rw [hk] at g2
   have:=lt_of_get hk
   exact ⟨k,g1,by omega,rfl,Option.some.inj g2⟩
 obtain ⟨k1,a1,a2,a3,rfl⟩:=get hx
 obtain ⟨k2,b1,b2,b3,rfl⟩:=get hy
 have l9 : LB h c9 _ _:=(z.own _ (List.mem_append_right _ m1)).1
 have lk : LB h bk _ _:=(z.own _ (List.mem_append_right _ m2)).1
 have rk : RSl h (arr bk m) 2 ((K.map some).flatMap gc) (bk + 1):=LB.rsl lk (by rw [flat_length gc_len,List.length_map,hm])
 unfold share_merge_D43 share_merge_D43_B
 rw [if_pos (by rfl),Wp_bind]
 refine Wp_asFn (c:=adr c9) rfl ?_
 unfold share_sorted_1
 refine (LB.cl l9).ld0 (l:=.sl) (x:=arr bk m) rfl rfl ?_
 refine rk.ixN gc_len a1 a2 (v:=some k1) (by rw [List.getElem?_map,a3];rfl) fun p c1=>c1.lds (ls:=[.sl,li]) (x:=(k1.s,0)) rfl ?_
 refine (LB.cl l9).ld0 (l:=.sl) (x:=arr bk m) rfl rfl ?_
 refine rk.ixN gc_len b1 b2 (v:=some k2) (by rw [List.getElem?_map,b3];rfl) fun p c2=>c2.lds (ls:=[.sl,li]) (x:=(k2.s,0)) rfl ?_
 have o1 : LB h k1.b _ _:=(z.own _ (List.mem_append_right _ (m3 k1 (List.mem_of_getElem? a3)))).1
 have o2 : LB h k2.b _ _:=(z.own _ (List.mem_append_right _ (m3 k2 (List.mem_of_getElem? b3)))).1
 have t1:=hok k1.t (List.mem_of_getElem? (gt_some hx).2)
 have t2:=hok k2.t (List.mem_of_getElem? (gt_some hy).2)
 have w : Z h h []:=Z.start z.wf
 rw [Wp_bind]
 refine (Compare_leaf w (leaf_GrR (c:=0) o1) (leaf_GrR (c:=0) o2) t1.1 t2.1 t1.2 t2.2 (fun e=>hne (by rw [e];exact eqS_rfl _)) (by omega)).mono fun y h3 hy=>?_
 obtain ⟨rfl,w⟩:=hy
 rw [Wp_pure]
 exact ⟨rfl,z.pure w.fr⟩
theorem sorted_L0 {m b : Nat} (hm : m < 1073741824) (a0 a1 : Addr) :
  ∀ (n i : Nat) (h : AHeap) (L : List Own),m - i < n → i ≤ m → Z h0 h (.blk b (((iota m).take i ++ List.replicate (m - i) 0).map vi) T_i64 :: L) →
   Wp (share_sorted_L0 n a0 a1 (arr b m) (m : Int) (i : Int)) h fun _ h'=>Z h0 h' (.blk b ((iota m).map vi) T_i64 :: L):=by
 intro n
 induction n with
 | zero=>intro i h L h1;omega
 | succ n ih =>
  intro i h L h1 h2 z
  rw [share_sorted_L0_succ]
  unfold share_sorted_L0_B
  have hl:=iota_len m
  by_cases hi : i < m
  ·rw [if_pos (by simp;omega)]
   refine ixR (b:=b) (m:=m) (by omega) (by omega) ?_
   rw [Int.toNat_natCast]
   refine z.stA 0 (xs:=(iota m).take i ++ List.replicate (m - i) 0) (enc:=vi) (v:=(i : Int)) (by rw [List.length_append,List.length_take,List.length_replicate];omega) (fun h3 z=>?_)
   have hf:=fill (iota_get hi)
   rw [hl] at hf
   rw [hf] at z
   rw [up1 h2 (by omega)]
   exact ih (i + 1) h3 L (by omega) (by omega) z
  ·rw [if_neg (by simp;omega),Wp_pure]
   have : i = m:=by omega
   subst this
   have e : (iota i).take i = iota i:=List.take_of_length_le (by omega)
   rw [e] at z
   simpa using z
theorem sorted_L1 (G : GrR h0 s N) {x : NodeV} (hx : TK N x ts) {ks : Sl} (ik : IL h0 ks x.keys) (hB : ts.length < 1073741824) {c9 bk x0 : Nat} (a1 : Sl) :
  ∀ (n i : Nat) (h : AHeap) (K : List KY) (L : List Own),ts.length - i + 2 < n → i ≤ ts.length → K.map KY.t = ts.take i → Z h0 h (.blk c9 [vsl (arr bk ts.length)] T_sl_api_Graph :: .blk bk ((K.map some ++ List.replicate (ts.length - i) none).flatMap gc) T_api_Graph :: .blk x0 [vsl s,vi root] T_api_Graph :: (K.map KY.own ++ L)) →
   Wp (share_sorted_L1 n (adr x0) a1 (adr c9) ks (ks.len : Int) (i : Int)) h fun _ h'=>∃ K : List KY,K.map KY.t = ts∧Z h0 h' (.blk c9 [vsl (arr bk ts.length)] T_sl_api_Graph :: .blk bk ((K.map some).flatMap gc) T_api_Graph :: .blk x0 [vsl s,vi root] T_api_Graph :: (K.map KY.own ++ L)):=by
 intro n
 induction n with
 | zero=>intro i h K L h1;omega
 | succ n ih =>
  intro i h K L h1 h2 hK z
  rw [share_sorted_L1_succ]
  unfold share_sorted_L1_B
  have hkl : ks.len = ts.length:=by rw [ik.len,hx.len]
  have hKl : K.length = i:=by
   have:=congrArg List.length hK
   rw [List.length_map,List.length_take] at this;omega
  rw [hkl]
  by_cases hi : i < ts.length
  ·rw [if_pos (by simp;omega)]
   obtain ⟨t,ht⟩:=getI hi
   obtain ⟨k,k1,k2⟩:=hx.get i t ht
   refine (ik.fr z.fr).ix (by omega) (by simpa using k1) fun a g cl=>cl.ld0 (l:=li) rfl rfl ?_
   refine z.ld 0 (o:=0) (l:=.sl) (x:=arr bk ts.length) ?_
   refine z.lds 2 (ls:=[.sl,li]) (x:=(s,root)) ?_
   refine chk_call (P:=fun r h'=>∃ b,r = (⟨some ⟨b,0,none⟩,1,0⟩,0)∧Z h0 h' (.blk b (leafC t) T_api_Node :: .blk c9 [vsl (arr bk ts.length)] T_sl_api_Graph :: .blk bk ((K.map some ++ List.replicate (ts.length - i) none).flatMap gc) T_api_Graph :: .blk x0 [vsl s,vi root] T_api_Graph :: (K.map KY.own ++ L))) ?_ (key_leaf z G k2 (by omega)) fun r h3 hr=>?_
   ·intro a' ha'
    simp only [List.mem_cons,Option.some.injEq,List.not_mem_nil,or_false] at ha'
    subst ha'
    refine ⟨_,_,z.get 0 rfl,fun r1 h3 hr1=>?_⟩
    obtain ⟨b,_,z⟩:=hr1
    exact z.get 1 rfl
   obtain ⟨b,rfl,z⟩:=hr
   refine ixB (by omega) (by omega) ?_
   have hg : (K.map some ++ List.replicate (ts.length - i) none)[i]? = some none:=by
    rw [List.getElem?_append_right (by simp;omega),List.length_map,hKl,Nat.sub_self,List.getElem?_replicate,if_pos (by omega)]
   have hset : (K.map some ++ List.replicate (ts.length - i) none).set i (some (⟨b,t⟩ : KY)) = (K ++ [(⟨b,t⟩ : KY)]).map some ++ List.replicate (ts.length - (i + 1)) none:=by
    have e : ts.length - i = (ts.length - (i + 1)) + 1:=by omega
    rw [List.set_append_right _ _ (by simp;omega),List.length_map,hKl,Nat.sub_self,e,List.replicate_succ,List.set_cons_zero,List.map_append]
    simp
   have hsp:=flat_splice gc_len hg (x':=some (⟨b,t⟩ : KY)) (o:=0) (vs:=[vsl ⟨some ⟨b,0,none⟩,1,0⟩,vi 0]) (by simp) rfl
   rw [hset,Nat.add_zero] at hsp
   rw [Int.toNat_natCast]
   refine z.st 2 (fun h4 z=>?_) rfl hsp (by rw [flat_length gc_len,List.length_append,List.length_map,List.length_replicate];simp;omega) rfl
   rw [up1 h2 (by omega)]
   have:=ih (i + 1) h4 (K ++ [(⟨b,t⟩ : KY)]) L (by omega) (by omega) (by rw [List.map_append,hK,List.take_add_one,ht];rfl) (z.perm ?_)
   ·rwa [hkl] at this
   ·rw [List.map_append (f:=KY.own),List.append_assoc]
    have e : (.blk b (leafC t) T_api_Node : Own) = KY.own ⟨b,t⟩:=rfl
    rw [e]
    refine (List.Perm.swap _ _ _).trans (List.Perm.cons _ ((List.Perm.swap _ _ _).trans (List.Perm.cons _ ((List.Perm.swap _ _ _).trans (List.Perm.cons _ ?_)))))
    exact List.perm_middle.symm
  ·rw [if_neg (by simp;omega),Wp_pure]
   have e1 : ts.take i = ts:=List.take_of_length_le (by omega)
   have e2 : ts.length - i = 0:=by omega
   rw [e1] at hK
   rw [e2,List.replicate_zero,List.append_nil] at z
   exact ⟨K,hK,z⟩
theorem sorted_wp (z : Z h0 h L) (G : GrR h0 s N) {B : Nat} (hB : Bd N B) {a : Int} {x : NodeV} (hx : gt N a = some x) (hk : x.kind = 10 → x.ord = false → ∃ ts,TK N x ts) {n : Nat} (hn : 3 * B + 66010 < n) :
  Wp (share_sorted n (s,root) a) h fun y h'=>∃ (b : Nat) (r : List Int),y = arr b x.items.length∧r.Perm (iota x.items.length)∧Z h0 h' (.blk b (r.map vi) T_i64 :: L):=by
 obtain ⟨g1,g2⟩:=gt_some hx
 have hbd:=hB.2.2 x (List.mem_of_getElem? g2)
 have hB2:=hB.2.1
 unfold share_sorted
 refine z.new fun x0 h1 z _=>?_
 refine z.ld 0 (o:=0) (l:=.sl) (x:=s) ?_
 refine G.at z g1 g2 fun aa ks is nd ik ii=>nd.lds ?_
 refine z.node fun x4 h2 z=>?_
 refine z.ld 0 (o:=4) (l:=.sl) (x:=is) ?_
 rw [ii.len]
 refine z.mkA (by omega) (by unfold bigN;omega) fun b h3 z _=>?_
 rw [Int.toNat_natCast] at z ⊢
 rw [rep_map (enc:=vi)] at z
 rw [Wp_bind]
 refine (sorted_L0 (m:=x.items.length) (by omega) (adr x0) (adr x4) n 0 h3 _ (by omega) (by omega) z).mono fun _ h4 z=>?_
 refine z.ld 1 (o:=0) (l:=li) (x:=x.kind) ?_
 have fin : ∀ {h4 : AHeap},Z h0 h4 (.blk b ((iota x.items.length).map vi) T_i64 :: .blk x4 [vi x.kind,.string x.text,.bool x.ord,vsl ks,vsl is] T_api_Node :: .blk x0 [vsl s,vi root] T_api_Graph :: L) → Wp (M.pure (arr b x.items.length)) h4 fun y h'=>∃ (b : Nat) (r : List Int),y = arr b x.items.length∧r.Perm (iota x.items.length)∧Z h0 h' (.blk b (r.map vi) T_i64 :: L):=fun z=>by
  rw [Wp_pure]
  exact ⟨b,_,rfl,List.Perm.refl _,z.sub (List.Sublist.cons₂ _ (List.Sublist.cons _ (List.sublist_cons_self _ _)))⟩
 by_cases k1 : x.kind = 10
 ·rw [if_neg (by simpa using k1)]
  refine z.ld 1 (o:=2) (l:=.bool) (x:=x.ord) ?_
  cases ho : x.ord with
  | true=>rw [if_pos rfl];exact fin z
  | false =>
  rw [if_neg (by simp)]
  obtain ⟨ts,tk⟩:=hk k1 ho
  have hkl : ks.len = ts.length:=by rw [ik.len,tk.len]
  have hil:=tk.len2
  unfold share_sorted_J0
  refine z.ld 1 (o:=3) (l:=.sl) (x:=ks) ?_
  rw [hkl]
  refine z.mkA (by omega) (by unfold bigN;omega) fun bk h5 z _=>?_
  rw [Int.toNat_natCast] at z ⊢
  refine z.new fun c9 h6 z _=>z.st 0 fun h7 z=>?_
  refine z.ld 3 (o:=3) (l:=.sl) (x:=ks) ?_
  have z : Z h0 h7 (.blk c9 [vsl (arr bk ts.length)] T_sl_api_Graph :: .blk bk (List.replicate ts.length [vsl0,vi 0]).flatten T_api_Graph :: .blk x0 [vsl s,vi root] T_api_Graph :: .blk b ((iota x.items.length).map vi) T_i64 :: .blk x4 [vi x.kind,.string x.text,.bool x.ord,vsl ks,vsl is] T_api_Node :: L):=Z.permBy (pre:=[_,_,_,_,_]) z [0,1,4,2,3] (by simp only [List.length_cons,List.length_nil];decide)
  have erep : (List.replicate ts.length [vsl0,vi 0]).flatten = (([] : List KY).map some ++ List.replicate (ts.length - 0) none).flatMap gc:=by
   rw [List.map_nil,List.nil_append,Nat.sub_zero,List.flatMap,List.map_replicate];rfl
  rw [erep] at z
  rw [Wp_bind]
  refine (sorted_L1 (root:=root) G tk ik (by omega) (arr b x.items.length) n 0 h7 [] _ (by omega) (by omega) (by simp) z).mono fun _ h8 hy=>?_
  obtain ⟨K,hK,z⟩:=hy
  have hKl : ts.length = K.length:=by rw [← hK,List.length_map]
  obtain ⟨r,r1,r2⟩:=mgS_some (lt:=ltK ts) (x.items.length + 1) (iota x.items.length) (by rw [iota_len];omega) (fun p hp q hq hne=>by
   obtain ⟨p1,p2⟩:=iota_mem hp
   obtain ⟨q1,q2⟩:=iota_mem hq
   obtain ⟨t1,e1⟩:=getI (l:=ts) (i:=p.toNat) (by omega)
   obtain ⟨t2,e2⟩:=getI (l:=ts) (i:=q.toNat) (by omega)
   have f1 : gt ts p = some t1:=by unfold gt;rw [if_pos p1];exact e1
   have f2 : gt ts q = some t2:=by unfold gt;rw [if_pos q1];exact e2
   unfold ltK
   rw [f1,f2]
   simp only
   rw [eqS_ne (tk.ne _ _ _ _ e1 e2 (by omega))]
   rfl) (iota_nodup _)
  have z:=z.perm (L':=.blk b ((iota x.items.length).map vi) T_i64 :: ([] ++ (.blk c9 [vsl (arr bk ts.length)] T_sl_api_Graph :: .blk bk ((K.map some).flatMap gc) T_api_Graph :: .blk x0 [vsl s,vi root] T_api_Graph :: (K.map KY.own ++ .blk x4 [vi x.kind,.string x.text,.bool x.ord,vsl ks,vsl is] T_api_Node :: L)))) (by
   simp only [List.nil_append]
   have : List.Perm (K.map KY.own ++ .blk b ((iota x.items.length).map vi) T_i64 :: .blk x4 [vi x.kind,.string x.text,.bool x.ord,vsl ks,vsl is] T_api_Node :: L) (.blk b ((iota x.items.length).map vi) T_i64 :: (K.map KY.own ++ .blk x4 [vi x.kind,.string x.text,.bool x.ord,vsl ks,vsl is] T_api_Node :: L)):=List.perm_middle
   refine (List.Perm.cons _ (List.Perm.cons _ (List.Perm.cons _ (this)))).trans ?_
   exact (List.Perm.cons _ ((List.Perm.cons _ (List.Perm.swap _ _ _)).trans (List.Perm.swap _ _ _))).trans (List.Perm.swap _ _ _))
  rw [Wp_bind]
  have hmg:=merge_wp (h0:=h0) (lt:=ltK ts) (f:=Value.func (Fn.func F_share_sorted_1) #[] #[pv c9]) (K:=66001)
   (L:=.blk c9 [vsl (arr bk ts.length)] T_sl_api_Graph :: .blk bk ((K.map some).flatMap gc) T_api_Graph :: .blk x0 [vsl s,vi root] T_api_Graph :: (K.map KY.own ++ .blk x4 [vi x.kind,.string x.text,.bool x.ord,vsl ks,vsl is] T_api_Node :: L))
   (fun {n h P p q r} hn hl z=>less_wp hK tk.ok hKl (List.mem_cons_self ..) (List.mem_cons_of_mem _ (List.mem_cons_self ..)) (fun k hk=>by
    refine List.mem_cons_of_mem _ (List.mem_cons_of_mem _ (List.mem_cons_of_mem _ (List.mem_append_left _ (List.mem_map.2 ⟨k,hk,rfl⟩))))) hn hl z)
   (x.items.length + 1) n (iota x.items.length) r b (x.items.length + 1) h8 [] (by rw [iota_len];omega) (by rw [iota_len];omega) r1 z
  rw [iota_len] at hmg
  refine hmg.mono fun _ h9 z=>?_
  rw [Wp_pure]
  refine ⟨b,r,rfl,r2,z.sub (List.Sublist.cons₂ _ ?_)⟩
  exact List.Sublist.cons _ (List.Sublist.cons _ (List.Sublist.cons _ ((List.sublist_append_of_sublist_right (List.sublist_cons_self _ _)))))
 ·rw [if_pos (by simpa using k1)];exact fin z
end
end Go.Sh
set_option linter.all false
namespace Go.Sh
open Go Go.Ago Go.Proofs
variable {α β : Type} {h h' h0 : AHeap} {L : List Own} {Q : β → AHeap → Prop}
section
variable {s : Sl} {root : Int} {N : List NodeV}
structure OC where
 x7 : Nat
 bm : Nat
 x9 : Nat
 x0 : Nat
 x3 : Nat
 be : Nat
 x10 : Nat
def OC.fn (c : OC) : Value:=Value.func (Fn.func F_share_order_1) #[] #[pv c.x7,pv c.x9,pv c.x0,pv c.x3,pv c.x10]
def OC.own (c : OC) (N : List NodeV) (s : Sl) (root : Int) (ms : List Bool) (os : List Int) (es : List Sl) (so : Sl) (g : Nat) : List Own :=
 [.blk c.x7 [vsl (arr c.bm N.length)] T_sl_bool,.blk c.bm (ms.map .bool) T_bool,.blk c.x9 [vsl so] T_sl_i64,.sl so 1 T_i64 (os.map vi) g,.blk c.x0 [vsl s,vi root] T_api_Graph,.blk c.x3 [vsl (arr c.be N.length)] T_sl_sl_i64,.blk c.be (es.map vsl) T_sl_i64,.blk c.x10 [c.fn] T_fn_i64__]
structure OI (N : List NodeV) (c : Nat) (ms : List Bool) (os : List Int) (es : List Sl) (so : Sl) : Prop where
 l1 : ms.length = N.length
 l2 : es.length = N.length
 l3 : so.len = os.length
 rng : ∀ x ∈ os,0 ≤ x∧x < (N.length : Int)
 cnt : os.length + ms.count false ≤ N.length
 c : ms.count false ≤ c
def OPost (C : OC) (N : List NodeV) (s : Sl) (root : Int) (c : Nat) (h0 : AHeap) (L : List Own) (h' : AHeap) : Prop :=
 ∃ ms os es so g,OI N c ms os es so∧Z h0 h' (C.own N s root ms os es so g ++ L)
theorem OI.mono {c c' : Nat} {ms : List Bool} {os : List Int} {es : List Sl} {so : Sl} (I : OI N c ms os es so) (hc : c ≤ c') : OI N c' ms os es so:=⟨I.l1,I.l2,I.l3,I.rng,I.cnt,Nat.le_trans I.c hc⟩
theorem count_set {ms : List Bool} {i : Nat} (h : ms[i]? = some false) : (ms.set i true).count false + 1 = ms.count false:=by
 induction ms generalizing i with
 | nil=>cases h
 | cons b ms ih =>
  cases i with
  | zero=>cases h;rw [List.set_cons_zero];simp
  | succ i =>
   rw [List.getElem?_cons_succ] at h
   rw [List.set_cons_succ,List.count_cons,List.count_cons,← ih h];omega
theorem item_rd (z : Z h0 h L) (G : GrR h0 s N) {x0 i : Nat} (hi : L[i]? = some (.blk x0 [vsl s,vi root] T_api_Graph)) {a p q : Int} {x : NodeV} (hx : gt N a = some x) (hp : gt x.items p = some q) {f : Int → M β} (hq : Wp (f q) h Q) :
  Wp (M.bind (ldL .sl ((adr x0).plus 0)) fun (y : Sl)=>M.bind (idxA y a 5) fun b=>M.bind (ldL .sl (b.plus 4)) fun (y : Sl)=>M.bind (idxA y p 1) fun b=>M.bind (ldL li b) f) h Q:=by
 obtain ⟨g1,g2⟩:=gt_some hx
 obtain ⟨p1,p2⟩:=gt_some hp
 refine z.ld i (o:=0) (l:=.sl) (x:=s) ?_ hi
 refine G.at z g1 g2 fun aa ks is nd ik ii=>nd.ldis ?_
 exact (ii.fr z.fr).ix p1 p2 fun a1 g c=>c.ld0 (l:=li) rfl rfl hq
def PO (C : OC) (N : List NodeV) (s : Sl) (root : Int) (B c : Nat) (h0 : AHeap) : Prop :=
 ∀ (n : Nat) (a : Int) (ms : List Bool) (os : List Int) (es : List Sl) (so : Sl) (g : Nat) (h : AHeap) (L : List Own),c * (B + 3) + 3 * B + 66020 ≤ n → gt ms a = some false → OI N c ms os es so → Z h0 h (C.own N s root ms os es so g ++ L) →
  Wp (share_order_1 n a (adr C.x7) (adr C.x9) (adr C.x0) (adr C.x3) (adr C.x10)) h fun _ h'=>OPost C N s root c h0 L h'
def QO (C : OC) (N : List NodeV) (s : Sl) (root : Int) (B c : Nat) (h0 : AHeap) : Prop :=
 ∀ (n i : Nat) (a : Int) (x : NodeV) (b : Nat) (r : List Int) (ms : List Bool) (os : List Int) (es : List Sl) (so : Sl) (g : Nat) (h : AHeap) (L : List Own),c * (B + 3) + 3 * B + 66020 + (r.length - i) + 1 ≤ n → i ≤ r.length → r.length ≤ B → (∀ p ∈ r,0 ≤ p∧p < (x.items.length : Int)) → gt N a = some x → OI N c ms os es so →
  Z h0 h (C.own N s root ms os es so g ++ .blk b (r.map vi) T_i64 :: L) →
  Wp (share_order_1_L0 n a (adr C.x7) (adr C.x0) (adr C.x10) (arr b r.length) (r.length : Int) (i : Int)) h fun _ h'=>OPost C N s root c h0 (.blk b (r.map vi) T_i64 :: L) h'
theorem ord_loop (G : GrR h0 s N) {B : Nat} (hB : Bd N B) (hI : ∀ x ∈ N,∀ y ∈ x.items,∃ z,gt N y = some z) {C : OC} {c : Nat} (hP : PO C N s root B c h0) : QO C N s root B c h0:=by
 have hB1:=hB.1
 have hB2:=hB.2.1
 intro n
 induction n with
 | zero=>intro i a x b r ms os es so g h L h1;omega
 | succ n ih =>
  intro i a x b r ms os es so g h L hn hi hr hp hx I z
  rw [share_order_1_L0_succ]
  unfold share_order_1_L0_B
  by_cases hlt : i < r.length
  ·rw [if_pos (by simp;omega)]
   obtain ⟨p,hpi⟩:=getI hlt
   have hpr:=hp p (List.mem_of_getElem? hpi)
   obtain ⟨q,hq⟩:=getI (l:=x.items) (i:=p.toNat) (by omega)
   have hgq : gt x.items p = some q:=by unfold gt;rw [if_pos hpr.1];exact hq
   obtain ⟨y,hy⟩:=hI x (List.mem_of_getElem? (gt_some hx).2) q (List.mem_of_getElem? hq)
   obtain ⟨y1,y2⟩:=gt_some hy
   have y3:=lt_of_get y2
   obtain ⟨mb,hmb⟩:=getI (l:=ms) (i:=q.toNat) (by have:=I.l1;omega)
   have hgm : gt ms q = some mb:=by unfold gt;rw [if_pos y1];exact hmb
   refine ixR (b:=b) (m:=r.length) (by omega) (by omega) ?_
   refine z.ld 8 (o:=(i : Int).toNat) (l:=li) (x:=p) ?_ rfl (by rw [Int.toNat_natCast,List.getElem?_map,hpi];rfl) rfl
   refine z.ld 0 (o:=0) (l:=.sl) (x:=arr C.bm N.length) ?_
   refine item_rd z G (i:=4) rfl hx hgq ?_
   refine ixR (b:=C.bm) (m:=N.length) y1 (by omega) ?_
   refine z.ld 1 (o:=q.toNat) (l:=.bool) (x:=mb) ?_ rfl (by rw [List.getElem?_map,hmb];rfl) rfl
   rw [up1 hi (by omega)]
   cases mb with
   | true =>
    rw [if_neg (by simp)]
    exact ih (i + 1) a x b r ms os es so g h L (by omega) (by omega) hr hp hx I z
   | false =>
    rw [if_pos (by rfl)]
    refine z.ld 7 (o:=0) (l:=.raw) (x:=C.fn) ?_
    refine item_rd z G (i:=4) rfl hx hgq ?_
    unfold share_order_1_D44_B
    rw [if_pos (by rfl),Wp_bind,Wp_bind]
    refine Wp_asFn (c:=(adr C.x7,adr C.x9,adr C.x0,adr C.x3,adr C.x10)) rfl ?_
    refine (hP n q ms os es so g h _ (by omega) hgm I z).mono fun _ h2 hy=>?_
    obtain ⟨ms',os',es',so',g',I',z⟩:=hy
    exact ih (i + 1) a x b r ms' os' es' so' g' h2 L (by omega) (by omega) hr hp hx I' z
  ·rw [if_neg (by simp;omega),Wp_pure]
   exact ⟨ms,os,es,so,g,I,z⟩
theorem ord_visit (G : GrR h0 s N) {B : Nat} (hB : Bd N B) (hT : ∀ x ∈ N,x.kind = 10 → x.ord = false → ∃ ts,TK N x ts) {C : OC} {c : Nat} (hQ : QO C N s root B c h0) : PO C N s root B (c + 1) h0:=by
 have hB1:=hB.1
 have hB2:=hB.2.1
 intro n a ms os es so g h L hn ha I z
 obtain ⟨a1,a2⟩:=gt_some ha
 have a3:=lt_of_get a2
 have hl1:=I.l1
 have hl2:=I.l2
 have hl3:=I.l3
 have hc1:=I.cnt
 have hc2:=I.c
 have hcs:=count_set a2
 obtain ⟨x,hx⟩:=getI (l:=N) (i:=a.toNat) (by omega)
 have hgx : gt N a = some x:=by unfold gt;rw [if_pos a1];exact hx
 have hbd:=hB.2.2 x (List.mem_of_getElem? hx)
 have hmul : (c + 1) * (B + 3) = c * (B + 3) + (B + 3):=Nat.succ_mul _ _
 obtain ⟨n,rfl⟩ : ∃ m,n = m + 1:=⟨n - 1,by omega⟩
 rw [share_order_1_succ]
 unfold share_order_1_B
 refine z.ld 0 (o:=0) (l:=.sl) (x:=arr C.bm N.length) ?_
 refine ixR (b:=C.bm) (m:=N.length) a1 (by omega) ?_
 refine z.stA 1 (xs:=ms) (enc:=Value.bool) (v:=true) (by omega) fun h2 z=>?_
 refine z.ld 2 (o:=0) (l:=.sl) (x:=so) ?_
 refine z.appO 3 (new:=[vi a]) rfl (by decide) rfl (by unfold bigN;omega) fun so' h3 g' hs' z _=>?_
 refine z.st 2 fun h4 z=>?_
 refine z.ld 5 (o:=0) (l:=.sl) (x:=arr C.be N.length) ?_
 refine z.lds 4 (ls:=[.sl,li]) (x:=(s,root)) ?_
 have z : Z h0 h4 (C.own N s root (ms.set a.toNat true) (os ++ [a]) es so' g' ++ L):=by rw [OC.own,List.map_append];exact z
 refine chk_call (P:=fun y h'=>∃ (b : Nat) (r : List Int),y = arr b x.items.length∧r.Perm (iota x.items.length)∧Z h0 h' (.blk b (r.map vi) T_i64 :: (C.own N s root (ms.set a.toNat true) (os ++ [a]) es so' g' ++ L))) ?_ (sorted_wp z G hB hgx (hT x (List.mem_of_getElem? hx)) (by omega)) fun y h5 hy=>?_
 ·intro a' ha'
  simp only [List.mem_cons,Option.some.injEq,List.not_mem_nil,or_false] at ha'
  subst ha'
  refine ⟨_,_,z.get 5 rfl,fun r1 h3 hr1=>?_⟩
  obtain ⟨b,r,_,_,z⟩:=hr1
  exact z.get 6 rfl
 obtain ⟨b,r,rfl,hr,z⟩:=hy
 have hrl : r.length = x.items.length:=by rw [hr.length_eq,iota_len]
 refine ixR (b:=C.be) (m:=N.length) a1 (by omega) ?_
 refine z.stA 7 (xs:=es) (enc:=vsl) (v:=arr b x.items.length) (by omega) fun h6 z=>?_
 refine z.ld 6 (o:=0) (l:=.sl) (x:=arr C.be N.length) ?_
 refine ixR (b:=C.be) (m:=N.length) a1 (by omega) ?_
 refine z.ld 7 (o:=a.toNat) (l:=.sl) (x:=arr b x.items.length) ?_ rfl (by rw [List.getElem?_map,List.getElem?_set_self (by omega)];rfl) rfl
 have z : Z h0 h6 (C.own N s root (ms.set a.toNat true) (os ++ [a]) (es.set a.toNat (arr b x.items.length)) so' g' ++ .blk b (r.map vi) T_i64 :: L):=Z.perm (L:=.blk b (r.map vi) T_i64 :: (C.own N s root (ms.set a.toNat true) (os ++ [a]) (es.set a.toNat (arr b x.items.length)) so' g' ++ L)) z List.perm_middle.symm
 rw [Wp_bind,← hrl]
 rw [← hrl] at z
 refine (hQ n 0 a x b r _ _ _ so' g' h6 L (by omega) (by omega) (by omega) (fun p hp=>iota_mem (hr.mem_iff.1 hp)) hgx ⟨by simp [hl1],by simp [hl2],by rw [hs',hl3];simp,fun q hq=>?_,?_,by omega⟩ z).mono fun _ h7 hy=>?_
 ·rcases List.mem_append.1 hq with hq | hq
  ·exact I.rng q hq
  ·rw [List.mem_singleton] at hq;subst hq;omega
 ·rw [List.length_append,List.length_singleton];omega
 ·obtain ⟨ms',os',es',so2,g2,I',z⟩:=hy
  rw [Wp_pure]
  exact ⟨ms',os',es',so2,g2,I'.mono (by omega),z.sub (List.Sublist.append_left (List.sublist_cons_self _ _) _)⟩
theorem ord_all (G : GrR h0 s N) {B : Nat} (hB : Bd N B) (hT : ∀ x ∈ N,x.kind = 10 → x.ord = false → ∃ ts,TK N x ts) (hI : ∀ x ∈ N,∀ y ∈ x.items,∃ z,gt N y = some z) (C : OC) : ∀ c,PO C N s root B c h0:=by
 intro c
 induction c with
 | zero =>
  intro n a ms os es so g h L hn ha I z
  have:=count_set (gt_some ha).2
  have:=I.c
  omega
 | succ c ih=>exact ord_visit G hB hT (ord_loop G hB hI ih)
theorem order_wp (z : Z h0 h L) (G : GrR h0 s N) {B : Nat} (hB : Bd N B) (hT : ∀ x ∈ N,x.kind = 10 → x.ord = false → ∃ ts,TK N x ts) (hI : ∀ x ∈ N,∀ y ∈ x.items,∃ z,gt N y = some z) {r0 : NodeV} (hr : gt N root = some r0) {n : Nat} (hn : B * (B + 3) + 3 * B + 66020 ≤ n) :
  Wp (share_order n (s,root)) h fun y h'=>∃ (os : List Int) (g : Nat),(∀ x ∈ os,0 ≤ x∧x < (N.length : Int))∧os.length ≤ N.length∧y.1.len = os.length∧Z h0 h' (.sl y.1 1 T_i64 (os.map vi) g :: L):=by
 have hB1:=hB.1
 have hB2:=hB.2.1
 unfold share_order
 refine z.new fun x0 h1 z _=>?_
 refine z.ld 0 (o:=0) (l:=.sl) ?_
 rw [G.len]
 refine z.mkA (by omega) (by unfold bigN;omega) fun be h2 z f2=>?_
 rw [Int.toNat_natCast] at z ⊢
 rw [show (List.replicate N.length [vsl0]).flatten = (List.replicate N.length sl0).map vsl from rep_map (enc:=vsl) (x:=sl0) _] at z
 refine z.new fun x3 h3 z _=>z.st 0 fun h4 z=>?_
 refine z.ld 2 (o:=0) (l:=.sl) (x:=s) ?_
 rw [G.len]
 refine z.mkA (by omega) (by unfold bigN;omega) fun bm h5 z f2=>?_
 rw [Int.toNat_natCast] at z ⊢
 rw [rep_map (enc:=Value.bool)] at z
 refine z.new fun x7 h6 z _=>z.st 0 fun h7 z=>?_
 refine z.new fun x9 h8 z _=>?_
 refine z.new fun x10 h9 z _=>z.st 0 fun h10 z=>?_
 have C : OC:=⟨x7,bm,x9,x0,x3,be,x10⟩
 refine z.ld 0 (o:=0) (l:=.raw) (x:=(⟨x7,bm,x9,x0,x3,be,x10⟩ : OC).fn) ?_
 refine z.ld 6 (o:=1) (l:=li) (x:=root) ?_
 have z:=z.add (Fr.refl z.wf) (o:=.sl ⟨none,0,0⟩ 1 T_i64 [] 0) OSl.nil (.inl rfl)
 have z : Z h0 h10 ((⟨x7,bm,x9,x0,x3,be,x10⟩ : OC).own N s root (List.replicate N.length false) [] (List.replicate N.length sl0) sl0 0 ++ L):=Z.permBy (pre:=[_,_,_,_,_,_,_,_]) z [3,4,2,0,7,5,6,1] (by simp only [List.length_cons,List.length_nil];decide)
 obtain ⟨g1,g2⟩:=gt_some hr
 have g3:=lt_of_get g2
 rw [Wp_bind]
 unfold share_order_D17
 rw [if_pos (by rfl),Wp_bind]
 refine Wp_asFn (c:=(adr x7,adr x9,adr x0,adr x3,adr x10)) rfl ?_
 have hmul : N.length * (B + 3) ≤ B * (B + 3):=Nat.mul_le_mul_right _ hB1
 refine (ord_all G hB hT hI _ N.length n root (List.replicate N.length false) [] (List.replicate N.length sl0) sl0 0 h10 L (by omega) (by unfold gt;rw [if_pos g1,List.getElem?_replicate,if_pos g3]) ⟨List.length_replicate,List.length_replicate,rfl,(fun x hx=>by cases hx),by simp,by simp⟩ z).mono fun _ h11 hy=>?_
 obtain ⟨ms,os,es,so,g,I,z⟩:=hy
 refine z.ld 2 (o:=0) (l:=.sl) (x:=so) ?_
 refine z.ld 5 (o:=0) (l:=.sl) (x:=arr be N.length) ?_
 rw [Wp_pure]
 have:=I.cnt
 exact ⟨os,g,I.rng,by omega,I.l3,z.drop.drop.drop.sub (List.Sublist.cons₂ _ (List.Sublist.cons _ (List.Sublist.cons _ (List.Sublist.cons _ (List.sublist_cons_self _ _)))))⟩
end
end Go.Sh
set_option linter.all false
namespace Go.Sh
open Go Go.Ago Go.Proofs
variable {α β : Type} {h h' h0 : AHeap} {L : List Own} {Q : β → AHeap → Prop}
section
variable {s : Sl} {root : Int} {N : List NodeV}
theorem bumps_app : ∀ (a b c : List Int),bumps (a ++ b) c = (bumps a c).bind (bumps b)
 | [],b,c=>rfl
 | x :: a,b,c=>by
  rw [List.cons_append,bumps,bumps]
  cases bump c x with
  | none=>rfl
  | some c1=>exact bumps_app a b c1
theorem sct_L1 {b cap : Nat} {e : TypeId} {sl : Sl} {xs : List Int} (il : IL h0 sl xs) {B : Nat} (hB : B < 1073741824) (hl : xs.length ≤ B) (a1 : Sl) (a2 a3 : Int) :
  ∀ (n i : Nat) (c r : List Int) (h : AHeap) (L : List Own),xs.length - i < n → i ≤ xs.length → bumps (xs.drop i) c = some r → Z h0 h (.blk b (c.map vi) e :: L) →
   Wp (share_counts_L1 n ⟨some ⟨b,0,none⟩,c.length,cap⟩ a1 a2 a3 sl (sl.len : Int) (i : Int)) h fun _ h'=>Z h0 h' (.blk b (r.map vi) e :: L):=by
 intro n
 induction n with
 | zero=>intro i c r h L h1;omega
 | succ n ih =>
  intro i c r h L h1 h2 hb z
  rw [share_counts_L1_succ]
  unfold share_counts_L1_B
  rw [il.len]
  by_cases hi : i < xs.length
  ·rw [if_pos (by simp;omega)]
   obtain ⟨x,hx⟩:=getI hi
   rw [drop_cons hx,bumps] at hb
   cases hb1 : bump c x with
   | none=>rw [hb1] at hb;cases hb
   | some c1 =>
    rw [hb1] at hb
    refine (il.fr z.fr).ix (by omega) (by simpa using hx) fun a g cl=>cl.ld0 (l:=li) rfl rfl ?_
    refine bump_wp (i:=0) z rfl hb1 rfl fun h2 z=>?_
    have:=ih (i + 1) c1 r h2 L (by omega) (by omega) hb z
    rw [up1 (Nat.le_of_lt hi) (by omega)]
    rw [il.len,bump_len hb1] at this
    exact this
  ·rw [if_neg (by simp;omega),Wp_pure]
   have : xs.drop i = []:=List.drop_eq_nil_of_le (by omega)
   rw [this] at hb
   cases hb;exact z
theorem sct_L0 (G : GrR h0 s N) {B : Nat} (hB : Bd N B) {b cap : Nat} {e : TypeId} :
  ∀ (n i : Nat) (c r : List Int) (h : AHeap) (L : List Own),N.length - i + B + 5 < n → i ≤ N.length → bumps ((N.drop i).flatMap NodeV.items) c = some r → Z h0 h (.blk b (c.map vi) e :: L) →
   Wp (share_counts_L0 n ⟨some ⟨b,0,none⟩,c.length,cap⟩ s (s.len : Int) (i : Int)) h fun _ h'=>Z h0 h' (.blk b (r.map vi) e :: L):=by
 intro n
 induction n with
 | zero=>intro i c r h L h1;omega
 | succ n ih =>
  intro i c r h L h1 h2 hb z
  rw [share_counts_L0_succ]
  unfold share_counts_L0_B
  rw [G.len]
  by_cases hi : i < N.length
  ·rw [if_pos (by simp;omega)]
   obtain ⟨x,hx⟩:=getI hi
   rw [drop_cons hx,List.flatMap_cons,bumps_app] at hb
   have hbd:=hB.2.2 x (List.mem_of_getElem? hx)
   cases hb2 : bumps x.items c with
   | none=>rw [hb2] at hb;cases hb
   | some c2 =>
    rw [hb2] at hb
    simp only [Option.bind_some] at hb
    refine G.at z (by omega) (by simpa using hx) fun a ks is nd ik ii=>nd.lds ?_
    refine z.node fun x2 h2' z=>?_
    refine z.ld 0 (o:=4) (l:=.sl) ?_
    have z:=z.perm (List.Perm.swap _ _ _)
    rw [Wp_bind]
    refine (sct_L1 ii hB.2.1 hbd.2 _ _ _ n 0 c c2 _ _ (by omega) (by omega) (by simpa using hb2) z).mono fun _ h4 z=>?_
    have z:=(z.perm (List.Perm.swap _ _ _)).drop
    have:=ih (i + 1) c2 r h4 L (by omega) (by omega) hb z
    rw [up1 (Nat.le_of_lt hi) (by have:=hB.1;have:=hB.2.1;omega)]
    rw [G.len,bumps_len hb2] at this
    exact this
  ·rw [if_neg (by simp;omega),Wp_pure]
   have : N.drop i = []:=List.drop_eq_nil_of_le (by omega)
   rw [this] at hb
   cases hb;exact z
def scnt (N : List NodeV) (root : Int) : Option (List Int):=bumps (root :: N.flatMap NodeV.items) (List.replicate N.length 0)
theorem scounts_wp (z : Z h0 h L) (G : GrR h0 s N) {B : Nat} (hB : Bd N B) {n : Nat} (hn : 2 * B + 6 < n) {r : List Int} (hr : scnt N root = some r) :
  Wp (share_counts n (s,root)) h fun x h'=>∃ b : Nat,x = arr b N.length∧r.length = N.length∧Z h0 h' (.blk b (r.map vi) T_i64 :: L):=by
 unfold share_counts
 unfold scnt at hr
 rw [bumps] at hr
 cases h1 : bump (List.replicate N.length 0) root with
 | none=>rw [h1] at hr;cases hr
 | some c1 =>
  rw [h1] at hr
  simp only [Option.bind_some] at hr
  refine z.new fun x0 h1' z f1=>?_
  refine z.ld 0 (o:=0) (l:=.sl) ?_
  rw [G.len]
  refine z.mkA (by omega) (by have:=hB.1;have:=hB.2.1;unfold bigN;omega) fun b h2 z f2=>?_
  rw [Int.toNat_natCast] at z ⊢
  rw [rep_map (enc:=vi)] at z
  refine z.ld 1 (o:=1) (l:=li) ?_
  refine bump_wp (i:=0) z rfl h1 (by simp) fun h3 z=>?_
  refine z.ld 1 (o:=0) (l:=.sl) ?_
  rw [Wp_bind]
  have hl:=bump_len h1
  rw [List.length_replicate] at hl
  have:=sct_L0 G hB (cap:=N.length + 1) n 0 c1 r h3 (.blk x0 [vsl s,vi root] T_api_Graph :: L) (by have:=hB.1;omega) (by omega) (by simpa using hr) z
  rw [hl] at this
  refine this.mono fun _ h4 z=>?_
  rw [Wp_pure]
  exact ⟨b,rfl,by rw [bumps_len hr,hl],(z.perm (List.Perm.swap _ _ _)).drop⟩
theorem lab_L0 {b m : Nat} {r : List Int} (hm : r.length = m) (h1 : ∀ v ∈ r,v ≤ 1) {so : Sl} {os : List Int} {g : Nat} (hso : so.len = os.length) (hr : ∀ x ∈ os,0 ≤ x∧x < (m : Int)) (hb : os.length < 1073741824) (a1 : Sl) :
  ∀ (n i : Nat) (h : AHeap) (L : List Own),os.length - i < n → i ≤ os.length → Z h0 h (.blk b (r.map vi) T_i64 :: .sl so 1 T_i64 (os.map vi) g :: L) →
   Wp (share_Labels_L0 n (arr b m) a1 so (os.length : Int) (i : Int)) h fun y h'=>y = a1∧Z h0 h' (.blk b (r.map vi) T_i64 :: .sl so 1 T_i64 (os.map vi) g :: L):=by
 intro n
 induction n with
 | zero=>intro i h L h1;omega
 | succ n ih =>
  intro i h L g1 g2 z
  rw [share_Labels_L0_succ]
  unfold share_Labels_L0_B
  by_cases hi : i < os.length
  ·rw [if_pos (by simp;omega)]
   obtain ⟨q,hq⟩:=getI hi
   have hq2:=hr q (List.mem_of_getElem? hq)
   obtain ⟨v,hv⟩:=getI (l:=r) (i:=q.toNat) (by omega)
   have hv1:=h1 v (List.mem_of_getElem? hv)
   have os1 : OSl h so 1 T_i64 (os.map vi) g:=z.get 1 rfl
   refine (OSl.rsl os1).ix1 (enc:=vi) (xs:=os) (by omega) (v:=q) (by simpa using hq) fun a cl=>cl.ld0 (l:=li) rfl rfl ?_
   refine ixR (b:=b) (m:=m) hq2.1 (by omega) ?_
   refine z.ld 0 (o:=q.toNat) (l:=li) (x:=v) ?_ rfl (by rw [List.getElem?_map,hv];rfl) rfl
   rw [if_neg (by simpa using hv1),up1 g2 (by omega)]
   exact ih (i + 1) h L (by omega) (by omega) z
  ·rw [if_neg (by simp;omega),Wp_pure];exact ⟨rfl,z⟩
theorem Tree_wp (z : Z h0 h L) (G : GrR h0 s N) {B : Nat} (hB : Bd N B) (ht : ∀ x ∈ N,x.text.size ≤ 65536) {k n : Nat} (hn : k + B * (B + 3) + 4 * B + 66020 ≤ n) (hv : gcheck k N root = some 0) (hT : ∀ x ∈ N,x.kind = 10 → x.ord = false → ∃ ts,TK N x ts) (hI : ∀ x ∈ N,∀ y ∈ x.items,∃ z,gt N y = some z) {r0 : NodeV} (hr0 : gt N root = some r0) {r : List Int} (hr : scnt N root = some r) (h1 : ∀ v ∈ r,v ≤ 1) :
  Wp (share_Tree n (s,root)) h fun x h'=>x = true∧Z h0 h' L:=by
 have hB1:=hB.1
 have hB2:=hB.2.1
 have hBB : B * 3 ≤ B * (B + 3):=Nat.mul_le_mul_left _ (Nat.le_add_left _ _)
 unfold share_Tree
 refine z.new fun x0 h2 z _=>z.lds 0 (ls:=[.sl,li]) (x:=(s,root)) ?_
 rw [Wp_bind]
 refine (Check_wp z G hB ht (by omega) hv).mono fun y h3 hy=>?_
 obtain ⟨rfl,z⟩:=hy
 rw [if_pos (by simp)]
 refine z.lds 0 (ls:=[.sl,li]) (x:=(s,root)) ?_
 rw [Wp_bind]
 have hlab : Wp (share_Labels n (s,root)) h3 fun y h'=>y = sl0∧Z h0 h' (.blk x0 [vsl s,vi root] T_api_Graph :: L):=by
  unfold share_Labels
  refine z.new fun x0 h2 z _=>z.lds 0 (ls:=[.sl,li]) (x:=(s,root)) ?_
  rw [Wp_bind]
  refine (Check_wp z G hB ht (by omega) hv).mono fun y h3 hy=>?_
  obtain ⟨rfl,z⟩:=hy
  rw [if_neg (by simp)]
  refine z.lds 0 (ls:=[.sl,li]) (x:=(s,root)) ?_
  rw [Wp_bind]
  refine (order_wp z G hB hT hI hr0 (by omega)).mono fun y h4 hy=>?_
  obtain ⟨os,g,o1,o2,o3,z⟩:=hy
  refine z.lds 1 (ls:=[.sl,li]) (x:=(s,root)) ?_
  rw [Wp_bind]
  refine (scounts_wp z G hB (by omega) hr).mono fun y2 h5 hy=>?_
  obtain ⟨b,rfl,hrl,z⟩:=hy
  rw [o3,Wp_bind]
  refine (lab_L0 hrl h1 o3 o1 (by omega) sl0 n 0 h5 _ (by omega) (by omega) z).mono fun y3 h6 hy=>?_
  obtain ⟨rfl,z⟩:=hy
  rw [Wp_pure]
  exact ⟨rfl,z.drop.drop.drop⟩
 refine hlab.mono fun y h4 hy=>?_
 obtain ⟨rfl,z⟩:=hy
 rw [Wp_pure]
 exact ⟨rfl,z.drop⟩
end
def kL : BTd → List ByteArray
 | .nil=>[]
 | .cons k _ l=>k :: kL l
theorem kL_keys : ∀ (l : BTd) (b : Nat),(keysD b l).length = (kL l).length
 | .nil,b=>rfl
 | .cons k v l,b=>by rw [keysD,kL,List.length_cons,List.length_cons,kL_keys l]
theorem kL_vals : ∀ (l : BTd) (b : Nat),(valsD b l).length = (kL l).length
 | .nil,b=>rfl
 | .cons k v l,b=>by rw [valsD,kL,List.length_cons,List.length_cons,kL_vals l]
theorem kL_get {N : List NodeV} : ∀ (l : BTd) (b : Nat),Pt N b (ndsD b l) → ∀ (i : Nat) t,(kL l)[i]? = some t → ∃ k,(keysD b l)[i]? = some k∧gt N k = some (LN t)
 | .nil,b,p,i,t,ht=>by cases ht
 | .cons key v l,b,p,i,t,ht=>by
  rw [ndsD] at p
  obtain ⟨p1,p2⟩:=p.cons
  have p3:=p2.split.2
  rw [nds_len] at p3
  rw [kL] at ht
  rw [keysD]
  cases i with
  | zero=>cases ht;exact ⟨_,rfl,by rw [gt_nat];exact p1⟩
  | succ i=>exact kL_get l _ p3 i t ht
theorem kL_asc : ∀ (l : BTd) (d : Nat) (last : Option ByteArray),okD d last l → (∀ t,last = some t → ∀ k ∈ kL l,ltS t k = true)∧(kL l).Pairwise (fun a b=>ltS a b = true)
 | .nil,d,last,h=>⟨fun t ht k hk=>(by cases hk),List.Pairwise.nil⟩
 | .cons key v l,d,last,h=>by
  obtain ⟨i1,i2⟩:=kL_asc l d _ h.2.2.2.2
  rw [kL]
  refine ⟨fun t ht k hk=>?_,List.pairwise_cons.2 ⟨fun k hk=>i1 key rfl k hk,i2⟩⟩
  have h1:=lt_of_not_ltB (h.2.2.1 t ht)
  rcases List.mem_cons.1 hk with rfl | hk
  ·exact h1
  ·exact lt_tr h1 (i1 key rfl k hk)
theorem kL_ok : ∀ (l : BTd) (d : Nat) (last : Option ByteArray),okD d last l → ∀ t ∈ kL l,u8 t = true∧t.size ≤ (encD l).length
 | .nil,d,last,h=>fun t ht=>by cases ht
 | .cons key v l,d,last,h=>fun t ht=>by
  have hs:=size_toList key
  simp only [encD,encS,List.length_append,List.length_cons]
  rcases List.mem_cons.1 ht with rfl | ht
  ·exact ⟨h.2.1,by omega⟩
  ·have:=kL_ok l d _ h.2.2.2.2 t ht
   exact ⟨this.1,by omega⟩
theorem kL_TK {N : List NodeV} {l : BTd} {b d : Nat} (p : Pt N b (ndsD b l)) (h : okD d none l) (hs : (encD l).length ≤ 65536) {q : Int} {tx : ByteArray} {o : Bool} : TK N ⟨q,tx,o,keysD b l,valsD b l⟩ (kL l):=by
 obtain ⟨_,asc⟩:=kL_asc l d none h
 refine ⟨kL_keys l b,kL_vals l b,kL_get l b p,fun t ht=>?_,fun i j s t hi hj hne=>?_⟩
 ·have:=kL_ok l d none h t ht
  exact ⟨this.1,by omega⟩
 ·have lt : ∀ (i j : Nat) (s t : ByteArray),(kL l)[i]? = some s → (kL l)[j]? = some t → i < j → ltS s t = true:=fun i j s t hi hj hlt=>by
   obtain ⟨hi1,rfl⟩:=List.getElem?_eq_some_iff.1 hi
   obtain ⟨hj1,rfl⟩:=List.getElem?_eq_some_iff.1 hj
   exact List.pairwise_iff_getElem.1 asc i j hi1 hj1 hlt
  have ne : ∀ {s t : ByteArray},ltS s t = true → s ≠ t:=fun hl e=>by
   have:=lt_ne hl
   rw [e,eqS_rfl] at this;cases this
  rcases Nat.lt_or_gt_of_ne hne with hlt | hlt
  ·exact ne (lt i j s t hi hj hlt)
  ·exact (ne (lt j i t s hj hi hlt)).symm
mutual
theorem tk_tree {N : List NodeV} : ∀ (v : BTv) (b d : Nat),Pt N b (nds b v) → okV d v → (enc v).length ≤ 65536 → ∀ x ∈ nds b v,x.kind = 10 → ∃ ts,TK N x ts
 | .int t,b,d,p,h,hs,x,hx,hk=>by rw [nds,List.mem_singleton] at hx;subst hx;cases hk
 | .str t,b,d,p,h,hs,x,hx,hk=>by
  rw [nds,List.mem_singleton] at hx;subst hx
  simp only at hk
  split at hk <;> cases hk
 | .list l,b,d,p,h,hs,x,hx,hk=>by
  rw [nds] at hx p
  simp only [enc,List.length_cons,List.length_append,List.length_nil] at hs
  rcases List.mem_cons.1 hx with rfl | hx
  ·cases hk
  ·exact tkL_tree l _ _ p.cons.2 h.2 (by omega) x hx hk
 | .map l,b,d,p,h,hs,x,hx,hk=>by
  rw [nds] at hx p
  simp only [enc,List.length_cons,List.length_append,List.length_nil] at hs
  rcases List.mem_cons.1 hx with rfl | hx
  ·exact ⟨_,kL_TK p.cons.2 h.2 (by omega)⟩
  ·exact tkD_tree l _ _ _ p.cons.2 h.2 (by omega) x hx hk
theorem tkL_tree {N : List NodeV} : ∀ (l : BTl) (b d : Nat),Pt N b (ndsL b l) → okL d l → (encL l).length ≤ 65536 → ∀ x ∈ ndsL b l,x.kind = 10 → ∃ ts,TK N x ts
 | .nil,b,d,p,h,hs,x,hx,hk=>by cases hx
 | .cons v l,b,d,p,h,hs,x,hx,hk=>by
  rw [ndsL] at hx p
  simp only [encL,List.length_append] at hs
  obtain ⟨p1,p2⟩:=p.split
  rw [nds_len] at p2
  rcases List.mem_append.1 hx with hx | hx
  ·exact tk_tree v _ _ p1 h.1 (by omega) x hx hk
  ·exact tkL_tree l _ _ p2 h.2 (by omega) x hx hk
theorem tkD_tree {N : List NodeV} : ∀ (l : BTd) (b d : Nat) (last : Option ByteArray),Pt N b (ndsD b l) → okD d last l → (encD l).length ≤ 65536 → ∀ x ∈ ndsD b l,x.kind = 10 → ∃ ts,TK N x ts
 | .nil,b,d,last,p,h,hs,x,hx,hk=>by cases hx
 | .cons key v l,b,d,last,p,h,hs,x,hx,hk=>by
  rw [ndsD] at hx p
  simp only [encD,List.length_append] at hs
  obtain ⟨p1,p2⟩:=p.cons
  obtain ⟨p3,p4⟩:=p2.split
  rw [nds_len] at p4
  rcases List.mem_cons.1 hx with rfl | hx
  ·cases hk
  ·rcases List.mem_append.1 hx with hx | hx
   ·exact tk_tree v _ _ p3 h.2.2.2.1 (by omega) x hx hk
   ·exact tkD_tree l _ _ _ p4 h.2.2.2.2 (by omega) x hx hk
end
theorem items_refs : ∀ (N : List NodeV) (j : Int),(N.flatMap NodeV.items).count j ≤ (refsL N).count j
 | [],j=>Nat.le_refl _
 | x :: N,j=>by
  have:=items_refs N j
  rw [List.flatMap_cons,refsL_cons,List.count_append,List.count_append]
  unfold refs
  rw [List.count_append];omega
theorem scnt_tree {v : BTv} (hn : nsz v ≤ 4096) : ∃ r,scnt (nds 0 v) 0 = some r∧∀ x ∈ r,x ≤ 1:=by
 have hp:=nsz_pos v
 have hl:=refs_len v 0
 have hit : ∀ y ∈ (nds 0 v).flatMap NodeV.items,y ∈ refsL (nds 0 v):=fun y hy=>by
  obtain ⟨x,hx,hy⟩:=List.mem_flatMap.1 hy
  exact List.mem_flatMap.2 ⟨x,hx,by unfold refs;exact List.mem_append_right _ hy⟩
 have hlen : ((nds 0 v).flatMap NodeV.items).length ≤ (refsL (nds 0 v)).length:=by
  have : ∀ N : List NodeV,(N.flatMap NodeV.items).length ≤ (refsL N).length:=fun N=>by
   induction N with
   | nil=>exact Nat.le_refl _
   | cons x N ih=>rw [List.flatMap_cons,refsL_cons,List.length_append,List.length_append];unfold refs;rw [List.length_append];omega
  exact this _
 have q1 : ∀ y ∈ (0 : Int) :: (nds 0 v).flatMap NodeV.items,∃ j : Nat,y = j∧j < (nds 0 v).length:=fun y hy=>by
  rw [nds_len]
  rcases List.mem_cons.1 hy with rfl | hy
  ·exact ⟨0,rfl,by omega⟩
  ·obtain ⟨j,h1,_,h2⟩:=ref_in (hit y hy) (ref_nn v 0 y (hit y hy))
   exact ⟨j,h1,by omega⟩
 unfold scnt
 rw [mk_rep,bumps_mk _ _ 0 q1 (fun _=>⟨by omega,by omega⟩) (by rw [List.length_cons];omega)]
 refine ⟨_,rfl,fun x hx=>?_⟩
 obtain ⟨j,hj⟩:=List.mem_iff_getElem?.1 hx
 have hlt:=lt_of_get hj
 unfold mk at hx
 obtain ⟨i,_,rfl⟩:=List.mem_map.1 hx
 have h1:=items_refs (nds 0 v) (i : Int)
 have h2:=cnt_tree v 0 i
 have h3:=cnt_one 0 i
 rw [List.count_cons]
 have h3 : (if (0 : Int) == (i : Int) then 1 else 0) = if i = 0 then 1 else 0:=h3
 rw [h3]
 split at h2 <;> split <;> omega
end Go.Sh
