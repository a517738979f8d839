
import Derived.Test.YtlbigfjnapgioaaGreatDoorPlain
set_option linter.all false
namespace Go.Sh
open Go Go.Ago Go.Proofs
mutual
inductive BTv where
 | int (t : ByteArray)
 | str (t : ByteArray)
 | list (l : BTl)
 | map (l : BTd)
inductive BTl where
 | nil
 | cons (v : BTv) (l : BTl)
inductive BTd where
 | nil
 | cons (k : ByteArray) (v : BTv) (l : BTd)
end
def decB (n : Nat) : List UInt8:=if n < 10 then [UInt8.ofNat (48 + n)] else decB (n / 10) ++ [UInt8.ofNat (48 + n % 10)]
termination_by n
def encS (t : ByteArray) : List UInt8:=decB t.size ++ 58 :: t.data.toList
mutual
def enc : BTv → List UInt8
 | .int t=>105 :: (t.data.toList ++ [101])
 | .str t=>encS t
 | .list l=>108 :: (encL l ++ [101])
 | .map l=>100 :: (encD l ++ [101])
def encL : BTl → List UInt8
 | .nil=>[]
 | .cons v l=>enc v ++ encL l
def encD : BTd → List UInt8
 | .nil=>[]
 | .cons k v l=>encS k ++ (enc v ++ encD l)
end
mutual
def nsz : BTv → Nat
 | .int _=>1
 | .str _=>1
 | .list l=>1 + nszL l
 | .map l=>1 + nszD l
def nszL : BTl → Nat
 | .nil=>0
 | .cons v l=>nsz v + nszL l
def nszD : BTd → Nat
 | .nil=>0
 | .cons _ v l=>1 + (nsz v + nszD l)
end
def idxL (b : Nat) : BTl → List Int
 | .nil=>[]
 | .cons v l=>(b : Int) :: idxL (b + nsz v) l
def keysD (b : Nat) : BTd → List Int
 | .nil=>[]
 | .cons _ v l=>(b : Int) :: keysD (b + 1 + nsz v) l
def valsD (b : Nat) : BTd → List Int
 | .nil=>[]
 | .cons _ v l=>((b + 1 : Nat) : Int) :: valsD (b + 1 + nsz v) l
mutual
def nds (b : Nat) : BTv → List NodeV
 | .int t=>[⟨2,t,false,[],[]⟩]
 | .str t=>[⟨if u8 t then 5 else 6,t,false,[],[]⟩]
 | .list l=>⟨9,ofBytes [],false,[],idxL (b + 1) l⟩ :: ndsL (b + 1) l
 | .map l=>⟨10,ofBytes [],false,keysD (b + 1) l,valsD (b + 1) l⟩ :: ndsD (b + 1) l
def ndsL (b : Nat) : BTl → List NodeV
 | .nil=>[]
 | .cons v l=>nds b v ++ ndsL (b + nsz v) l
def ndsD (b : Nat) : BTd → List NodeV
 | .nil=>[]
 | .cons k v l=>⟨5,k,false,[],[]⟩ :: (nds (b + 1) v ++ ndsD (b + 1 + nsz v) l)
end
mutual
def nsp : BTv → Nat
 | .int _=>1
 | .str _=>1
 | .list l=>1 + nspL l
 | .map l=>1 + nspD l
def nspL : BTl → Nat
 | .nil=>0
 | .cons v l=>nsp v + nspL l
def nspD : BTd → Nat
 | .nil=>0
 | .cons _ v l=>nsp v + nspD l
end
mutual
def sps (o b i : Nat) (par e kf kt : Int) : BTv → List SpanV
 | .int t=>[⟨b,par,e,o,(o + (enc (.int t)).length : Nat),kf,kt,false,true⟩]
 | .str t=>[⟨b,par,e,o,(o + (enc (.str t)).length : Nat),kf,kt,false,true⟩]
 | .list l=>⟨b,par,e,o,(o + (enc (.list l)).length : Nat),kf,kt,false,true⟩ :: spsL (o + 1) (b + 1) (i + 1) i 0 l
 | .map l=>⟨b,par,e,o,(o + (enc (.map l)).length : Nat),kf,kt,false,true⟩ :: spsD (o + 1) (b + 1) (i + 1) i 0 l
def spsL (o b i par k : Nat) : BTl → List SpanV
 | .nil=>[]
 | .cons v l=>sps o b i par k 0 0 v ++ spsL (o + (enc v).length) (b + nsz v) (i + nsp v) par (k + 1) l
def spsD (o b i par k : Nat) : BTd → List SpanV
 | .nil=>[]
 | .cons key v l=>sps (o + (encS key).length) (b + 1) i par k o ((o + (encS key).length : Nat)) v ++
   spsD (o + (encS key).length + (enc v).length) (b + 1 + nsz v) (i + nsp v) par (k + 1) l
end
mutual
def okV (d : Nat) : BTv → Prop
 | .int t=>d ≤ 32∧intOK t = true
 | .str _=>d ≤ 32
 | .list l=>d ≤ 32∧okL (d + 1) l
 | .map l=>d ≤ 32∧okD (d + 1) none l
def okL (d : Nat) : BTl → Prop
 | .nil=>True
 | .cons v l=>okV d v∧okL d l
def okD (d : Nat) (last : Option ByteArray) : BTd → Prop
 | .nil=>True
 | .cons k v l=>d ≤ 32∧u8 k = true∧(∀ t,last = some t → ltB k t = false)∧okV d v∧okD d (some k) l
end
mutual
theorem nds_len : ∀ (b : Nat) (v : BTv),(nds b v).length = nsz v
 | b,.int t=>rfl
 | b,.str t=>rfl
 | b,.list l=>by simp only [nds,nsz,List.length_cons];rw [ndsL_len (b + 1) l];omega
 | b,.map l=>by simp only [nds,nsz,List.length_cons];rw [ndsD_len (b + 1) l];omega
theorem ndsL_len : ∀ (b : Nat) (l : BTl),(ndsL b l).length = nszL l
 | b,.nil=>rfl
 | b,.cons v l=>by simp only [ndsL,nszL,List.length_append];rw [nds_len b v,ndsL_len (b + nsz v) l]
theorem ndsD_len : ∀ (b : Nat) (l : BTd),(ndsD b l).length = nszD l
 | b,.nil=>rfl
 | b,.cons k v l=>by simp only [ndsD,nszD,List.length_cons,List.length_append];rw [nds_len (b + 1) v,ndsD_len (b + 1 + nsz v) l];omega
end
mutual
theorem sps_len : ∀ (o b i : Nat) (par e kf kt : Int) (v : BTv),(sps o b i par e kf kt v).length = nsp v
 | _,_,_,_,_,_,_,.int t=>rfl
 | _,_,_,_,_,_,_,.str t=>rfl
 | o,b,i,_,_,_,_,.list l=>by simp only [sps,nsp,List.length_cons];rw [spsL_len (o + 1) (b + 1) (i + 1) i 0 l];omega
 | o,b,i,_,_,_,_,.map l=>by simp only [sps,nsp,List.length_cons];rw [spsD_len (o + 1) (b + 1) (i + 1) i 0 l];omega
theorem spsL_len : ∀ (o b i par k : Nat) (l : BTl),(spsL o b i par k l).length = nspL l
 | _,_,_,_,_,.nil=>rfl
 | o,b,i,par,k,.cons v l=>by simp only [spsL,nspL,List.length_append];rw [sps_len o b i par k 0 0 v,spsL_len _ _ _ par (k + 1) l]
theorem spsD_len : ∀ (o b i par k : Nat) (l : BTd),(spsD o b i par k l).length = nspD l
 | _,_,_,_,_,.nil=>rfl
 | o,b,i,par,k,.cons key v l=>by simp only [spsD,nspD,List.length_append];rw [sps_len _ (b + 1) i par k _ _ v,spsD_len _ _ _ par (k + 1) l]
end
theorem modify_comp {α : Type} {f g : α → α} : ∀ (l : List α) (n : Nat),(l.modify n f).modify n g = l.modify n (fun x=>g (f x))
 | [],n=>by simp
 | x :: l,0=>by simp
 | x :: l,n + 1=>by simp [modify_comp l n]
theorem modify_append {α : Type} {f : α → α} : ∀ (l r : List α) (n : Nat),n < l.length → (l ++ r).modify n f = l.modify n f ++ r
 | [],r,n,h=>by simp at h
 | x :: l,r,0,_=>by simp
 | x :: l,r,n + 1,h=>by simp [modify_append l r n (by simpa using h)]
theorem modify_id {α : Type} (l : List α) (n : Nat) : l.modify n (fun x=>x) = l:=by
 have : (fun x : α=>x) = id:=rfl
 rw [this];simp
theorem modify_last {α : Type} {f : α → α} {x : α} : ∀ (l : List α),(l ++ [x]).modify l.length f = l ++ [f x]
 | []=>by simp
 | y :: l=>by simp [modify_last l]
theorem decFrom_app (a : Nat) (D E : List UInt8) : decFrom a (D ++ E) = decFrom (decFrom a D) E:=by simp [decFrom,List.foldl_append]
theorem decVal_snoc (D : List UInt8) (c : UInt8) : decVal (D ++ [c]) = 10 * decVal D + (c.toNat - 48):=by
 show decFrom 0 (D ++ [c]) = _
 rw [decFrom_app];rfl
theorem dig_range {c : UInt8} (h : isDig c = true) : 48 ≤ c.toNat∧c.toNat ≤ 57:=by
 simp only [isDig,Bool.and_eq_true] at h
 exact ⟨Nat.le_of_ble_eq_true h.1,Nat.le_of_ble_eq_true h.2⟩
theorem dig_ofNat {c : UInt8} (h : isDig c = true) : UInt8.ofNat (48 + (c.toNat - 48)) = c:=by
 obtain ⟨h1,h2⟩:=dig_range h
 rw [show 48 + (c.toNat - 48) = c.toNat by omega]
 simp
theorem rev_ind {P : List UInt8 → Prop} (h0 : P []) (hs : ∀ l c,P l → P (l ++ [c])) (l : List UInt8) : P l:=by
 have key : ∀ r : List UInt8,P r.reverse:=by
  intro r
  induction r with
  | nil=>exact h0
  | cons a r ih=>rw [List.reverse_cons];exact hs _ _ ih
 have:=key l.reverse
 rwa [List.reverse_reverse] at this
theorem decVal_pos : ∀ D : List UInt8,D.all isDig = true → (∃ c r,D = c :: r∧c ≠ 48) → 1 ≤ decVal D:=by
 intro D
 induction D using rev_ind with
 | h0=>rintro _ ⟨c,r,h,_⟩;cases h
 | hs l c ih =>
  intro hd hx
  rw [decVal_snoc]
  rw [List.all_append,Bool.and_eq_true] at hd
  cases l with
  | nil =>
   obtain ⟨c',r,h1,h2⟩:=hx
   simp at h1
   obtain ⟨rfl,rfl⟩:=h1
   have hdc : isDig c = true:=by simpa using hd.2
   have h3:=(dig_range hdc).1
   have h4 : c.toNat ≠ 48:=fun e=>h2 (by apply UInt8.toNat.inj;rw [e];rfl)
   omega
  | cons a l =>
   obtain ⟨c',r,h1,h2⟩:=hx
   simp only [List.cons_append,List.cons.injEq] at h1
   have:=ih hd.1 ⟨a,l,rfl,by rw [h1.1];exact h2⟩
   omega
theorem decB_decVal : ∀ D : List UInt8,D.all isDig = true → D ≠ [] → ¬ (1 < D.length∧D.head? = some 48) → decB (decVal D) = D:=by
 intro D
 induction D using rev_ind with
 | h0=>intro _ h;exact absurd rfl h
 | hs l c ih =>
  intro hd _ hz
  rw [List.all_append,Bool.and_eq_true] at hd
  have hdc : isDig c = true:=by simpa using hd.2
  obtain ⟨h3,h4⟩:=dig_range hdc
  cases l with
  | nil =>
   rw [decVal_snoc]
   show decB (10 * 0 + (c.toNat - 48)) = [c]
   unfold decB
   rw [if_pos (by omega),Nat.mul_zero,Nat.zero_add,dig_ofNat hdc]
  | cons a l =>
   have ha : a ≠ 48:=fun e=>hz ⟨by simp,by simp [e]⟩
   have ih:=ih hd.1 (by simp) (fun h=>ha (by simpa using h.2))
   have hp:=decVal_pos (a :: l) hd.1 ⟨a,l,rfl,ha⟩
   rw [decVal_snoc]
   unfold decB
   rw [if_neg (by omega),show (10 * decVal (a :: l) + (c.toNat - 48)) / 10 = decVal (a :: l) by omega,ih,
    show (10 * decVal (a :: l) + (c.toNat - 48)) % 10 = c.toNat - 48 by omega,dig_ofNat hdc]
theorem exl' (s : ByteArray) (a b : Nat) : (s.extract a b).data.toList = (s.data.toList.drop a).take (b - a):=by simp [ByteArray.data_extract]
theorem digs_split (L : List UInt8) : ∃ R,L = digs L ++ R∧(∀ c r,R = c :: r → isDig c = false):=by
 induction L with
 | nil=>exact ⟨[],rfl,by simp⟩
 | cons c L ih =>
  unfold digs
  rw [List.takeWhile_cons]
  cases hc : isDig c with
  | false=>exact ⟨c :: L,by simp,fun c' r e=>by cases e;exact hc⟩
  | true =>
   obtain ⟨R,h1,h2⟩:=ih
   refine ⟨R,?_,h2⟩
   simp only [if_true,List.cons_append,List.cons.injEq,true_and]
   exact h1
theorem digs_dig (L : List UInt8) : (digs L).all isDig = true:=by
 induction L with
 | nil=>rfl
 | cons c L ih =>
  unfold digs
  rw [List.takeWhile_cons]
  cases hc : isDig c with
  | false=>simp
  | true=>simp only [if_true,List.all_cons,hc,Bool.true_and];exact ih
theorem text_ok {s t : ByteArray} {a a2 : Nat} (h : spText s a = .ok (t,a2)) : s.data.toList.drop a = encS t ++ s.data.toList.drop a2∧a2 = a + (encS t).length:=by
 unfold spText at h
 simp only at h
 generalize hL : s.data.toList = L at h
 obtain ⟨R,h1,_⟩:=digs_split (L.drop a)
 have hdd:=digs_dig (L.drop a)
 generalize digs (L.drop a) = D at *
 split at h
 ·cases h
 ·rename_i hD0
  split at h
  ·cases h
  ·rename_i hz
   split at h
   ·cases h
   ·rename_i c hc
    split at h
    ·rename_i hc58
     split at h
     ·cases h
     ·rename_i hlen
      cases h
      have hsz : s.size = L.length:=by rw [← hL];rfl
      have hlt:=(List.getElem?_eq_some_iff.1 hc).1
      have hR : R = L.drop (a + D.length):=by rw [← List.drop_drop,h1,List.drop_left]
      have hR2 : R = 58 :: L.drop (a + D.length + 1):=by
       rw [hR,List.drop_eq_getElem_cons hlt,(List.getElem?_eq_some_iff.1 hc).2,hc58]
      have hDne : D ≠ []:=fun e=>hD0 (by rw [e];rfl)
      have hhead : L[a]? = D.head?:=by
       cases D with
       | nil=>exact absurd rfl hDne
       | cons d D =>
        have : (L.drop a)[0]? = some d:=by rw [h1];rfl
        rw [List.getElem?_drop] at this
        simpa using this
      have hdec : decB (decVal D) = D:=decB_decVal D hdd hDne (by rw [← hhead];exact hz)
      have hts : (s.extract (a + D.length + 1) (a + D.length + 1 + decVal D)).data.toList = (L.drop (a + D.length + 1)).take (decVal D):=by
       rw [exl',hL,Nat.add_sub_cancel_left]
      have htl : (s.extract (a + D.length + 1) (a + D.length + 1 + decVal D)).size = decVal D:=by
       have : (s.extract (a + D.length + 1) (a + D.length + 1 + decVal D)).size = (s.extract (a + D.length + 1) (a + D.length + 1 + decVal D)).data.toList.length:=rfl
       rw [this,hts,List.length_take,List.length_drop]
       omega
      refine ⟨?_,?_⟩
      ·unfold encS
       rw [htl,hdec,hts,h1,hR2,List.append_assoc,List.cons_append]
       congr 2
       rw [← List.drop_drop (i:=decVal D),List.take_append_drop]
      ·unfold encS
       rw [htl,hdec,hts,List.length_append,List.length_cons,List.length_take,List.length_drop]
       omega
    ·cases h
theorem findIdx_split {x : List UInt8} {j : Nat} (h : x.findIdx? (fun b=>b == 101) = some j) : x = x.take j ++ 101 :: x.drop (j + 1)∧j < x.length:=by
 rw [List.findIdx?_eq_some_iff_getElem] at h
 obtain ⟨hlt,he,_⟩:=h
 refine ⟨?_,hlt⟩
 have he : x[j] = 101:=by simpa using he
 conv=>lhs;rw [← List.take_append_drop j x,List.drop_eq_getElem_cons hlt,he]
end Go.Sh
