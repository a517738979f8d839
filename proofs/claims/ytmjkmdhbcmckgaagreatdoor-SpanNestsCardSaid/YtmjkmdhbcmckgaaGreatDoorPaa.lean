
import Derived.Test.YtmjkmdhbcmckgaaGreatDoorBi
import Derived.Test.YtmjkmdhbcmckgaaGreatDoorAgoY
import Derived.Test.YtmjkmdhbcmckgaaGreatDoorGr
import Derived.Test.YtmjkmdhbcmckgaaGreatDoorGi
import Derived.Lib.IndexLaws
set_option linter.all false
namespace Go.Sh
open Go Go.Ago Go.Proofs
variable {α β:Type}{h h' h0:AHeap}{L:List Own}{Q:β→AHeap→Prop}{k:Nat}
abbrev v8 (x:Int):Value:=.int .u8 x
def dig1 (b:UInt8):Int:=IntKind.u8.wrap ((b.toNat:Int) - 48)
def dgs (s:ByteArray):List Int:=s.data.toList.map dig1
def stripR:List Int→Int→List Int×Int
 | [],e=>([],e)
 | x::r,e=>if x=0 then stripR r (IntKind.i64.wrap (e+1)) else ((x::r).reverse,e)
def stripL:List Int→List Int
 | []=>[]
 | x::r=>if x=0 then stripL r else x::r
def normP (neg:Bool)(D:List Int)(e:Int):Bool×List Int×Int :=
 if (stripR (stripL D).reverse e).1.length=0 then (false,[],0) else (neg,(stripR (stripL D).reverse e).1,(stripR (stripL D).reverse e).2)
theorem stripL_le:∀ D:List Int,(stripL D).length≤D.length
 | []=>Nat.le_refl _
 | x::r=>by
  unfold stripL
  split
  ·have:=stripL_le r;simp;omega
  ·exact Nat.le_refl _
theorem stripR_le:∀ (D:List Int) (e:Int),(stripR D e).1.length≤D.length
 | [],e=>Nat.le_refl _
 | x::r,e=>by
  unfold stripR
  split
  ·have:=stripR_le r (IntKind.i64.wrap (e+1));simp;omega
  ·simp
def BL (h:AHeap)(s:Sl)(xs:List Int)(g:Nat):Prop:=RSl h s 1 (xs.map v8) g
theorem fill_set {γ:Type}{D:List γ}{z d:γ}{i:Nat}(hd:D[i]?=some d):(D.take i++List.replicate (D.length - i) z).set i d=D.take (i+1)++List.replicate (D.length - (i+1)) z:=by
 have hlt:=(List.getElem?_eq_some_iff.1 hd).1
 have hl:(D.take i).length=i:=by rw [List.length_take];omega
 obtain⟨m,hm⟩:∃ m,D.length - i=m+1:=⟨D.length - i - 1,by omega⟩
 rw [hm,List.replicate_succ,List.set_append_right _ _ (by omega),hl,Nat.sub_self,List.set_cons_zero,List.take_succ,hd,show D.length - (i+1)=m by omega]
 simp
theorem Z.gne (z:Z h0 h L)(i:Nat){b k:Nat}{cs:List Value}{e:TypeId}(hi:L[i]?=some (.blk b cs e))(hk:b≠k):∀ c g base e',h.get b=some (.cells c g base e')→g≠k+1:=fun c g base e' hg=>by
 have l:LB h b cs e:=z.get i hi
 rw [l.get] at hg
 cases hg
 omega
theorem bytes_loop {s:ByteArray}{b:Nat}(hs:s.size≤65536)(hb:b≠k):∀ (n i:Nat) (h:AHeap),s.size - i<n→i≤s.size→Z h0 h (.blk b (((dgs s).take i++List.replicate ((dgs s).length - i) 0).map v8) T_u8::L) →
  Lp k (decimal_bytes_L0 n s ⟨some ⟨b,0,none⟩,s.size,s.size+1⟩ (s.size:Int) (i:Int)) h fun _ h'=>Z h0 h' (.blk b ((dgs s).map v8) T_u8::L):=by
 have hl:(dgs s).length=s.size:=by unfold dgs;rw [List.length_map];exact size_toList s
 intro n
 induction n with
 | zero=>intro i h h1;omega
 | succ n ih =>
  intro i h h1 h2 z
  rw [decimal_bytes_L0_succ]
  unfold decimal_bytes_L0_B
  refine Lp_ite (fun hc=>?_) fun hc=>?_
  ·have hi:i<s.size:=by simp only [decide_eq_true_eq] at hc;omega
   obtain⟨c,hc1⟩:∃ c,s[i]?=some c:=⟨s[i],by simp [hi]⟩
   have hd:(dgs s)[i]?=some (dig1 c):=by
    unfold dgs
    rw [List.getElem?_map]
    rw [← ba_get s i]
    rw [hc1];rfl
   refine Lp.step ?_ (fun _ _ hx=>BP.pm (Pm.idxS _ _) hx)
   rw [Wp_bind,Wp_idxS]
   refine⟨c,by omega,by simpa using hc1,Wp_pure.2 ?_⟩
   refine Lp.step (ixB (by omega) (by omega) (Wp_pure.2 ?_)) fun _ _ hx=>BP.pm (Pm.idxA _ _ _) hx
   simp only [Int.toNat_natCast,Nat.mul_one]
   have hg:=Z.gne z 0 rfl hb
   refine Lp.step (Z.stA z 0 (enc:=v8) (xs:=(dgs s).take i++List.replicate ((dgs s).length - i) 0) (k:=i) (v:=dig1 c) (by simp;omega) fun h' z'=>Wp_pure.2 ?_) fun _ _ hx=>BP.stN hb hg hx
   rw [fill_set hd] at z'
   rw [up1 (B:=65536) (by omega) (by omega)]
   exact ih (i+1) h' (by omega) (by omega) z'
  ·have hi:i=s.size:=by simp only [decide_eq_true_eq] at hc;omega
   refine Lp.pure ?_
   rw [hi,← hl] at z
   simpa using z
theorem bytes_lp (z:Z h0 h L){s:ByteArray}{n:Nat}(hs:s.size≤65536)(hn:s.size<n)(hk:k<h.next) :
  Lp k (decimal_bytes n s) h fun x h'=>∃ b,x=⟨some ⟨b,0,none⟩,s.size,s.size+1⟩∧b≠k∧Z h0 h' (.blk b ((dgs s).map v8) T_u8::L):=by
 unfold decimal_bytes
 have hl:(dgs s).length=s.size:=by unfold dgs;rw [List.length_map];exact size_toList s
 refine Lp.step ?_ fun _ _ hx=>BP.mkS hx
 rw [Wp_bind]
 refine Wp_mkS (z:=[v8 0]) (by omega) (Int.le_refl _) (by unfold bigN;omega) (Wp_pure.2 ?_)
 have hf:=Fr.new (e:=T_u8) (cs:=(List.replicate s.size [v8 0]).flatten) z.wf
 have z1:=z.add hf (o:=.blk h.next _ T_u8) LB.new (.inr (Nat.lt_succ_self _))
 have e1:(List.replicate s.size [v8 0]).flatten=((dgs s).take 0++List.replicate ((dgs s).length - 0) 0).map v8:=by
  rw [hl];simp [List.flatten_replicate_singleton]
 simp only [Int.toNat_natCast]
 rw [e1] at z1 ⊢
 refine Lp.bind ((bytes_loop hs (by omega) n 0 _ (by omega) (by omega) z1).mono fun _ h' z2=>Lp.pure ⟨h.next,rfl,by omega,z2⟩)
theorem part_ld (z:Z h0 h L)(i:Nat){b o m c:Nat}{xs:List Int}{j:Int}{x:Int}(hi:L[i]?=some (.blk b (xs.map v8) T_u8))(hx:((xs.drop o).take m)[j.toNat]?=some x)(h1:0≤j)(hb:b≠k){f:Int→M β}(q:Lp k (f x) h Q) :
  Lp k (M.bind (idxA ⟨some ⟨b,o,none⟩,m,c⟩ j 1) fun a=>M.bind (ldL (.int .u8) a) f) h Q:=by
 have hlt:=(List.getElem?_eq_some_iff.1 hx).1
 rw [List.length_take] at hlt
 have l:LB h b (xs.map v8) T_u8:=z.get i hi
 refine Lp.step ?_ fun _ _ hx=>BP.pm (Pm.idxA _ _ _) hx
 rw [Wp_bind,Wp_idxA]
 refine⟨_,rfl,h1,by simp only;omega,Wp_pure.2 ?_⟩
 refine Lp.step ?_ fun _ _ hx=>BP.ldL (by simpa [Addr.plus] using hb) hx
 rw [Wp_bind,Wp_ldL]
 refine⟨x,?_,Wp_pure.2 q⟩
 refine l.ld (v:=v8 x) ?_ rfl
 rw [List.getElem?_take,List.getElem?_drop] at hx
 split at hx
 ·simp only [Addr.plus,Nat.mul_one]
  rw [List.getElem?_map,hx];rfl
 ·cases hx
theorem part_sl (z:Z h0 h L)(i:Nat){b o m c:Nat}{xs:List Int}{lo hi:Int}(hL:L[i]?=some (.blk b (xs.map v8) T_u8))(h1:0≤lo)(h2:lo≤hi)(h3:hi≤m)(hb:b≠k){f:Sl→M β}
  (q:∀ c',Lp k (f ⟨some ⟨b,o+lo.toNat,none⟩,hi.toNat - lo.toNat,c'⟩) h Q):Lp k (M.bind (sliceL ⟨some ⟨b,o,none⟩,m,c⟩ lo hi T_u8 1) f) h Q:=by
 have l:LB h b (xs.map v8) T_u8:=z.get i hL
 refine Lp.step ?_ fun _ _ hx=>BP.rm (Rm.sliceL _ _ _ _ _) (fun b' hb'=>by cases hb';exact hb) hx
 rw [Wp_bind]
 refine Wp_sliceL h1 h2 (by simpa using h3) (by simp [elemOk,l.get]) ?_
 simp only [Option.map_some,Addr.plus,Nat.mul_one]
 exact Wp_pure.2 (q _)
theorem norm_L0 (z:Z h0 h L)(i:Nat){b:Nat}{xs:List Int}(hL:L[i]?=some (.blk b (xs.map v8) T_u8))(hb:b≠k)(neg:Bool)(e:Int)(a3:Addr):∀ (n o m c:Nat),m<n→o+m≤xs.length →
  Lp k (decimal_norm_L0 n neg ⟨some ⟨b,o,none⟩,m,c⟩ e a3) h fun r h'=>h'=h∧∃ o' m' c',r=⟨some ⟨b,o',none⟩,m',c'⟩∧o'+m'≤xs.length∧(xs.drop o').take m'=stripL ((xs.drop o).take m):=by
 intro n
 induction n with
 | zero=>intro o m c h1;omega
 | succ n ih =>
  intro o m c h1 h2
  rw [decimal_norm_L0_succ]
  unfold decimal_norm_L0_B
  refine Lp_ite (fun hc=>?_) fun hc=>?_
  ·have hm:0<m:=by simp only [decide_eq_true_eq] at hc;omega
   obtain⟨m,rfl⟩:∃ m',m=m'+1:=⟨m - 1,by omega⟩
   obtain⟨x,hx⟩:∃ x,xs[o]?=some x:=⟨xs[o],List.getElem?_eq_getElem (by omega)⟩
   have hd:(xs.drop o).take (m+1)=x::(xs.drop (o+1)).take m:=by
    rw [drop_cons hx,List.take_succ_cons]
   refine part_ld z i hL (x:=x) (by rw [hd];rfl) (by omega) hb ?_
   rw [hd]
   refine Lp_ite (fun h0=>?_) fun h0=>?_
   ·have h0:x=0:=by simpa using h0
    refine part_sl z i hL (by omega) (by simp only;omega) (by simp only;omega) hb fun c'=>?_
    rw [show o+(1:Int).toNat=o+1 from rfl,show ((((⟨some ⟨b,o,none⟩,m+1,c⟩:Sl).len:Nat):Int).toNat - (1:Int).toNat)=m by simp]
    refine (ih (o+1) m c' (by omega) (by omega)).mono fun r h' hr=>?_
    obtain⟨r1,o',m',c2,r2,r3,r4⟩:=hr
    refine⟨r1,o',m',c2,r2,r3,?_⟩
    rw [r4,stripL,if_pos h0]
   ·have h0:¬ x=0:=by simpa using h0
    exact Lp.pure ⟨rfl,o,m+1,c,rfl,h2,by rw [hd,stripL,if_neg h0]⟩
  ·have hm:m=0:=by simp only [decide_eq_true_eq] at hc;omega
   subst hm
   exact Lp.pure ⟨rfl,o,0,c,rfl,h2,by simp [stripL]⟩
theorem norm_L1 (z:Z h0 h L)(i:Nat){b:Nat}{xs:List Int}(hL:L[i]?=some (.blk b (xs.map v8) T_u8))(hb:b≠k)(hxs:xs.length≤65536)(neg:Bool)(a3:Addr):∀ (n o m c:Nat) (e:Int),m<n→o+m≤xs.length →
  Lp k (decimal_norm_L1 n neg ⟨some ⟨b,o,none⟩,m,c⟩ e a3) h fun r h'=>h'=h∧∃ m' c',r.1=⟨some ⟨b,o,none⟩,m',c'⟩∧o+m'≤xs.length∧stripR ((xs.drop o).take m).reverse e=((xs.drop o).take m',r.2):=by
 intro n
 induction n with
 | zero=>intro o m c e h1;omega
 | succ n ih =>
  intro o m c e h1 h2
  rw [decimal_norm_L1_succ]
  unfold decimal_norm_L1_B
  refine Lp_ite (fun hc=>?_) fun hc=>?_
  ·have hm:0<m:=by simp only [decide_eq_true_eq] at hc;omega
   obtain⟨m,rfl⟩:∃ m',m=m'+1:=⟨m - 1,by omega⟩
   obtain⟨x,hx⟩:∃ x,xs[o+m]?=some x:=⟨xs[o+m],List.getElem?_eq_getElem (by omega)⟩
   have hx2:(xs.drop o)[m]?=some x:=by rw [List.getElem?_drop];exact hx
   have hd:(xs.drop o).take (m+1)=(xs.drop o).take m++[x]:=by rw [List.take_succ,hx2];rfl
   have ew:IntKind.i64.wrap ((((⟨some ⟨b,o,none⟩,m+1,c⟩:Sl).len:Nat):Int) - 1)=(m:Int):=by
    rw [w64 (by simp only;omega) (by simp only;omega)];simp only;omega
   rw [ew]
   refine part_ld z i hL (x:=x) (by rw [hd,Int.toNat_natCast,List.getElem?_append_right (by rw [List.length_take];omega),List.length_take,List.length_drop,show m - min m (xs.length - o)=0 by omega];rfl) (by omega) hb ?_
   rw [hd,List.reverse_append,List.reverse_singleton,List.singleton_append]
   refine Lp_ite (fun h0=>?_) fun h0=>?_
   ·have h0:x=0:=by simpa using h0
    refine part_sl z i hL (by omega) (by omega) (by omega) hb fun c'=>?_
    rw [show o+(0:Int).toNat=o from rfl,show ((m:Int).toNat - (0:Int).toNat)=m by simp]
    refine (ih o m c' _ (by omega) (by omega)).mono fun r h' hr=>?_
    obtain⟨r1,m',c2,r2,r3,r4⟩:=hr
    refine⟨r1,m',c2,r2,r3,?_⟩
    rw [stripR,if_pos h0];exact r4
   ·have h0:¬ x=0:=by simpa using h0
    refine Lp.pure ⟨rfl,m+1,c,rfl,h2,?_⟩
    rw [stripR,if_neg h0,hd]
    simp
  ·have hm:m=0:=by simp only [decide_eq_true_eq] at hc;omega
   subst hm
   exact Lp.pure ⟨rfl,0,c,rfl,h2,by simp [stripR]⟩
theorem newB_lp (z:Z h0 h L){e:TypeId}{cs:List Value}{f:Nat→M β}(q:∀ h',Z h0 h' (.blk h.next cs e::L)→h'.next=h.next+1→Lp k (f h.next) h' Q)(hs:cs.all scal=true:=by rfl):Lp k (M.bind (newB none e cs) f) h Q:=by
 refine Lp.step ?_ fun _ _ hx=>BP.newB hx
 rw [Wp_bind,Wp_new]
 have hf:=Fr.new (e:=e) (cs:=cs) z.wf
 exact⟨hs,Wp_pure.2 (q _ (z.add hf (o:=.blk h.next cs e) LB.new (.inr (Nat.lt_succ_self _))) rfl)⟩
theorem mkA_lp (z:Z h0 h L){e:TypeId}{v:Value}{m:Nat}{f:Sl→M β}(hm:m≤65536)(q:∀ h',Z h0 h' (.blk h.next (List.replicate m v) e::L)→h'.next=h.next+1→Lp k (f ⟨some ⟨h.next,0,none⟩,m,m+1⟩) h' Q)(hs:scal v=true:=by rfl):Lp k (M.bind (mkS none e [v] (m:Int) (m:Int)) f) h Q:=by
 refine Lp.step ?_ fun _ _ hx=>BP.mkS hx
 rw [Wp_bind]
 refine Wp_mkS (z:=[v]) (by omega) (Int.le_refl _) (by unfold bigN;omega) (Wp_pure.2 ?_) (by simp [hs])
 have hf:=Fr.new (e:=e) (cs:=(List.replicate m [v]).flatten) z.wf
 have z1:=z.add hf (o:=.blk h.next _ e) LB.new (.inr (Nat.lt_succ_self _))
 simp only [Int.toNat_natCast]
 refine q _ ?_ rfl
 rwa [show List.replicate m v=(List.replicate m [v]).flatten by simp [List.flatten_replicate_singleton]]
theorem st_lp (z:Z h0 h L)(i:Nat){b o:Nat}{cs vs cs':List Value}{e:TypeId}{f:Unit→M β}(hb:b≠k)(q:∀ h',Z h0 h' (L.set i (.blk b cs' e))→h'.next=h.next→Lp k (f ()) h' Q)(hi:L[i]?=some (.blk b cs e):=by rfl)(hc:splice cs o vs=cs':=by rfl)
  (ho:o+vs.length≤cs.length:=by first | decide | simp) (hs:vs.all scal=true:=by rfl):Lp k (M.bind (stN ⟨b,o,none⟩ vs) f) h Q:=by
 have hg:=Z.gne z i hi hb
 refine Lp.step ?_ fun _ _ hx=>BP.stN hb hg hx
 have l:LB h b cs e:=z.get i hi
 have w:=Z.st z i (f:=M.pure) (Q:=fun _ h'=>Z h0 h' (L.set i (.blk b cs' e))) (fun h' z'=>Wp_pure.2 z') hi hc ho hs
 have hn:Wp (M.bind (stN ⟨b,o,none⟩ vs) M.pure) h fun _ h'=>h'.next=h.next:=by
  rw [Wp_bind,Wp_stN]
  exact⟨cs,b+1,0,e,l.get,by omega,ho,hs,Wp_pure.2 rfl⟩
 obtain⟨x,h1,e1,q1⟩:=w
 obtain⟨y,h2,e2,q2⟩:=hn
 rw [e1] at e2
 cases e2
 exact⟨x,h1,e1,q h1 q1 q2⟩
theorem lds_lp (z:Z h0 h L)(i:Nat){b:Nat}{cs:List Value}{e:TypeId}{ls:List Leaf}{x:LsDen ls}{f:LsDen ls→M β}(hb:b≠k)(q:Lp k (f x) h Q)(hi:L[i]?=some (.blk b cs e):=by rfl)(hx:unLs ls cs=some x:=by rfl)(hl:ls.length=cs.length:=by rfl) :
  Lp k (M.bind (ldLs ls ⟨b,0,none⟩) f) h Q :=
 Lp.step (Z.lds z i (f:=M.pure) (Wp_pure.2 q) hi hx hl) fun _ _ hx=>BP.ldLs (by exact hb) hx
theorem copy_lp (z:Z h0 h L)(i j:Nat){b b2 o m c:Nat}{xs:List Int}{f:Nat→M β}(hi:L[i]?=some (.blk b2 (List.replicate m (v8 0)) T_u8))(hj:L[j]?=some (.blk b (xs.map v8) T_u8))(hb:b≠k)(hb2:b2≠k)(hm:0<m)(ho:o+m≤xs.length)
  (q:∀ h',Z h0 h' (L.set i (.blk b2 (((xs.drop o).take m).map v8) T_u8))→h'.next=h.next→Lp k (f m) h' Q):Lp k (M.bind (copyS ⟨some ⟨b2,0,none⟩,m,m+1⟩ ⟨some ⟨b,o,none⟩,m,c⟩ 1) f) h Q:=by
 have hg:=Z.gne z i hi hb2
 refine Lp.step ?_ fun _ _ hx=>BP.copyS (fun b' hb'=>by cases hb';exact hb) (fun b' hb'=>by cases hb';exact⟨hb2,hg⟩) hx
 have l:LB h b (xs.map v8) T_u8:=z.get j hj
 have hl:(((xs.drop o).take m).map v8).length=m:=by simp;omega
 have hcell:cellsAt h (some ⟨b,o,none⟩) (Nat.min m m * 1)=some (((xs.drop o).take m).map v8):=by
  unfold cellsAt
  simp only [l.get]
  rw [if_pos (by simp;omega)]
  simp [List.map_take,List.map_drop]
 have hall:(((xs.drop o).take m).map v8).all scal=true:=by
  rw [List.all_map,List.all_eq_true];intro x _;rfl
 have w:=Z.st z i (o:=0) (vs:=((xs.drop o).take m).map v8) (cs':=((xs.drop o).take m).map v8) (f:=M.pure) (Q:=fun _ h'=>Z h0 h' (L.set i (.blk b2 (((xs.drop o).take m).map v8) T_u8)))
  (fun h' z'=>Wp_pure.2 z') hi (by unfold splice;rw [Nat.zero_add,hl];simp) (by rw [hl];simp) hall
 have hn:Wp (M.bind (stN ⟨b2,0,none⟩ (((xs.drop o).take m).map v8)) M.pure) h fun _ h'=>h'.next=h.next:=by
  have l2:LB h b2 _ _:=z.get i hi
  rw [Wp_bind,Wp_stN]
  exact⟨_,b2+1,0,_,l2.get,by omega,by rw [hl];simp,hall,Wp_pure.2 rfl⟩
 obtain⟨x,h1,e1,q1⟩:=w
 obtain⟨y,h2,e2,q2⟩:=hn
 rw [e1] at e2
 cases e2
 have e3:stN ⟨b2,0,none⟩ (((xs.drop o).take m).map v8) h=some ((),h1):=by
  unfold M.bind at e1
  split at e1
  ·rename_i u h5 hu;cases e1;exact hu
  ·cases e1
 refine⟨m,h1,?_,q h1 q1 q2⟩
 have e4:copyS ⟨some ⟨b2,0,none⟩,m,m+1⟩ ⟨some ⟨b,o,none⟩,m,c⟩ 1 h=some (m,h1):=by
  unfold copyS
  simp only [hcell]
  cases hv:((xs.drop o).take m).map v8 with
  | nil=>rw [hv] at hl;simp at hl;omega
  | cons v r =>
   rw [hv] at e3
   simp only [e3,Nat.min_self]
 simp only [M.bind,e4,M.pure]
theorem norm_lp {b n c:Nat}{xs:List Int}(z:Z h0 h (.blk b (xs.map v8) T_u8::L))(hb:b≠k)(hk:k<h.next)(hx:xs.length≤65536)(hn:xs.length<n)(neg:Bool)(e:Int) :
  Lp k (decimal_norm n neg ⟨some ⟨b,0,none⟩,xs.length,c⟩ e) h fun r h'=>r.1=(normP neg xs e).1∧r.2.2=(normP neg xs e).2.2∧Z h0 h' L∧∃ g,BL h' r.2.1 (normP neg xs e).2.1 g∧g≠k+1∧g≤h'.next:=by
 unfold decimal_norm
 refine newB_lp z fun h1 z1 n1=>?_
 refine Lp.bind ((norm_L0 z1 1 rfl hb neg e _ n 0 xs.length c hn (by omega)).mono fun r h' hr=>?_)
 obtain⟨hh,o,m,c',rfl,hom,e1⟩:=hr
 have hh:=hh.symm
 subst hh
 rw [List.drop_zero,List.take_length] at e1
 have hm:=stripL_le xs
 rw [← e1,List.length_take,List.length_drop] at hm
 refine Lp.bind ((norm_L1 z1 1 rfl hb hx neg _ n o m c' e (by omega) hom).mono fun r h' hr=>?_)
 obtain⟨hh,m2,c2,e2,hom2,e3⟩:=hr
 have hh:=hh.symm
 subst hh
 obtain⟨sl,ee⟩:=r
 simp only at e2 e3
 subst e2
 rw [e1] at e3
 have e4:(stripR (stripL xs).reverse e).1=(xs.drop o).take m2:=by rw [e3]
 have e5:(stripR (stripL xs).reverse e).2=ee:=by rw [e3]
 have el:((xs.drop o).take m2).length=m2:=by rw [List.length_take,List.length_drop];omega
 have hxk:h.next≠k:=by omega
 refine Lp_ite (fun hc=>?_) fun hc=>?_
 ·have hm0:m2=0:=by simp only [decide_eq_true_eq] at hc;omega
  have en:normP neg xs e=(false,[],0):=by unfold normP;rw [e4,el,if_pos hm0]
  refine st_lp z1 0 (cs':=[.bool false,vsl0,vi 0]) hxk fun h2 z2 n2=>?_
  refine lds_lp z2 0 (x:=((false,sl0,0):LsDen [.bool,.sl,li])) hxk (Lp.pure ?_)
  rw [en]
  exact⟨rfl,rfl,z2.drop.drop,0,RSl.nil rfl,by omega,Nat.zero_le _⟩
 ·have hm0:0<m2:=by simp only [decide_eq_true_eq] at hc;omega
  have en:normP neg xs e=(neg,(xs.drop o).take m2,ee):=by unfold normP;rw [e4,e5,el,if_neg (by omega)]
  refine mkA_lp (m:=m2) z1 (by omega) fun h2 z2 n2=>?_
  have hbk:h1.next≠k:=by omega
  refine copy_lp z2 0 2 rfl rfl hb hbk hm0 hom2 fun h3 z3 n3=>?_
  refine st_lp z3 1 (cs':=[.bool neg,.slice (some ⟨h1.next,0,none⟩) m2 (m2+1),vi ee]) hxk fun h4 z4 n4=>?_
  refine lds_lp z4 1 (x:=((neg,⟨some ⟨h1.next,0,none⟩,m2,m2+1⟩,ee):LsDen [.bool,.sl,li])) hxk (Lp.pure ?_)
  rw [en]
  have l:LB h4 h1.next (((xs.drop o).take m2).map v8) T_u8:=z4.get 0 rfl
  exact⟨rfl,rfl,z4.drop.drop.drop,h1.next+1,l.rsl (by simp;omega),by omega,by omega⟩
end Go.Sh
set_option linter.all false
namespace Go.Sh
open Go Go.Ago Go.Proofs
variable {α β:Type}{h h' h0:AHeap}{L:List Own}{Q:β→AHeap→Prop}
theorem _root_.Go.Ago.Z.callC (z:Z h0 h L)(i:Nat){b:Nat}{a:Addr}{cs:List Value}{e:TypeId}{m:M α}{f:α→M β}{P:α→Prop}(hm:Wp m h fun r h'=>P r∧Fr (fun _=>False) h h')
  (q:∀ r h',P r→Fr (fun _=>False) h h'→Z h0 h' L→Wp (f r) h' Q) (hi:L[i]?=some (.blk b cs e):=by rfl) (ha:a.block=b:=by rfl):Wp (M.bind (Ago.chk [some a] m) f) h Q:=by
 rw [Wp_bind]
 have l:LB h b cs e:=z.get i hi
 refine chk_Wp (hm.mono fun r h' hp=>⟨fun a' hma=>?_,q r h' hp.1 hp.2 (z.pure hp.2)⟩)
 simp only [List.mem_singleton,Option.some.injEq] at hma
 subst hma
 rw [ha,l.get]
 exact hp.2.cells _ _ _ _ _ l.get fun x=>x.elim
theorem BL.fr {s:Sl}{D:List Int}{g:Nat}(b:BL h s D g)(f:Fr (fun _=>False) h h'):BL h' s D g:=RSl.fr b f fun x=>x.elim
theorem BL.len {s:Sl}{D:List Int}{g:Nat}(b:BL h s D g):s.len=D.length:=RSl.len1 (enc:=v8) b
def limP (D:List Int)(e:Int):Int:=if 400<D.length then 6 else if e < -2000 then 2 else if 2000<e then 2 else 0
def byt (x:Int):UInt8:=UInt8.ofNat x.toNat
def digS (D:List Int):ByteArray:=ofBytes (D.map fun d=>byt (IntKind.u8.wrap (48+d)))
def coefS (neg:Bool)(D:List Int):ByteArray:=if D.length=0 then ofBytes [48] else (if neg then ofBytes [45] else ofBytes [])++digS D
def textS (neg:Bool)(D:List Int)(e:Int):ByteArray:=coefS neg D++ofBytes [101]++⟨(Lib.itoa e).toArray⟩
theorem limit_wp {s:Sl}{D:List Int}{g:Nat}{neg:Bool}{e:Int}{n:Nat}(hw:WF h)(bl:BL h s D g):Wp (decimal_num_limit n (neg,s,e)) h fun r h'=>r=limP D e∧Fr (fun _=>False) h h':=by
 unfold decimal_num_limit
 refine (Z.start hw).new fun x0 h1 z1 f1=>?_
 have hl:=bl.len
 refine z1.ld (o:=1) 0 ?_
 unfold limP
 by_cases h1:400<D.length
 ·rw [if_pos (by simp only [decide_eq_true_eq];omega),if_pos h1]
  exact Wp_pure.2 ⟨rfl,z1.fr⟩
 rw [if_neg (by simp only [decide_eq_true_eq];omega),if_neg h1]
 refine z1.ld (o:=2) 0 ?_
 by_cases h2:e < -2000
 ·rw [if_pos (by simpa using h2),if_pos h2]
  exact Wp_pure.2 ⟨rfl,z1.fr⟩
 rw [if_neg (by simpa using h2),if_neg h2]
 refine z1.ld (o:=2) 0 ?_
 by_cases h3:2000<e
 ·rw [if_pos (by simpa using h3),if_pos h3]
  exact Wp_pure.2 ⟨rfl,z1.fr⟩
 rw [if_neg (by simpa using h3),if_neg h3]
 exact Wp_pure.2 ⟨rfl,z1.fr⟩
theorem sign_wp {s:Sl}{neg:Bool}{e:Int}{n:Nat}(hw:WF h):Wp (decimal_num_sign n (neg,s,e)) h fun r h'=>r=(if neg then ofBytes [45] else ofBytes [])∧Fr (fun _=>False) h h':=by
 unfold decimal_num_sign
 refine (Z.start hw).new fun x0 h1 z1 f1=>?_
 refine z1.ld (o:=0) 0 ?_
 cases neg
 ·exact Wp_pure.2 ⟨rfl,z1.fr⟩
 ·exact Wp_pure.2 ⟨rfl,z1.fr⟩
def dgC (d:Int):Int:=IntKind.u8.wrap (48+d)
theorem digits_loop {s:Sl}{D:List Int}{g b m:Nat}(hD:D.length≤65536):∀ (n i:Nat) (h:AHeap),D.length - i<n→i≤D.length→BL h s D g→g≤h0.next→Z h0 h (.blk b ((((D.map dgC).take i++List.replicate ((D.map dgC).length - i) 0)).map v8) T_u8::L) →
  Wp (decimal_num_digits_L0 n ⟨some ⟨b,0,none⟩,D.length,m⟩ s (s.len:Int) (i:Int)) h fun _ h'=>Z h0 h' (.blk b ((D.map dgC).map v8) T_u8::L):=by
 intro n
 induction n with
 | zero=>intro i h h1;omega
 | succ n ih =>
  intro i h h1 h2 bl hg z
  have hl:=bl.len
  rw [decimal_num_digits_L0_succ]
  unfold decimal_num_digits_L0_B
  by_cases hi:i<D.length
  ·rw [if_pos (by simp only [decide_eq_true_eq];omega)]
   obtain⟨d,hd⟩:=getI hi
   refine RSl.ix1 (enc:=v8) bl (by omega) (by simpa using hd) fun a c=>c.ld0 (l:=.int .u8) rfl rfl ?_
   refine ixB (by omega) (by omega) ?_
   simp only [Int.toNat_natCast,Nat.mul_one]
   have hne:b+1≠g:=by
    have:=(z.own _ List.mem_cons_self).2
    simp only [Own.grp] at this
    omega
   have l:LB h b _ _:=z.get 0 rfl
   rw [Wp_bind]
   have hdm:(D.map dgC)[i]?=some (dgC d):=by rw [List.getElem?_map,hd];rfl
   have hst:=Z.stA z 0 (enc:=v8) (xs:=(D.map dgC).take i++List.replicate ((D.map dgC).length - i) 0) (k:=i) (v:=dgC d) (f:=M.pure) (Q:=fun _ h'=>Z h0 h' (.blk b ((((D.map dgC).take (i+1)++List.replicate ((D.map dgC).length - (i+1)) 0)).map v8) T_u8::L)) (by simp;omega) (fun h' z'=>Wp_pure.2 (by rw [fill_set hdm] at z';exact z'))
   have hfr:Wp (stN ⟨b,i,none⟩ [v8 (dgC d)]) h fun _ h'=>Fr (·=b+1) h h':=l.st z.wf (by simp;omega) rfl fun h' _ f=>f
   obtain⟨u,h5,e5,q5⟩:=hst
   obtain⟨u2,h6,e6,q6⟩:=hfr
   have e7:stN ⟨b,i,none⟩ [v8 (dgC d)] h=some ((),h5):=by
    unfold M.bind at e5
    split at e5
    ·rename_i hu;cases e5;exact hu
    ·cases e5
   rw [e7] at e6
   cases e6
   refine⟨(),h5,e7,?_⟩
   rw [up1 (B:=65536) (by omega) (by omega)]
   exact ih (i+1) h5 (by omega) (by omega) (RSl.fr bl q6 fun e=>absurd e.symm hne) hg q5
  ·have hi:i=D.length:=by omega
   subst hi
   rw [if_neg (by simp only [decide_eq_true_eq];omega),Wp_pure]
   have:(D.map dgC).take D.length++List.replicate ((D.map dgC).length - D.length) 0=D.map dgC:=by
    rw [List.take_of_length_le (by simp)];simp
   rw [this] at z;exact z
theorem bytesOf_v8:∀ l:List Int,bytesOf (l.map v8)=some (l.map byt)
 | []=>rfl
 | x::l=>by
  simp only [List.map_cons,bytesOf]
  rw [bytesOf_v8 l];rfl
theorem strOf_wp {b m:Nat}{xs:List Int}(l:LB h b (xs.map v8) T_u8){f:ByteArray→M β}(q:Wp (f (ofBytes (xs.map byt))) h Q):Wp (M.bind (strOf ⟨some ⟨b,0,none⟩,xs.length,m⟩) f) h Q:=by
 rw [Wp_bind]
 refine⟨ofBytes (xs.map byt),h,?_,q⟩
 unfold strOf
 have:cellsAt h (some ⟨b,0,none⟩) xs.length=some (xs.map v8):=by
  unfold cellsAt
  simp only [l.get]
  rw [if_pos (by simp)]
  simp only [List.drop_zero]
  rw [List.take_of_length_le (by simp)]
 simp only [this,bytesOf_v8]
theorem digits_wp {s:Sl}{D:List Int}{g:Nat}{neg:Bool}{e:Int}{n:Nat}(hw:WF h)(bl:BL h s D g)(hg:g≤h.next)(hD:D.length≤65536)(hn:D.length<n) :
  Wp (decimal_num_digits n (neg,s,e)) h fun r h'=>r=digS D∧Fr (fun _=>False) h h':=by
 unfold decimal_num_digits
 have hl:=bl.len
 refine (Z.start hw).new fun x0 h1 z1 f1=>?_
 refine z1.ld (o:=1) 0 ?_
 change Wp (M.bind (mkS none T_u8 [v8 0] (s.len:Int) (s.len:Int)) _) _ _
 refine z1.mkA (by omega) (by unfold bigN;omega) fun b h2 z2 f2=>?_
 refine z2.ld (o:=1) 1 ?_
 rw [Wp_bind]
 have e1:(List.replicate ((s.len:Int)).toNat [v8 0]).flatten=((((D.map dgC).take 0++List.replicate ((D.map dgC).length - 0) 0)).map v8):=by
  rw [hl];simp [List.flatten_replicate_singleton]
 rw [e1] at z2
 have e2:((s.len:Int)).toNat=D.length:=by omega
 rw [e2]
 refine (digits_loop hD n 0 h2 (by omega) (by omega) ((bl.fr f1).fr f2) hg z2).mono fun _ h3 z3=>?_
 have l:=z3.get 0 rfl
 have:=strOf_wp (m:=D.length+1) (f:=fun x=>M.pure x) (Q:=fun r h'=>r=digS D∧Fr (fun _=>False) h h') l (Wp_pure.2 ⟨by unfold digS;rw [List.map_map];rfl,z3.fr⟩)
 rwa [List.length_map] at this
theorem coef_wp {s:Sl}{D:List Int}{g:Nat}{neg:Bool}{e:Int}{n:Nat}(hw:WF h)(bl:BL h s D g)(hg:g≤h.next)(hD:D.length≤65536)(hn:D.length<n) :
  Wp (decimal_num_coef n (neg,s,e)) h fun r h'=>r=coefS neg D∧Fr (fun _=>False) h h':=by
 unfold decimal_num_coef coefS
 have hl:=bl.len
 refine (Z.start hw).new fun x0 h1 z1 f1=>?_
 refine z1.ld (o:=1) 0 ?_
 by_cases h0:D.length=0
 ·rw [if_pos (by simp only [decide_eq_true_eq];omega),if_pos h0]
  exact Wp_pure.2 ⟨rfl,z1.fr⟩
 rw [if_neg (by simp only [decide_eq_true_eq];omega),if_neg h0]
 refine z1.lds 0 (x:=((neg,s,e):LsDen [.bool,.sl,li])) ?_
 refine z1.lds 0 (x:=((neg,s,e):LsDen [.bool,.sl,li])) ?_
 refine z1.callC 0 (sign_wp z1.wf) fun r h2 hr f2 z2=>?_
 subst hr
 refine z2.call (P:=fun r _=>r=digS D) (digits_wp z2.wf ((bl.fr f1).fr f2) (Nat.le_trans hg (Nat.le_trans f1.next f2.next)) hD hn) fun r h3 hr f3 z3=>?_
 subst hr
 dsimp only
 rw [Wp_bind,Wp_catS]
 have hs:(digS D).size=D.length:=by show (D.map _).toArray.size=_;simp
 have hs2:(if neg=true then ofBytes [45] else ofBytes []).size≤1:=by cases neg <;> decide
 exact⟨by unfold bigN;omega,Wp_pure.2 ⟨rfl,z3.fr⟩⟩
theorem coefS_size (neg:Bool)(D:List Int):(coefS neg D).size≤D.length+1:=by
 unfold coefS
 split
 ·show [48].toArray.size≤_;simp
 ·have hs:(digS D).size=D.length:=by show (D.map _).toArray.size=_;simp
  have hs2:(if neg=true then ofBytes [45] else ofBytes []).size≤1:=by cases neg <;> decide
  rw [ByteArray.size_append];omega
theorem nDig_le:∀ (m u:Nat),u<10 ^ m→0<m→Lib.nDigits u≤m:=by
 intro m
 induction m with
 | zero=>intro u _ h;omega
 | succ m ih =>
  intro u hu _
  rw [Lib.nDigits]
  split
  ·omega
  ·rename_i h
   by_cases hm:m=0
   ·subst hm;omega
   ·have:=ih (u / 10) (by rw [Nat.pow_succ] at hu;omega) (by omega)
    omega
theorem itoa_len {e:Int}(he:-2000≤e∧e≤2000):(Lib.itoa e).length≤5:=by
 unfold Lib.itoa
 split
 ·rw [List.length_cons,Lib.decDigits_length]
  have:=nDig_le 4 e.natAbs (by omega) (by omega)
  omega
 ·rw [Lib.decDigits_length]
  have:=nDig_le 4 e.toNat (by omega) (by omega)
  omega
theorem text_wp {s:Sl}{D:List Int}{g:Nat}{neg:Bool}{e:Int}{n:Nat}(hw:WF h)(bl:BL h s D g)(hg:g≤h.next)(hD:D.length≤65536)(hn:D.length<n)(he:-2000≤e∧e≤2000) :
  Wp (decimal_num_text n (neg,s,e)) h fun r h'=>r=textS neg D e∧Fr (fun _=>False) h h':=by
 unfold decimal_num_text
 refine (Z.start hw).new fun x0 h1 z1 f1=>?_
 refine z1.lds 0 (x:=((neg,s,e):LsDen [.bool,.sl,li])) ?_
 refine z1.ld (o:=2) 0 ?_
 refine z1.callC 0 (coef_wp z1.wf (bl.fr f1) (Nat.le_trans hg f1.next) hD hn) fun r h2 hr f2 z2=>?_
 subst hr
 have hc:=coefS_size neg D
 dsimp only
 rw [Wp_bind,Wp_catS]
 refine⟨by unfold bigN;have:(ofBytes [101]).size=1:=rfl;omega,?_⟩
 unfold strconv_Itoa
 rw [if_pos (by omega),Wp_bind,Wp_pure,Wp_bind,Wp_catS]
 refine⟨?_,Wp_pure.2 ⟨rfl,z2.fr⟩⟩
 have h9:(⟨(Lib.itoa e).toArray⟩:ByteArray).size≤100:=by
  show (Lib.itoa e).toArray.size≤100
  have:=itoa_len he
  simp;omega
 rw [ByteArray.size_append]
 have:(ofBytes [101]).size=1:=rfl
 unfold bigN;omega
end Go.Sh
set_option linter.all false
namespace Go.Sh
open Go Go.Ago Go.Proofs
variable {α β:Type}{h h' h0:AHeap}{L:List Own}{Q:β→AHeap→Prop}
theorem ixb (l:List UInt8)(c:UInt8):(Lib.indexByte l c<0)∨∃ i:Nat,Lib.indexByte l c=i∧l[i]?=some c:=by
 by_cases hneg:Lib.indexByte l c<0
 ·exact .inl hneg
 ·obtain⟨i,hi⟩:∃ i:Nat,Lib.indexByte l c=i:=⟨(Lib.indexByte l c).toNat,by omega⟩
  exact .inr ⟨i,hi,(Lib.indexByte_some hi).1⟩
theorem intOK_pos {s:ByteArray}(h:intOK s=true):0<s.size:=by
 unfold intOK at h
 simp only [Bool.and_eq_true,decide_eq_true_eq] at h
 have h1:=h.1.1
 by_cases h0:s.size=0
 ·have e:s.data.toList=[]:=List.length_eq_zero_iff.1 h0
  rw [e] at h1;simp at h1
 ·omega
def cofOf (s:ByteArray)(i:Nat):ByteArray:=⟨(Lib.trimPrefix (s.extract 0 i).data.toList [45]).toArray⟩
def numOf (s:ByteArray)(i:Nat)(e:Int):Bool×List Int×Int:=normP (s.data.toList.head? == some 45) (dgs (cofOf s i)) e
def decN (N:Bool×List Int×Int)(s:ByteArray):Bool:=decide (limP N.2.1 N.2.2=0) && eqS (textS N.1 N.2.1 N.2.2) s
def decAt (s:ByteArray)(i:Nat)(e:Int):Bool:=decN (numOf s i e) s
def decV (s:ByteArray):Bool :=
 if Lib.indexByte s.data.toList 101<0 then false
 else if intOK (s.extract 0 (Lib.indexByte s.data.toList 101).toNat)=false then false
 else if 6<(s.size:Int) - Lib.indexByte s.data.toList 101 then false
 else match Lib.atoiAll (s.extract ((Lib.indexByte s.data.toList 101).toNat+1) s.size).data.toList with
  | .ok e=>decAt s (Lib.indexByte s.data.toList 101).toNat e
  | _=>false
theorem decV_neg {s:ByteArray}(h:Lib.indexByte s.data.toList 101<0):decV s=false:=by unfold decV;rw [if_pos h]
theorem decV_of {s:ByteArray}{i:Nat}(h:Lib.indexByte s.data.toList 101=i):decV s=if intOK (s.extract 0 i)=false then false else if 6<(s.size:Int) - (i:Int) then false else match Lib.atoiAll (s.extract (i+1) s.size).data.toList with
  | .ok e=>decAt s i e
  | _=>false:=by
 unfold decV
 rw [h,Int.toNat_natCast,if_neg (by omega)]
theorem trim_le (l p:List UInt8):(Lib.trimPrefix l p).length≤l.length:=by
 unfold Lib.trimPrefix
 split
 ·simp
 ·exact Nat.le_refl _
theorem normP_le (neg:Bool)(D:List Int)(e:Int):(normP neg D e).2.1.length≤D.length:=by
 unfold normP
 split
 ·simp
 ·have h1:=stripR_le (stripL D).reverse e
  have h2:=stripL_le D
  rw [List.length_reverse] at h1
  simp only;omega
theorem lim0 {D:List Int}{e:Int}(h:limP D e=0):-2000≤e∧e≤2000:=by
 unfold limP at h
 split at h
 ·cases h
 ·split at h
  ·cases h
  ·split at h
   ·cases h
   ·omega
theorem atoi_wp {s:ByteArray}{n:Nat}(hs:s.size≤65536)(hw:WF h):Wp (strconv_Atoi n s) h fun r h'=>(match Lib.atoiAll s.data.toList with | .ok v=>r=(v,.nilIface) | _=>∃ t u,r.2=.iface t u)∧Fr (fun _=>False) h h':=by
 unfold strconv_Atoi
 rw [if_pos (by omega)]
 cases e:Lib.atoiAll s.data.toList with
 | ok v=>exact Wp_pure.2 ⟨rfl,Fr.refl hw⟩
 | range =>
  show Wp (numE _) h _
  unfold numE
  rw [Wp_bind]
  exact Wp_opq fun h' f=>Wp_pure.2 ⟨⟨_,_,rfl⟩,f hw⟩
 | _ =>
  show Wp (numE 0) h _
  unfold numE
  rw [Wp_bind]
  exact Wp_opq fun h' f=>Wp_pure.2 ⟨⟨_,_,rfl⟩,f hw⟩
theorem isNil_ok {f:Bool→M β}{v:Value}(hv:v=.nilIface)(q:Wp (f true) h Q):Wp (M.bind (isNilI v) f) h Q:=by
 rw [Wp_bind,Wp_isNilI];exact .inl ⟨hv,q⟩
theorem isNil_no {f:Bool→M β}{v:Value}(hv:∃ t u,v=.iface t u)(q:Wp (f false) h Q):Wp (M.bind (isNilI v) f) h Q:=by
 obtain⟨t,u,hv⟩:=hv
 rw [Wp_bind,Wp_isNilI];exact .inr ⟨t,u,hv,q⟩
theorem put_num (z:Z h0 h L)(i:Nat){b:Nat}{cs:List Value}{e:TypeId}{neg:Bool}{s:Sl}{x:Int}{r:Bool}(hi:L[i]?=some (.blk b cs e))(hc:cs.length=3) :
  Wp (M.bind (stN ⟨b,0,none⟩ [.bool neg,vsl s,vi x]) fun _=>M.bind (ldLs [.bool,.sl,li] ⟨b,0,none⟩) fun (y:Bool×Sl×Int)=>M.pure ((y.1,y.2.1,y.2.2),r)) h fun x h'=>x.2=r∧Fr (fun _=>False) h0 h':=by
 have hsp:splice cs 0 [.bool neg,vsl s,vi x]=[.bool neg,vsl s,vi x]:=by
  unfold splice;simp [hc]
 refine z.st i (cs':=[.bool neg,vsl s,vi x]) (fun h1 z1=>?_) hi hsp (by simp [hc])
 have hi1:(L.set i (.blk b [.bool neg,vsl s,vi x] e))[i]?=some (.blk b [.bool neg,vsl s,vi x] e):=by
  have:=(List.getElem?_eq_some_iff.1 hi).1
  simp [this]
 refine z1.lds i (x:=((neg,s,x):LsDen [.bool,.sl,li])) ?_ hi1
 exact Wp_pure.2 ⟨rfl,z1.fr⟩
theorem ext_sz (s:ByteArray)(a b:Nat):(s.extract a b).size≤s.size:=by simp;omega
theorem _root_.Go.Ago.Z.st2 (z:Z h0 h L)(i:Nat){b o:Nat}{cs vs cs':List Value}{e:TypeId}{f:Unit→M β}{Q:β→AHeap→Prop}
  (q:∀ h',Z h0 h' (L.set i (.blk b cs' e))→Fr (·=b+1) h h'→Wp (f ()) h' Q) (hi:L[i]?=some (.blk b cs e):=by rfl) (hc:splice cs o vs=cs':=by rfl) (ho:o+vs.length≤cs.length:=by first | decide | simp) (hs:vs.all scal=true:=by rfl) :
  Wp (M.bind (stN ⟨b,o,none⟩ vs) f) h Q:=by
 rw [Wp_bind]
 have l:LB h b cs e:=z.get i hi
 refine l.st z.wf ho hs fun h' l' fr=>q h' (z.upd (o:=.blk b cs e) hi (by simp [Own.grp]) fr ?_ (.inl rfl)) fr
 rw [← hc];exact l'
theorem read_J0 {s:ByteArray}{i n a1:Nat}(hs:s.size≤65536)(hn:s.size+1<n)(hi:i<s.size)(hpos:0<i)(z:Z h0 h [.blk a1 [.bool false,vsl0,vi 0] T_decimal_num]) :
  Wp (decimal_read_J0 n s (adr a1) (i:Int)) h fun x h'=>(x.2=match Lib.atoiAll (s.extract (i+1) s.size).data.toList with | .ok e=>decAt s i e | _=>false)∧Fr (fun _=>False) h0 h':=by
 unfold decimal_read_J0
 rw [w64 (by omega) (by omega),Wp_bind,Wp_sliceS]
 refine⟨by omega,by omega,by omega,?_⟩
 rw [show (((i:Int)+1).toNat)=i+1 by omega,Int.toNat_natCast]
 have hsz:(s.extract (i+1) s.size).size≤65536:=by simp;omega
 refine z.call (P:=fun r _=>match Lib.atoiAll (s.extract (i+1) s.size).data.toList with | .ok v=>r=(v,.nilIface) | _=>∃ t u,r.2=.iface t u) (atoi_wp hsz z.wf) fun r h1 hr f1 z1=>?_
 cases e:Lib.atoiAll (s.extract (i+1) s.size).data.toList with
 | range =>
  rw [e] at hr
  refine isNil_no hr ?_
  rw [if_pos (show (!false)=true from rfl)]
  exact put_num (s:=sl0) z1 0 rfl rfl
 | ok v =>
  rw [e] at hr
  simp only at hr
  subst hr
  refine isNil_ok rfl ?_
  show Wp (M.bind (sliceS s 0 (i:Int)) _) h1 _
  rw [Wp_bind,Wp_sliceS]
  refine⟨by omega,by omega,by omega,?_⟩
  rw [Int.toNat_natCast]
  unfold strings_TrimPrefix
  rw [Wp_bind,Wp_pure]
  have ec:(⟨(Lib.trimPrefix (s.extract (0:Int).toNat i).data.toList (ofBytes [45]).data.toList).toArray⟩:ByteArray)=cofOf s i:=rfl
  rw [ec]
  have hcs:(cofOf s i).size≤s.size:=by
   show (Lib.trimPrefix (s.extract 0 i).data.toList [45]).toArray.size≤_
   have h1:=trim_le (s.extract 0 i).data.toList [45]
   have h2:(s.extract 0 i).data.toList.length≤s.size:=ext_sz s 0 i
   rw [List.size_toArray];omega
  refine z1.reserve (n:=9) [7] (by decide) (by simp) fun kb h2 z2=>?_
  have hfr:Free h2 (kb+7):=z2.get 0 rfl
  obtain⟨c0,hc0⟩:∃ c0,s[0]?=some c0:=⟨s[0]'(by omega),by simp [show 0<s.size by omega]⟩
  rw [Wp_bind,Wp_idxS]
  refine⟨c0,by omega,hc0,?_⟩
  refine z2.newAt 0 fun h3 z3=>?_
  have hk:kb+7<h3.next:=LB.lt (z3.get 0 rfl) z3.wf
  have hdl:(dgs (cofOf s i)).length=(cofOf s i).size:=by unfold dgs;rw [List.length_map];rfl
  refine Lp.chk ((bytes_lp (k:=kb+7) z3 (by omega) (by omega) hk).mono fun x h4 hx=>?_)
  obtain⟨b2,rfl,hbk,z4⟩:=hx
  have hk4:kb+7<h4.next:=LB.lt (z4.get 1 rfl) z4.wf
  rw [← hdl]
  refine Lp.chk ((norm_lp (k:=kb+7) z4 hbk hk4 (by omega) (by omega) _ v).mono fun r h5 hr=>?_)
  obtain⟨r1,r2,z5,g,bl,hg,hg2⟩:=hr
  have eneg:decide ((c0.toNat:Int)=45)=(s.data.toList.head? == some 45):=by
   rw [ba_get] at hc0
   rw [List.head?_eq_getElem?,hc0]
   by_cases hq:c0=45
   ·subst hq;rfl
   ·have:¬ ((c0.toNat:Int)=45):=fun e=>hq (UInt8.toNat_inj.1 (by have:(45:UInt8).toNat=45:=rfl;omega))
    rw [decide_eq_false this];symm;simpa using hq
  rw [eneg] at r1 r2 bl
  obtain⟨neg,sl,ee⟩:=r
  simp only at r1 r2 bl
  rw [show normP (s.data.toList.head? == some 45) (dgs (cofOf s i)) v=numOf s i v from rfl] at r1 r2 bl
  subst r1
  subst r2
  have hDl:(numOf s i v).2.1.length≤65536:=by
   have:=normP_le (s.data.toList.head? == some 45) (dgs (cofOf s i)) v
   unfold numOf;omega
  have hDn:(numOf s i v).2.1.length<n:=by
   have:=normP_le (s.data.toList.head? == some 45) (dgs (cofOf s i)) v
   unfold numOf;omega
  show Wp _ _ fun (x:(Bool×Sl×Int)×Bool) h'=>x.2=decN (numOf s i v) s∧Fr (fun _=>False) h0 h'
  generalize numOf s i v=N at bl hDl hDn ⊢
  obtain⟨N1,N2,N3⟩:=N
  refine z5.st2 0 (cs':=[.bool N1,vsl sl,vi N3]) (fun h6 z6 f6=>?_)
  have bl:BL h6 sl N2 g:=RSl.fr bl f6 fun e=>absurd e hg
  have hg6:g≤h6.next:=Nat.le_trans hg2 f6.next
  refine z6.lds 0 (x:=((N1,sl,N3):LsDen [.bool,.sl,li])) ?_
  refine z6.lds 0 (x:=((N1,sl,N3):LsDen [.bool,.sl,li])) ?_
  refine z6.callC 0 (limit_wp z6.wf bl) fun r h7 hr f7 z7=>?_
  subst hr
  show Wp _ _ fun (x:(Bool×Sl×Int)×Bool) h'=>x.2=(decide (limP N2 N3=0) && eqS (textS N1 N2 N3) s)∧Fr (fun _=>False) h0 h'
  by_cases hl:limP N2 N3=0
  ·rw [if_pos (by simpa using hl)]
   refine z7.lds 0 (x:=((N1,sl,N3):LsDen [.bool,.sl,li])) ?_
   refine z7.callC 0 (text_wp z7.wf (bl.fr f7) (Nat.le_trans hg6 f7.next) hDl hDn (lim0 hl)) fun r h8 hr f8 z8=>?_
   subst hr
   rw [decide_eq_true hl,Bool.true_and]
   exact put_num z8 1 rfl rfl
  ·rw [if_neg (by simpa using hl)]
   rw [decide_eq_false hl,Bool.false_and]
   exact put_num z7 1 rfl rfl
 | _ =>
  rw [e] at hr
  refine isNil_no hr ?_
  rw [if_pos (show (!false)=true from rfl)]
  exact put_num (s:=sl0) z1 0 rfl rfl
theorem decimal_Valid_wp {s:ByteArray}{n:Nat}(hs:s.size≤65536)(hn:s.size+1<n)(hw:WF h):Wp (decimal_Valid n s) h fun x h'=>x=decV s∧Fr (fun _=>False) h h':=by
 have main:Wp (decimal_read n s) h fun x h'=>x.2=decV s∧Fr (fun _=>False) h h':=by
  unfold decimal_read
  refine (Z.start hw).new fun x0 h1 z1 f1=>?_
  unfold strings_IndexByte
  rw [Wp_bind,Wp_pure]
  rw [show (101:Int).toNat.toUInt8=(101:UInt8) from rfl]
  rcases ixb s.data.toList 101 with hneg | ⟨i,hi,hc⟩
  ·rw [if_pos (by simpa using hneg),decV_neg hneg]
   exact put_num (s:=sl0) z1 0 rfl rfl
  ·have hlt:i<s.size:=(List.getElem?_eq_some_iff.1 hc).1
   rw [decV_of hi,hi,if_neg (by simp),Wp_bind,Wp_sliceS]
   refine⟨by omega,by omega,by omega,?_⟩
   rw [Int.toNat_natCast,show (0:Int).toNat=0 from rfl]
   have hes:=ext_sz s 0 i
   refine z1.call (P:=fun r _=>r=intOK (s.extract 0 i)) (integer_Valid_wp (by omega) (by omega) z1.wf) fun r h2 hr f2 z2=>?_
   subst hr
   cases hok:intOK (s.extract 0 i) with
   | false =>
    rw [if_pos (show (false=false) from rfl),if_pos (show (!false)=true from rfl)]
    exact put_num (s:=sl0) z2 0 rfl rfl
   | true =>
    have hp:=intOK_pos hok
    have hip:0<i:=by
     have:(s.extract 0 i).size=min i s.size:=by simp
     omega
    rw [if_neg (show ¬ (true=false) by decide),if_neg (show ¬ ((!true)=true) by decide),w64 (by omega) (by omega)]
    by_cases h6:6<(s.size:Int) - (i:Int)
    ·rw [if_pos (by simpa using h6),if_pos h6]
     exact put_num (s:=sl0) z2 0 rfl rfl
    ·rw [if_neg (by simpa using h6),if_neg h6]
     refine (read_J0 hs hn hlt hip z2).mono fun x h' hx=>?_
     exact hx
 unfold decimal_Valid
 rw [Wp_bind]
 refine main.mono fun x h1 hx=>?_
 have z1:=(Z.start hw).pure hx.2
 refine z1.new fun b h2 z2 f2=>?_
 refine z2.st 0 (cs':=[.bool x.1.1,vsl x.1.2.1,vi x.1.2.2]) fun h3 z3=>?_
 exact Wp_pure.2 ⟨hx.1,z3.fr⟩
end Go.Sh
