
import Derived.Test.YtlbigfjnapgioaaGreatDoorBt
set_option linter.all false
namespace Go.Sh
open Go Go.Ago Go.Proofs
def spsT (o b i : Nat) : BTv → List SpanV
 | .int _=>[]
 | .str _=>[]
 | .list l=>spsL (o + 1) (b + 1) (i + 1) i 0 l
 | .map l=>spsD (o + 1) (b + 1) (i + 1) i 0 l
theorem sps_eq (o b i : Nat) (par e kf kt : Int) (v : BTv) : sps o b i par e kf kt v = ⟨b,par,e,o,(o + (enc v).length : Nat),kf,kt,false,true⟩ :: spsT o b i v:=by
 cases v <;> simp only [sps,spsT]
theorem drop_get {L : List UInt8} {i : Nat} {c : UInt8} (h : L[i]? = some c) : L.drop i = c :: L.drop (i + 1):=by
 have hlt:=(List.getElem?_eq_some_iff.1 h).1
 rw [List.drop_eq_getElem_cons hlt,(List.getElem?_eq_some_iff.1 h).2]
structure Snd (s : ByteArray) (G : SpF) : Prop where
 V : ∀ (par e kf kt : Int) (d : Nat) (p : PV) (n : Int) (p2 : PV),G.V (span0 par e kf kt) d p = some (.ok (n,p2)) →
  ∃ v,okV d v∧n = p.nodes.length∧s.data.toList.drop p.pos = enc v ++ s.data.toList.drop p2.pos ∧
   p2 = ⟨p.pos + (enc v).length,p.nodes ++ nds p.nodes.length v,p.spans ++ sps p.pos p.nodes.length p.spans.length par e kf kt v⟩
 L : ∀ (nd par k d : Nat) (p p2 : PV),nd < p.nodes.length → G.L nd par k d p = some (.ok p2) →
  ∃ l,okL (d + 1) l∧s.data.toList.drop p.pos = encL l ++ 101 :: s.data.toList.drop p2.pos ∧
   p2 = ⟨p.pos + (encL l).length + 1,p.nodes.modify nd (fun x=>{ x with items:=x.items ++ idxL p.nodes.length l }) ++ ndsL p.nodes.length l,p.spans ++ spsL p.pos p.nodes.length p.spans.length par k l⟩
 D : ∀ (nd par k d : Nat) (last : ByteArray) (p p2 : PV),nd < p.nodes.length → G.D nd par k d last p = some (.ok p2) →
  ∃ l,okD (d + 1) (if k = 0 then none else some last) l∧s.data.toList.drop p.pos = encD l ++ 101 :: s.data.toList.drop p2.pos ∧
   p2 = ⟨p.pos + (encD l).length + 1,p.nodes.modify nd (fun x=>{ x with keys:=x.keys ++ keysD p.nodes.length l,items:=x.items ++ valsD p.nodes.length l }) ++ ndsD p.nodes.length l,p.spans ++ spsD p.pos p.nodes.length p.spans.length par k l⟩
theorem read_snd {s : ByteArray} {G : SpF} (g : Snd s G) {p p2 : PV} {x : SpanV} {d : Nat} {n : Int} (hr : spRead s G { p with spans:=p.spans ++ [x] } p.spans.length d = some (.ok (n,p2))) :
  ∃ v,okV d v∧n = p.nodes.length∧s.data.toList.drop p.pos = enc v ++ s.data.toList.drop p2.pos ∧
   p2 = ⟨p.pos + (enc v).length,p.nodes ++ nds p.nodes.length v,(p.spans ++ [x]) ++ spsT p.pos p.nodes.length p.spans.length v⟩:=by
 unfold spRead at hr
 split at hr
 ·cases hr
 ·rename_i c hc
  have hc : s.data.toList[p.pos]? = some c:=hc
  have hdr:=drop_get hc
  have opn : ∀ (kind : Int),spOpen s G { p with spans:=p.spans ++ [x] } p.spans.length d kind = some (.ok (n,p2)) → n = p.nodes.length∧d ≤ 32 ∧
    (if kind = 9 then G.L (p.nodes.length : Nat) p.spans.length 0 d ⟨p.pos + 1,p.nodes ++ [⟨kind,ofBytes [],false,[],[]⟩],p.spans ++ [x]⟩ else G.D (p.nodes.length : Nat) p.spans.length 0 d (ofBytes []) ⟨p.pos + 1,p.nodes ++ [⟨kind,ofBytes [],false,[],[]⟩],p.spans ++ [x]⟩) = some (.ok p2):=by
   intro kind ho
   unfold spOpen at ho
   split at ho
   ·cases ho
   ·rename_i n1 p1 hn
    obtain ⟨rfl,rfl,h1,h2⟩:=spNode_ok hn
    split at ho
    ·cases ho
    ·cases ho
    ·rename_i p3 hl
     cases ho
     exact ⟨rfl,h2,hl⟩
  split at hr
  ·-- an integer
   rename_i h105
   have hr:=Option.some.inj hr
   unfold spInt at hr
   split at hr
   ·cases hr
   ·rename_i j hj
    split at hr
    ·rename_i hok
     obtain ⟨rfl,rfl,h1,h2⟩:=spNode_ok hr
     have hj : (s.data.toList.drop p.pos).findIdx? (fun b=>b == 101) = some j:=hj
     obtain ⟨h3,h4⟩:=findIdx_split hj
     obtain ⟨j,rfl⟩ : ∃ q,j = q + 1:=by
      cases j with
      | zero =>
       rw [List.findIdx?_eq_some_iff_getElem] at hj
       obtain ⟨hlt,he,_⟩:=hj
       exfalso
       have : (s.data.toList.drop p.pos)[0]? = some 101:=by rw [List.getElem?_eq_getElem hlt];simpa using he
       rw [hdr] at this
       simp at this
       rw [this] at h105
       exact absurd h105 (by decide)
      | succ q=>exact ⟨q,rfl⟩
     have hx:=exl' s (p.pos + 1) (p.pos + (j + 1))
     rw [show p.pos + (j + 1) - (p.pos + 1) = j by omega] at hx
     have ht : (s.extract (p.pos + 1) (p.pos + (j + 1))).data.toList.length = j:=by
      rw [hx,List.length_take,List.length_drop]
      rw [List.length_drop] at h4
      omega
     refine ⟨.int (s.extract (p.pos + 1) (p.pos + (j + 1))),⟨h2,hok⟩,rfl,?_,?_⟩
     ·simp only [enc]
      rw [hx]
      rw [hdr,h105] at h3
      have h5 : (105 :: s.data.toList.drop (p.pos + 1)).drop (j + 1 + 1) = s.data.toList.drop (p.pos + (j + 1) + 1):=by
       rw [List.drop_succ_cons,List.drop_drop]
       congr 1;omega
      rw [h5] at h3
      rw [hdr,h105]
      rw [List.take_succ_cons,List.cons_append,List.cons.injEq] at h3
      rw [List.cons_append,List.append_assoc,List.singleton_append,← h3.2]
     ·simp only [enc,nds,spsT,List.append_nil]
      rw [List.length_cons,List.length_append,ht,List.length_singleton,show p.pos + (j + 1 + 1) = p.pos + (j + 1) + 1 by omega]
    ·cases hr
  ·split at hr
   ·rename_i h108
    obtain ⟨rfl,h2,hl⟩:=opn 9 hr
    rw [if_pos rfl] at hl
    obtain ⟨l,q1,q2,q3⟩:=g.L _ _ _ _ _ _ (by simp) hl
    refine ⟨.list l,⟨h2,q1⟩,rfl,?_,?_⟩
    ·simp only [enc]
     rw [hdr,h108,List.cons_append,List.append_assoc,List.singleton_append,← q2]
    ·rw [q3]
     simp only [enc,nds,spsT,List.length_append,List.length_cons,List.length_nil,modify_last,List.nil_append,List.append_assoc,List.singleton_append,PV.mk.injEq]
     refine ⟨by simp;omega,by simp,by simp⟩
   ·split at hr
    ·rename_i h100
     obtain ⟨rfl,h2,hl⟩:=opn 10 hr
     rw [if_neg (by decide)] at hl
     obtain ⟨l,q1,q2,q3⟩:=g.D _ _ _ _ _ _ _ (by simp) hl
     refine ⟨.map l,⟨h2,q1⟩,rfl,?_,?_⟩
     ·simp only [enc]
      rw [hdr,h100,List.cons_append,List.append_assoc,List.singleton_append,← q2]
     ·rw [q3]
      simp only [enc,nds,spsT,List.length_append,List.length_cons,List.length_nil,modify_last,List.nil_append,List.append_assoc,List.singleton_append,PV.mk.injEq]
      refine ⟨by simp;omega,by simp,by simp⟩
    ·have hr:=Option.some.inj hr
     unfold spStr at hr
     split at hr
     ·cases hr
     ·rename_i t a ht
      obtain ⟨q1,q2⟩:=text_ok ht
      obtain ⟨rfl,rfl,h1,h2⟩:=spNode_ok hr
      refine ⟨.str t,h2,rfl,?_,?_⟩
      ·simp only [enc];exact q1
      ·simp only [enc,nds,spsT,List.append_nil]
       rw [q2]
theorem sp_snd (s : ByteArray) : ∀ m,Snd s (sp s m)
 | 0=>⟨fun _ _ _ _ _ _ _ _ h=>by simp [sp] at h,fun _ _ _ _ _ _ _ h=>by simp [sp] at h,fun _ _ _ _ _ _ _ _ h=>by simp [sp] at h⟩
 | m + 1=>by
  have g:=sp_snd s m
  refine ⟨fun par e kf kt d p n p2 hr=>?_,fun nd par k d p p2 hn hr=>?_,fun nd par k d last p p2 hn hr=>?_⟩
  ·simp only [sp,spV] at hr
   split at hr
   ·cases hr
   ·split at hr
    ·cases hr
    ·cases hr
    ·rename_i n1 p1 h1
     cases hr
     obtain ⟨v,q1,q2,q3,q4⟩:=read_snd g h1
     refine ⟨v,q1,q2,q3,?_⟩
     subst q4
     simp only [PV.mk.injEq,true_and]
     rw [modify_append _ _ _ (by simp),modify_last,sps_eq,q2]
     simp only [span0,List.append_assoc,List.singleton_append]
  ·simp only [sp,spL] at hr
   split at hr
   ·cases hr
   ·rename_i c hc
    split at hr
    ·rename_i h101
     cases hr
     refine ⟨.nil,trivial,?_,?_⟩
     ·simp only [encL,List.nil_append];rw [drop_get hc,h101]
     ·simp only [encL,idxL,ndsL,spsL,List.append_nil,List.length_nil,Nat.add_zero,modify_id]
    ·split at hr
     ·cases hr
     ·cases hr
     ·rename_i it p1 h1
      obtain ⟨v,q1,q2,q3,q4⟩:=g.V _ _ _ _ _ _ _ _ h1
      subst q4;subst q2
      have hlen : nd < (p.nodes ++ nds p.nodes.length v).length:=by simp;omega
      obtain ⟨l,r1,r2,r3⟩:=g.L nd par (k + 1) d _ p2 (by simpa [addItem] using hlen) hr
      refine ⟨.cons v l,⟨q1,r1⟩,?_,?_⟩
      ·simp only [encL,addItem] at r2 ⊢
       rw [q3,r2,List.append_assoc]
      ·rw [r3]
       simp only [addItem,Int.toNat_natCast,encL,idxL,ndsL,spsL,List.length_append,List.length_modify,nds_len,sps_len,PV.mk.injEq]
       refine ⟨by omega,?_,by simp⟩
       rw [modify_append _ _ _ hn,modify_append _ _ _ (by simpa using hn),modify_comp,List.append_assoc]
       simp
  ·simp only [sp,spD] at hr
   split at hr
   ·cases hr
   ·rename_i c hc
    split at hr
    ·rename_i h101
     cases hr
     refine ⟨.nil,trivial,?_,?_⟩
     ·simp only [encD,List.nil_append];rw [drop_get hc,h101]
     ·simp only [encD,keysD,valsD,ndsD,spsD,List.append_nil,List.length_nil,Nat.add_zero,modify_id]
    ·split at hr
     ·cases hr
     ·rename_i t a ht
      obtain ⟨e1,e2⟩:=text_ok ht
      split at hr
      ·cases hr
      ·rename_i key p1 hk
       obtain ⟨rfl,rfl,h1,h2⟩:=spNode_ok hk
       split at hr
       ·cases hr
       ·rename_i hu
        split at hr
        ·cases hr
        ·rename_i hlt
         split at hr
         ·cases hr
         ·cases hr
         ·rename_i it p3 h3
          obtain ⟨v,q1,q2,q3,q4⟩:=g.V _ _ _ _ _ _ _ _ h3
          simp only at q2 q3 q4
          subst q4;subst q2
          have hlen : nd < ((p.nodes ++ [(⟨5,t,false,[],[]⟩ : NodeV)]) ++ nds (p.nodes ++ [(⟨5,t,false,[],[]⟩ : NodeV)]).length v).length:=by simp;omega
          obtain ⟨l,r1,r2,r3⟩:=g.D nd par (k + 1) d t _ p2 (by simpa [addEntry] using hlen) hr
          have hu : u8 t = true:=by simpa using hu
          rw [if_neg (by omega)] at r1
          refine ⟨.cons t v l,⟨h2,hu,?_,q1,r1⟩,?_,?_⟩
          ·intro t' ht'
           split at ht'
           ·cases ht'
           ·rename_i hk0
            cases ht'
            cases hb : ltB t last
            ·rfl
            ·exact absurd ⟨by omega,hb⟩ hlt
          ·simp only [encD,addEntry] at r2 ⊢
           rw [e1,q3,r2]
           simp only [List.append_assoc]
          ·rw [r3]
           simp only [addEntry,Int.toNat_natCast,encD,keysD,valsD,ndsD,spsD,List.length_append,List.length_modify,nds_len,sps_len,List.length_cons,List.length_nil,Nat.zero_add,PV.mk.injEq,← e2]
           refine ⟨by omega,?_,by simp⟩
           rw [List.append_assoc,modify_append _ _ _ hn,modify_append _ _ _ (by simpa using hn),modify_comp]
           simp
theorem snd_parse {s : ByteArray} {m : Nat} {p : PV} (h : spParse s m = some (.ok p)) : ∃ v,okV 0 v∧s.data.toList = enc v∧s.size ≤ 65536∧p = ⟨s.size,nds 0 v,sps 0 0 0 (-1) 0 0 0 v⟩:=by
 unfold spParse at h
 split at h
 ·cases h
 ·rename_i hs
  split at h
  ·cases h
  ·cases h
  ·rename_i n p1 hv
   split at h
   ·cases h
   ·rename_i hp
    cases h
    obtain ⟨v,q1,q2,q3,q4⟩:=(sp_snd s m).V _ _ _ _ _ _ _ _ hv
    have e : s.data.toList.drop p.pos = []:=List.drop_eq_nil_of_le (by rw [size_toList];omega)
    rw [e,List.append_nil] at q3
    have q3 : s.data.toList = enc v:=by simpa using q3
    refine ⟨v,q1,q3,by omega,?_⟩
    rw [q4]
    have : (enc v).length = s.size:=by rw [← q3];rfl
    simp [this]
structure Cpl (s : ByteArray) (m : Nat) (G : SpF) : Prop where
 V : ∀ (v : BTv) (par e kf kt : Int) (d : Nat) (p : PV) (rest : List UInt8),2 * (enc v).length + 1 ≤ m → okV d v → s.data.toList.drop p.pos = enc v ++ rest → p.nodes.length + nsz v ≤ 4096 →
  G.V (span0 par e kf kt) d p = some (.ok ((p.nodes.length : Nat),⟨p.pos + (enc v).length,p.nodes ++ nds p.nodes.length v,p.spans ++ sps p.pos p.nodes.length p.spans.length par e kf kt v⟩))
 L : ∀ (l : BTl) (nd par k d : Nat) (p : PV) (rest : List UInt8),2 * (encL l).length + 2 ≤ m → okL (d + 1) l → nd < p.nodes.length → s.data.toList.drop p.pos = encL l ++ 101 :: rest → p.nodes.length + nszL l ≤ 4096 →
  G.L nd par k d p = some (.ok ⟨p.pos + (encL l).length + 1,p.nodes.modify nd (fun x=>{ x with items:=x.items ++ idxL p.nodes.length l }) ++ ndsL p.nodes.length l,p.spans ++ spsL p.pos p.nodes.length p.spans.length par k l⟩)
 D : ∀ (l : BTd) (nd par k d : Nat) (last : ByteArray) (p : PV) (rest : List UInt8),2 * (encD l).length + 2 ≤ m → okD (d + 1) (if k = 0 then none else some last) l → nd < p.nodes.length → s.data.toList.drop p.pos = encD l ++ 101 :: rest → p.nodes.length + nszD l ≤ 4096 →
  G.D nd par k d last p = some (.ok ⟨p.pos + (encD l).length + 1,p.nodes.modify nd (fun x=>{ x with keys:=x.keys ++ keysD p.nodes.length l,items:=x.items ++ valsD p.nodes.length l }) ++ ndsD p.nodes.length l,p.spans ++ spsD p.pos p.nodes.length p.spans.length par k l⟩)
theorem nsz_pos (v : BTv) : 1 ≤ nsz v:=by cases v <;> simp [nsz]
theorem sizes_ok {s : ByteArray} {m : Nat} {p : PV} (h : spParse s m = some (.ok p)) : p.nodes.length ≤ 4096:=by
 unfold spParse at h
 split at h
 ·cases h
 ·split at h
  ·cases h
  ·cases h
  ·rename_i n p1 hv
   split at h
   ·cases h
   ·cases h
    exact ((sp_good s m).V _ _ _ _ _ ⟨by simp,by simp,by simp,by simp⟩ hv).1 0 |>.inv.nodes
end Go.Sh
