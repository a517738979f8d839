
import Derived.Test.YtlbigfjnapgioaaGreatDoorBb
import Derived.Test.YtlbigfjnapgioaaGreatDoorBi
set_option linter.all false
namespace Go.Sh
open Go Go.Ago Go.Proofs
variable {h h' : AHeap} {S S' : PSt} {n : Nat}
theorem res_node {S1 : PSt} {h1 : AHeap} (hw : WF h) (f1 : Stp h S h1 S1) {r : Rs (Int × PV)} {x : Int × Bool} {h' : AHeap} (hr : Res h1 S1 r x h') : Res h S r x h':=by
 obtain ⟨S',a,b,c⟩:=hr
 exact ⟨S',a,f1.trans hw b,c⟩
theorem byte_eq (c : UInt8) (k : Nat) (hk : k < 256) : ((c.toNat : Int) = k) ↔ c = UInt8.ofNat k:=by
 rw [← UInt8.toNat_inj,UInt8.toNat_ofNat',Nat.mod_eq_of_lt hk];omega
theorem indexByte_find (c : UInt8) : ∀ (L : List UInt8),Lib.indexByte L c = match L.findIdx? (fun b=>b == c) with | some i=>(i : Int) | none=>-1
 | []=>rfl
 | b :: L=>by
  have ih:=indexByte_find c L
  rw [List.findIdx?_cons,Lib.indexByte,ih]
  cases hb : b == c with
  | true=>simp
  | false =>
   cases hq : L.findIdx? (fun b=>b == c) with
   | none=>simp
   | some i =>
    have : ((i : Int) == -1) = false:=by simp
    simp [this]
theorem bencode_integer {p : PV} {d : Nat} {sp : Int} (st : St h S) (is : Is S p) (hs : S.src.size ≤ 65536) (hn : S.src.size + 1 < n) (hc : S.src.data.toList[p.pos]? = some 105) :
  Wp (bencode_parser_integer n (some (adr S.b)) d sp) h (Res h S (spInt S.src p d)):=by
 unfold bencode_parser_integer spInt
 have hlt:=get_lt hc
 generalize hsrc : S.src = s at *
 have hl : s.data.toList.length = s.size:=size_toList s
 simp only [Wp_bind,Wp_nn',Wp_ldI,Wp_ldS,Wp_ldV,Wp_ldB,Wp_idxS,Wp_sliceS,Wp_pure,plus_eq,Nat.zero_add,Nat.reduceAdd,Option.some.injEq,exists_eq_left',decide_eq_true_eq,st.ldErr,st.ldAt,st.ldSrc,st.ldNodes,st.ldSpans,is.1,hsrc,Int.toNat_natCast]
 refine ⟨by omega,by omega,by omega,?_⟩
 unfold strings_IndexByte
 rw [show ((101 : Int).toNat.toUInt8) = (101 : UInt8) from rfl,indexByte_find,ex_list,List.take_of_length_le (by simp [hl]),Wp_pure]
 cases hj : (s.data.toList.drop p.pos).findIdx? (fun b=>b == 101) with
 | none =>
  simp only [Wp_bind,Wp_nn',Wp_ldI,Wp_ldS,Wp_ldV,Wp_ldB,Wp_idxS,Wp_sliceS,Wp_pure,plus_eq,Nat.zero_add,Nat.reduceAdd,Option.some.injEq,exists_eq_left',decide_eq_true_eq,st.ldErr,st.ldAt,st.ldSrc,st.ldNodes,st.ldSpans,hsrc]
  rw [if_pos (by omega)]
  simp only [Wp_bind,Wp_nn',Wp_ldI,Wp_ldS,Wp_ldV,Wp_ldB,Wp_idxS,Wp_sliceS,Wp_pure,plus_eq,Nat.zero_add,Nat.reduceAdd,Option.some.injEq,exists_eq_left',decide_eq_true_eq,st.ldErr,st.ldAt,st.ldSrc,st.ldNodes,st.ldSpans,hsrc]
  refine (bencode_fail st _ _).mono fun x h' hx=>?_
  obtain ⟨rfl,s3,f3⟩:=hx
  exact ⟨_,s3,f3,rfl,failed_ok (S:=S) is.2.2.2 (by simp)⟩
 | some j =>
  have hj1:=findIdx_lt hj
  simp [hl] at hj1
  have hj0 : j ≠ 0:=by
   intro e;subst e
   rw [List.findIdx?_eq_some_iff_getElem] at hj
   obtain ⟨h1,h2,_⟩:=hj
   have h3 : (s.data.toList.drop p.pos)[0]? = some 105:=by rw [List.getElem?_drop];exact hc
   rw [List.getElem?_eq_getElem h1] at h3
   rw [Option.some.inj h3] at h2
   exact absurd h2 (by decide)
  simp only
  rw [if_neg (by omega)]
  have e1 : IntKind.i64.wrap ((p.pos : Int) + 1) = (p.pos + 1 : Nat):=by rw [w64 (by omega) (by omega)];simp
  have e2 : IntKind.i64.wrap ((p.pos : Int) + j) = (p.pos + j : Nat):=by rw [w64 (by omega) (by omega)];simp
  have e3 : IntKind.i64.wrap (((p.pos + j : Nat) : Int) + 1) = (p.pos + j + 1 : Nat):=by rw [w64 (by omega) (by omega)];simp
  simp only [Wp_bind,Wp_nn',Wp_ldI,Wp_ldS,Wp_ldV,Wp_ldB,Wp_idxS,Wp_sliceS,Wp_pure,plus_eq,Nat.zero_add,Nat.reduceAdd,Option.some.injEq,exists_eq_left',decide_eq_true_eq,st.ldErr,st.ldAt,st.ldSrc,st.ldNodes,st.ldSpans,hsrc,e1,e2,e3,Int.toNat_natCast]
  refine ⟨by omega,by omega,by omega,?_⟩
  refine st.setAt fun h2 st2 f2=>?_
  have is2:=is.at (p.pos + j + 1)
  have hb : (S.wAt ((p.pos + j + 1 : Nat) : Int)).b = S.b:=rfl
  have hsr : (S.wAt ((p.pos + j + 1 : Nat) : Int)).src = s:=hsrc
  generalize S.wAt ((p.pos + j + 1 : Nat) : Int) = S2 at *
  rw [← hb]
  have hsz : (s.extract (p.pos + 1) (p.pos + j)).size ≤ s.size:=by
   rw [← size_toList,ex_list,List.length_take,List.length_drop,hl];omega
  refine (integer_Valid_wp (by omega) (by omega) st2.wf).mono fun x h3 hx=>?_
  obtain ⟨rfl,f3⟩:=hx
  obtain ⟨st3,f3⟩:=st2.pure f3
  cases hv : intOK (s.extract (p.pos + 1) (p.pos + j)) with
  | false =>
   simp only [Bool.not_false,if_true,Wp_bind,Wp_nn',Wp_ldI,Wp_ldS,Wp_ldV,Wp_ldB,Wp_idxS,Wp_sliceS,Wp_pure,plus_eq,Nat.zero_add,Nat.reduceAdd,Option.some.injEq,exists_eq_left',decide_eq_true_eq,Bool.false_eq_true,if_false]
   refine (bencode_fail st3 _ _).mono fun x h' hx=>?_
   obtain ⟨rfl,s3,f4⟩:=hx
   exact ⟨_,s3,(f2.trans st.wf f3).trans st.wf f4,rfl,failed_ok (S:=S2) is2.2.2.2 (by simp)⟩
  | true =>
   simp only [Bool.not_true,if_true,Wp_bind,Wp_nn',Wp_ldI,Wp_ldS,Wp_ldV,Wp_ldB,Wp_idxS,Wp_sliceS,Wp_pure,plus_eq,Nat.zero_add,Nat.reduceAdd,Option.some.injEq,exists_eq_left',decide_eq_true_eq,Bool.false_eq_true,if_false]
   exact (bencode_node st3 is2 2 _ p.pos d).mono fun x h' hx=>res_node st.wf (f2.trans st.wf f3) hx
theorem Wp_check {n : Nat} {s : ByteArray} {h : AHeap} {Q : Int × Int → AHeap → Prop} (hq : ∀ i e,(u8 s = true ↔ e = 0) → (e = 0 ∨ e = 11) → Q (i,e) h) : Wp (codepoint_Check n s) h Q:=by
 unfold codepoint_Check
 rw [Wp_pure]
 refine hq _ _ ?_ ?_
 ·unfold u8;cases ckAt s (s.size + 1) 0 <;> simp [ckErr]
 ·cases ckAt s (s.size + 1) 0 <;> simp [ckErr]
theorem bencode_str {p : PV} {d : Nat} {sp : Int} (st : St h S) (is : Is S p) (hs : S.src.size ≤ 65536) (hn : S.src.size + 1 < n) (hp : p.pos ≤ S.src.size) :
  Wp (bencode_parser_str n (some (adr S.b)) d sp) h (Res h S (spStr S.src p d)):=by
 unfold bencode_parser_str spStr
 simp only [Wp_bind,Wp_nn',Wp_ldI,Wp_ldS,Wp_ldV,Wp_ldB,Wp_idxS,Wp_sliceS,Wp_pure,plus_eq,Nat.zero_add,Nat.reduceAdd,Option.some.injEq,exists_eq_left',decide_eq_true_eq,st.ldErr,st.ldAt,st.ldSrc,st.ldNodes,st.ldSpans,is.1]
 refine (bencode_text st is hs hp (by omega)).mono fun x h1 hx=>?_
 obtain ⟨S1,st1,f1,hr⟩:=hx
 split at hr
 ·rename_i r t a ht
  obtain ⟨rfl,is1⟩:=hr
  rw [ht]
  simp only [Bool.not_true,Bool.false_eq_true,if_false,Wp_bind,Wp_nn',Wp_ldI,Wp_ldS,Wp_ldV,Wp_ldB,Wp_idxS,Wp_sliceS,Wp_pure,plus_eq,Nat.zero_add,Nat.reduceAdd,Option.some.injEq,exists_eq_left',decide_eq_true_eq]
  refine Wp_check fun i e he _=>?_
  have hb:=f1.b
  rw [← hb]
  by_cases hu : u8 t = true
  ·have he:=he.1 hu
   simp only [he,decide_true,Bool.not_true,Bool.false_eq_true,if_false,hu,if_true,Wp_bind,Wp_nn',Wp_ldI,Wp_ldS,Wp_ldV,Wp_ldB,Wp_idxS,Wp_sliceS,Wp_pure,plus_eq,Nat.zero_add,Nat.reduceAdd,Option.some.injEq,exists_eq_left',decide_eq_true_eq]
   exact (bencode_node st1 is1 5 t p.pos d).mono fun x h' hx=>res_node st.wf f1 hx
  ·have he : ¬ e = 0:=fun e0=>hu (he.2 e0)
   simp only [he,decide_false,Bool.not_false,if_true,hu,if_false,Wp_bind,Wp_nn',Wp_ldI,Wp_ldS,Wp_ldV,Wp_ldB,Wp_idxS,Wp_sliceS,Wp_pure,plus_eq,Nat.zero_add,Nat.reduceAdd,Option.some.injEq,exists_eq_left',decide_eq_true_eq]
   exact (bencode_node st1 is1 6 t p.pos d).mono fun x h' hx=>res_node st.wf f1 hx
 ·rename_i r e he
  obtain ⟨h1,h2⟩:=hr
  rw [he]
  simp only [h1,Bool.not_false,if_true,Wp_bind,Wp_nn',Wp_ldI,Wp_ldS,Wp_ldV,Wp_ldB,Wp_idxS,Wp_sliceS,Wp_pure,plus_eq,Nat.zero_add,Nat.reduceAdd,Option.some.injEq,exists_eq_left',decide_eq_true_eq]
  exact ⟨S1,st1,f1,rfl,h2⟩
end Go.Sh
