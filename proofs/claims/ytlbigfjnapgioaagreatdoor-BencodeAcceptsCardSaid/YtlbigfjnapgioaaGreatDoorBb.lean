
import Derived.Test.YtlbigfjnapgioaaGreatDoorBa
set_option linter.all false
namespace Go.Sh
open Go Go.Ago
variable {h h' : AHeap} {S S' : PSt} {n : Nat}
def Fail (S' : PSt) (e : Nat × Int) : Prop:=S'.off = e.1∧S'.err = e.2∧e.2 ≠ 0
def ResT (h : AHeap) (S : PSt) (p : PV) (r : Rs (ByteArray × Nat)) (x : ByteArray × Bool) (h' : AHeap) : Prop :=
 ∃ S',St h' S'∧Stp h S h' S'∧match r with
  | .ok (t,a)=>x = (t,true)∧Is S' { p with pos:=a }
  | .error e=>x.2 = false∧Fail S' e
theorem failed_ok {S : PSt} {a : Nat} {e : Int} (h0 : S.err = 0) (he : e ≠ 0) : Fail (S.failed a e) (a,e):=by
 unfold PSt.failed;rw [if_pos h0];exact ⟨rfl,rfl,he⟩
def spTail (s : ByteArray) (a1 : Nat) (D : List UInt8) : Rs (ByteArray × Nat) :=
 match s.data.toList[a1]? with
  | none=>.error (s.size,4)
  | some c=>if c = 58 then (if s.size - (a1 + 1) < decVal D then .error (s.size,4) else .ok (s.extract (a1 + 1) (a1 + 1 + decVal D),a1 + 1 + decVal D))
   else .error (a1,4)
theorem Is.at {S : PSt} {p : PV} (is : Is S p) (a : Nat) : Is (S.wAt a) { p with pos:=a }:=⟨rfl,is.2⟩
theorem digs_all (L : List UInt8) : (digs L).all isDig = true:=by
 induction L with
 | nil=>rfl
 | cons a L ih =>
  unfold digs at ih ⊢
  rw [List.takeWhile_cons]
  split
  ·rename_i h1;rw [List.all_cons,h1,ih];rfl
  ·rfl
theorem Wp_atoi {n : Nat} {x : ByteArray} {h : AHeap} {Q : Int × Value → AHeap → Prop} (hw : WF h) (h1 : x.size ≠ 0) (hs : x.size ≤ 281474976710656) (h2 : x.data.toList.all isDig = true)
  (q1 : decVal x.data.toList ≤ 9223372036854775807 → Q ((decVal x.data.toList : Int),.nilIface) h)
  (q2 : ∀ t v h',9223372036854775807 < decVal x.data.toList → Fr (fun _=>False) h h' → Q (9223372036854775807,.iface t v) h') : Wp (strconv_Atoi n x) h Q:=by
 unfold strconv_Atoi
 rw [if_pos ⟨⟨h1,hs⟩,h2⟩]
 split
 ·rw [Wp_pure];exact q1 ‹_›
 ·rw [Wp_bind]
  refine Wp_opq fun h' f=>?_
  rw [Wp_pure];exact q2 _ _ _ (by omega) (f hw)
theorem bencode_text_J1 {p : PV} {a v : Nat} (st : St h S) (is : Is S p) (hs : S.src.size ≤ 65536) (hp : p.pos = a) (hv : a + v ≤ S.src.size) :
  Wp (bencode_parser_text_J1 n (some (adr S.b)) v) h fun x h'=>x = (S.src.extract a (a + v),true)∧St h' (S.wAt (a + v : Nat))∧Stp h S h' (S.wAt (a + v : Nat)):=by
 unfold bencode_parser_text_J1
 simp only [Wp_bind,Wp_nn',Wp_ldI,Wp_ldS,Wp_ldV,Wp_ldB,Wp_idxS,Wp_sliceS,Wp_pure,plus_eq,Nat.zero_add,Nat.reduceAdd,Option.some.injEq,exists_eq_left',decide_eq_true_eq,st.ldAt,is.1,hp]
 refine st.setAt fun h2 st2 f2=>?_
 have e1 : IntKind.i64.wrap ((a : Int) + v) = ((a + v : Nat) : Int):=by rw [w64 (by omega) (by omega)];simp
 rw [e1] at st2 f2
 have e2 : IntKind.i64.wrap (((a + v : Nat) : Int) - v) = (a : Int):=by rw [w64 (by omega) (by omega)];omega
 have hb : (S.wAt ((a + v : Nat) : Int)).b = S.b:=rfl
 have hsr : (S.wAt ((a + v : Nat) : Int)).src = S.src:=rfl
 have hat : (S.wAt ((a + v : Nat) : Int)).at' = (a + v : Nat):=rfl
 rw [← hb]
 simp only [Wp_bind,Wp_nn',Wp_ldI,Wp_ldS,Wp_ldV,Wp_ldB,Wp_idxS,Wp_sliceS,Wp_pure,plus_eq,Nat.zero_add,Nat.reduceAdd,Option.some.injEq,exists_eq_left',decide_eq_true_eq,st2.ldErr,st2.ldAt,st2.ldSrc,st2.ldNodes,st2.ldSpans,hsr,hat,e2,Int.toNat_natCast]
 exact ⟨by omega,by omega,by omega,trivial,st2,f2⟩
theorem bencode_text_J0 {p : PV} {a1 : Nat} {x7 : ByteArray} (st : St h S) (is : Is S p) (hs : S.src.size ≤ 65536) (hp : p.pos = a1) (h1 : x7.size ≠ 0) (hs7 : x7.size ≤ S.src.size) (h2 : x7.data.toList.all isDig = true) :
  Wp (bencode_parser_text_J0 n (some (adr S.b)) x7) h (ResT h S p (spTail S.src a1 x7.data.toList)):=by
 unfold bencode_parser_text_J0 spTail
 have err0:=is.2.2.2
 rw [Wp_bind]
 refine (bencode_more st err0).mono fun x h' hx=>?_
 rw [is.1,hp] at hx
 split at hx
 ·rename_i hle
  obtain ⟨rfl,st1,f1⟩:=hx
  rw [List.getElem?_eq_none (by rw [size_toList];omega)]
  simp only [Wp_bind,Wp_nn',Wp_ldI,Wp_ldS,Wp_ldV,Wp_ldB,Wp_idxS,Wp_sliceS,Wp_pure,plus_eq,Nat.zero_add,Nat.reduceAdd,Option.some.injEq,exists_eq_left',decide_eq_true_eq,Bool.not_false,if_true]
  exact ⟨_,st1,f1,rfl,rfl,rfl,by simp⟩
 ·rename_i hle
  obtain ⟨rfl,rfl⟩:=hx
  have hlt : a1 < S.src.data.toList.length:=by rw [size_toList];omega
  rw [size_toList] at hlt
  have hc : S.src.data.toList[a1]? = some S.src.data.toList[a1]:=List.getElem?_eq_getElem (by rwa [size_toList])
  generalize S.src.data.toList[a1] = c at hc
  rw [hc]
  simp only [Wp_bind,Wp_nn',Wp_ldI,Wp_ldS,Wp_ldV,Wp_ldB,Wp_idxS,Wp_sliceS,Wp_pure,plus_eq,Nat.zero_add,Nat.reduceAdd,Option.some.injEq,exists_eq_left',decide_eq_true_eq,st.ldErr,st.ldAt,st.ldSrc,st.ldNodes,st.ldSpans,is.1,hp,ba_get,hc,Int.toNat_natCast,Int.natCast_nonneg,true_and,Bool.not_true,if_false,Bool.false_eq_true,Bool.not_eq_true',decide_eq_false_iff_not]
  have hcc : ((c.toNat : Int) = 58) ↔ c = 58:=by
   rw [← UInt8.toNat_inj];simp;omega
  simp only [hcc]
  by_cases hc58 : c = 58
  ·simp only [hc58,not_true_eq_false,if_false,if_true]
   simp only [Wp_bind,Wp_nn',Wp_ldI,Wp_ldS,Wp_ldV,Wp_ldB,Wp_idxS,Wp_sliceS,Wp_pure,plus_eq,Nat.zero_add,Nat.reduceAdd,Option.some.injEq,exists_eq_left',decide_eq_true_eq,st.ldErr,st.ldAt,st.ldSrc,st.ldNodes,st.ldSpans,is.1,hp]
   refine st.setAt fun h2' st2 f2=>?_
   have e1 : IntKind.i64.wrap ((a1 : Int) + 1) = ((a1 + 1 : Nat) : Int):=by rw [w64 (by omega) (by omega)];simp
   rw [e1] at st2 f2
   have is2:=is.at (a1 + 1)
   have hb : (S.wAt ((a1 + 1 : Nat) : Int)).b = S.b:=rfl
   have hsr : (S.wAt ((a1 + 1 : Nat) : Int)).src = S.src:=rfl
   generalize S.wAt ((a1 + 1 : Nat) : Int) = S2 at *
   rw [← hb]
   refine Wp_atoi st2.wf h1 (by omega) h2 (fun hv=>?_) (fun t v h5 hv f5=>?_)
   ·simp only [Wp_bind,Wp_nn',Wp_ldI,Wp_ldS,Wp_ldV,Wp_ldB,Wp_idxS,Wp_sliceS,Wp_pure,plus_eq,Nat.zero_add,Nat.reduceAdd,Option.some.injEq,exists_eq_left',decide_eq_true_eq,st2.ldErr,st2.ldAt,st2.ldSrc,st2.ldNodes,st2.ldSpans,Wp_isNilI,true_and,reduceCtorEq,false_and,exists_false,or_false,exists_const,Bool.not_true,if_false,Bool.false_eq_true,hsr,is2.1]
    have e2 : IntKind.i64.wrap ((S.src.size : Int) - ((a1 + 1 : Nat) : Int)) = (S.src.size - (a1 + 1) : Nat):=by rw [w64 (by omega) (by omega)];omega
    rw [e2]
    split
    ·rename_i h5
     rw [if_pos (by omega)]
     simp only [Wp_bind,Wp_nn',Wp_ldI,Wp_ldS,Wp_ldV,Wp_ldB,Wp_idxS,Wp_sliceS,Wp_pure,plus_eq,Nat.zero_add,Nat.reduceAdd,Option.some.injEq,exists_eq_left',decide_eq_true_eq,st2.ldErr,st2.ldAt,st2.ldSrc,st2.ldNodes,st2.ldSpans,hsr]
     refine (bencode_fail st2 _ _).mono fun x h' hx=>?_
     obtain ⟨rfl,s3,f3⟩:=hx
     exact ⟨_,s3,f2.trans st.wf f3,rfl,failed_ok (S:=S2) is2.2.2.2 (by simp)⟩
    ·rename_i h5
     rw [if_neg (by omega)]
     refine (bencode_text_J1 (a:=a1 + 1) (v:=decVal x7.data.toList) st2 is2 (by rw [hsr];exact hs) rfl (by rw [hsr];omega)).mono fun x h' hx=>?_
     obtain ⟨rfl,s3,f3⟩:=hx
     rw [hsr]
     exact ⟨_,s3,f2.trans st.wf f3,rfl,is2.at _⟩
   ·obtain ⟨st3,f3⟩:=st2.pure f5
    simp only [Wp_bind,Wp_nn',Wp_ldI,Wp_ldS,Wp_ldV,Wp_ldB,Wp_idxS,Wp_sliceS,Wp_pure,plus_eq,Nat.zero_add,Nat.reduceAdd,Option.some.injEq,exists_eq_left',decide_eq_true_eq,st3.ldErr,st3.ldAt,st3.ldSrc,st3.ldNodes,st3.ldSpans,Wp_isNilI,reduceCtorEq,false_and,false_or,Value.iface.injEq,exists_eq_left',Bool.not_false,if_true,hsr]
    rw [if_pos (by omega)]
    refine ⟨t,v,⟨rfl,rfl⟩,?_⟩
    refine (bencode_fail st3 _ _).mono fun x h' hx=>?_
    obtain ⟨rfl,s3,f4⟩:=hx
    exact ⟨_,s3,(f2.trans st.wf f3).trans st.wf f4,rfl,failed_ok (S:=S2) is2.2.2.2 (by simp)⟩
  ·simp only [hc58,not_false_eq_true,if_true,if_false]
   simp only [Wp_bind,Wp_nn',Wp_ldI,Wp_ldS,Wp_ldV,Wp_ldB,Wp_idxS,Wp_sliceS,Wp_pure,plus_eq,Nat.zero_add,Nat.reduceAdd,Option.some.injEq,exists_eq_left',decide_eq_true_eq,st.ldErr,st.ldAt,st.ldSrc,st.ldNodes,st.ldSpans,is.1,hp]
   refine (bencode_fail st _ _).mono fun x h' hx=>?_
   obtain ⟨rfl,s3,f3⟩:=hx
   exact ⟨_,s3,f3,rfl,failed_ok (S:=S) err0 (by simp)⟩
theorem bencode_text {p : PV} (st : St h S) (is : Is S p) (hs : S.src.size ≤ 65536) (hp : p.pos ≤ S.src.size) (hn : S.src.size < n) :
  Wp (bencode_parser_text n (some (adr S.b))) h (ResT h S p (spText S.src p.pos)):=by
 generalize hsrc : S.src = s at *
 have err0:=is.2.2.2
 unfold bencode_parser_text
 simp only [Wp_bind,Wp_nn',Wp_ldI,Wp_ldS,Wp_ldV,Wp_ldB,Wp_idxS,Wp_sliceS,Wp_pure,plus_eq,Nat.zero_add,Nat.reduceAdd,Option.some.injEq,exists_eq_left',decide_eq_true_eq,st.ldAt,is.1]
 refine (bencode_digits hs n h S p.pos _ hsrc st is.1 hp (by omega)).mono fun _ h1 hx=>?_
 obtain ⟨st1,f1⟩:=hx
 have hle:=digs_le s.data.toList p.pos
 rw [size_toList] at hle
 generalize hD : digs (s.data.toList.drop p.pos) = D at *
 have hsrc1 : (S.wAt ((p.pos + D.length : Nat) : Int)).src = s:=hsrc
 have hat1 : (S.wAt ((p.pos + D.length : Nat) : Int)).at' = (p.pos + D.length : Nat):=rfl
 have herr1 : (S.wAt ((p.pos + D.length : Nat) : Int)).err = 0:=err0
 have hb1 : (S.wAt ((p.pos + D.length : Nat) : Int)).b = S.b:=rfl
 have ms1 : (S.wAt ((p.pos + D.length : Nat) : Int)).nodes.map NodeR.v = p.nodes:=is.2.1
 have sp1 : (S.wAt ((p.pos + D.length : Nat) : Int)).spans = p.spans:=is.2.2.1
 generalize S.wAt ((p.pos + D.length : Nat) : Int) = S1 at *
 rw [← hb1] at *
 simp only [Wp_bind,Wp_nn',Wp_ldI,Wp_ldS,Wp_ldV,Wp_ldB,Wp_idxS,Wp_sliceS,Wp_pure,plus_eq,Nat.zero_add,Nat.reduceAdd,Option.some.injEq,exists_eq_left',decide_eq_true_eq,st1.ldAt,st1.ldSrc,hsrc1,hat1]
 refine ⟨by omega,by omega,by omega,?_⟩
 have hx7 : (s.extract (p.pos : Int).toNat ((p.pos + D.length : Nat) : Int).toNat).data.toList = D:=by
  rw [ex_list,Int.toNat_natCast,Int.toNat_natCast,Nat.add_sub_cancel_left,← hD,digs_take]
 generalize s.extract (p.pos : Int).toNat ((p.pos + D.length : Nat) : Int).toNat = x7 at *
 have hsz : x7.size = D.length:=by rw [← size_toList,hx7]
 have is1 : Is S1 { p with pos:=p.pos + D.length }:=⟨hat1,ms1,sp1,herr1⟩
 have spec : spText s p.pos = if D.length = 0 then .error (p.pos,4) else if 1 < D.length∧s.data.toList[p.pos]? = some 48 then .error (p.pos,12) else spTail s (p.pos + D.length) D:=by
  unfold spText spTail;simp only [hD];rfl
 rw [spec]
 clear spec
 have fl : ∀ {e : Int},e ≠ 0 → ∀ {h2 : AHeap},St h2 (S1.failed p.pos e) → Stp h1 S1 h2 (S1.failed p.pos e) → ∃ S',St h2 S'∧Stp h S h2 S'∧Fail S' (p.pos,e):=by
  intro e he h2 hh1 hh2
  exact ⟨_,hh1,f1.trans st.wf hh2,failed_ok herr1 he⟩
 by_cases hD0 : D.length = 0
 ·rw [if_pos hD0]
  have hD0' : D = []:=List.eq_nil_of_length_eq_zero hD0
  have he : eqS x7 (ofBytes []) = true:=by rw [eqS_iff,hx7,hD0'];rfl
  simp only [he,if_true]
  rw [Wp_bind]
  refine (bencode_more st1 herr1).mono fun x h2 hx=>?_
  rw [hsrc1,hat1] at hx
  split at hx
  ·obtain ⟨rfl,st2,f2⟩:=hx
   simp only [Wp_bind,Wp_nn',Wp_ldI,Wp_ldS,Wp_ldV,Wp_ldB,Wp_idxS,Wp_sliceS,Wp_pure,plus_eq,Nat.zero_add,Nat.reduceAdd,Option.some.injEq,exists_eq_left',decide_eq_true_eq,Bool.false_eq_true,if_false]
   refine ⟨_,st2,f1.trans st.wf f2,rfl,?_⟩
   refine ⟨?_,rfl,by simp⟩
   show (s.size : Int) = p.pos
   omega
  ·obtain ⟨rfl,rfl⟩:=hx
   simp only [Wp_bind,Wp_nn',Wp_ldI,Wp_ldS,Wp_ldV,Wp_ldB,Wp_idxS,Wp_sliceS,Wp_pure,plus_eq,Nat.zero_add,Nat.reduceAdd,Option.some.injEq,exists_eq_left',decide_eq_true_eq,if_true]
   refine (bencode_fail st1 _ _).mono fun x h2 hx=>?_
   obtain ⟨rfl,s3,f3⟩:=hx
   obtain ⟨S',a1,a2,a3⟩:=fl (by simp) s3 f3
   exact ⟨S',a1,a2,rfl,a3⟩
 ·rw [if_neg hD0]
  have he : eqS x7 (ofBytes []) = false:=by
   cases hq : eqS x7 (ofBytes []) with
   | false=>rfl
   | true=>rw [eqS_iff,hx7] at hq;rw [hq] at hD0;exact absurd rfl hD0
  simp only [he,Bool.false_eq_true,if_false]
  have tail : Wp (bencode_parser_text_J0 n (some (adr S1.b)) x7) h1 (ResT h S p (spTail s (p.pos + D.length) D)):=by
   refine (bencode_text_J0 (a1:=p.pos + D.length) st1 is1 (by rw [hsrc1];exact hs) rfl (by omega) (by rw [hsrc1];omega) (by rw [hx7,← hD];exact digs_all _)).mono fun x h2 hx=>?_
   rw [hsrc1,hx7] at hx
   obtain ⟨S',a1,a2,a3⟩:=hx
   exact ⟨S',a1,f1.trans st.wf a2,a3⟩
  have hd0 : s.data.toList[p.pos]? = D[0]?:=by
   rw [← hD]
   have h1 : (digs (s.data.toList.drop p.pos))[0]? = ((s.data.toList.drop p.pos).take (digs (s.data.toList.drop p.pos)).length)[0]?:=by rw [digs_take]
   rw [h1,List.getElem?_take,if_pos (by rw [hD];omega),List.getElem?_drop,Nat.add_zero]
  by_cases h1l : 1 < D.length
  ·have h1s : (1 : Int) < (x7.size : Int):=by omega
   rw [if_pos h1s]
   have hc : D[0]? = some D[0]:=List.getElem?_eq_getElem (by omega)
   generalize D[0] = c at hc
   simp only [Wp_bind,Wp_nn',Wp_ldI,Wp_ldS,Wp_ldV,Wp_ldB,Wp_idxS,Wp_sliceS,Wp_pure,plus_eq,Nat.zero_add,Nat.reduceAdd,Option.some.injEq,exists_eq_left',decide_eq_true_eq,ba_get,hx7,Int.toNat_zero,hc,Int.le_refl,true_and]
   have hcc : ((c.toNat : Int) = 48) ↔ c = 48:=by
    rw [← UInt8.toNat_inj];simp;omega
   by_cases hc48 : c = 48
   ·rw [if_pos (hcc.2 hc48),if_pos ⟨h1l,by rw [hd0,hc,hc48]⟩]
    simp only [Wp_bind,Wp_nn',Wp_ldI,Wp_ldS,Wp_ldV,Wp_ldB,Wp_idxS,Wp_sliceS,Wp_pure,plus_eq,Nat.zero_add,Nat.reduceAdd,Option.some.injEq,exists_eq_left',decide_eq_true_eq]
    refine (bencode_fail st1 _ _).mono fun x h2 hx=>?_
    obtain ⟨rfl,s3,f3⟩:=hx
    obtain ⟨S',a1,a2,a3⟩:=fl (by simp) s3 f3
    exact ⟨S',a1,a2,rfl,a3⟩
   ·rw [if_neg (fun h=>hc48 (hcc.1 h)),if_neg (fun h=>hc48 (by have:=h.2;rw [hd0,hc] at this;exact Option.some.inj this))]
    exact tail
  ·have h1s : ¬ (1 : Int) < (x7.size : Int):=by omega
   rw [if_neg h1s,if_neg (fun h=>h1l h.1)]
   exact tail
end Go.Sh
