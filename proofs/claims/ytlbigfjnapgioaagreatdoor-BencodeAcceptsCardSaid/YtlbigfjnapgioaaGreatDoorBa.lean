
import Derived.Test.YtlbigfjnapgioaaGreatDoorSp
import Derived.IntWalk
import Derived.Laws.Strings
import Derived.Test.YtlbigfjnapgioaaGreatDoorSh0
set_option linter.all false
namespace Go.Sh
open Go Go.Ago
variable {h h' : AHeap} {S S' : PSt} {n : Nat}
def PSt.failed (S : PSt) (at' e : Int) : PSt:=if S.err = 0 then (S.wOff at').wErr e else S
theorem bencode_fail (st : St h S) (a e : Int) : Wp (bencode_parser_fail n (some (adr S.b)) a e) h fun x h'=>x = false∧St h' (S.failed a e)∧Stp h S h' (S.failed a e):=by
 unfold bencode_parser_fail
 simp only [Wp_bind,Wp_nn',Wp_ldI,plus_eq,Nat.zero_add,Nat.reduceAdd,st.ldErr,Option.some.injEq,exists_eq_left',decide_eq_true_eq]
 split
 ·rename_i he
  simp only [Wp_bind,Wp_nn',plus_eq,Nat.zero_add,Nat.reduceAdd]
  refine st.setOff fun h1 st1 f1=>?_
  refine St.setErr (S:=S.wOff a) st1 fun h2 st2 f2=>?_
  simp only [Wp_pure,PSt.failed,he,if_true]
  exact ⟨trivial,st2,f1.trans st.wf f2⟩
 ·rename_i he
  simp only [Wp_pure,PSt.failed,he,if_false]
  exact ⟨trivial,st,Stp.refl st.wf⟩
theorem bencode_more (st : St h S) (h0 : S.err = 0) : Wp (bencode_parser_more n (some (adr S.b))) h fun x h' =>
  if (S.src.size : Int) ≤ S.at' then x = false∧St h' ((S.wOff S.src.size).wErr 4)∧Stp h S h' ((S.wOff S.src.size).wErr 4) else x = true∧h' = h:=by
 unfold bencode_parser_more
 simp only [Wp_bind,Wp_nn',Wp_ldI,Wp_ldS,plus_eq,Nat.zero_add,Nat.reduceAdd,st.ldErr,st.ldAt,st.ldSrc,Option.some.injEq,exists_eq_left',decide_eq_true_eq]
 split
 ·simp only [Wp_bind,Wp_nn',Wp_ldS,plus_eq,Nat.zero_add,Nat.reduceAdd,st.ldSrc,Option.some.injEq,exists_eq_left']
  refine (bencode_fail st _ _).mono fun x h' hx=>?_
  simp only [Wp_pure]
  simpa only [PSt.failed,h0,if_true] using hx
 ·simp only [Wp_bind,Wp_nn',Wp_ldI,plus_eq,Nat.zero_add,Nat.reduceAdd,st.ldErr,Option.some.injEq,exists_eq_left',Wp_pure,h0,decide_true,and_self]
theorem w64 {x : Int} (h1 : -9223372036854775808 ≤ x) (h2 : x ≤ 9223372036854775807) : IntKind.i64.wrap x = x:=IntWalk.i64_in x (by omega)
def Is (S : PSt) (p : PV) : Prop:=S.at' = p.pos∧S.nodes.map NodeR.v = p.nodes∧S.spans = p.spans∧S.err = 0
def Res (h : AHeap) (S : PSt) (r : Rs (Int × PV)) (x : Int × Bool) (h' : AHeap) : Prop :=
 ∃ S',St h' S'∧Stp h S h' S'∧match r with
  | .ok (n,p)=>x = (n,true)∧Is S' p
  | .error e=>x.2 = false∧S'.off = e.1∧S'.err = e.2∧e.2 ≠ 0
theorem lds_of {h : AHeap} {b o : Nat} {ls : List Leaf} {c : List Value} {g base : Nat} {e : TypeId} {x : LsDen ls} (hb : h.get b = some (.cells c g base e)) (hl : o + ls.length ≤ c.length) (hx : unLs ls ((c.drop o).take ls.length) = some x) : h.lds ls b o = some x:=by
 unfold AHeap.lds;rw [hb];simp only [hl,if_true];exact hx
theorem Stp.new (st : St h S) {e : TypeId} {cs : List Value} : St (h.new e cs) S∧Stp h S (h.new e cs) S:=by
 have f:=Fr.new (e:=e) (cs:=cs) st.wf
 exact ⟨st.fr f (fun _ hx=>hx.elim),rfl,f.mono st.wf (fun _ hx _=>hx.elim),fun s=>.inr (.inl ⟨s,rfl⟩)⟩
theorem Fr.opq {h : AHeap} (hw : WF h) : Fr (fun _=>False) h { h with next:=h.next + 1,used:=fun j=>cond (Nat.beq j h.next) true (h.used j) }:=by
 refine ⟨⟨fun j hj=>hw.get j (by simp at hj;omega),fun j hj=>?_,fun j c g b e hj=>Nat.le_trans (hw.grp j c g b e hj) (Nat.le_succ _),fun j hj=>hw.maps j (by simp at hj;omega)⟩,Nat.le_succ _,fun _ _ _ _ _ h _=>h,fun _ _ _=>rfl,fun j hj=>?_,fun _ _ h=>h,fun _ _ h _=>h⟩
 ·simp only at hj ⊢
  rw [beq_ne (by omega)];exact hw.used j (by omega)
 ·simp only
  rw [beq_ne (by omega)];rfl
theorem Wp_opq {h : AHeap} {Q : Nat → AHeap → Prop} (hq : ∀ h',(WF h → Fr (fun _=>False) h h') → Q h.next h') : Wp opq h Q:=⟨_,_,rfl,hq _ Fr.opq⟩
theorem bencode_node (st : St h S) {p : PV} (is : Is S p) (kind : Int) (t : ByteArray) (frm d : Nat) :
  Wp (bencode_parser_node n (some (adr S.b)) (kind,t,false,sl0,sl0) frm d) h (Res h S (spNode p ⟨kind,t,false,[],[]⟩ frm d)):=by
 unfold bencode_parser_node
 rw [Wp_bind,Wp_new]
 refine ⟨rfl,?_⟩
 obtain ⟨st1,f1⟩:=Stp.new st (e:=T_api_Node) (cs:=[vi kind,Value.string t,Value.bool false,vsl sl0,vsl sl0])
 have hget : (h.new T_api_Node [vi kind,Value.string t,Value.bool false,vsl sl0,vsl sl0]).get h.next = some (.cells [vi kind,Value.string t,Value.bool false,vsl sl0,vsl sl0] (h.next + 1) 0 T_api_Node):=putB_get_self
 generalize h.new T_api_Node [vi kind,Value.string t,Value.bool false,vsl sl0,vsl sl0] = h1 at *
 have hlen : S.nsl.len = p.nodes.length:=by rw [st.nodes_len,← is.2.1,List.length_map]
 unfold spNode
 split
 ·rename_i hd
  have hd' : 32 < d:=by simp at hd;omega
  rw [if_pos hd',Wp_bind]
  refine (bencode_fail st1 _ _).mono fun x h' hx=>?_
  obtain ⟨rfl,s2,f2⟩:=hx
  simp only [Wp_pure,PSt.failed,is.2.2.2,if_true] at *
  exact ⟨_,s2,f1.trans st.wf f2,rfl,rfl,rfl,by simp⟩
 ·rename_i hd
  have hd' : ¬ 32 < d:=by simp at hd;omega
  rw [if_neg hd']
  simp only [Wp_bind,Wp_nn',Wp_ldV,plus_eq,Nat.zero_add,Nat.reduceAdd,st1.ldNodes,Option.some.injEq,exists_eq_left',hlen]
  split
  ·rename_i hm
   have hm' : 4096 ≤ p.nodes.length:=by simp at hm;omega
   rw [if_pos hm',Wp_bind]
   refine (bencode_fail st1 _ _).mono fun x h' hx=>?_
   obtain ⟨rfl,s2,f2⟩:=hx
   simp only [Wp_pure,PSt.failed,is.2.2.2,if_true] at *
   exact ⟨_,s2,f1.trans st.wf f2,rfl,rfl,rfl,by simp⟩
  ·rename_i hm
   have hm' : ¬ 4096 ≤ p.nodes.length:=by simp at hm;omega
   rw [if_neg hm']
   simp only [Wp_bind,Wp_nn',Wp_ldV,plus_eq,Nat.zero_add,Nat.reduceAdd,st1.ldNodes,Option.some.injEq,exists_eq_left']
   refine Wp_ldLs.2 ⟨(kind,t,false,sl0,sl0),lds_of hget (by simp) rfl,?_⟩
   have hnl : S.nodes.length = p.nodes.length:=by rw [← is.2.1,List.length_map]
   refine St.addNode (x:=⟨kind,t,false,sl0,[],0,sl0,[],0⟩) st1 ⟨rfl,rfl,rfl⟩ ⟨rfl,rfl,rfl⟩ (by unfold bigN;omega) fun s' h2 hput=>?_
   refine hput.mono fun _ h3 hx=>?_
   obtain ⟨g',e1,st3,f3⟩:=hx
   refine ⟨s',st3.ldNodes,?_⟩
   rw [Wp_pure,e1,hnl]
   refine ⟨_,st3,f1.trans st.wf f3,?_,is.1,?_,is.2.2.1,is.2.2.2⟩
   ·rw [w64 (by omega) (by omega)];simp
   ·simp [is.2.1,NodeR.v,PSt.wNodes]
theorem ba_get (s : ByteArray) (i : Nat) : s[i]? = s.data.toList[i]?:=by
 by_cases hi : i < s.size
 ·rw [getElem?_pos s i hi,List.getElem?_eq_getElem (by rwa [size_toList])];rfl
 ·rw [getElem?_neg s i hi,List.getElem?_eq_none (by rw [size_toList];omega)]
theorem ex_list (s : ByteArray) (a b : Nat) : (s.extract a b).data.toList = (s.data.toList.drop a).take (b - a):=by
 simp [ByteArray.data_extract]
theorem eqS_iff (x y : ByteArray) : eqS x y = true ↔ x.data.toList = y.data.toList:=by
 unfold eqS;rw [ByteArray.toList_eq,ByteArray.toList_eq];simp
theorem digs_le (L : List UInt8) (a : Nat) : (digs (L.drop a)).length ≤ L.length - a:=by
 have:=(List.takeWhile_sublist isDig (l:=L.drop a)).length_le
 simpa [digs] using this
theorem digs_cons {L : List UInt8} {a : Nat} {c : UInt8} (hc : L[a]? = some c) : digs (L.drop a) = if isDig c then c :: digs (L.drop (a + 1)) else []:=by
 have hlt:=(List.getElem?_eq_some_iff.1 hc).1
 have hd : L.drop a = c :: L.drop (a + 1):=by
  rw [List.drop_eq_getElem_cons hlt,(List.getElem?_eq_some_iff.1 hc).2]
 rw [hd,digs,List.takeWhile_cons]
 split <;> rename_i h1 <;> simp [h1,digs]
theorem digs_take (L : List UInt8) (a : Nat) : (L.drop a).take (digs (L.drop a)).length = digs (L.drop a):=by
 have h:=List.takeWhile_append_dropWhile (p:=isDig) (l:=L.drop a)
 conv=>lhs;arg 2;rw [← h]
 exact List.take_left
theorem isDig_int (c : UInt8) : isDig c = (decide (48 ≤ (c.toNat : Int)) && decide ((c.toNat : Int) ≤ 57)):=by
 unfold isDig
 rw [Bool.eq_iff_iff];simp;omega
theorem bencode_digits {s : ByteArray} (hs : s.size ≤ 65536) : ∀ (n : Nat) (h : AHeap) (S : PSt) (a : Nat) (a1 : Int),S.src = s → St h S → S.at' = a → a ≤ s.size → s.size - a < n →
  Wp (bencode_parser_text_L0 n (some (adr S.b)) a1) h fun _ h'=>St h' (S.wAt (a + (digs (s.data.toList.drop a)).length : Nat))∧Stp h S h' (S.wAt (a + (digs (s.data.toList.drop a)).length : Nat))
 | 0,_,_,_,_,_,_,_,_,hn=>by omega
 | n + 1,h,S,a,a1,he,st,ha,hle,hn=>by
  rw [bencode_parser_text_L0_succ]
  unfold bencode_parser_text_L0_B
  have stop : digs (s.data.toList.drop a) = [] → St h (S.wAt (a + (digs (s.data.toList.drop a)).length : Nat))∧Stp h S h (S.wAt (a + (digs (s.data.toList.drop a)).length : Nat)):=by
   intro hd
   have e : (S.wAt (a + (digs (s.data.toList.drop a)).length : Nat)) = S:=by rw [hd];simp [← ha,PSt.wAt]
   rw [e];exact ⟨st,Stp.refl st.wf⟩
  simp only [Wp_bind,Wp_nn',Wp_ldI,Wp_ldS,plus_eq,Nat.zero_add,Nat.reduceAdd,st.ldErr,st.ldAt,st.ldSrc,Option.some.injEq,exists_eq_left',decide_eq_true_eq,ha,he]
  split
  ·rename_i h1
   have h1' : a < s.size:=by omega
   have hc : s.data.toList[a]? = some s.data.toList[a]:=List.getElem?_eq_getElem (by rwa [size_toList])
   generalize s.data.toList[a] = c at hc
   have hd:=digs_cons hc
   rw [isDig_int] at hd
   simp only [Wp_bind,Wp_nn',Wp_ldI,Wp_ldS,Wp_idxS,plus_eq,Nat.zero_add,Nat.reduceAdd,st.ldErr,st.ldAt,st.ldSrc,Option.some.injEq,exists_eq_left',decide_eq_true_eq,ha,he,ba_get,Int.toNat_natCast,hc,Int.natCast_nonneg,true_and]
   split
   ·rename_i h2
    simp only [Wp_bind,Wp_nn',Wp_ldI,Wp_ldS,Wp_idxS,plus_eq,Nat.zero_add,Nat.reduceAdd,st.ldErr,st.ldAt,st.ldSrc,Option.some.injEq,exists_eq_left',decide_eq_true_eq,ha,he,ba_get,Int.toNat_natCast,hc,Int.natCast_nonneg,true_and]
    split
    ·rename_i h3
     simp only [h2,h3,decide_true,Bool.and_self,if_true] at hd
     simp only [Wp_bind,Wp_nn',Wp_ldI,plus_eq,Nat.zero_add,Nat.reduceAdd,st.ldAt,Option.some.injEq,exists_eq_left',ha]
     refine st.setAt fun h2 st2 f2=>?_
     have e1 : IntKind.i64.wrap ((a : Int) + 1) = ((a + 1 : Nat) : Int):=by rw [w64 (by omega) (by omega)];simp
     rw [e1] at st2 f2
     have ih:=bencode_digits hs n h2 (S.wAt ((a + 1 : Nat) : Int)) (a + 1) a1 he st2 rfl h1' (by omega)
     refine ih.mono fun _ h3 hx=>?_
     obtain ⟨s3,f3⟩:=hx
     have e2 : a + (digs (s.data.toList.drop a)).length = a + 1 + (digs (s.data.toList.drop (a + 1))).length:=by rw [hd];simp;omega
     rw [e2]
     exact ⟨s3,f2.trans st.wf f3⟩
    ·rename_i h3
     simp only [Wp_pure]
     exact stop (by rw [hd];simp [h3])
   ·rename_i h2
    simp only [Wp_pure]
    exact stop (by rw [hd];simp [h2])
  ·rename_i h1
   simp only [Wp_pure]
   exact stop (by rw [List.drop_eq_nil_of_le (by rw [size_toList];omega)];rfl)
end Go.Sh
