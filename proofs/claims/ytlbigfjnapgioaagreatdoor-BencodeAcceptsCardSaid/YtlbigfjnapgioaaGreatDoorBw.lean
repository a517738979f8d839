
import Derived.Test.YtlbigfjnapgioaaGreatDoorBv
import Derived.Test.YtlbigfjnapgioaaGreatDoorPlain
set_option linter.all false
namespace Go.Sh
open Go Go.Ago
variable {h h' : AHeap} {S S' : PSt} {n : Nat}
theorem node_get {S : PSt} {p : PV} {nd : Nat} (is : Is S p) (hn : nd < p.nodes.length) : ∃ x,S.nodes[nd]? = some x∧p.nodes[nd]? = some x.v:=by
 have h1:=is.2.1
 have hlt : nd < S.nodes.length:=by rw [← List.length_map (f:=NodeR.v),h1];exact hn
 refine ⟨S.nodes[nd],List.getElem?_eq_getElem hlt,?_⟩
 rw [← h1,List.getElem?_map,List.getElem?_eq_getElem hlt];rfl
theorem map_set {S : PSt} {p : PV} {nd : Nat} {x x' : NodeR} {f : NodeV → NodeV} (is : Is S p) (hi : S.nodes[nd]? = some x) (hf : x'.v = f x.v) : (S.nodes.set nd x').map NodeR.v = p.nodes.modify nd f:=by
 have h2 : p.nodes[nd]? = some x.v:=by rw [← is.2.1,List.getElem?_map,hi];rfl
 rw [List.map_set,is.2.1,modify_set h2,hf]
theorem listL_stop {a1 a2 a3 k : Int} {n : Nat} (hn : n ≠ 0) {Q : Bool → AHeap → Prop} (q : Q false h) {a0 : Option Addr} : Wp (bencode_parser_list_L0 n a0 a1 a2 a3 false k) h Q:=by
 obtain ⟨n,rfl⟩ : ∃ k,n = k + 1:=⟨n - 1,by omega⟩
 rw [bencode_parser_list_L0_succ]
 unfold bencode_parser_list_L0_B
 simp only [Bool.false_eq_true,if_false,Wp_pure];exact q
theorem list_step {s : ByteArray} {m : Nat} (hs : s.size ≤ 65536) (hV : BV s m) (hL : BL s m) : BL s (m + 1):=by
 intro n hn h S p nd sp' k d r st hsrc is i hnd hk hd hr
 obtain ⟨n,rfl⟩ : ∃ k,n = k + 1:=⟨n - 1,by omega⟩
 rw [bencode_parser_list_L0_succ]
 unfold bencode_parser_list_L0_B
 simp only [sp,spL] at hr
 simp only [if_true]
 have ip:=i.pos
 rw [Wp_bind]
 refine (bencode_more st is.2.2.2).mono fun x h2 hx=>?_
 rw [hsrc,is.1] at hx
 have hl : s.data.toList.length = s.size:=size_toList s
 by_cases hle : s.size ≤ p.pos
 ·rw [List.getElem?_eq_none (by omega)] at hr
  cases hr
  rw [if_pos (by omega)] at hx
  obtain ⟨rfl,st2,f2⟩:=hx
  simp only [Wp_bind,Wp_nn',Wp_ldI,Wp_ldS,Wp_ldV,Wp_ldB,Wp_idxS,Wp_sliceS,Wp_pure,plus_eq,Nat.zero_add,Nat.reduceAdd,Option.some.injEq,exists_eq_left',decide_eq_true_eq,Bool.false_eq_true,if_false]
  exact ⟨_,st2,f2,rfl,rfl,by simp⟩
 ·rw [if_neg (by omega)] at hx
  obtain ⟨rfl,rfl⟩:=hx
  have hc : s.data.toList[p.pos]? = some s.data.toList[p.pos]:=List.getElem?_eq_getElem (by omega)
  generalize s.data.toList[p.pos] = c at hc
  rw [hc] at hr
  have c1 : ((c.toNat : Int) = 101) ↔ c = 101:=byte_eq c 101 (by omega)
  simp only [Wp_bind,Wp_nn',Wp_ldI,Wp_ldS,Wp_ldV,Wp_ldB,Wp_idxS,Wp_sliceS,Wp_pure,plus_eq,Nat.zero_add,Nat.reduceAdd,Option.some.injEq,exists_eq_left',decide_eq_true_eq,st.ldErr,st.ldAt,st.ldSrc,st.ldNodes,st.ldSpans,if_true,hsrc,is.1,Int.toNat_natCast,ba_get,hc,Int.natCast_nonneg,true_and]
  by_cases k1 : c = 101
  ·simp only [if_pos k1] at hr
   cases hr
   simp only [c1.2 k1,decide_true,Bool.not_true,Bool.false_eq_true,if_false,Wp_pure]
   exact ⟨S,st,Stp.refl st.wf,rfl,by rw [is.1];simp,is.at (p.pos + 1)⟩
  ·simp only [if_neg k1] at hr
   have c2 : ¬ ((c.toNat : Int) = 101):=fun e=>k1 (c1.1 e)
   simp only [c2,decide_false,Bool.not_false,if_true]
   unfold bencode_parser_list_L0_J0_B
   have e1 : IntKind.i64.wrap ((d : Int) + 1) = (d + 1 : Nat):=by rw [w64 (by omega) (by omega)];simp
   have e2 : IntKind.i64.wrap ((k : Int) + 1) = (k + 1 : Nat):=by rw [w64 (by omega) (by omega)];simp
   simp only [e1,e2]
   rw [Wp_bind]
   cases hv : (sp s m).V (span0 sp' k 0 0) (d + 1) p with
   | none=>rw [hv] at hr;cases hr
   | some rv =>
    rw [hv] at hr
    refine (hV n (by omega) _ S p (span0 sp' k 0 0) (d + 1) rv st hsrc is i hv).mono fun x h1 hx=>?_
    obtain ⟨S1,st1,f1,hx⟩:=hx
    cases rv with
    | error e =>
     cases hr
     obtain ⟨hx1,hx2⟩:=hx
     simp only [hx1,Bool.false_eq_true,if_false]
     exact listL_stop (by omega) ⟨S1,st1,f1,hx2⟩
    | ok q =>
     obtain ⟨it,p2⟩:=q
     obtain ⟨rfl,is1⟩:=hx
     obtain ⟨av,_⟩:=(sp_good s m).V _ _ _ _ _ i hv
     have am:=Adv.modify (f:=fun x=>{ x with items:=x.items ++ [it] }) i av hnd (by simp)
     have a0:=av 0
     have hnd2 : nd < p2.nodes.length:=Nat.lt_of_lt_of_le hnd a0.nodes
     obtain ⟨y,hy1,hy2⟩:=node_get is1 hnd2
     have hnl : S1.nodes.length = p2.nodes.length:=by rw [← is1.2.1,List.length_map]
     obtain ⟨bn,base,ha,_,_⟩:=st1.nodeBlk (by omega)
     have hyl:=(a0.inv.items _ (List.mem_of_getElem? hy2)).1
     have hyl : y.il.length ≤ p2.pos:=hyl
     have hp2:=a0.inv.pos
     have hlen:=st1.nodes_len
     have hb1:=f1.b
     rw [← hb1]
     simp only [if_true,Wp_bind,Wp_nn',Wp_ldI,Wp_ldS,Wp_ldV,Wp_ldB,Wp_idxS,Wp_sliceS,Wp_pure,plus_eq,Nat.zero_add,Nat.reduceAdd,Option.some.injEq,exists_eq_left',decide_eq_true_eq,st1.ldErr,st1.ldAt,st1.ldSrc,st1.ldNodes,st1.ldSpans,Wp_idxA,ha,exists_eq_left',Int.toNat_natCast,st1.ldItems hy1 ha]
     refine ⟨by omega,by omega,?_⟩
     refine St.addItemN st1 hy1 ha (by unfold bigN;omega) fun s' h3 hput=>?_
     refine ⟨by omega,by omega,?_⟩
     refine hput.mono fun _ h4 hx=>?_
     obtain ⟨g',st4,f4⟩:=hx
     have is4 : Is (S1.wNodes S1.nsl S1.ng (S1.nodes.set nd { y with is:=s',il:=y.il ++ [it],ig:=g' })) (addItem p2 nd it):=by
      refine ⟨is1.1,?_,is1.2.2.1,is1.2.2.2⟩
      exact map_set (f:=fun x=>{ x with items:=x.items ++ [it] }) is1 hy1 rfl
     have hb4:=f4.b
     have hs4:=f4.src
     generalize S1.wNodes S1.nsl S1.ng (S1.nodes.set nd { y with is:=s',il:=y.il ++ [it],ig:=g' }) = S4 at *
     rw [← hb4]
     refine (hL n (by omega) h4 S4 _ nd sp' (k + 1) d r st4 (hs4.trans (f1.src.trans hsrc)) is4 am.inv (Nat.lt_of_lt_of_le hnd am.nodes) ?_ hd hr).mono fun x h5 hx=>?_
     ·show k + 1 ≤ p2.pos
      have:=a0.pos;omega
     ·obtain ⟨S5,st5,f5,hx⟩:=hx
      exact ⟨S5,st5,(f1.trans st.wf f4).trans st.wf f5,hx⟩
theorem dictL_stop {a1 a2 a3 k : Int} {l : ByteArray} {n : Nat} (hn : n ≠ 0) {Q : Bool ⊕ (Int × Bool) → AHeap → Prop} (q : Q (.inl false) h) {a0 : Option Addr} : Wp (bencode_parser_dictionary_L0 n a0 a1 a2 a3 false l k) h Q:=by
 obtain ⟨n,rfl⟩ : ∃ k,n = k + 1:=⟨n - 1,by omega⟩
 rw [bencode_parser_dictionary_L0_succ]
 unfold bencode_parser_dictionary_L0_B
 simp only [Bool.false_eq_true,if_false,Wp_pure];exact q
theorem dict_J1 {s : ByteArray} {m : Nat} (hs : s.size ≤ 65536) (hV : BV s m) (hD : BD s m) {n : Nat} (hn : 3 * m + s.size + 3 ≤ n) {h : AHeap} {S : PSt} {p p0 : PV} {nd sp' k d frm a key : Nat} {last t : ByteArray} {r : Rs PV} (st : St h S) (hsrc : S.src = s) (is : Is S p)
  (i0 : Inv s p0) (ap : ∀ ex,Adv s ex p0 p) (hnd : nd < p0.nodes.length) (hk : k ≤ p0.pos) (hd : d ≤ 32) (ha' : p.pos = a)
  (hr : (match (sp s m).V (span0 sp' k frm a) (d + 1) p with
     | none=>none
     | some (.error e)=>some (.error e)
     | some (.ok (it,p2))=>(sp s m).D nd sp' (k + 1) d t (addEntry p2 nd key it)) = some r) :
  Wp (bencode_parser_dictionary_L0_J1_B (Cl_bencode_parser_value.at n) n (some (adr S.b)) d sp' nd true last k frm t key) h (ResD h S r):=by
 have i:=(ap 0).inv
 have ip:=i.pos
 have ap0:=(ap 0).pos
 unfold bencode_parser_dictionary_L0_J1_B
 have e1 : IntKind.i64.wrap ((d : Int) + 1) = (d + 1 : Nat):=by rw [w64 (by omega) (by omega)];simp
 have e2 : IntKind.i64.wrap ((k : Int) + 1) = (k + 1 : Nat):=by rw [w64 (by omega) (by omega)];simp
 simp only [Wp_bind,Wp_nn',Wp_ldI,Wp_ldS,Wp_ldV,Wp_ldB,Wp_idxS,Wp_sliceS,Wp_pure,plus_eq,Nat.zero_add,Nat.reduceAdd,Option.some.injEq,exists_eq_left',decide_eq_true_eq,st.ldErr,st.ldAt,st.ldSrc,st.ldNodes,st.ldSpans,e1,e2,is.1,ha']
 cases hv : (sp s m).V (span0 sp' k frm a) (d + 1) p with
 | none=>rw [hv] at hr;cases hr
 | some rv =>
  rw [hv] at hr
  refine (hV n (by omega) h S p (span0 sp' k frm a) (d + 1) rv st hsrc is i hv).mono fun x h1 hx=>?_
  obtain ⟨S1,st1,f1,hx⟩:=hx
  cases rv with
  | error e =>
   cases hr
   obtain ⟨hx1,hx2⟩:=hx
   simp only [hx1,Bool.false_eq_true,if_false]
   exact dictL_stop (by omega) ⟨S1,st1,f1,hx2⟩
  | ok q =>
   obtain ⟨it,p2⟩:=q
   obtain ⟨rfl,is1⟩:=hx
   obtain ⟨av,_⟩:=(sp_good s m).V _ _ _ _ _ i hv
   have am:=Adv.modify (f:=fun x=>{ x with keys:=x.keys ++ [(key : Int)],items:=x.items ++ [it] }) i0 (fun ex=>(ap ex).trans (av ex)) hnd (by simp)
   have a0:=(ap 0).trans (av 0)
   have hnd2 : nd < p2.nodes.length:=Nat.lt_of_lt_of_le hnd a0.nodes
   obtain ⟨y,hy1,hy2⟩:=node_get is1 hnd2
   have hnl : S1.nodes.length = p2.nodes.length:=by rw [← is1.2.1,List.length_map]
   obtain ⟨bn,base,ha,_,_⟩:=st1.nodeBlk (by omega)
   have hyl:=a0.inv.items _ (List.mem_of_getElem? hy2)
   have hyl1 : y.il.length ≤ p2.pos:=hyl.1
   have hyl2 : y.kl.length ≤ p2.pos:=hyl.2
   have hp2:=a0.inv.pos
   have hlen:=st1.nodes_len
   have hb1:=f1.b
   rw [← hb1]
   simp only [if_true,Wp_bind,Wp_nn',Wp_ldI,Wp_ldS,Wp_ldV,Wp_ldB,Wp_idxS,Wp_sliceS,Wp_pure,plus_eq,Nat.zero_add,Nat.reduceAdd,Option.some.injEq,exists_eq_left',decide_eq_true_eq,st1.ldErr,st1.ldAt,st1.ldSrc,st1.ldNodes,st1.ldSpans,Wp_idxA,ha,exists_eq_left',Int.toNat_natCast,st1.ldItems hy1 ha,st1.ldKeys hy1 ha]
   refine ⟨by omega,by omega,?_⟩
   refine St.addEntryN (b':=true) (w:=it) st1 hy1 ha (by unfold bigN;omega) (by unfold bigN;omega) fun s1 h3 hput=>?_
   refine hput.mono fun s2 h4 hput=>hput.mono fun _ h5 hput=>hput.mono fun _ h6 hx=>?_
   obtain ⟨kg,ig,st4,f4⟩:=hx
   have is4 : Is (S1.wNodes S1.nsl S1.ng (S1.nodes.set nd { y with ks:=s1,kl:=y.kl ++ [(key : Int)],kg:=kg,is:=s2,il:=y.il ++ [it],ig:=ig })) (addEntry p2 nd key it):=by
    refine ⟨is1.1,?_,is1.2.2.1,is1.2.2.2⟩
    exact map_set (f:=fun x=>{ x with keys:=x.keys ++ [(key : Int)],items:=x.items ++ [it] }) is1 hy1 rfl
   have hb4:=f4.b
   have hs4:=f4.src
   generalize S1.wNodes S1.nsl S1.ng (S1.nodes.set nd { y with ks:=s1,kl:=y.kl ++ [(key : Int)],kg:=kg,is:=s2,il:=y.il ++ [it],ig:=ig }) = S4 at *
   rw [← hb4]
   refine (hD n (by omega) h6 S4 _ nd sp' (k + 1) d t r st4 (hs4.trans (f1.src.trans hsrc)) is4 am.inv (Nat.lt_of_lt_of_le hnd am.nodes) ?_ hd hr).mono fun x h5 hx=>?_
   ·show k + 1 ≤ p2.pos
    have:=(av 0).pos;omega
   ·obtain ⟨S5,st5,f5,hx⟩:=hx
    exact ⟨S5,st5,(f1.trans st.wf f4).trans st.wf f5,hx⟩
theorem dict_step {s : ByteArray} {m : Nat} (hs : s.size ≤ 65536) (hV : BV s m) (hD : BD s m) : BD s (m + 1):=by
 intro n hn h S p nd sp' k d last r st hsrc is i hnd hk hd hr
 obtain ⟨n,rfl⟩ : ∃ k,n = k + 1:=⟨n - 1,by omega⟩
 rw [bencode_parser_dictionary_L0_succ]
 unfold bencode_parser_dictionary_L0_B
 simp only [sp,spD] at hr
 simp only [if_true]
 have ip:=i.pos
 rw [Wp_bind]
 refine (bencode_more st is.2.2.2).mono fun x hm hx=>?_
 rw [hsrc,is.1] at hx
 have hl : s.data.toList.length = s.size:=size_toList s
 by_cases hle : s.size ≤ p.pos
 ·rw [List.getElem?_eq_none (by omega)] at hr
  cases hr
  rw [if_pos (by omega)] at hx
  obtain ⟨rfl,st2,f2⟩:=hx
  simp only [Wp_bind,Wp_nn',Wp_ldI,Wp_ldS,Wp_ldV,Wp_ldB,Wp_idxS,Wp_sliceS,Wp_pure,plus_eq,Nat.zero_add,Nat.reduceAdd,Option.some.injEq,exists_eq_left',decide_eq_true_eq,Bool.false_eq_true,if_false]
  exact ⟨_,st2,f2,rfl,rfl,by simp⟩
 ·rw [if_neg (by omega)] at hx
  obtain ⟨rfl,rfl⟩:=hx
  have hc : s.data.toList[p.pos]? = some s.data.toList[p.pos]:=List.getElem?_eq_getElem (by omega)
  generalize s.data.toList[p.pos] = c at hc
  rw [hc] at hr
  have c1 : ((c.toNat : Int) = 101) ↔ c = 101:=byte_eq c 101 (by omega)
  simp only [Wp_bind,Wp_nn',Wp_ldI,Wp_ldS,Wp_ldV,Wp_ldB,Wp_idxS,Wp_sliceS,Wp_pure,plus_eq,Nat.zero_add,Nat.reduceAdd,Option.some.injEq,exists_eq_left',decide_eq_true_eq,st.ldErr,st.ldAt,st.ldSrc,st.ldNodes,st.ldSpans,if_true,hsrc,is.1,Int.toNat_natCast,ba_get,hc,Int.natCast_nonneg,true_and]
  by_cases k1 : c = 101
  ·simp only [if_pos k1] at hr
   cases hr
   simp only [c1.2 k1,decide_true,Bool.not_true,Bool.false_eq_true,if_false,Wp_pure]
   exact ⟨S,st,Stp.refl st.wf,rfl,by rw [is.1];simp,is.at (p.pos + 1)⟩
  ·simp only [if_neg k1] at hr
   have c2 : ¬ ((c.toNat : Int) = 101):=fun e=>k1 (c1.1 e)
   simp only [c2,decide_false,Bool.not_false,if_true]
   unfold bencode_parser_dictionary_L0_J0_B
   have e1 : IntKind.i64.wrap ((d : Int) + 1) = (d + 1 : Nat):=by rw [w64 (by omega) (by omega)];simp
   simp only [Wp_bind,Wp_nn',Wp_ldI,Wp_ldS,Wp_ldV,Wp_ldB,Wp_idxS,Wp_sliceS,Wp_pure,plus_eq,Nat.zero_add,Nat.reduceAdd,Option.some.injEq,exists_eq_left',decide_eq_true_eq,st.ldErr,st.ldAt,st.ldSrc,st.ldNodes,st.ldSpans,is.1,e1]
   refine (bencode_text st is (by rw [hsrc];exact hs) (by rw [hsrc];exact ip) (by rw [hsrc];omega)).mono fun x h1 hx=>?_
   rw [hsrc] at hx
   obtain ⟨S1,st1,f1,hx⟩:=hx
   cases ht : spText s p.pos with
   | error e =>
    rw [ht] at hr hx
    cases hr
    obtain ⟨hx1,hx2⟩:=hx
    simp only [hx1,Bool.not_false,if_true,Wp_bind,Wp_nn',Wp_ldI,Wp_ldS,Wp_ldV,Wp_ldB,Wp_idxS,Wp_sliceS,Wp_pure,plus_eq,Nat.zero_add,Nat.reduceAdd,Option.some.injEq,exists_eq_left',decide_eq_true_eq]
    exact ⟨S1,st1,f1,hx2⟩
   | ok q =>
    obtain ⟨t,a⟩:=q
    rw [ht] at hr hx
    obtain ⟨rfl,is1⟩:=hx
    obtain ⟨ta1,ta2⟩:=spText_ok ht
    have hb1:=f1.b
    rw [← hb1]
    simp only [Bool.not_true,Bool.false_eq_true,if_false,Wp_bind,Wp_nn',Wp_ldI,Wp_ldS,Wp_ldV,Wp_ldB,Wp_idxS,Wp_sliceS,Wp_pure,plus_eq,Nat.zero_add,Nat.reduceAdd,Option.some.injEq,exists_eq_left',decide_eq_true_eq]
    refine (bencode_node st1 is1 5 t p.pos (d + 1)).mono fun y h2 hy=>?_
    obtain ⟨S2,st2,f2,hy⟩:=hy
    have f02:=f1.trans st.wf f2
    simp only at hr
    cases hnode : spNode { p with pos:=a } ⟨5,t,false,[],[]⟩ p.pos (d + 1) with
    | error e =>
     rw [hnode] at hr hy
     cases hr
     obtain ⟨hy1,hy2⟩:=hy
     simp only [hy1,Bool.not_false,if_true,Wp_bind,Wp_nn',Wp_ldI,Wp_ldS,Wp_ldV,Wp_ldB,Wp_idxS,Wp_sliceS,Wp_pure,plus_eq,Nat.zero_add,Nat.reduceAdd,Option.some.injEq,exists_eq_left',decide_eq_true_eq]
     exact ⟨S2,st2,f02,hy2⟩
    | ok q =>
     obtain ⟨key,p1⟩:=q
     rw [hnode] at hr hy
     obtain ⟨rfl,is2⟩:=hy
     obtain ⟨rfl,rfl,h4,h5⟩:=spNode_ok hnode
     have hb2:=f2.b
     rw [← hb2]
     have ap : ∀ ex,Adv s ex p { p with pos:=a,nodes:=p.nodes ++ [⟨5,t,false,[],[]⟩] }:=fun ex=>Adv.step i ta1 ta2 h4 (by simp)
     simp only [Bool.not_true,Bool.false_eq_true,if_false,Wp_bind,Wp_nn',Wp_ldI,Wp_ldS,Wp_ldV,Wp_ldB,Wp_idxS,Wp_sliceS,Wp_pure,plus_eq,Nat.zero_add,Nat.reduceAdd,Option.some.injEq,exists_eq_left',decide_eq_true_eq]
     refine Wp_check fun ci e he _=>?_
     have fl : ∀ {e : Int} {x : Bool} {h3 : AHeap},e ≠ 0 → St h3 (S2.failed p.pos e) → Stp h2 S2 h3 (S2.failed p.pos e) → ResD hm S (.error (p.pos,e)) (.inr (0,x)) h3:=by
      intro e x h3 he s3 f3
      exact ⟨_,s3,f02.trans st.wf f3,failed_ok is2.2.2.2 he⟩
     cases hu : u8 t with
     | false =>
      have he : ¬ e = 0:=fun e0=>by rw [he.2 e0] at hu;cases hu
      simp only [hu,if_true] at hr
      cases hr
      simp only [he,decide_false,Bool.not_false,if_true,Wp_bind,Wp_nn',Wp_ldI,Wp_ldS,Wp_ldV,Wp_ldB,Wp_idxS,Wp_sliceS,Wp_pure,plus_eq,Nat.zero_add,Nat.reduceAdd,Option.some.injEq,exists_eq_left',decide_eq_true_eq]
      refine (bencode_fail st2 _ _).mono fun x h3 hx=>?_
      obtain ⟨rfl,s3,f3⟩:=hx
      exact fl (by simp) s3 f3
     | true =>
      have he:=he.1 hu
      simp only [hu,Bool.true_eq_false,if_false] at hr
      simp only [he,decide_true,Bool.not_true,Bool.false_eq_true,if_false]
      have J1 : ∀ {r},(match (sp s m).V (span0 sp' k p.pos a) (d + 1) { p with pos:=a,nodes:=p.nodes ++ [⟨5,t,false,[],[]⟩] } with
        | none=>none
        | some (.error e)=>some (.error e)
        | some (.ok (it,p2))=>(sp s m).D nd sp' (k + 1) d t (addEntry p2 nd p.nodes.length it)) = some r → Wp (bencode_parser_dictionary_L0_J1_B (Cl_bencode_parser_value.at n) n (some (adr S2.b)) d sp' nd true last k p.pos t p.nodes.length) h2 (ResD hm S r):=fun hr =>
       (dict_J1 hs hV hD (by omega) st2 (f2.src.trans (f1.src.trans hsrc)) is2 i ap hnd hk hd rfl hr).mono fun x h3 hx=>by
        obtain ⟨S5,st5,f5,hx⟩:=hx
        exact ⟨S5,st5,f02.trans st.wf f5,hx⟩
      by_cases hk0 : 0 < k
      ·rw [if_pos (by omega)]
       by_cases hlt : ltB t last = true
       ·rw [if_pos ⟨hk0,hlt⟩] at hr
        cases hr
        rw [show (ltS t last || eqS t last) = ltB t last from rfl,if_pos hlt]
        simp only [Wp_bind,Wp_nn',Wp_ldI,Wp_ldS,Wp_ldV,Wp_ldB,Wp_idxS,Wp_sliceS,Wp_pure,plus_eq,Nat.zero_add,Nat.reduceAdd,Option.some.injEq,exists_eq_left',decide_eq_true_eq]
        refine (bencode_fail st2 _ _).mono fun x h3 hx=>?_
        obtain ⟨rfl,s3,f3⟩:=hx
        exact fl (by simp) s3 f3
       ·rw [if_neg (fun e=>hlt e.2)] at hr
        rw [show (ltS t last || eqS t last) = ltB t last from rfl,if_neg hlt]
        exact J1 hr
      ·rw [if_neg (fun e=>hk0 e.1)] at hr
       rw [if_neg (by omega)]
       exact J1 hr
theorem b_all {s : ByteArray} (hs : s.size ≤ 65536) : ∀ m,BV s m∧BL s m∧BD s m
 | 0=>⟨fun _ _ _ _ _ _ _ _ _ _ _ _ hr=>by simp [sp] at hr,fun _ _ _ _ _ _ _ _ _ _ _ _ _ _ _ _ _ hr=>by simp [sp] at hr,fun _ _ _ _ _ _ _ _ _ _ _ _ _ _ _ _ _ _ hr=>by simp [sp] at hr⟩
 | m + 1=>by
  obtain ⟨hV,hL,hD⟩:=b_all hs m
  exact ⟨value_step hs hL hD,list_step hs hV hL,dict_step hs hV hD⟩
def PSt.init (b : Nat) (e : TypeId) (s : ByteArray) : PSt:=⟨b,b + 1,0,e,s,0,5,s,sl0,0,[],0,sl0,0,[],0,0⟩
theorem St.init {h : AHeap} (hw : WF h) {e : TypeId} {s : ByteArray} : St (h.new e (PSt.init h.next e s).enc) (PSt.init h.next e s) :=
 ⟨hw.new,putB_get_self,by simp [PSt.init],OSl.nil,rfl,OSl.nil,fun _ _ hx=>by simp [PSt.init] at hx,fun _ _ hx=>by simp [PSt.init] at hx,fun s t hst he=>by
  cases s <;> cases t <;> simp_all [PSt.grp,PSt.init]⟩
abbrev DocT:=Int × ByteArray × Sl × Int × Sl × Sl
def PRes (h : AHeap) (s : ByteArray) (r : Rs PV) (x : DocT × Int × Int) (h' : AHeap) : Prop:=Fr (fun _=>False) h h'∧match r with
 | .error e=>x = ((0,ofBytes [],sl0,0,sl0,sl0),(e.1 : Int),e.2)∧e.2 ≠ 0
 | .ok p=>∃ S,St h' S∧(∀ t,S.grp t = 0 ∨ h.next < S.grp t)∧x = ((5,s,S.nsl,0,S.ssl,sl0),0,0)∧S.nodes.map NodeR.v = p.nodes∧S.spans = p.spans
theorem St.ldsDoc (st : St h S) : h.lds [li,.str,.sl,li,.sl,.sl] S.b 2 = some (S.fmt,S.source,S.nsl,S.root,S.ssl,sl0):=lds_of st.blk (by simp [PSt.enc]) rfl
theorem inv0 (s : ByteArray) : Inv s ⟨0,[],[]⟩:=⟨by simp,by simp,by simp,by simp⟩
theorem bencode_Parse_J0_wp {h0 : AHeap} {b0 : Nat} {cs : List Value} {s : ByteArray} (hw0 : WF h0) (f : Fr (fun _=>False) h0 h) (st : St h S) (l : LB h b0 cs T_api_Doc) (hcs : cs.length = 6) (hb0 : h0.next ≤ b0) (hn : ∀ t,S.grp t = 0 ∨ h0.next < S.grp t)
  (nb : ∀ t,S.grp t ≠ b0 + 1) (hf : S.fmt = 5∧S.source = s∧S.root = 0) {r : Rs PV} (hr : match r with | .error e=>Fail S e | .ok p=>S.err = 0∧S.nodes.map NodeR.v = p.nodes∧S.spans = p.spans) :
  Wp (bencode_Parse_J0 n (adr b0) (some (adr S.b))) h (PRes h0 s r):=by
 unfold bencode_Parse_J0
 simp only [Wp_bind,Wp_nn',Wp_ldI,Wp_ldS,Wp_ldV,Wp_ldB,Wp_idxS,Wp_sliceS,Wp_pure,plus_eq,Nat.zero_add,Nat.reduceAdd,Option.some.injEq,exists_eq_left',decide_eq_true_eq,st.ldErr,st.ldAt,st.ldSrc,st.ldNodes,st.ldSpans]
 cases r with
 | error e =>
  obtain ⟨h1,h2,h3⟩:=hr
  have he : S.err ≠ 0:=by rw [h2];exact h3
  simp only [he,decide_false,Bool.not_false,if_true,Wp_bind,Wp_nn',Wp_ldI,Wp_ldS,Wp_ldV,Wp_ldB,Wp_idxS,Wp_sliceS,Wp_pure,plus_eq,Nat.zero_add,Nat.reduceAdd,Option.some.injEq,exists_eq_left',decide_eq_true_eq,st.ldErr,st.ldAt,st.ldSrc,st.ldNodes,st.ldSpans]
  have hoff : h.ldI .i64 S.b 9 = some S.off:=st.ldOff
  simp only [hoff,Option.some.injEq,exists_eq_left']
  refine chk_Wp ?_
  refine l.st st.wf (by simp [hcs]) rfl fun h2' l2 f2=>⟨fun a ha=>?_,?_⟩
  ·have hg:=f2.cells _ _ _ _ _ st.blk (fun e=>absurd e (nb .main))
   have hab : a.block = S.b:=by
    simp only [List.mem_cons,Option.some.injEq,List.not_mem_nil,or_false] at ha
    rcases ha with rfl | rfl <;> rfl
   rw [hab,st.blk,hg]
  ·have l2 : LB h2' b0 [vi 0,Value.string (ofBytes []),vsl0,vi 0,vsl0,vsl0] T_api_Doc:=by
    have e : splice cs (adr b0).off [vi 0,Value.string (ofBytes []),vsl0,vi 0,vsl0,vsl0] = [vi 0,Value.string (ofBytes []),vsl0,vi 0,vsl0,vsl0]:=by
     simp [splice,hcs]
    rw [← e];exact l2
   refine Wp_ldLs.2 ⟨(0,ofBytes [],sl0,0,sl0,sl0),l2.lds (by simp) rfl,?_⟩
   refine ⟨f.fresh hw0 f2 fun g hg=>.inr (by omega),?_,h3⟩
   rw [h1,h2]
 | ok p =>
  obtain ⟨h1,h2,h3⟩:=hr
  simp only [h1,decide_true,Bool.not_true,Bool.false_eq_true,if_false,Wp_bind,Wp_nn',Wp_ldI,Wp_ldS,Wp_ldV,Wp_ldB,Wp_idxS,Wp_sliceS,Wp_pure,plus_eq,Nat.zero_add,Nat.reduceAdd,Option.some.injEq,exists_eq_left',decide_eq_true_eq]
  refine Wp_ldLs.2 ⟨_,st.ldsDoc,?_⟩
  refine l.st st.wf (by simp [hcs]) rfl fun h2' l2 f2=>?_
  have l2 : LB h2' b0 [vi S.fmt,Value.string S.source,vsl S.nsl,vi S.root,vsl S.ssl,vsl sl0] T_api_Doc:=by
   have e : splice cs (adr b0).off [vi S.fmt,Value.string S.source,vsl S.nsl,vi S.root,vsl S.ssl,vsl sl0] = [vi S.fmt,Value.string S.source,vsl S.nsl,vi S.root,vsl S.ssl,vsl sl0]:=by
    simp [splice,hcs]
   rw [← e];exact l2
  refine Wp_ldLs.2 ⟨(S.fmt,S.source,S.nsl,S.root,S.ssl,sl0),l2.lds (by simp) rfl,?_⟩
  refine ⟨f.fresh hw0 f2 fun g hg=>.inr (by omega),S,st.fr f2 (fun t ht=>absurd ht (nb t)),hn,?_,h2,h3⟩
  rw [hf.1,hf.2.1,hf.2.2]
theorem bencode_Parse_wp {s : ByteArray} {m n : Nat} {r : Rs PV} {h : AHeap} (hw : WF h) (hn : 3 * m + s.size + 3 ≤ n) (hr : spParse s m = some r) : Wp (bencode_Parse n s) h (PRes h s r):=by
 unfold bencode_Parse
 rw [Wp_bind,Wp_new]
 refine ⟨rfl,?_⟩
 have f1:=Fr.new (e:=T_api_Doc) (cs:=[vi 0,Value.string (ofBytes []),vsl0,vi 0,vsl0,vsl0]) hw
 have l1:=LB.new (h:=h) (e:=T_api_Doc) (cs:=[vi 0,Value.string (ofBytes []),vsl0,vi 0,vsl0,vsl0])
 have nx : (h.new T_api_Doc [vi 0,Value.string (ofBytes []),vsl0,vi 0,vsl0,vsl0]).next = h.next + 1:=rfl
 generalize h.new T_api_Doc [vi 0,Value.string (ofBytes []),vsl0,vi 0,vsl0,vsl0] = h1 at *
 unfold spParse at hr
 simp only [Wp_bind,Wp_nn',Wp_ldI,Wp_ldS,Wp_ldV,Wp_ldB,Wp_idxS,Wp_sliceS,Wp_pure,plus_eq,Nat.zero_add,Nat.reduceAdd,Option.some.injEq,exists_eq_left',decide_eq_true_eq]
 by_cases hlong : 65536 < s.size
 ·rw [if_pos hlong] at hr
  cases hr
  rw [if_pos (by omega)]
  simp only [Wp_bind,Wp_nn',Wp_ldI,Wp_ldS,Wp_ldV,Wp_ldB,Wp_idxS,Wp_sliceS,Wp_pure,plus_eq,Nat.zero_add,Nat.reduceAdd,Option.some.injEq,exists_eq_left',decide_eq_true_eq]
  refine l1.st f1.wf (by simp) rfl fun h2 l2 f2=>?_
  refine Wp_ldLs.2 ⟨(0,ofBytes [],sl0,0,sl0,sl0),l2.lds (by simp [splice]) rfl,?_⟩
  exact ⟨f1.fresh hw f2 fun g hg=>.inr (by omega),rfl,by simp⟩
 ·rw [if_neg hlong] at hr
  rw [if_neg (by omega)]
  simp only [Wp_bind,Wp_nn',Wp_ldI,Wp_ldS,Wp_ldV,Wp_ldB,Wp_idxS,Wp_sliceS,Wp_pure,plus_eq,Nat.zero_add,Nat.reduceAdd,Option.some.injEq,exists_eq_left',decide_eq_true_eq,Wp_new]
  refine ⟨rfl,?_⟩
  have f2:=Fr.new (e:=T_bencode_parser) (cs:=(PSt.init h1.next T_bencode_parser s).enc) f1.wf
  have st2:=St.init f1.wf (e:=T_bencode_parser) (s:=s)
  have l2:=l1.fr f2 (fun hx=>hx)
  have f02:=f1.fresh hw f2 (fun g hg=>hg.elim)
  show Wp (bencode_parser_value n (some (adr (PSt.init h1.next T_bencode_parser s).b)) (span0 (-1) 0 0 0).tup (0 : Nat)) (h1.new T_bencode_parser (PSt.init h1.next T_bencode_parser s).enc) _
  have hg0 : ∀ t,(PSt.init h1.next T_bencode_parser s).grp t = 0 ∨ (PSt.init h1.next T_bencode_parser s).grp t = h1.next + 1:=fun t=>by cases t <;> simp [PSt.grp,PSt.init]
  have hb2 : adr h1.next = adr (PSt.init h1.next T_bencode_parser s).b:=rfl
  have hcon : (PSt.init h1.next T_bencode_parser s).src = s∧(PSt.init h1.next T_bencode_parser s).fmt = 5∧(PSt.init h1.next T_bencode_parser s).source = s∧(PSt.init h1.next T_bencode_parser s).root = 0:=⟨rfl,rfl,rfl,rfl⟩
  have is0 : Is (PSt.init h1.next T_bencode_parser s) ⟨0,[],[]⟩:=⟨rfl,rfl,rfl,rfl⟩
  rw [hb2]
  have nx2 : (h1.new T_bencode_parser (PSt.init h1.next T_bencode_parser s).enc).next = h1.next + 1:=rfl
  generalize h1.new T_bencode_parser (PSt.init h1.next T_bencode_parser s).enc = h2 at *
  generalize PSt.init h1.next T_bencode_parser s = S0 at *
  cases hv : (sp s m).V (span0 (-1) 0 0 0) 0 ⟨0,[],[]⟩ with
  | none=>rw [hv] at hr;cases hr
  | some rv =>
   rw [hv] at hr
   refine ((b_all (by omega) m).1 n (by omega) h2 S0 _ _ 0 rv st2 hcon.1 is0 (inv0 s) hv).mono fun x h3 hx=>?_
   obtain ⟨S3,st3,f3,hx⟩:=hx
   have hg3 : ∀ t,S3.grp t = 0 ∨ h1.next < S3.grp t:=fun t=>by
    rcases f3.fp t with h4 | ⟨u,h4⟩ | h4
    ·exact .inl h4
    ·rcases hg0 u with h5 | h5
     ·exact .inl (h4.trans h5)
     ·exact .inr (by omega)
    ·exact .inr (by omega)
   have f03 : Fr (fun _=>False) h h3:=f02.trans hw f3.fr fun g hg h0=>by
    obtain ⟨t,rfl⟩:=hg
    rcases hg0 t with h5 | h5
    ·exact absurd h5 h0
    ·exact .inr (by omega)
   have l3 : LB h3 h.next _ T_api_Doc:=l2.fr f3.fr (by
    rintro ⟨t,ht⟩
    rcases hg0 t with h5 | h5 <;> omega)
   have hg4 : ∀ t,S3.grp t = 0 ∨ h.next < S3.grp t:=fun t=>by
    rcases hg3 t with h5 | h5
    ·exact .inl h5
    ·exact .inr (by omega)
   have hg5 : ∀ t,S3.grp t ≠ h.next + 1:=fun t=>by
    rcases hg3 t with h5 | h5 <;> omega
   have hcon3 : S3.fmt = 5∧S3.source = s∧S3.root = 0:=⟨f3.fmt.trans hcon.2.1,f3.source.trans hcon.2.2.1,f3.root.trans hcon.2.2.2⟩
   have hb3:=f3.b
   rw [← hb3]
   cases rv with
   | error e =>
    cases hr
    obtain ⟨hx1,hx2⟩:=hx
    simp only [hx1,Bool.false_eq_true,if_false]
    exact bencode_Parse_J0_wp hw f03 st3 l3 rfl (Nat.le_refl _) hg4 hg5 hcon3 hx2
   | ok q =>
    obtain ⟨nn,p⟩:=q
    obtain ⟨rfl,is3⟩:=hx
    simp only [if_true,Wp_bind,Wp_nn',Wp_ldI,Wp_ldS,Wp_ldV,Wp_ldB,Wp_idxS,Wp_sliceS,Wp_pure,plus_eq,Nat.zero_add,Nat.reduceAdd,Option.some.injEq,exists_eq_left',decide_eq_true_eq,st3.ldErr,st3.ldAt,st3.ldSrc,st3.ldNodes,st3.ldSpans,is3.1]
    simp only at hr
    by_cases hlt : p.pos < s.size
    ·rw [if_pos hlt] at hr
     cases hr
     rw [if_pos (by omega)]
     simp only [Wp_bind,Wp_nn',Wp_ldI,Wp_ldS,Wp_ldV,Wp_ldB,Wp_idxS,Wp_sliceS,Wp_pure,plus_eq,Nat.zero_add,Nat.reduceAdd,Option.some.injEq,exists_eq_left',decide_eq_true_eq,st3.ldErr,st3.ldAt,st3.ldSrc,st3.ldNodes,st3.ldSpans,is3.1]
     refine (bencode_fail st3 _ _).mono fun x h4 hx=>?_
     obtain ⟨rfl,st4,f4⟩:=hx
     have hfb : (S3.failed p.pos 4).b = S3.b:=f4.b
     rw [← hfb]
     have hgg : ∀ t,(S3.failed p.pos 4).grp t = S3.grp t:=fun t=>by unfold PSt.failed;split <;> cases t <;> rfl
     have f04 : Fr (fun _=>False) h h4:=f03.trans hw f4.fr fun g hg h0=>by
      obtain ⟨t,rfl⟩:=hg
      rcases hg4 t with h5 | h5
      ·exact absurd h5 h0
      ·exact .inr h5
     have l4:=l3.fr f4.fr (by
      rintro ⟨t,ht⟩
      exact hg5 t ht.symm)
     exact bencode_Parse_J0_wp hw f04 st4 l4 rfl (Nat.le_refl _) (fun t=>by rw [hgg];exact hg4 t) (fun t=>by rw [hgg];exact hg5 t) ⟨f4.fmt.trans hcon3.1,f4.source.trans hcon3.2.1,f4.root.trans hcon3.2.2⟩ (failed_ok (S:=S3) is3.2.2.2 (by simp) : Fail _ _)
    ·rw [if_neg hlt] at hr
     cases hr
     rw [if_neg (by omega)]
     exact bencode_Parse_J0_wp hw f03 st3 l3 rfl (Nat.le_refl _) hg4 hg5 hcon3 ⟨is3.2.2.2,is3.2.1,is3.2.2.1⟩
end Go.Sh
