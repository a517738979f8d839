
import Derived.Test.YtlbigfjnapgioaaGreatDoorBj
set_option linter.all false
namespace Go.Sh
open Go Go.Ago
variable {h h' : AHeap} {S S' : PSt} {n : Nat}
abbrev ClV:=Cl_bencode_parser_value
def ResW (h : AHeap) (S : PSt) (r : Rs (Int × PV)) (x : Int × Bool) (h' : AHeap) : Prop :=
 ∃ S',St h' S'∧Stp h S h' S'∧match r with
  | .ok (n,p)=>x = (n,true)∧Is S' p
  | .error e=>Fail S' e
theorem Res.weak {r : Rs (Int × PV)} {x : Int × Bool} (hr : Res h S r x h') : ResW h S r x h':=by
 obtain ⟨S',a,b,c⟩:=hr
 refine ⟨S',a,b,?_⟩
 cases r with
 | ok q=>exact c
 | error e=>exact c.2
theorem modify_set {α : Type} {L : List α} {i : Nat} {x : α} (hi : L[i]? = some x) (f : α → α) : L.modify i f = L.set i (f x):=by
 apply List.ext_getElem?
 intro j
 rw [List.getElem?_modify]
 by_cases hj : i = j
 ·subst hj
  rw [List.getElem?_set_self (List.getElem?_eq_some_iff.1 hi).1,hi];simp
 ·rw [List.getElem?_set_ne hj];cases L[j]? <;> simp [hj]
theorem value_J0 (G : ClV) {i : Nat} {nn : Int} (st : St h S) (hi : i < S.spans.length) :
  Wp (bencode_parser_value_J0_B G n (some (adr S.b)) i nn) h fun x h'=>x = (nn,true)∧∃ S',St h' S'∧Stp h S h' S'∧S' = S.wSpans S.ssl S.sg (S.spans.modify i fun x=>{ x with node:=nn,to:=S.at' }):=by
 unfold bencode_parser_value_J0_B
 have hx : S.spans[i]? = some S.spans[i]:=List.getElem?_eq_getElem hi
 generalize S.spans[i] = y at hx
 obtain ⟨bn,base,ha,_,_⟩:=st.spanBlk (by omega)
 have hlen:=st.spans_len
 simp only [Wp_bind,Wp_nn',Wp_ldI,Wp_ldS,Wp_ldV,Wp_ldB,Wp_idxS,Wp_sliceS,Wp_pure,plus_eq,Nat.zero_add,Nat.reduceAdd,Option.some.injEq,exists_eq_left',decide_eq_true_eq,st.ldErr,st.ldAt,st.ldSrc,st.ldNodes,st.ldSpans,Wp_idxA,ha,exists_eq_left',Int.toNat_natCast]
 refine ⟨by omega,by omega,?_⟩
 refine st.setSpan (o:=0) (x':={ y with node:=nn }) ha hx (by omega) rfl rfl fun h2 st2 f2=>?_
 refine ⟨by omega,by omega,?_⟩
 refine St.setSpan (S:=S.wSpans S.ssl S.sg (S.spans.set i { y with node:=nn })) (i:=i) (o:=4) (x:={ y with node:=nn }) (x':={ y with node:=nn,to:=S.at' }) st2 ha (List.getElem?_set_self hi) (by omega) rfl rfl fun h3 st3 f3=>?_
 refine ⟨by trivial,_,st3,f2.trans st.wf f3,?_⟩
 simp only [PSt.wSpans]
 rw [List.set_set,modify_set hx]
theorem value_cont {G : ClV} {h0 : AHeap} {S0 : PSt} {i : Nat} {r : Rs (Int × PV)} {x : Int × Bool} (hw0 : WF h0) (f0 : Stp h0 S0 h S) (hr : ResW h S r x h') (hi : ∀ nn p,r = .ok (nn,p) → i < p.spans.length) :
  Wp (if (!x.2) = true then M.pure (0,false) else M.bind (nn (some (adr S0.b))) fun x20=>M.bind (ldL li (x20.plus 8)) fun (x21 : Int)=>if (!decide (x21 = 0)) = true then M.pure (0,false) else bencode_parser_value_J0_B G n (some (adr S0.b)) i x.1) h'
   (Res h0 S0 (match r with | .error e=>.error e | .ok (nn,p)=>.ok (nn,{ p with spans:=p.spans.modify i fun x=>{ x with node:=nn,to:=p.pos } }))):=by
 obtain ⟨S',st,f,hr⟩:=hr
 have f1:=f0.trans hw0 f
 have hb:=f1.b
 rw [← hb]
 cases r with
 | error e =>
  obtain ⟨a1,a2,a3⟩:=hr
  split
  ·rw [Wp_pure];exact ⟨S',st,f1,rfl,a1,a2,a3⟩
  ·simp only [Wp_bind,Wp_nn',Wp_ldI,Wp_ldS,Wp_ldV,Wp_ldB,Wp_idxS,Wp_sliceS,Wp_pure,plus_eq,Nat.zero_add,Nat.reduceAdd,Option.some.injEq,exists_eq_left',decide_eq_true_eq,st.ldErr,st.ldAt,st.ldSrc,st.ldNodes,st.ldSpans]
   have : S'.err ≠ 0:=by rw [a2];exact a3
   simp only [this,decide_false,Bool.not_false,if_true,Wp_bind,Wp_nn',Wp_ldI,Wp_ldS,Wp_ldV,Wp_ldB,Wp_idxS,Wp_sliceS,Wp_pure,plus_eq,Nat.zero_add,Nat.reduceAdd,Option.some.injEq,exists_eq_left',decide_eq_true_eq]
   exact ⟨S',st,f1,rfl,a1,a2,a3⟩
 | ok q =>
  obtain ⟨nn,p⟩:=q
  obtain ⟨rfl,is⟩:=hr
  simp only [Wp_bind,Wp_nn',Wp_ldI,Wp_ldS,Wp_ldV,Wp_ldB,Wp_idxS,Wp_sliceS,Wp_pure,plus_eq,Nat.zero_add,Nat.reduceAdd,Option.some.injEq,exists_eq_left',decide_eq_true_eq,st.ldErr,st.ldAt,st.ldSrc,st.ldNodes,st.ldSpans,Bool.not_true,Bool.false_eq_true,if_false,is.2.2.2,decide_true]
  have hi:=hi nn p rfl
  refine (value_J0 G st (by rw [is.2.2.1];exact hi)).mono fun x h2 hx=>?_
  obtain ⟨rfl,S2,st2,f2,rfl⟩:=hx
  refine ⟨_,st2,f1.trans hw0 f2,rfl,is.1,is.2.1,?_,is.2.2.2⟩
  show S'.spans.modify _ _ = _
  rw [is.1,is.2.2.1]
def SpanV.tup (x : SpanV) : Int × Int × Int × Int × Int × Int × Int × Bool × Bool:=(x.node,x.parent,x.entry,x.frm,x.to,x.kf,x.kt,x.alias,x.whole)
def BV (s : ByteArray) (m : Nat) : Prop:=∀ n,3 * m + s.size + 3 ≤ n → ∀ h S p sn d r,St h S → S.src = s → Is S p → Inv s p → (sp s m).V sn d p = some r →
 Wp (bencode_parser_value n (some (adr S.b)) sn.tup d) h (Res h S r)
def ResL (h : AHeap) (S : PSt) (r : Rs PV) (x : Bool) (h' : AHeap) : Prop:=∃ S',St h' S'∧Stp h S h' S'∧match r with
 | .ok p=>x = true∧S'.at' + 1 = p.pos∧Is (S'.wAt p.pos) p
 | .error e=>Fail S' e
def BL (s : ByteArray) (m : Nat) : Prop:=∀ n,3 * m + s.size + 3 ≤ n → ∀ h S p (nd sp' k d : Nat) r,St h S → S.src = s → Is S p → Inv s p → nd < p.nodes.length → k ≤ p.pos → d ≤ 32 → (sp s m).L nd sp' k d p = some r →
 Wp (bencode_parser_list_L0 n (some (adr S.b)) d sp' nd true k) h (ResL h S r)
def ResD (h : AHeap) (S : PSt) (r : Rs PV) (x : Bool ⊕ (Int × Bool)) (h' : AHeap) : Prop:=∃ S',St h' S'∧Stp h S h' S'∧match r with
 | .ok p=>x = .inl true∧S'.at' + 1 = p.pos∧Is (S'.wAt p.pos) p
 | .error e=>Fail S' e
def BD (s : ByteArray) (m : Nat) : Prop:=∀ n,3 * m + s.size + 3 ≤ n → ∀ h S p (nd sp' k d : Nat) last r,St h S → S.src = s → Is S p → Inv s p → nd < p.nodes.length → k ≤ p.pos → d ≤ 32 → (sp s m).D nd sp' k d last p = some r →
 Wp (bencode_parser_dictionary_L0 n (some (adr S.b)) d sp' nd true last k) h (ResD h S r)
theorem Fail.at {S : PSt} {e : Nat × Int} {v : Int} (f : Fail S e) : Fail (S.wAt v) e:=f
theorem list_wp {s : ByteArray} {m : Nat} (hs : s.size ≤ 65536) (hL : BL s m) {n : Nat} (hn : 3 * m + s.size + 4 ≤ n) {h : AHeap} {S : PSt} {p : PV} {x : SpanV} {sp' d : Nat} {r : Rs (Int × PV)} (st : St h S) (hsrc : S.src = s)
  (is : Is S { p with spans:=p.spans ++ [x] }) (i : Inv s p) (hlt : p.pos < s.size) (hr : spOpen s (sp s m) { p with spans:=p.spans ++ [x] } sp' d 9 = some r) :
  Wp (bencode_parser_list n (some (adr S.b)) d sp') h (ResW h S r):=by
 obtain ⟨n,rfl⟩ : ∃ k,n = k + 1:=⟨n - 1,by omega⟩
 rw [bencode_parser_list_succ]
 unfold bencode_parser_list_B
 unfold spOpen at hr
 simp only [Wp_bind,Wp_nn',Wp_ldI,Wp_ldS,Wp_ldV,Wp_ldB,Wp_idxS,Wp_sliceS,Wp_pure,plus_eq,Nat.zero_add,Nat.reduceAdd,Option.some.injEq,exists_eq_left',decide_eq_true_eq,st.ldErr,st.ldAt,st.ldSrc,st.ldNodes,st.ldSpans,is.1]
 refine (bencode_node st is 9 (ofBytes []) p.pos d).mono fun y h1 hy=>?_
 obtain ⟨S1,st1,f1,hy⟩:=hy
 have hb1:=f1.b
 rw [← hb1]
 simp only [Wp_bind,Wp_nn',Wp_ldI,Wp_ldS,Wp_ldV,Wp_ldB,Wp_idxS,Wp_sliceS,Wp_pure,plus_eq,Nat.zero_add,Nat.reduceAdd,Option.some.injEq,exists_eq_left',decide_eq_true_eq,st1.ldErr,st1.ldAt,st1.ldSrc,st1.ldNodes,st1.ldSpans]
 refine st1.setAt fun h2 st2 f2=>?_
 cases hnode : spNode { p with spans:=p.spans ++ [x] } ⟨9,ofBytes [],false,[],[]⟩ p.pos d with
 | error e =>
  rw [hnode] at hy hr
  cases hr
  obtain ⟨hy1,hy2⟩:=hy
  rw [hy1]
  show Wp (bencode_parser_list_L0 n (some (adr S1.b)) d sp' y.1 false 0) h2 _
  obtain ⟨n,rfl⟩ : ∃ k,n = k + 1:=⟨n - 1,by omega⟩
  rw [bencode_parser_list_L0_succ]
  unfold bencode_parser_list_L0_B
  have hb2 : (S1.wAt (IntKind.i64.wrap (S1.at' + 1))).b = S1.b:=rfl
  have hf2 : Fail (S1.wAt (IntKind.i64.wrap (S1.at' + 1))) e:=Fail.at hy2
  generalize S1.wAt (IntKind.i64.wrap (S1.at' + 1)) = S2 at *
  rw [← hb2]
  simp only [Wp_bind,Wp_nn',Wp_ldI,Wp_ldS,Wp_ldV,Wp_ldB,Wp_idxS,Wp_sliceS,Wp_pure,plus_eq,Nat.zero_add,Nat.reduceAdd,Option.some.injEq,exists_eq_left',decide_eq_true_eq,Bool.false_eq_true,if_false,st2.ldErr,st2.ldAt,st2.ldSrc,st2.ldNodes,st2.ldSpans]
  refine st2.setAt fun h3 st3 f3=>?_
  exact ⟨_,st3,(f1.trans st.wf f2).trans st.wf f3,Fail.at hf2⟩
 | ok q =>
  obtain ⟨nn,p1⟩:=q
  rw [hnode] at hy hr
  obtain ⟨rfl,is1⟩:=hy
  obtain ⟨rfl,rfl,h4,h5⟩:=spNode_ok hnode
  simp only [if_true] at hr
  have e1 : IntKind.i64.wrap ((p.pos : Int) + 1) = (p.pos + 1 : Nat):=by rw [w64 (by omega) (by omega)];simp
  have e0 : S1.at' = (p.pos : Int):=is1.1
  rw [e0,e1] at st2 f2
  have is2:=is1.at (p.pos + 1)
  have hb2 : (S1.wAt ((p.pos + 1 : Nat) : Int)).b = S1.b:=rfl
  have hs2 : (S1.wAt ((p.pos + 1 : Nat) : Int)).src = s:=f1.src.trans hsrc
  generalize S1.wAt ((p.pos + 1 : Nat) : Int) = S2 at *
  rw [← hb2]
  have i2:=inv_open (x:=x) (kind:=9) i hlt h4
  cases hl : (sp s m).L (p.nodes.length : Int) sp' 0 d { p with pos:=p.pos + 1,nodes:=p.nodes ++ [⟨9,ofBytes [],false,[],[]⟩],spans:=p.spans ++ [x] } with
  | none=>erw [hl] at hr;cases hr
  | some q =>
   have hl':=hl
   erw [hl] at hr
   refine (hL n (by omega) h2 S2 _ p.nodes.length sp' 0 d q st2 hs2 is2 i2 (by simp) (by omega) (by omega) hl').mono fun y h3 hy=>?_
   obtain ⟨S3,st3,f3,hy⟩:=hy
   have f03:=(f1.trans st.wf f2).trans st.wf f3
   have hb3:=f3.b
   rw [← hb3]
   simp only [Wp_bind,Wp_nn',Wp_ldI,Wp_ldS,Wp_ldV,Wp_ldB,Wp_idxS,Wp_sliceS,Wp_pure,plus_eq,Nat.zero_add,Nat.reduceAdd,Option.some.injEq,exists_eq_left',decide_eq_true_eq,st3.ldErr,st3.ldAt,st3.ldSrc,st3.ldNodes,st3.ldSpans]
   refine st3.setAt fun h4' st4 f4=>?_
   cases q with
   | error e =>
    cases hr
    exact ⟨_,st4,f03.trans st.wf f4,Fail.at hy⟩
   | ok p2 =>
    cases hr
    obtain ⟨rfl,hy1,hy2⟩:=hy
    have hp2 : p2.pos ≤ s.size:=((sp_good s m).L _ _ _ _ _ _ i2 (by simp) hl').inv.pos
    have e2 : IntKind.i64.wrap (S3.at' + 1) = (p2.pos : Int):=by rw [hy1,w64 (by omega) (by omega)]
    rw [e2] at st4 f4
    exact ⟨_,st4,f03.trans st.wf f4,rfl,hy2⟩
theorem dict_wp {s : ByteArray} {m : Nat} (hs : s.size ≤ 65536) (hD : BD s m) {n : Nat} (hn : 3 * m + s.size + 4 ≤ n) {h : AHeap} {S : PSt} {p : PV} {x : SpanV} {sp' d : Nat} {r : Rs (Int × PV)} (st : St h S) (hsrc : S.src = s)
  (is : Is S { p with spans:=p.spans ++ [x] }) (i : Inv s p) (hlt : p.pos < s.size) (hr : spOpen s (sp s m) { p with spans:=p.spans ++ [x] } sp' d 10 = some r) :
  Wp (bencode_parser_dictionary n (some (adr S.b)) d sp') h (ResW h S r):=by
 obtain ⟨n,rfl⟩ : ∃ k,n = k + 1:=⟨n - 1,by omega⟩
 rw [bencode_parser_dictionary_succ]
 unfold bencode_parser_dictionary_B
 unfold spOpen at hr
 simp only [Wp_bind,Wp_nn',Wp_ldI,Wp_ldS,Wp_ldV,Wp_ldB,Wp_idxS,Wp_sliceS,Wp_pure,plus_eq,Nat.zero_add,Nat.reduceAdd,Option.some.injEq,exists_eq_left',decide_eq_true_eq,st.ldErr,st.ldAt,st.ldSrc,st.ldNodes,st.ldSpans,is.1]
 refine (bencode_node st is 10 (ofBytes []) p.pos d).mono fun y h1 hy=>?_
 obtain ⟨S1,st1,f1,hy⟩:=hy
 have hb1:=f1.b
 rw [← hb1]
 simp only [Wp_bind,Wp_nn',Wp_ldI,Wp_ldS,Wp_ldV,Wp_ldB,Wp_idxS,Wp_sliceS,Wp_pure,plus_eq,Nat.zero_add,Nat.reduceAdd,Option.some.injEq,exists_eq_left',decide_eq_true_eq,st1.ldErr,st1.ldAt,st1.ldSrc,st1.ldNodes,st1.ldSpans]
 refine st1.setAt fun h2 st2 f2=>?_
 cases hnode : spNode { p with spans:=p.spans ++ [x] } ⟨10,ofBytes [],false,[],[]⟩ p.pos d with
 | error e =>
  rw [hnode] at hy hr
  cases hr
  obtain ⟨hy1,hy2⟩:=hy
  rw [hy1]
  show Wp (bencode_parser_dictionary_L0 n (some (adr S1.b)) d sp' y.1 false (ofBytes []) 0) h2 _
  obtain ⟨n,rfl⟩ : ∃ k,n = k + 1:=⟨n - 1,by omega⟩
  rw [bencode_parser_dictionary_L0_succ]
  unfold bencode_parser_dictionary_L0_B
  have hb2 : (S1.wAt (IntKind.i64.wrap (S1.at' + 1))).b = S1.b:=rfl
  have hf2 : Fail (S1.wAt (IntKind.i64.wrap (S1.at' + 1))) e:=Fail.at hy2
  generalize S1.wAt (IntKind.i64.wrap (S1.at' + 1)) = S2 at *
  rw [← hb2]
  simp only [Wp_bind,Wp_nn',Wp_ldI,Wp_ldS,Wp_ldV,Wp_ldB,Wp_idxS,Wp_sliceS,Wp_pure,plus_eq,Nat.zero_add,Nat.reduceAdd,Option.some.injEq,exists_eq_left',decide_eq_true_eq,Bool.false_eq_true,if_false,st2.ldErr,st2.ldAt,st2.ldSrc,st2.ldNodes,st2.ldSpans,sumElim]
  refine st2.setAt fun h3 st3 f3=>?_
  exact ⟨_,st3,(f1.trans st.wf f2).trans st.wf f3,Fail.at hf2⟩
 | ok q =>
  obtain ⟨nn,p1⟩:=q
  rw [hnode] at hy hr
  obtain ⟨rfl,is1⟩:=hy
  obtain ⟨rfl,rfl,h4,h5⟩:=spNode_ok hnode
  simp only [show ¬ ((10 : Int) = 9) by decide,if_false] at hr
  have e1 : IntKind.i64.wrap ((p.pos : Int) + 1) = (p.pos + 1 : Nat):=by rw [w64 (by omega) (by omega)];simp
  have e0 : S1.at' = (p.pos : Int):=is1.1
  rw [e0,e1] at st2 f2
  have is2:=is1.at (p.pos + 1)
  have hb2 : (S1.wAt ((p.pos + 1 : Nat) : Int)).b = S1.b:=rfl
  have hs2 : (S1.wAt ((p.pos + 1 : Nat) : Int)).src = s:=f1.src.trans hsrc
  generalize S1.wAt ((p.pos + 1 : Nat) : Int) = S2 at *
  rw [← hb2]
  have i2:=inv_open (x:=x) (kind:=10) i hlt h4
  cases hl : (sp s m).D (p.nodes.length : Int) sp' 0 d (ofBytes []) { p with pos:=p.pos + 1,nodes:=p.nodes ++ [⟨10,ofBytes [],false,[],[]⟩],spans:=p.spans ++ [x] } with
  | none=>erw [hl] at hr;cases hr
  | some q =>
   have hl':=hl
   erw [hl] at hr
   refine (hD n (by omega) h2 S2 _ p.nodes.length sp' 0 d (ofBytes []) q st2 hs2 is2 i2 (by simp) (by omega) (by omega) hl').mono fun y h3 hy=>?_
   obtain ⟨S3,st3,f3,hy⟩:=hy
   have f03:=(f1.trans st.wf f2).trans st.wf f3
   have hb3:=f3.b
   rw [← hb3]
   cases q with
   | error e =>
    cases hr
    cases y with
    | inl y =>
     simp only [Wp_bind,Wp_nn',Wp_ldI,Wp_ldS,Wp_ldV,Wp_ldB,Wp_idxS,Wp_sliceS,Wp_pure,plus_eq,Nat.zero_add,Nat.reduceAdd,Option.some.injEq,exists_eq_left',decide_eq_true_eq,st3.ldErr,st3.ldAt,st3.ldSrc,st3.ldNodes,st3.ldSpans,sumElim]
     refine st3.setAt fun h4' st4 f4=>?_
     exact ⟨_,st4,f03.trans st.wf f4,Fail.at hy⟩
    | inr y =>
     simp only [Wp_bind,Wp_nn',Wp_ldI,Wp_ldS,Wp_ldV,Wp_ldB,Wp_idxS,Wp_sliceS,Wp_pure,plus_eq,Nat.zero_add,Nat.reduceAdd,Option.some.injEq,exists_eq_left',decide_eq_true_eq,st3.ldErr,st3.ldAt,st3.ldSrc,st3.ldNodes,st3.ldSpans,sumElim]
     exact ⟨_,st3,f03,hy⟩
   | ok p2 =>
    cases hr
    obtain ⟨rfl,hy1,hy2⟩:=hy
    simp only [Wp_bind,Wp_nn',Wp_ldI,Wp_ldS,Wp_ldV,Wp_ldB,Wp_idxS,Wp_sliceS,Wp_pure,plus_eq,Nat.zero_add,Nat.reduceAdd,Option.some.injEq,exists_eq_left',decide_eq_true_eq,st3.ldErr,st3.ldAt,st3.ldSrc,st3.ldNodes,st3.ldSpans,sumElim]
    refine st3.setAt fun h4' st4 f4=>?_
    have hp2 : p2.pos ≤ s.size:=((sp_good s m).D _ _ _ _ _ _ _ i2 (by simp) hl').inv.pos
    have e2 : IntKind.i64.wrap (S3.at' + 1) = (p2.pos : Int):=by rw [hy1,w64 (by omega) (by omega)]
    rw [e2] at st4 f4
    exact ⟨_,st4,f03.trans st.wf f4,rfl,hy2⟩
theorem value_step {s : ByteArray} {m : Nat} (hs : s.size ≤ 65536) (hL : BL s m) (hD : BD s m) : BV s (m + 1):=by
 intro n hn h S p sn d r st hsrc is i hr
 obtain ⟨n,rfl⟩ : ∃ k,n = k + 1:=⟨n - 1,by omega⟩
 rw [bencode_parser_value_succ]
 unfold bencode_parser_value_B
 rw [Wp_bind,Wp_new]
 refine ⟨rfl,?_⟩
 simp only [sp,spV] at hr
 show Wp _ (h.new T_api_Span sn.enc) _
 obtain ⟨st1,f1⟩:=Stp.new st (e:=T_api_Span) (cs:=sn.enc)
 have l1:=LB.new (h:=h) (e:=T_api_Span) (cs:=sn.enc)
 have hx1 : ∀ t,S.grp t ≤ h.next:=st.le
 generalize hb0 : h.next = b0 at *
 generalize h.new T_api_Span sn.enc = h1 at *
 rw [Wp_bind]
 refine (bencode_more st1 is.2.2.2).mono fun x h2 hx=>?_
 rw [hsrc,is.1] at hx
 have hl : s.data.toList.length = s.size:=size_toList s
 by_cases hle : s.size ≤ p.pos
 ·rw [if_pos hle] at hr
  cases hr
  rw [if_pos (by omega)] at hx
  obtain ⟨rfl,st2,f2⟩:=hx
  simp only [Wp_bind,Wp_nn',Wp_ldI,Wp_ldS,Wp_ldV,Wp_ldB,Wp_idxS,Wp_sliceS,Wp_pure,plus_eq,Nat.zero_add,Nat.reduceAdd,Option.some.injEq,exists_eq_left',decide_eq_true_eq,Bool.not_false,if_true]
  exact ⟨_,st2,f1.trans st.wf f2,rfl,rfl,rfl,by simp⟩
 ·rw [if_neg hle] at hr
  rw [if_neg (by omega)] at hx
  obtain ⟨rfl,rfl⟩:=hx
  simp only [Wp_bind,Wp_nn',Wp_ldI,Wp_ldS,Wp_ldV,Wp_ldB,Wp_idxS,Wp_sliceS,Wp_pure,plus_eq,Nat.zero_add,Nat.reduceAdd,Option.some.injEq,exists_eq_left',decide_eq_true_eq,st1.ldErr,st1.ldAt,st1.ldSrc,st1.ldNodes,st1.ldSpans,Bool.not_true,Bool.false_eq_true,if_false,is.1]
  have nofp : ¬ S.fp (b0 + 1):=by rintro ⟨t,ht⟩;have:=hx1 t;omega
  refine l1.st st1.wf (by simp [SpanV.enc]) rfl fun h3 l3 f3=>?_
  have fx : ∀ t,S.grp t = b0 + 1 → S.grp t = 0:=fun t ht=>absurd ⟨t,ht.symm⟩ nofp
  have st3 : St h3 S:=st1.fr f3 fx
  refine l3.st st3.wf (by simp [SpanV.enc,splice]) rfl fun h4 l4 f4=>?_
  have st4 : St h4 S:=st3.fr f4 fx
  have f04 : Stp h S h4 S:=⟨rfl,(f1.fr.fresh st.wf f3 fun g hg=>.inr (by omega)).fresh st.wf f4 fun g hg=>.inr (by omega),fun t=>.inr (.inl ⟨t,rfl⟩)⟩
  simp only [Wp_bind,Wp_nn',Wp_ldI,Wp_ldS,Wp_ldV,Wp_ldB,Wp_idxS,Wp_sliceS,Wp_pure,plus_eq,Nat.zero_add,Nat.reduceAdd,Option.some.injEq,exists_eq_left',decide_eq_true_eq,st4.ldErr,st4.ldAt,st4.ldSrc,st4.ldNodes,st4.ldSpans]
  refine Wp_ldLs.2 ⟨({ sn with frm:=p.pos,whole:=true } : SpanV).tup,l4.lds (by simp [SpanV.enc,splice]) rfl,?_⟩
  have hsp : S.spans = p.spans:=is.2.2.1
  have isp:=i.spans
  have ip:=i.pos
  refine St.addSpan (x:={ sn with frm:=p.pos,whole:=true }) st4 (by rw [hsp];unfold bigN;omega) fun s' h5 hput=>?_
  refine hput.mono fun _ h6 hx=>?_
  obtain ⟨g',_,st6,f6⟩:=hx
  have f06:=f04.trans st.wf f6
  have is6 : Is (S.wSpans s' g' (S.spans ++ [{ sn with frm:=p.pos,whole:=true }])) { p with spans:=p.spans ++ [{ sn with frm:=p.pos,whole:=true }] }:=⟨is.1,is.2.1,by show S.spans ++ _ = _;rw [hsp],is.2.2.2⟩
  have hs6 : (S.wSpans s' g' (S.spans ++ [{ sn with frm:=p.pos,whole:=true }])).src = s:=hsrc
  have hb6:=f06.b
  generalize S.wSpans s' g' (S.spans ++ [{ sn with frm:=p.pos,whole:=true }]) = S6 at *
  have hlen : S.ssl.len = p.spans.length:=by rw [st.spans_len,hsp]
  rw [← hb6]
  have hc : s.data.toList[p.pos]? = some s.data.toList[p.pos]:=List.getElem?_eq_getElem (by omega)
  generalize s.data.toList[p.pos] = c at hc
  have hat6 : S6.at' = p.pos:=is6.1
  simp only [Wp_bind,Wp_nn',Wp_ldI,Wp_ldS,Wp_ldV,Wp_ldB,Wp_idxS,Wp_sliceS,Wp_pure,plus_eq,Nat.zero_add,Nat.reduceAdd,Option.some.injEq,exists_eq_left',decide_eq_true_eq,st6.ldErr,st6.ldAt,st6.ldSrc,st6.ldNodes,st6.ldSpans,hs6,hat6,Int.toNat_natCast,ba_get,hc,Int.natCast_nonneg,true_and,hlen]
  have c1 : ((c.toNat : Int) = 105) ↔ c = 105:=byte_eq c 105 (by omega)
  have c2 : ((c.toNat : Int) = 108) ↔ c = 108:=byte_eq c 108 (by omega)
  have c3 : ((c.toNat : Int) = 100) ↔ c = 100:=byte_eq c 100 (by omega)
  have hadv : ∀ nn p2,spRead s (sp s m) { p with spans:=p.spans ++ [{ sn with frm:=p.pos,whole:=true }] } p.spans.length d = some (.ok (nn,p2)) → p.spans.length < p2.spans.length:=fun nn p2 h=>(spRead_adv (sp_good s m) i h).2
  have fin : ∀ {rr : Rs (Int × PV)} {x : Int × Bool} {h7 : AHeap},spRead s (sp s m) { p with spans:=p.spans ++ [{ sn with frm:=p.pos,whole:=true }] } p.spans.length d = some rr → ResW h6 S6 rr x h7 →
    Wp (if (!x.2) = true then M.pure (0,false) else M.bind (nn (some (adr S6.b))) fun x20=>M.bind (ldL li (x20.plus 8)) fun (x21 : Int)=>if (!decide (x21 = 0)) = true then M.pure (0,false) else bencode_parser_value_J0_B (Cl_bencode_parser_value.at n) n (some (adr S6.b)) (p.spans.length : Nat) x.1) h7 (Res h S r):=by
   intro rr x h7 h8 h9
   have:=value_cont (G:=Cl_bencode_parser_value.at n) (n:=n) (i:=p.spans.length) st.wf f06 h9 (fun nn p2 e=>hadv nn p2 (by rw [h8,e]))
   rw [← hb6] at this
   rw [h8] at hr
   cases rr with
   | error e=>cases hr;exact this
   | ok q=>cases hr;exact this
  have hrd : spRead s (sp s m) { p with spans:=p.spans ++ [{ sn with frm:=p.pos,whole:=true }] } p.spans.length d = (if c = 105 then some (spInt s { p with spans:=p.spans ++ [{ sn with frm:=p.pos,whole:=true }] } d) else if c = 108 then spOpen s (sp s m) { p with spans:=p.spans ++ [{ sn with frm:=p.pos,whole:=true }] } p.spans.length d 9 else if c = 100 then spOpen s (sp s m) { p with spans:=p.spans ++ [{ sn with frm:=p.pos,whole:=true }] } p.spans.length d 10 else some (spStr s { p with spans:=p.spans ++ [{ sn with frm:=p.pos,whole:=true }] } d)):=by
   unfold spRead
   simp only [hc]
  by_cases k1 : c = 105
  ·rw [if_pos (c1.2 k1),Wp_bind]
   rw [if_pos k1] at hrd
   refine (bencode_integer st6 is6 (by rw [hs6];exact hs) (by rw [hs6];omega) (by rw [hs6];show s.data.toList[p.pos]? = _;rw [hc,k1])).mono fun x h7 hx=>fin hrd ?_
   rw [hs6] at hx
   exact hx.weak
  ·rw [if_neg (fun e=>k1 (c1.1 e))]
   rw [if_neg k1] at hrd
   by_cases k2 : c = 108
   ·rw [if_pos (c2.2 k2),Wp_bind]
    rw [if_pos k2] at hrd
    cases ho : spOpen s (sp s m) { p with spans:=p.spans ++ [{ sn with frm:=p.pos,whole:=true }] } p.spans.length d 9 with
    | none=>rw [hrd,ho] at hr;cases hr
    | some rr =>
     rw [ho] at hrd
     exact (list_wp hs hL (n:=n) (by omega) st6 hs6 is6 i (by omega) ho).mono fun x h7 hx=>fin hrd hx
   ·rw [if_neg (fun e=>k2 (c2.1 e))]
    rw [if_neg k2] at hrd
    by_cases k3 : c = 100
    ·rw [if_pos (c3.2 k3),Wp_bind]
     rw [if_pos k3] at hrd
     cases ho : spOpen s (sp s m) { p with spans:=p.spans ++ [{ sn with frm:=p.pos,whole:=true }] } p.spans.length d 10 with
     | none=>rw [hrd,ho] at hr;cases hr
     | some rr =>
      rw [ho] at hrd
      exact (dict_wp hs hD (n:=n) (by omega) st6 hs6 is6 i (by omega) ho).mono fun x h7 hx=>fin hrd hx
    ·rw [if_neg (fun e=>k3 (c3.1 e)),Wp_bind]
     rw [if_neg k3] at hrd
     refine (bencode_str st6 is6 (by rw [hs6];exact hs) (by rw [hs6];omega) (by rw [hs6];exact ip)).mono fun x h7 hx=>fin hrd ?_
     rw [hs6] at hx
     exact hx.weak
end Go.Sh
