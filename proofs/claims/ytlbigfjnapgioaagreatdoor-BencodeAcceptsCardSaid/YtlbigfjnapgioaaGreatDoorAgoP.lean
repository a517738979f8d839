
import Derived.Test.YtlbigfjnapgioaaGreatDoorShT
import Derived.Test.YtlbigfjnapgioaaGreatDoorAgoW
set_option linter.all false
namespace Go.Sh
open Go Go.Ago
structure NodeR where
 kind : Int
 text : ByteArray
 ord : Bool
 ks : Sl
 kl : List Int
 kg : Nat
 is : Sl
 il : List Int
 ig : Nat
def NodeR.enc (x : NodeR) : List Value:=[vi x.kind,.string x.text,.bool x.ord,vsl x.ks,vsl x.is]
theorem NodeR.enc_len (x : NodeR) : x.enc.length = 5:=rfl
structure SpanV where
 node : Int
 parent : Int
 entry : Int
 frm : Int
 to : Int
 kf : Int
 kt : Int
 alias : Bool
 whole : Bool
def SpanV.enc (x : SpanV) : List Value:=[vi x.node,vi x.parent,vi x.entry,vi x.frm,vi x.to,vi x.kf,vi x.kt,.bool x.alias,.bool x.whole]
theorem SpanV.enc_len (x : SpanV) : x.enc.length = 9:=rfl
structure PSt where
 b : Nat
 g : Nat
 base : Nat
 e : TypeId
 src : ByteArray
 at' : Int
 fmt : Int
 source : ByteArray
 nsl : Sl
 ng : Nat
 nodes : List NodeR
 root : Int
 ssl : Sl
 sg : Nat
 spans : List SpanV
 err : Int
 off : Int
def PSt.enc (S : PSt) : List Value:=[.string S.src,vi S.at',vi S.fmt,.string S.source,vsl S.nsl,vi S.root,vsl S.ssl,vsl0,vi S.err,vi S.off]
def PSt.ncells (S : PSt) : List Value:=S.nodes.flatMap NodeR.enc
inductive Slot where
 | main | nodes | spans | key (i : Nat) | item (i : Nat)
def PSt.grp (S : PSt) : Slot → Nat
 | .main=>S.g
 | .nodes=>S.ng
 | .spans=>S.sg
 | .key i=>(match S.nodes[i]? with | some x=>x.kg | none=>0)
 | .item i=>(match S.nodes[i]? with | some x=>x.ig | none=>0)
def PSt.fp (S : PSt) : Nat → Prop:=fun g=>∃ s,g = S.grp s
structure StC (h : AHeap) (S : PSt) (c nc : List Value) : Prop where
 wf : WF h
 blk : h.get S.b = some (.cells c S.g S.base S.e)
 g0 : S.g ≠ 0
 nodes : OSl h S.nsl 5 T_api_Node nc S.ng
 nlen : nc.length = S.nodes.length * 5
 spans : OSl h S.ssl 9 T_api_Span (S.spans.flatMap SpanV.enc) S.sg
 keys : ∀ (i : Nat) (x : NodeR),S.nodes[i]? = some x → OSl h x.ks 1 T_i64 (x.kl.map vi) x.kg
 items : ∀ (i : Nat) (x : NodeR),S.nodes[i]? = some x → OSl h x.is 1 T_i64 (x.il.map vi) x.ig
 dist : ∀ s t,s ≠ t → S.grp s = S.grp t → S.grp s = 0
abbrev St (h : AHeap) (S : PSt) : Prop:=StC h S S.enc S.ncells
variable {h h' : AHeap} {S S' : PSt} {c nc : List Value}
theorem StC.le (st : StC h S c nc) (s : Slot) : S.grp s ≤ h.next:=by
 cases s with
 | main=>exact st.wf.grp _ _ _ _ _ st.blk
 | nodes=>exact st.nodes.le
 | spans=>exact st.spans.le
 | key i =>
  simp only [PSt.grp]
  split
  ·rename_i x hx;exact (st.keys i x hx).le
  ·omega
 | item i =>
  simp only [PSt.grp]
  split
  ·rename_i x hx;exact (st.items i x hx).le
  ·omega
theorem StC.nodes_len (st : StC h S c nc) : S.nsl.len = S.nodes.length:=by
 have h1:=st.nodes.1
 have h2:=st.nlen
 omega
theorem StC.spans_len (st : StC h S c nc) : S.ssl.len = S.spans.length:=by
 have h1:=st.spans.1
 rw [flat_length SpanV.enc_len] at h1
 omega
theorem StC.fr (st : StC h S c nc) {X : Nat → Prop} (f : Fr X h h') (hx : ∀ s,X (S.grp s) → S.grp s = 0) : StC h' S c nc:=by
 refine ⟨f.wf,f.cells _ _ _ _ _ st.blk (hx .main),st.g0,st.nodes.fr f (hx .nodes),st.nlen,st.spans.fr f (hx .spans),fun i x hi=>?_,fun i x hi=>?_,st.dist⟩
 ·refine (st.keys i x hi).fr f ?_
  have:=hx (.key i)
  simpa only [PSt.grp,hi] using this
 ·refine (st.items i x hi).fr f ?_
  have:=hx (.item i)
  simpa only [PSt.grp,hi] using this
def PSt.con (S : PSt) : Nat × Nat × Nat × TypeId × ByteArray × Int × ByteArray × Int:=(S.b,S.g,S.base,S.e,S.src,S.fmt,S.source,S.root)
structure Stp (h : AHeap) (S : PSt) (h' : AHeap) (S' : PSt) : Prop where
 con : S'.con = S.con
 fr : Fr S.fp h h'
 fp : ∀ s,S'.grp s = 0 ∨ (∃ t,S'.grp s = S.grp t) ∨ h.next < S'.grp s
theorem Stp.refl (hw : WF h) : Stp h S h S:=⟨rfl,Fr.refl hw,fun s=>.inr (.inl ⟨s,rfl⟩)⟩
theorem Stp.trans {h1 h2 : AHeap} {S1 S2 : PSt} (hw : WF h) (a : Stp h S h1 S1) (b : Stp h1 S1 h2 S2) : Stp h S h2 S2:=by
 refine ⟨b.con.trans a.con,a.fr.trans hw b.fr fun g hg h0=>?_,fun s=>?_⟩
 ·obtain ⟨s,rfl⟩:=hg
  rcases a.fp s with h3 | ⟨t,h3⟩ | h3
  ·exact absurd h3 h0
  ·exact .inl ⟨t,h3⟩
  ·exact .inr h3
 ·rcases b.fp s with h3 | ⟨t,h3⟩ | h3
  ·exact .inl h3
  ·rcases a.fp t with h4 | ⟨u,h4⟩ | h4
   ·exact .inl (h3.trans h4)
   ·exact .inr (.inl ⟨u,h3.trans h4⟩)
   ·exact .inr (.inr (by omega))
  ·exact .inr (.inr (Nat.lt_of_le_of_lt a.fr.next h3))
theorem Stp.other (f : Stp h S h' S') {X : Nat → Prop} {h1 : AHeap} (hw : WF h) (g1 : Fr X h1 h) (hw1 : WF h1) (hx : ∀ s,S.grp s = 0 ∨ X (S.grp s) ∨ h1.next < S.grp s) : Fr X h1 h' :=
 g1.trans hw1 f.fr fun g hg h0=>by
  obtain ⟨s,rfl⟩:=hg
  rcases hx s with h3 | h3 | h3
  ·exact absurd h3 h0
  ·exact .inl h3
  ·exact .inr h3
theorem dist_upd {n : Nat} (hd : ∀ s t,s ≠ t → S.grp s = S.grp t → S.grp s = 0) (hle : ∀ s,S.grp s ≤ n) (s0 : Slot) (ho : ∀ s,s ≠ s0 → S'.grp s = S.grp s ∨ S'.grp s = 0) (hn : S'.grp s0 = S.grp s0 ∨ S'.grp s0 = 0 ∨ n < S'.grp s0) :
  ∀ s t,s ≠ t → S'.grp s = S'.grp t → S'.grp s = 0:=by
 have key : ∀ t,t ≠ s0 → S'.grp s0 = S'.grp t → S'.grp s0 = 0:=fun t ht he=>by
  rcases ho t ht with h5 | h5
  ·rcases hn with h6 | h6 | h6
   ·rw [h6];exact hd s0 t (fun e=>ht e.symm) (by rw [← h6,he,h5])
   ·exact h6
   ·have:=hle t;omega
  ·rw [he,h5]
 intro s t hst he
 by_cases hs : s = s0
 ·subst hs;exact key t (fun e=>hst e.symm) he
 ·by_cases ht : t = s0
  ·subst ht;rw [he];exact key s hs he.symm
  ·rcases ho s hs with h5 | h5
   ·rcases ho t ht with h6 | h6
    ·rw [h5];exact hd s t hst (by rw [← h5,he,h6])
    ·rw [he,h6]
   ·exact h5
theorem splice1 {c : List Value} {o : Nat} {v : Value} (ho : o < c.length) : splice c o [v] = c.set o v:=by
 rw [List.set_eq_take_append_cons_drop,if_pos ho];simp [splice]
theorem StC.put (st : StC h S c nc) {o : Nat} {v : Value} (ho : o < c.length) (hv : scal v = true) {Q : Unit → AHeap → Prop}
  (hq : ∀ h',StC h' S (c.set o v) nc → Fr (· = S.g) h h' → Q () h') : Wp (stN ⟨S.b,o,none⟩ [v]) h Q:=by
 rw [Wp_stN]
 refine ⟨c,S.g,S.base,S.e,st.blk,st.g0,by simp;omega,by simp [hv],?_⟩
 have f:=Fr.upd (c:=c.set o v) (base:=S.base) (e:=S.e) st.wf st.g0 st.blk
 rw [splice1 ho]
 have hx : ∀ s,s ≠ Slot.main → S.grp s = S.g → S.grp s = 0:=fun s hs he=>st.dist s .main hs he
 refine hq _ ⟨f.wf,upd_get_self,st.g0,st.nodes.fr f (hx .nodes (by simp)),st.nlen,st.spans.fr f (hx .spans (by simp)),fun i x hi=>?_,fun i x hi=>?_,st.dist⟩ f
 ·refine (st.keys i x hi).fr f ?_
  have:=hx (.key i) (by simp)
  simpa only [PSt.grp,hi] using this
 ·refine (st.items i x hi).fr f ?_
  have:=hx (.item i) (by simp)
  simpa only [PSt.grp,hi] using this
theorem StC.ld (st : StC h S c nc) {l : Leaf} {o : Nat} : h.ld l S.b o = (match c[o]? with | some v=>unL l v | none=>none):=by
 unfold AHeap.ld;rw [st.blk];simp only;generalize c[o]? = z;cases z <;> rfl
theorem StC.as (st : StC h S c nc) (e1 : S'.b = S.b) (e2 : S'.g = S.g) (e3 : S'.base = S.base) (e4 : S'.e = S.e) (e5 : S'.nsl = S.nsl) (e6 : S'.ng = S.ng) (e7 : S'.nodes = S.nodes) (e8 : S'.ssl = S.ssl) (e9 : S'.sg = S.sg) (e10 : S'.spans = S.spans) : StC h S' c nc:=by
 have hg : ∀ s,S'.grp s = S.grp s:=fun s=>by cases s <;> simp only [PSt.grp,e2,e6,e7,e9]
 exact ⟨st.wf,by rw [e1,e2,e3,e4];exact st.blk,by rw [e2];exact st.g0,by rw [e5,e6];exact st.nodes,by rw [e7];exact st.nlen,by rw [e8,e9,e10];exact st.spans,
  by rw [e7];exact st.keys,by rw [e7];exact st.items,fun s t hs=>by rw [hg s,hg t];exact st.dist s t hs⟩
theorem StC.pushNode (st : StC h S c nc) {x : NodeR} (hk : x.ks = sl0∧x.kl = []∧x.kg = 0) (hi : x.is = sl0∧x.il = []∧x.ig = 0) {b : Bool} (hb : S.nodes.length + 1 ≤ bigN) {Q : Sl → AHeap → Prop}
  (hq : ∀ s' h' g',s'.len = S.nodes.length + 1 → (g' = S.ng∧S.ng ≠ 0 ∨ g' = h.next + 1) → StC h' { S with nsl:=s',ng:=g',nodes:=S.nodes ++ [x] } c (nc ++ x.enc) → Fr (· = S.ng) h h' → Q s' h') :
  Wp (app b S.nsl 5 T_api_Node 1 x.enc) h Q:=by
 refine OSl.app st.nodes st.wf (by omega) rfl (by rw [st.nodes_len];exact hb) fun s' h' g' h1 h2 h3 h4 f=>?_
 have hx : ∀ s,s ≠ Slot.nodes → S.grp s = S.ng → S.grp s = 0:=fun s hs he=>st.dist s .nodes hs he
 have gl : ∀ (i : Nat) (y : NodeR),(S.nodes ++ [x])[i]? = some y → S.nodes[i]? = some y ∨ y = x:=fun i y hy=>by
  by_cases hlt : i < S.nodes.length
  ·rw [List.getElem?_append_left hlt] at hy;exact .inl hy
  ·rw [List.getElem?_append_right (by omega)] at hy
   have hy:=List.mem_of_getElem? hy
   exact .inr (by simpa using hy)
 refine hq s' h' g' (by rw [h1,st.nodes_len]) h4 ⟨f.wf,f.cells _ _ _ _ _ st.blk (fun he=>hx .main (by simp) he),st.g0,h3,by simp [st.nlen,NodeR.enc_len];omega,st.spans.fr f (hx .spans (by simp)),fun i y hy=>?_,fun i y hy=>?_,?_⟩ f
 ·rcases gl i y hy with hy | rfl
  ·refine (st.keys i y hy).fr f ?_
   have:=hx (.key i) (by simp)
   simpa only [PSt.grp,hy] using this
  ·rw [hk.1,hk.2.1,hk.2.2];exact OSl.nil
 ·rcases gl i y hy with hy | rfl
  ·refine (st.items i y hy).fr f ?_
   have:=hx (.item i) (by simp)
   simpa only [PSt.grp,hy] using this
  ·rw [hi.1,hi.2.1,hi.2.2];exact OSl.nil
 ·have old : ∀ s,s ≠ Slot.nodes → PSt.grp { S with nsl:=s',ng:=g',nodes:=S.nodes ++ [x] } s = S.grp s ∨ PSt.grp { S with nsl:=s',ng:=g',nodes:=S.nodes ++ [x] } s = 0:=by
   intro s hs
   cases s with
   | main=>exact .inl rfl
   | spans=>exact .inl rfl
   | nodes=>exact absurd rfl hs
   | key i =>
    simp only [PSt.grp]
    by_cases hlt : i < S.nodes.length
    ·rw [List.getElem?_append_left hlt];exact .inl rfl
    ·rw [List.getElem?_append_right (by omega)]
     refine .inr ?_
     split
     ·rename_i y hy
      have hy:=List.mem_of_getElem? hy
      have : y = x:=by simpa using hy
      rw [this,hk.2.2]
     ·rfl
   | item i =>
    simp only [PSt.grp]
    by_cases hlt : i < S.nodes.length
    ·rw [List.getElem?_append_left hlt];exact .inl rfl
    ·rw [List.getElem?_append_right (by omega)]
     refine .inr ?_
     split
     ·rename_i y hy
      have hy:=List.mem_of_getElem? hy
      have : y = x:=by simpa using hy
      rw [this,hi.2.2]
     ·rfl
  refine dist_upd st.dist st.le .nodes old ?_
  rcases h4 with ⟨h6,_⟩ | h6
  ·exact .inl h6
  ·exact .inr (.inr (by show h.next < g';omega))
theorem StC.pushSpan (st : StC h S c nc) {x : SpanV} {b : Bool} (hb : S.spans.length + 1 ≤ bigN) {Q : Sl → AHeap → Prop}
  (hq : ∀ s' h' g',s'.len = S.spans.length + 1 → (g' = S.sg∧S.sg ≠ 0 ∨ g' = h.next + 1) → StC h' { S with ssl:=s',sg:=g',spans:=S.spans ++ [x] } c nc → Fr (· = S.sg) h h' → Q s' h') :
  Wp (app b S.ssl 9 T_api_Span 1 x.enc) h Q:=by
 refine OSl.app st.spans st.wf (by omega) rfl (by rw [st.spans_len];exact hb) fun s' h' g' h1 h2 h3 h4 f=>?_
 have hx : ∀ s,s ≠ Slot.spans → S.grp s = S.sg → S.grp s = 0:=fun s hs he=>st.dist s .spans hs he
 refine hq s' h' g' (by rw [h1,st.spans_len]) h4 ⟨f.wf,f.cells _ _ _ _ _ st.blk (fun he=>hx .main (by simp) he),st.g0,st.nodes.fr f (hx .nodes (by simp)),st.nlen,by simpa using h3,fun i y hy=>?_,fun i y hy=>?_,?_⟩ f
 ·refine (st.keys i y hy).fr f ?_
  have:=hx (.key i) (by simp)
  simpa only [PSt.grp,hy] using this
 ·refine (st.items i y hy).fr f ?_
  have:=hx (.item i) (by simp)
  simpa only [PSt.grp,hy] using this
 ·refine dist_upd st.dist st.le .spans (fun s hs=>.inl ?_) ?_
  ·cases s <;> first | rfl | exact absurd rfl hs
  ·rcases h4 with ⟨h6,_⟩ | h6
   ·exact .inl h6
   ·exact .inr (.inr (by show h.next < g';omega))
theorem set_get {α : Type} {L : List α} {i j : Nat} {x y : α} (hj : (L.set i x)[j]? = some y) : (j = i∧y = x∧i < L.length) ∨ (j ≠ i∧L[j]? = some y):=by
 by_cases hji : j = i
 ·subst hji
  have hlt : j < L.length:=by have:=(List.getElem?_eq_some_iff.1 hj).1;simpa using this
  rw [List.getElem?_set_self hlt] at hj;cases hj
  exact .inl ⟨rfl,rfl,hlt⟩
 ·rw [List.getElem?_set_ne (fun e=>hji e.symm)] at hj
  exact .inr ⟨hji,hj⟩
theorem StC.appItem (st : StC h S c nc) {i : Nat} {x : NodeR} (hi : S.nodes[i]? = some x) {v : Int} {b : Bool} (hb : x.il.length + 1 ≤ bigN) {Q : Sl → AHeap → Prop}
  (hq : ∀ s' h' g',(g' = x.ig∧x.ig ≠ 0 ∨ g' = h.next + 1) → StC h' { S with nodes:=S.nodes.set i { x with is:=s',il:=x.il ++ [v],ig:=g' } } c nc → Fr (· = x.ig) h h' → Q s' h') :
  Wp (app b x.is 1 T_i64 1 [vi v]) h Q:=by
 have o:=st.items i x hi
 have hlen : x.is.len = x.il.length:=by have:=o.1;simpa using this.symm
 have hgi : S.grp (.item i) = x.ig:=by simp only [PSt.grp,hi]
 refine OSl.app o st.wf (by omega) rfl (by rw [hlen];exact hb) fun s' h' g' h1 h2 h3 h4 f=>?_
 have hx : ∀ s,s ≠ Slot.item i → S.grp s = x.ig → S.grp s = 0:=fun s hs he=>st.dist s (.item i) hs (by rw [he,hgi])
 have hlt:=(List.getElem?_eq_some_iff.1 hi).1
 refine hq s' h' g' h4 ⟨f.wf,f.cells _ _ _ _ _ st.blk (fun he=>hx .main (by simp) he),st.g0,st.nodes.fr f (hx .nodes (by simp)),by simp [st.nlen],st.spans.fr f (hx .spans (by simp)),fun j y hy=>?_,fun j y hy=>?_,?_⟩ f
 ·have hk : ∀ y',S.nodes[j]? = some y' → OSl h' y'.ks 1 T_i64 (y'.kl.map vi) y'.kg:=fun y' hy'=>by
   refine (st.keys j y' hy').fr f ?_
   have:=hx (.key j) (by simp)
   simpa only [PSt.grp,hy'] using this
  rcases set_get hy with ⟨rfl,rfl,_⟩ | ⟨_,hy⟩
  ·exact hk x hi
  ·exact hk y hy
 ·rcases set_get hy with ⟨rfl,rfl,_⟩ | ⟨hji,hy⟩
  ·simpa using h3
  ·refine (st.items j y hy).fr f ?_
   have:=hx (.item j) (by simp [hji])
   simpa only [PSt.grp,hy] using this
 ·refine dist_upd st.dist st.le (.item i) (fun s hs=>.inl ?_) ?_
  ·cases s with
   | key j =>
    simp only [PSt.grp]
    by_cases hji : j = i
    ·subst hji;rw [List.getElem?_set_self hlt,hi]
    ·rw [List.getElem?_set_ne (fun e=>hji e.symm)]
   | item j =>
    have hji : j ≠ i:=fun e=>hs (by rw [e])
    simp only [PSt.grp]
    rw [List.getElem?_set_ne (fun e=>hji e.symm)]
   | _=>rfl
  ·have e1 : PSt.grp { S with nodes:=S.nodes.set i { x with is:=s',il:=x.il ++ [v],ig:=g' } } (.item i) = g':=by
    simp only [PSt.grp];rw [List.getElem?_set_self hlt]
   rw [e1,hgi]
   rcases h4 with ⟨h6,_⟩ | h6
   ·exact .inl h6
   ·exact .inr (.inr (by omega))
theorem StC.appKey (st : StC h S c nc) {i : Nat} {x : NodeR} (hi : S.nodes[i]? = some x) {v : Int} {b : Bool} (hb : x.kl.length + 1 ≤ bigN) {Q : Sl → AHeap → Prop}
  (hq : ∀ s' h' g',(g' = x.kg∧x.kg ≠ 0 ∨ g' = h.next + 1) → StC h' { S with nodes:=S.nodes.set i { x with ks:=s',kl:=x.kl ++ [v],kg:=g' } } c nc → Fr (· = x.kg) h h' → Q s' h') :
  Wp (app b x.ks 1 T_i64 1 [vi v]) h Q:=by
 have o:=st.keys i x hi
 have hlen : x.ks.len = x.kl.length:=by have:=o.1;simpa using this.symm
 have hgi : S.grp (.key i) = x.kg:=by simp only [PSt.grp,hi]
 refine OSl.app o st.wf (by omega) rfl (by rw [hlen];exact hb) fun s' h' g' h1 h2 h3 h4 f=>?_
 have hx : ∀ s,s ≠ Slot.key i → S.grp s = x.kg → S.grp s = 0:=fun s hs he=>st.dist s (.key i) hs (by rw [he,hgi])
 have hlt:=(List.getElem?_eq_some_iff.1 hi).1
 refine hq s' h' g' h4 ⟨f.wf,f.cells _ _ _ _ _ st.blk (fun he=>hx .main (by simp) he),st.g0,st.nodes.fr f (hx .nodes (by simp)),by simp [st.nlen],st.spans.fr f (hx .spans (by simp)),fun j y hy=>?_,fun j y hy=>?_,?_⟩ f
 ·rcases set_get hy with ⟨rfl,rfl,_⟩ | ⟨hji,hy⟩
  ·simpa using h3
  ·refine (st.keys j y hy).fr f ?_
   have:=hx (.key j) (by simp [hji])
   simpa only [PSt.grp,hy] using this
 ·have hk : ∀ y',S.nodes[j]? = some y' → OSl h' y'.is 1 T_i64 (y'.il.map vi) y'.ig:=fun y' hy'=>by
   refine (st.items j y' hy').fr f ?_
   have:=hx (.item j) (by simp)
   simpa only [PSt.grp,hy'] using this
  rcases set_get hy with ⟨rfl,rfl,_⟩ | ⟨_,hy⟩
  ·exact hk x hi
  ·exact hk y hy
 ·refine dist_upd st.dist st.le (.key i) (fun s hs=>.inl ?_) ?_
  ·cases s with
   | item j =>
    simp only [PSt.grp]
    by_cases hji : j = i
    ·subst hji;rw [List.getElem?_set_self hlt,hi]
    ·rw [List.getElem?_set_ne (fun e=>hji e.symm)]
   | key j =>
    have hji : j ≠ i:=fun e=>hs (by rw [e])
    simp only [PSt.grp]
    rw [List.getElem?_set_ne (fun e=>hji e.symm)]
   | _=>rfl
  ·have e1 : PSt.grp { S with nodes:=S.nodes.set i { x with ks:=s',kl:=x.kl ++ [v],kg:=g' } } (.key i) = g':=by
    simp only [PSt.grp];rw [List.getElem?_set_self hlt]
   rw [e1,hgi]
   rcases h4 with ⟨h6,_⟩ | h6
   ·exact .inl h6
   ·exact .inr (.inr (by omega))
theorem StC.nodeBlk (st : StC h S c nc) (hn : S.nodes.length ≠ 0) : ∃ bn base,S.nsl.a = some ⟨bn,0,none⟩∧h.get bn = some (.cells nc S.ng base T_api_Node)∧S.ng ≠ 0 :=
 st.nodes.blk (by rw [st.nodes_len];exact hn)
theorem StC.spanBlk (st : StC h S c nc) (hn : S.spans.length ≠ 0) : ∃ bn base,S.ssl.a = some ⟨bn,0,none⟩∧h.get bn = some (.cells (S.spans.flatMap SpanV.enc) S.sg base T_api_Span)∧S.sg ≠ 0 :=
 st.spans.blk (by rw [st.spans_len];exact hn)
theorem StC.putNode (st : StC h S c nc) {bn o : Nat} {v : Value} (ha : S.nsl.a = some ⟨bn,0,none⟩) (ho : o < nc.length) (hv : scal v = true) {Q : Unit → AHeap → Prop}
  (hq : ∀ h',StC h' S c (nc.set o v) → Fr (· = S.ng) h h' → Q () h') : Wp (stN ⟨bn,o,none⟩ [v]) h Q:=by
 have hn : S.nodes.length ≠ 0:=by have:=st.nlen;omega
 obtain ⟨b2,base,h1,h2,h3⟩:=st.nodeBlk hn
 rw [ha] at h1;cases h1
 rw [Wp_stN]
 refine ⟨nc,S.ng,base,T_api_Node,h2,h3,by simp;omega,by simp [hv],?_⟩
 have f:=Fr.upd (c:=nc.set o v) (base:=base) (e:=T_api_Node) st.wf h3 h2
 rw [splice1 ho]
 have hx : ∀ s,s ≠ Slot.nodes → S.grp s = S.ng → S.grp s = 0:=fun s hs he=>st.dist s .nodes hs he
 refine hq _ ⟨f.wf,f.cells _ _ _ _ _ st.blk (fun he=>hx .main (by simp) he),st.g0,st.nodes.upd (by simp) (by rw [st.nodes_len];exact hn) ha h2,by simp [st.nlen],st.spans.fr f (hx .spans (by simp)),fun i x hi=>?_,fun i x hi=>?_,st.dist⟩ f
 ·refine (st.keys i x hi).fr f ?_
  have:=hx (.key i) (by simp)
  simpa only [PSt.grp,hi] using this
 ·refine (st.items i x hi).fr f ?_
  have:=hx (.item i) (by simp)
  simpa only [PSt.grp,hi] using this
theorem StC.putSpan (st : StC h S c nc) {bn i o : Nat} {x x' : SpanV} {v : Value} (ha : S.ssl.a = some ⟨bn,0,none⟩) (hi : S.spans[i]? = some x) (ho : o < 9) (hv : scal v = true) (hx' : x'.enc = x.enc.set o v) {Q : Unit → AHeap → Prop}
  (hq : ∀ h',StC h' { S with spans:=S.spans.set i x' } c nc → Fr (· = S.sg) h h' → Q () h') : Wp (stN ⟨bn,i * 9 + o,none⟩ [v]) h Q:=by
 have hlt:=(List.getElem?_eq_some_iff.1 hi).1
 obtain ⟨b2,base,h1,h2,h3⟩:=st.spanBlk (by omega)
 rw [ha] at h1;cases h1
 rw [Wp_stN]
 have hl:=flat_length SpanV.enc_len S.spans
 refine ⟨_,S.sg,base,T_api_Span,h2,h3,by simp [hl];omega,by simp [hv],?_⟩
 rw [flat_splice SpanV.enc_len hi (x':=x') (by simp;omega) (by rw [hx',splice1 (by rw [SpanV.enc_len];exact ho)])]
 have f:=Fr.upd (c:=(S.spans.set i x').flatMap SpanV.enc) (base:=base) (e:=T_api_Span) st.wf h3 h2
 have hx : ∀ s,s ≠ Slot.spans → S.grp s = S.sg → S.grp s = 0:=fun s hs he=>st.dist s .spans hs he
 refine hq _ ⟨f.wf,f.cells _ _ _ _ _ st.blk (fun he=>hx .main (by simp) he),st.g0,st.nodes.fr f (hx .nodes (by simp)),st.nlen,st.spans.upd (by rw [flat_length SpanV.enc_len,flat_length SpanV.enc_len,List.length_set]) (by rw [st.spans_len];omega) ha h2,fun i x hi=>?_,fun i x hi=>?_,st.dist⟩ f
 ·refine (st.keys i x hi).fr f ?_
  have:=hx (.key i) (by simp)
  simpa only [PSt.grp,hi] using this
 ·refine (st.items i x hi).fr f ?_
  have:=hx (.item i) (by simp)
  simpa only [PSt.grp,hi] using this
theorem Stp.b (f : Stp h S h' S') : S'.b = S.b:=congrArg (·.1) f.con
theorem Stp.src (f : Stp h S h' S') : S'.src = S.src:=congrArg (·.2.2.2.2.1) f.con
theorem Stp.root (f : Stp h S h' S') : S'.root = S.root:=congrArg (·.2.2.2.2.2.2.2) f.con
theorem Stp.fmt (f : Stp h S h' S') : S'.fmt = S.fmt:=congrArg (·.2.2.2.2.2.1) f.con
theorem Stp.source (f : Stp h S h' S') : S'.source = S.source:=congrArg (·.2.2.2.2.2.2.1) f.con
theorem Stp.one {s0 : Slot} (hc : S'.con = S.con) (f : Fr (· = S.grp s0) h h') (ho : ∀ s,s ≠ s0 → S'.grp s = S.grp s ∨ S'.grp s = 0) (hn : S'.grp s0 = S.grp s0 ∨ S'.grp s0 = 0 ∨ h.next < S'.grp s0) (hw : WF h) : Stp h S h' S':=by
 refine ⟨hc,f.mono hw fun g hg _=>.inl ⟨s0,hg⟩,fun s=>?_⟩
 by_cases hs : s = s0
 ·subst hs
  rcases hn with h1 | h1 | h1
  ·exact .inr (.inl ⟨_,h1⟩)
  ·exact .inl h1
  ·exact .inr (.inr h1)
 ·rcases ho s hs with h1 | h1
  ·exact .inr (.inl ⟨_,h1⟩)
  ·exact .inl h1
theorem St.pure (st : St h S) (f : Fr (fun _=>False) h h') : St h' S∧Stp h S h' S :=
 ⟨st.fr f (fun _ hx=>hx.elim),rfl,f.mono st.wf (fun _ hx _=>hx.elim),fun s=>.inr (.inl ⟨s,rfl⟩)⟩
theorem StC.ldSrc (st : StC h S S.enc nc) : h.ldS S.b 0 = some S.src:=st.ld
theorem StC.ldAt (st : StC h S S.enc nc) : h.ldI .i64 S.b 1 = some S.at':=st.ld
theorem StC.ldNodes (st : StC h S S.enc nc) : h.ldV S.b 4 = some S.nsl:=st.ld
theorem StC.ldSpans (st : StC h S S.enc nc) : h.ldV S.b 6 = some S.ssl:=st.ld
theorem StC.ldErr (st : StC h S S.enc nc) : h.ldI .i64 S.b 8 = some S.err:=st.ld
theorem StC.ldOff (st : StC h S S.enc nc) : h.ldI .i64 S.b 9 = some S.off:=st.ld
theorem plus_eq (a : Addr) (n : Nat) : a.plus n = ⟨a.block,a.off + n,none⟩:=rfl
def PSt.wAt (S : PSt) (v : Int) : PSt:={ S with at':=v }
def PSt.wErr (S : PSt) (v : Int) : PSt:={ S with err:=v }
def PSt.wOff (S : PSt) (v : Int) : PSt:={ S with off:=v }
def PSt.wNodes (S : PSt) (s : Sl) (g : Nat) (l : List NodeR) : PSt:={ S with nsl:=s,ng:=g,nodes:=l }
def PSt.wSpans (S : PSt) (s : Sl) (g : Nat) (l : List SpanV) : PSt:={ S with ssl:=s,sg:=g,spans:=l }
theorem St.setAt (st : St h S) {v : Int} {Q : Unit → AHeap → Prop} (hq : ∀ h',St h' (S.wAt v) → Stp h S h' (S.wAt v) → Q () h') : Wp (stN ⟨S.b,1,none⟩ [vi v]) h Q :=
 st.put (by show 1 < 10;omega) rfl fun h' st' f=>hq h' (st'.as rfl rfl rfl rfl rfl rfl rfl rfl rfl rfl) (Stp.one (s0:=.main) rfl f (fun s _=>.inl (by cases s <;> rfl)) (.inl rfl) st.wf)
theorem St.setErr (st : St h S) {v : Int} {Q : Unit → AHeap → Prop} (hq : ∀ h',St h' (S.wErr v) → Stp h S h' (S.wErr v) → Q () h') : Wp (stN ⟨S.b,8,none⟩ [vi v]) h Q :=
 st.put (by show 8 < 10;omega) rfl fun h' st' f=>hq h' (st'.as rfl rfl rfl rfl rfl rfl rfl rfl rfl rfl) (Stp.one (s0:=.main) rfl f (fun s _=>.inl (by cases s <;> rfl)) (.inl rfl) st.wf)
theorem St.setOff (st : St h S) {v : Int} {Q : Unit → AHeap → Prop} (hq : ∀ h',St h' (S.wOff v) → Stp h S h' (S.wOff v) → Q () h') : Wp (stN ⟨S.b,9,none⟩ [vi v]) h Q :=
 st.put (by show 9 < 10;omega) rfl fun h' st' f=>hq h' (st'.as rfl rfl rfl rfl rfl rfl rfl rfl rfl rfl) (Stp.one (s0:=.main) rfl f (fun s _=>.inl (by cases s <;> rfl)) (.inl rfl) st.wf)
theorem Stp.two {h2 h3 : AHeap} {s0 s1 : Slot} (hw : WF h) (hc : S'.con = S.con) (f : Fr (· = S.grp s0) h h2) (f2 : Fr (· = S'.grp s1) h2 h3) (hs : s1 ≠ s0) (h1 : S'.grp s1 = S.grp s1) (ho : ∀ s,s ≠ s0 → S'.grp s = S.grp s ∨ S'.grp s = 0) (hn : S'.grp s0 = S.grp s0 ∨ S'.grp s0 = 0 ∨ h.next < S'.grp s0) : Stp h S h3 S':=by
 refine ⟨hc,(f.mono hw fun g hg _=>.inl ⟨s0,hg⟩).trans hw f2 fun g hg _=>.inl ⟨s1,by rw [hg,h1]⟩,fun s=>?_⟩
 by_cases hs : s = s0
 ·subst hs
  rcases hn with h1 | h1 | h1
  ·exact .inr (.inl ⟨_,h1⟩)
  ·exact .inl h1
  ·exact .inr (.inr h1)
 ·rcases ho s hs with h1 | h1
  ·exact .inr (.inl ⟨_,h1⟩)
  ·exact .inl h1
theorem St.addNode (st : St h S) {x : NodeR} (hk : x.ks = sl0∧x.kl = []∧x.kg = 0) (hi : x.is = sl0∧x.il = []∧x.ig = 0) {b : Bool} (hb : S.nodes.length + 1 ≤ bigN) {Q : Sl → AHeap → Prop}
  (hq : ∀ s' h',Wp (stN ⟨S.b,4,none⟩ [vsl s']) h' (fun _ h3=>∃ g',s'.len = S.nodes.length + 1∧St h3 (S.wNodes s' g' (S.nodes ++ [x]))∧Stp h S h3 (S.wNodes s' g' (S.nodes ++ [x]))) → Q s' h') :
  Wp (app b S.nsl 5 T_api_Node 1 x.enc) h Q:=by
 refine st.pushNode hk hi hb fun s' h2 g' e1 e2 st2 f2=>hq s' h2 ?_
 refine st2.put (o:=4) (by show 4 < 10;omega) rfl fun h3 st3 f3=>⟨g',e1,?_,?_⟩
 ·have e3 : PSt.ncells (S.wNodes s' g' (S.nodes ++ [x])) = S.ncells ++ x.enc:=by simp [PSt.ncells,PSt.wNodes]
  show StC h3 _ _ (PSt.ncells _)
  rw [e3];exact st3
 ·refine Stp.two (s0:=.nodes) (s1:=.main) st.wf rfl f2 f3 (by simp) rfl (fun s hs=>?_) ?_
  ·cases s with
   | nodes=>exact absurd rfl hs
   | key i =>
    simp only [PSt.grp,PSt.wNodes]
    by_cases hlt : i < S.nodes.length
    ·rw [List.getElem?_append_left hlt];exact .inl rfl
    ·rw [List.getElem?_append_right (by omega)]
     refine .inr ?_
     split
     ·rename_i y hy
      have hy:=List.mem_of_getElem? hy
      have : y = x:=by simpa using hy
      rw [this,hk.2.2]
     ·rfl
   | item i =>
    simp only [PSt.grp,PSt.wNodes]
    by_cases hlt : i < S.nodes.length
    ·rw [List.getElem?_append_left hlt];exact .inl rfl
    ·rw [List.getElem?_append_right (by omega)]
     refine .inr ?_
     split
     ·rename_i y hy
      have hy:=List.mem_of_getElem? hy
      have : y = x:=by simpa using hy
      rw [this,hi.2.2]
     ·rfl
   | _=>exact .inl rfl
  ·rcases e2 with ⟨h6,_⟩ | h6
   ·exact .inl h6
   ·exact .inr (.inr (by show h.next < g';omega))
theorem St.addSpan (st : St h S) {x : SpanV} {b : Bool} (hb : S.spans.length + 1 ≤ bigN) {Q : Sl → AHeap → Prop}
  (hq : ∀ s' h',Wp (stN ⟨S.b,6,none⟩ [vsl s']) h' (fun _ h3=>∃ g',s'.len = S.spans.length + 1∧St h3 (S.wSpans s' g' (S.spans ++ [x]))∧Stp h S h3 (S.wSpans s' g' (S.spans ++ [x]))) → Q s' h') :
  Wp (app b S.ssl 9 T_api_Span 1 x.enc) h Q:=by
 refine st.pushSpan hb fun s' h2 g' e1 e2 st2 f2=>hq s' h2 ?_
 refine st2.put (o:=6) (by show 6 < 10;omega) rfl fun h3 st3 f3=>⟨g',e1,st3,?_⟩
 refine Stp.two (s0:=.spans) (s1:=.main) st.wf rfl f2 f3 (by simp) rfl (fun s hs=>.inl ?_) ?_
 ·cases s <;> first | rfl | exact absurd rfl hs
 ·rcases e2 with ⟨h6,_⟩ | h6
  ·exact .inl h6
  ·exact .inr (.inr (by show h.next < g';omega))
theorem grp_set {i : Nat} {x x' : NodeR} (hi : S.nodes[i]? = some x) (s : Slot) (h1 : s = .key i → x'.kg = x.kg) (h2 : s = .item i → x'.ig = x.ig) : PSt.grp (S.wNodes S.nsl S.ng (S.nodes.set i x')) s = S.grp s:=by
 have hlt:=(List.getElem?_eq_some_iff.1 hi).1
 cases s with
 | key j =>
  simp only [PSt.grp,PSt.wNodes]
  by_cases hji : j = i
  ·subst hji;rw [List.getElem?_set_self hlt,hi];exact h1 rfl
  ·rw [List.getElem?_set_ne (fun e=>hji e.symm)]
 | item j =>
  simp only [PSt.grp,PSt.wNodes]
  by_cases hji : j = i
  ·subst hji;rw [List.getElem?_set_self hlt,hi];exact h2 rfl
  ·rw [List.getElem?_set_ne (fun e=>hji e.symm)]
 | _=>rfl
theorem St.addItemN (st : St h S) {i bn : Nat} {x : NodeR} (hi : S.nodes[i]? = some x) (ha : S.nsl.a = some ⟨bn,0,none⟩) {v : Int} {b : Bool} (hb : x.il.length + 1 ≤ bigN) {Q : Sl → AHeap → Prop}
  (hq : ∀ s' h',Wp (stN ⟨bn,i * 5 + 4,none⟩ [vsl s']) h' (fun _ h3=>∃ g',St h3 (S.wNodes S.nsl S.ng (S.nodes.set i { x with is:=s',il:=x.il ++ [v],ig:=g' }))∧Stp h S h3 (S.wNodes S.nsl S.ng (S.nodes.set i { x with is:=s',il:=x.il ++ [v],ig:=g' }))) → Q s' h') :
  Wp (app b x.is 1 T_i64 1 [vi v]) h Q:=by
 have hlt:=(List.getElem?_eq_some_iff.1 hi).1
 have hl:=flat_length NodeR.enc_len S.nodes
 refine st.appItem hi hb fun s' h2 g' e2 st2 f2=>hq s' h2 ?_
 refine st2.putNode (o:=i * 5 + 4) ha (by show i * 5 + 4 < (S.nodes.flatMap NodeR.enc).length;rw [hl];omega) rfl fun h3 st3 f3=>⟨g',?_,?_⟩
 ·have e3 : PSt.ncells (S.wNodes S.nsl S.ng (S.nodes.set i { x with is:=s',il:=x.il ++ [v],ig:=g' })) = S.ncells.set (i * 5 + 4) (vsl s'):=by
   have:=flat_splice NodeR.enc_len hi (x':={ x with is:=s',il:=x.il ++ [v],ig:=g' }) (o:=4) (vs:=[vsl s']) (by simp) (by rw [splice1 (by simp [NodeR.enc])];rfl)
   rw [splice1 (by rw [hl];omega)] at this
   exact this.symm
  show StC h3 _ _ (PSt.ncells _)
  rw [e3];exact st3
 ·have hgi : S.grp (.item i) = x.ig:=by simp only [PSt.grp,hi]
  refine Stp.two (s0:=.item i) (s1:=.nodes) st.wf rfl (by rw [hgi];exact f2) f3 (by simp) rfl (fun s hs=>.inl (grp_set hi s (fun _=>rfl) (fun e=>absurd e hs))) ?_
  have e1 : PSt.grp (S.wNodes S.nsl S.ng (S.nodes.set i { x with is:=s',il:=x.il ++ [v],ig:=g' })) (.item i) = g':=by
   simp only [PSt.grp,PSt.wNodes];rw [List.getElem?_set_self hlt]
  rw [e1,hgi]
  rcases e2 with ⟨h6,_⟩ | h6
  ·exact .inl h6
  ·exact .inr (.inr (by omega))
theorem set2 {v w : Value} : ∀ {c : List Value} {o : Nat},o + 1 < c.length → (c.set o v).set (o + 1) w = splice c o [v,w]
 | a :: b :: c,0,_=>rfl
 | a :: c,o + 1,ho=>by
  have ih:=set2 (v:=v) (w:=w) (c:=c) (o:=o) (by simp at ho;omega)
  rw [List.set_cons_succ,List.set_cons_succ,ih]
  simp [splice,show o + 1 + 2 = o + 2 + 1 by omega]
 | [],_,ho=>by simp at ho
 | [_],0,ho=>by simp at ho
theorem St.addEntryN (st : St h S) {i bn : Nat} {x : NodeR} (hi : S.nodes[i]? = some x) (ha : S.nsl.a = some ⟨bn,0,none⟩) {v w : Int} {b b' : Bool} (hb : x.kl.length + 1 ≤ bigN) (hb2 : x.il.length + 1 ≤ bigN) {Q : Sl → AHeap → Prop}
  (hq : ∀ s1 h2,Wp (app b' x.is 1 T_i64 1 [vi w]) h2 (fun s2 h3=>Wp (stN ⟨bn,i * 5 + 3,none⟩ [vsl s1]) h3 fun _ h4=>Wp (stN ⟨bn,i * 5 + 4,none⟩ [vsl s2]) h4 fun _ h5 =>
   ∃ kg ig,St h5 (S.wNodes S.nsl S.ng (S.nodes.set i { x with ks:=s1,kl:=x.kl ++ [v],kg:=kg,is:=s2,il:=x.il ++ [w],ig:=ig })) ∧
    Stp h S h5 (S.wNodes S.nsl S.ng (S.nodes.set i { x with ks:=s1,kl:=x.kl ++ [v],kg:=kg,is:=s2,il:=x.il ++ [w],ig:=ig }))) → Q s1 h2) :
  Wp (app b x.ks 1 T_i64 1 [vi v]) h Q:=by
 have hlt:=(List.getElem?_eq_some_iff.1 hi).1
 have hl:=flat_length NodeR.enc_len S.nodes
 have hki : S.grp (.key i) = x.kg:=by simp only [PSt.grp,hi]
 have hgi : S.grp (.item i) = x.ig:=by simp only [PSt.grp,hi]
 refine st.appKey hi hb fun s1 h2 kg e1 st2 f2=>hq s1 h2 ?_
 have hi2 : (S.nodes.set i { x with ks:=s1,kl:=x.kl ++ [v],kg:=kg })[i]? = some { x with ks:=s1,kl:=x.kl ++ [v],kg:=kg }:=List.getElem?_set_self hlt
 refine st2.appItem hi2 hb2 fun s2 h3 ig e2 st3 f3=>?_
 have hbig : i * 5 + 4 < S.ncells.length:=by rw [PSt.ncells,hl];omega
 refine st3.putNode (o:=i * 5 + 3) ha (by omega) rfl fun h4 st4 f4=>?_
 refine st4.putNode (o:=i * 5 + 4) ha (by simp;omega) rfl fun h5 st5 f5=>⟨kg,ig,?_,?_⟩
 ·have e3 : PSt.ncells (S.wNodes S.nsl S.ng (S.nodes.set i { x with ks:=s1,kl:=x.kl ++ [v],kg:=kg,is:=s2,il:=x.il ++ [w],ig:=ig })) = (S.ncells.set (i * 5 + 3) (vsl s1)).set (i * 5 + 4) (vsl s2):=by
   have:=flat_splice NodeR.enc_len hi (x':={ x with ks:=s1,kl:=x.kl ++ [v],kg:=kg,is:=s2,il:=x.il ++ [w],ig:=ig }) (o:=3) (vs:=[vsl s1,vsl s2]) (by simp) (by rfl)
   rw [set2 (by omega)]
   exact this.symm
  show StC h5 _ _ (PSt.ncells _)
  rw [e3]
  have e4 : (S.nodes.set i { x with ks:=s1,kl:=x.kl ++ [v],kg:=kg }).set i { x with ks:=s1,kl:=x.kl ++ [v],kg:=kg,is:=s2,il:=x.il ++ [w],ig:=ig } = S.nodes.set i { x with ks:=s1,kl:=x.kl ++ [v],kg:=kg,is:=s2,il:=x.il ++ [w],ig:=ig }:=List.set_set ..
  exact st5.as rfl rfl rfl rfl rfl rfl e4.symm rfl rfl rfl
 ·have a1 : PSt.grp (S.wNodes S.nsl S.ng (S.nodes.set i { x with ks:=s1,kl:=x.kl ++ [v],kg:=kg,is:=s2,il:=x.il ++ [w],ig:=ig })) (.key i) = kg:=by
   simp only [PSt.grp,PSt.wNodes];rw [List.getElem?_set_self hlt]
  have a2 : PSt.grp (S.wNodes S.nsl S.ng (S.nodes.set i { x with ks:=s1,kl:=x.kl ++ [v],kg:=kg,is:=s2,il:=x.il ++ [w],ig:=ig })) (.item i) = ig:=by
   simp only [PSt.grp,PSt.wNodes];rw [List.getElem?_set_self hlt]
  refine ⟨rfl,?_,fun s=>?_⟩
  ·refine ((((f2.mono st.wf fun g hg _=>.inl ⟨.key i,by rw [hg,hki]⟩ : Fr S.fp h h2).fresh st.wf f3 fun g hg=>.inl ⟨.item i,by rw [hg,hgi]⟩).fresh st.wf f4 fun g hg=>.inl ⟨.nodes,hg⟩).fresh st.wf f5 fun g hg=>.inl ⟨.nodes,hg⟩)
  ·have hz : ∀ {g g0 : Nat},(g = g0∧g0 ≠ 0 ∨ g = h.next + 1) → g = g0 ∨ h.next < g:=fun hh=>by
    rcases hh with ⟨q,_⟩ | q
    ·exact .inl q
    ·exact .inr (by omega)
   have e2' : ig = x.ig ∨ h.next < ig:=by
    rcases e2 with ⟨q,_⟩ | q
    ·exact .inl q
    ·have:=f2.next;exact .inr (by omega)
   by_cases hk : s = .key i
   ·subst hk;rw [a1]
    rcases hz e1 with q | q
    ·exact .inr (.inl ⟨.key i,by rw [hki,q]⟩)
    ·exact .inr (.inr q)
   ·by_cases hk2 : s = .item i
    ·subst hk2;rw [a2]
     rcases e2' with q | q
     ·exact .inr (.inl ⟨.item i,by rw [hgi,q]⟩)
     ·exact .inr (.inr q)
    ·exact .inr (.inl ⟨s,grp_set hi s (fun e=>absurd e hk) (fun e=>absurd e hk2)⟩)
theorem StC.ldNode (st : StC h S c S.ncells) {i bn o : Nat} {x : NodeR} (hi : S.nodes[i]? = some x) (ha : S.nsl.a = some ⟨bn,0,none⟩) (ho : o < 5) {l : Leaf} {v : Value} {y : l.den} (hv : x.enc[o]? = some v) (hy : unL l v = some y) : h.ld l bn (i * 5 + o) = some y:=by
 have hlt:=(List.getElem?_eq_some_iff.1 hi).1
 obtain ⟨b2,base,h1,h2,_⟩:=st.nodeBlk (by omega)
 rw [ha] at h1;cases h1
 unfold AHeap.ld
 rw [h2]
 simp only
 have : S.ncells[i * 5 + o]? = some v:=by rw [PSt.ncells,flat_get NodeR.enc_len hi ho,hv]
 rw [this];exact hy
theorem StC.ldItems (st : StC h S c S.ncells) {i bn : Nat} {x : NodeR} (hi : S.nodes[i]? = some x) (ha : S.nsl.a = some ⟨bn,0,none⟩) : h.ldV bn (i * 5 + 4) = some x.is:=st.ldNode hi ha (by omega) (l:=.sl) (v:=vsl x.is) rfl rfl
theorem StC.ldKeys (st : StC h S c S.ncells) {i bn : Nat} {x : NodeR} (hi : S.nodes[i]? = some x) (ha : S.nsl.a = some ⟨bn,0,none⟩) : h.ldV bn (i * 5 + 3) = some x.ks:=st.ldNode hi ha (by omega) (l:=.sl) (v:=vsl x.ks) rfl rfl
theorem St.setSpan (st : St h S) {bn i o : Nat} {x x' : SpanV} {v : Value} (ha : S.ssl.a = some ⟨bn,0,none⟩) (hi : S.spans[i]? = some x) (ho : o < 9) (hv : scal v = true) (hx' : x'.enc = x.enc.set o v) {Q : Unit → AHeap → Prop}
  (hq : ∀ h',St h' (S.wSpans S.ssl S.sg (S.spans.set i x')) → Stp h S h' (S.wSpans S.ssl S.sg (S.spans.set i x')) → Q () h') : Wp (stN ⟨bn,i * 9 + o,none⟩ [v]) h Q :=
 st.putSpan ha hi ho hv hx' fun h' st' f=>hq h' st' (Stp.one (s0:=.spans) rfl f (fun s _=>.inl (by cases s <;> rfl)) (.inl rfl) st.wf)
end Go.Sh
