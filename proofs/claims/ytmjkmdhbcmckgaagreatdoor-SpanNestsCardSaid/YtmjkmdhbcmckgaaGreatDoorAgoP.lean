
import Derived.Test.YtmjkmdhbcmckgaaGreatDoorShT
import Derived.Test.YtmjkmdhbcmckgaaGreatDoorAgoW
set_option linter.all false
namespace Go.Sh
open Go Go.Ago
structure NodeR where
 kind:Int
 text:ByteArray
 ord:Bool
 ks:Sl
 kl:List Int
 kg:Nat
 is:Sl
 il:List Int
 ig:Nat
def NodeR.enc (x:NodeR):List Value:=[vi x.kind,.string x.text,.bool x.ord,vsl x.ks,vsl x.is]
theorem NodeR.enc_len (x:NodeR):x.enc.length=5:=rfl
structure SpanV where
 node:Int
 parent:Int
 entry:Int
 frm:Int
 to:Int
 kf:Int
 kt:Int
 alias:Bool
 whole:Bool
def SpanV.enc (x:SpanV):List Value:=[vi x.node,vi x.parent,vi x.entry,vi x.frm,vi x.to,vi x.kf,vi x.kt,.bool x.alias,.bool x.whole]
theorem SpanV.enc_len (x:SpanV):x.enc.length=9:=rfl
structure PSt where
 b:Nat
 g:Nat
 base:Nat
 e:TypeId
 src:ByteArray
 at':Int
 fmt:Int
 source:ByteArray
 nsl:Sl
 ng:Nat
 nodes:List NodeR
 root:Int
 ssl:Sl
 sg:Nat
 spans:List SpanV
 err:Int
 off:Int
def PSt.enc (S:PSt):List Value:=[.string S.src,vi S.at',vi S.fmt,.string S.source,vsl S.nsl,vi S.root,vsl S.ssl,vsl0,vi S.err,vi S.off]
def PSt.ncells (S:PSt):List Value:=S.nodes.flatMap NodeR.enc
inductive Slot where
 | main | nodes | spans | key (i:Nat) | item (i:Nat)
def PSt.grp (S:PSt):Slot→Nat
 | .main=>S.g
 | .nodes=>S.ng
 | .spans=>S.sg
 | .key i=>(match S.nodes[i]? with | some x=>x.kg | none=>0)
 | .item i=>(match S.nodes[i]? with | some x=>x.ig | none=>0)
def PSt.fp (S:PSt):Nat→Prop:=fun g=>∃ s,g=S.grp s
structure StC (h:AHeap) (S:PSt) (c nc:List Value):Prop where
 wf:WF h
 blk:h.get S.b=some (.cells c S.g S.base S.e)
 g0:S.g≠0
 nodes:OSl h S.nsl 5 T_api_Node nc S.ng
 nlen:nc.length=S.nodes.length * 5
 spans:OSl h S.ssl 9 T_api_Span (S.spans.flatMap SpanV.enc) S.sg
 keys:∀ (i:Nat) (x:NodeR),S.nodes[i]?=some x→OSl h x.ks 1 T_i64 (x.kl.map vi) x.kg
 items:∀ (i:Nat) (x:NodeR),S.nodes[i]?=some x→OSl h x.is 1 T_i64 (x.il.map vi) x.ig
 dist:∀ s t,s≠t→S.grp s=S.grp t→S.grp s=0
abbrev St (h:AHeap)(S:PSt):Prop:=StC h S S.enc S.ncells
variable {h h':AHeap}{S S':PSt}{c nc:List Value}
theorem StC.le (st:StC h S c nc)(s:Slot):S.grp s≤h.next:=by
 cases s with
 | main=>exact st.wf.grp _ _ _ _ _ st.blk
 | nodes=>exact st.nodes.le
 | spans=>exact st.spans.le
 | key i =>
  simp only [PSt.grp]
  split
  ·rename_i x hx;exact (st.keys i x hx).le
  ·omega
 | item i =>
  simp only [PSt.grp]
  split
  ·rename_i x hx;exact (st.items i x hx).le
  ·omega
theorem StC.fr (st:StC h S c nc){X:Nat→Prop}(f:Fr X h h')(hx:∀ s,X (S.grp s)→S.grp s=0):StC h' S c nc:=by
 refine⟨f.wf,f.cells _ _ _ _ _ st.blk (hx .main),st.g0,st.nodes.fr f (hx .nodes),st.nlen,st.spans.fr f (hx .spans),fun i x hi=>?_,fun i x hi=>?_,st.dist⟩
 ·refine (st.keys i x hi).fr f ?_
  have:=hx (.key i)
  simpa only [PSt.grp,hi] using this
 ·refine (st.items i x hi).fr f ?_
  have:=hx (.item i)
  simpa only [PSt.grp,hi] using this
def PSt.con (S:PSt):Nat×Nat×Nat×TypeId×ByteArray×Int×ByteArray×Int:=(S.b,S.g,S.base,S.e,S.src,S.fmt,S.source,S.root)
structure Stp (h:AHeap) (S:PSt) (h':AHeap) (S':PSt):Prop where
 con:S'.con=S.con
 fr:Fr S.fp h h'
 fp:∀ s,S'.grp s=0∨(∃ t,S'.grp s=S.grp t)∨h.next<S'.grp s
theorem Stp.refl (hw:WF h):Stp h S h S:=⟨rfl,Fr.refl hw,fun s=>.inr (.inl ⟨s,rfl⟩)⟩
theorem Stp.trans {h1 h2:AHeap}{S1 S2:PSt}(hw:WF h)(a:Stp h S h1 S1)(b:Stp h1 S1 h2 S2):Stp h S h2 S2:=by
 refine⟨b.con.trans a.con,a.fr.trans hw b.fr fun g hg h0=>?_,fun s=>?_⟩
 ·obtain⟨s,rfl⟩:=hg
  rcases a.fp s with h3 | ⟨t,h3⟩ | h3
  ·exact absurd h3 h0
  ·exact .inl ⟨t,h3⟩
  ·exact .inr h3
 ·rcases b.fp s with h3 | ⟨t,h3⟩ | h3
  ·exact .inl h3
  ·rcases a.fp t with h4 | ⟨u,h4⟩ | h4
   ·exact .inl (h3.trans h4)
   ·exact .inr (.inl ⟨u,h3.trans h4⟩)
   ·exact .inr (.inr (by omega))
  ·exact .inr (.inr (Nat.lt_of_le_of_lt a.fr.next h3))
theorem Stp.other (f:Stp h S h' S'){X:Nat→Prop}{h1:AHeap}(hw:WF h)(g1:Fr X h1 h)(hw1:WF h1)(hx:∀ s,S.grp s=0∨X (S.grp s)∨h1.next<S.grp s):Fr X h1 h' :=
 g1.trans hw1 f.fr fun g hg h0=>by
  obtain⟨s,rfl⟩:=hg
  rcases hx s with h3 | h3 | h3
  ·exact absurd h3 h0
  ·exact .inl h3
  ·exact .inr h3
theorem splice1 {c:List Value}{o:Nat}{v:Value}(ho:o<c.length):splice c o [v]=c.set o v:=by
 rw [List.set_eq_take_append_cons_drop,if_pos ho];simp [splice]
theorem StC.put (st:StC h S c nc){o:Nat}{v:Value}(ho:o<c.length)(hv:scal v=true){Q:Unit→AHeap→Prop}
  (hq:∀ h',StC h' S (c.set o v) nc→Fr (·=S.g) h h'→Q () h'):Wp (stN ⟨S.b,o,none⟩ [v]) h Q:=by
 rw [Wp_stN]
 refine⟨c,S.g,S.base,S.e,st.blk,st.g0,by simp;omega,by simp [hv],?_⟩
 have f:=Fr.upd (c:=c.set o v) (base:=S.base) (e:=S.e) st.wf st.g0 st.blk
 rw [splice1 ho]
 have hx:∀ s,s≠Slot.main→S.grp s=S.g→S.grp s=0:=fun s hs he=>st.dist s .main hs he
 refine hq _ ⟨f.wf,upd_get_self,st.g0,st.nodes.fr f (hx .nodes (by simp)),st.nlen,st.spans.fr f (hx .spans (by simp)),fun i x hi=>?_,fun i x hi=>?_,st.dist⟩ f
 ·refine (st.keys i x hi).fr f ?_
  have:=hx (.key i) (by simp)
  simpa only [PSt.grp,hi] using this
 ·refine (st.items i x hi).fr f ?_
  have:=hx (.item i) (by simp)
  simpa only [PSt.grp,hi] using this
theorem StC.ld (st:StC h S c nc){l:Leaf}{o:Nat}:h.ld l S.b o=(match c[o]? with | some v=>unL l v | none=>none):=by
 unfold AHeap.ld;rw [st.blk];simp only;generalize c[o]?=z;cases z <;> rfl
theorem StC.as (st:StC h S c nc)(e1:S'.b=S.b)(e2:S'.g=S.g)(e3:S'.base=S.base)(e4:S'.e=S.e)(e5:S'.nsl=S.nsl)(e6:S'.ng=S.ng)(e7:S'.nodes=S.nodes)(e8:S'.ssl=S.ssl)(e9:S'.sg=S.sg)(e10:S'.spans=S.spans):StC h S' c nc:=by
 have hg:∀ s,S'.grp s=S.grp s:=fun s=>by cases s <;> simp only [PSt.grp,e2,e6,e7,e9]
 exact⟨st.wf,by rw [e1,e2,e3,e4];exact st.blk,by rw [e2];exact st.g0,by rw [e5,e6];exact st.nodes,by rw [e7];exact st.nlen,by rw [e8,e9,e10];exact st.spans,
  by rw [e7];exact st.keys,by rw [e7];exact st.items,fun s t hs=>by rw [hg s,hg t];exact st.dist s t hs⟩
theorem Stp.b (f:Stp h S h' S'):S'.b=S.b:=congrArg (·.1) f.con
theorem Stp.src (f:Stp h S h' S'):S'.src=S.src:=congrArg (·.2.2.2.2.1) f.con
theorem Stp.root (f:Stp h S h' S'):S'.root=S.root:=congrArg (·.2.2.2.2.2.2.2) f.con
theorem Stp.fmt (f:Stp h S h' S'):S'.fmt=S.fmt:=congrArg (·.2.2.2.2.2.1) f.con
theorem Stp.source (f:Stp h S h' S'):S'.source=S.source:=congrArg (·.2.2.2.2.2.2.1) f.con
theorem Stp.one {s0:Slot}(hc:S'.con=S.con)(f:Fr (·=S.grp s0) h h')(ho:∀ s,s≠s0→S'.grp s=S.grp s∨S'.grp s=0)(hn:S'.grp s0=S.grp s0∨S'.grp s0=0∨h.next<S'.grp s0)(hw:WF h):Stp h S h' S':=by
 refine⟨hc,f.mono hw fun g hg _=>.inl ⟨s0,hg⟩,fun s=>?_⟩
 by_cases hs:s=s0
 ·subst hs
  rcases hn with h1 | h1 | h1
  ·exact .inr (.inl ⟨_,h1⟩)
  ·exact .inl h1
  ·exact .inr (.inr h1)
 ·rcases ho s hs with h1 | h1
  ·exact .inr (.inl ⟨_,h1⟩)
  ·exact .inl h1
theorem St.pure (st:St h S)(f:Fr (fun _=>False) h h'):St h' S∧Stp h S h' S :=
 ⟨st.fr f (fun _ hx=>hx.elim),rfl,f.mono st.wf (fun _ hx _=>hx.elim),fun s=>.inr (.inl ⟨s,rfl⟩)⟩
theorem plus_eq (a:Addr)(n:Nat):a.plus n=⟨a.block,a.off+n,none⟩:=rfl
theorem Stp.two {h2 h3:AHeap}{s0 s1:Slot}(hw:WF h)(hc:S'.con=S.con)(f:Fr (·=S.grp s0) h h2)(f2:Fr (·=S'.grp s1) h2 h3)(hs:s1≠s0)(h1:S'.grp s1=S.grp s1)(ho:∀ s,s≠s0→S'.grp s=S.grp s∨S'.grp s=0)(hn:S'.grp s0=S.grp s0∨S'.grp s0=0∨h.next<S'.grp s0):Stp h S h3 S':=by
 refine⟨hc,(f.mono hw fun g hg _=>.inl ⟨s0,hg⟩).trans hw f2 fun g hg _=>.inl ⟨s1,by rw [hg,h1]⟩,fun s=>?_⟩
 by_cases hs:s=s0
 ·subst hs
  rcases hn with h1 | h1 | h1
  ·exact .inr (.inl ⟨_,h1⟩)
  ·exact .inl h1
  ·exact .inr (.inr h1)
 ·rcases ho s hs with h1 | h1
  ·exact .inr (.inl ⟨_,h1⟩)
  ·exact .inl h1
end Go.Sh
