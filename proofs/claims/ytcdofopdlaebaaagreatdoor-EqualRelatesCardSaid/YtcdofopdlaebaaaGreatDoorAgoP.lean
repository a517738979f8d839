
import Derived.Test.YtcdofopdlaebaaaGreatDoorShT
import Derived.Test.YtcdofopdlaebaaaGreatDoorAgoW
namespace Go.Sh
open Go Go.Ago
structure bC where
 kind:Int
 text:ByteArray
 ord:Bool
 ks:Sl
 kl:List Int
 kg:Nat
 is:Sl
 il:List Int
 ig:Nat
def bC.enc (x:bC):List Value:=[vi x.kind,.string x.text,.bool x.ord,aE x.ks,aE x.is]
theorem bC.oL (x:bC):x.enc.length=5:=rfl
structure zj where
 node:Int
 parent:Int
 entry:Int
 frm:Int
 to:Int
 kf:Int
 kt:Int
 alias:Bool
 whole:Bool
def zj.enc (x:zj):List Value:=[vi x.node,vi x.parent,vi x.entry,vi x.frm,vi x.to,vi x.kf,vi x.kt,.bool x.alias,.bool x.whole]
theorem zj.oL (x:zj):x.enc.length=9:=rfl
structure CE where
 b:Nat
 g:Nat
 base:Nat
 e:TypeId
 src:ByteArray
 at':Int
 fmt:Int
 source:ByteArray
 Mi:Sl
 ng:Nat
 nodes:List bC
 root:Int
 ssl:Sl
 sg:Nat
 hG:List zj
 err:Int
 off:Int
def CE.enc (S:CE):List Value:=[.string S.src,vi S.at',vi S.fmt,.string S.source,aE S.Mi,vi S.root,aE S.ssl,aU,vi S.err,vi S.off]
def CE.abl (S:CE):List Value:=S.nodes.flatMap bC.enc
inductive Slot where
 |main|nodes|hG|key (i:Nat)|item (i:Nat)
def CE.dW (S:CE):Slot->Nat
 |.main=>S.g
 |.nodes=>S.ng
 |.hG=>S.sg
 |.key i=>(match S.nodes[i]? with|some x=>x.kg|none=>0)
 |.item i=>(match S.nodes[i]? with|some x=>x.ig|none=>0)
def CE.fp (S:CE):Nat->Prop:=λg=>∃s,g=S.dW s
structure O9 (h:af) (S:CE) (c nc:List Value):Prop where
 wf:WF h
 ar:h.get S.b=some (.cells c S.g S.base S.e)
 g0:S.g≠0
 nodes:qQ h S.Mi 5 aw nc S.ng
 abm:nc.length=S.nodes.length*5
 hG:qQ h S.ssl 9 MU (S.hG.flatMap zj.enc) S.sg
 keys:∀(i:Nat) (x:bC),S.nodes[i]?=some x->qQ h x.ks 1 au (x.kl.map vi) x.kg
 items:∀(i:Nat) (x:bC),S.nodes[i]?=some x->qQ h x.is 1 au (x.il.map vi) x.ig
 rV:∀s t,s≠t->S.dW s=S.dW t->S.dW s=0
abbrev St (h:af)(S:CE):Prop:=O9 h S S.enc S.abl
variable {h h':af}{S S':CE}{c nc:List Value}
theorem O9.le (st:O9 h S c nc)(s:Slot):S.dW s<=h.next:=by
 cases s with
 |main=>exact st.wf.dW _ _ _ _ _ st.ar
 |nodes=>exact st.nodes.le
 |hG=>exact st.hG.le
 |key i=>
  simp only[CE.dW];split
  .rename_i x hx;exact (st.keys i x hx).le
  .omega
 |item i=>
  simp only[CE.dW];split
  .rename_i x hx;exact (st.items i x hx).le
  .omega
theorem O9.fr (st:O9 h S c nc){X:Nat->Prop}(f:Fr X h h')(hx:∀s,X (S.dW s)->S.dW s=0):O9 h' S c nc:=by
 refine⟨f.wf,f.cells _ _ _ _ _ st.ar (hx .main),st.g0,st.nodes.fr f (hx .nodes),st.abm,st.hG.fr f (hx .hG),λi x hi=>?_,λi x hi=>?_,st.rV⟩
 .refine (st.keys i x hi).fr f ?_;have:=hx (.key i);simpa only[CE.dW,hi] using this
 .refine (st.items i x hi).fr f ?_;have:=hx (.item i);simpa only[CE.dW,hi] using this
def CE.Pb (S:CE):Nat×Nat×Nat×TypeId×ByteArray×Int×ByteArray×Int:=(S.b,S.g,S.base,S.e,S.src,S.fmt,S.source,S.root)
structure CF (h:af) (S:CE) (h':af) (S':CE):Prop where
 Pb:S'.Pb=S.Pb
 fr:Fr S.fp h h'
 fp:∀s,S'.dW s=0\/(∃t,S'.dW s=S.dW t)\/h.next<S'.dW s
theorem CF.refl (hw:WF h):CF h S h S:=⟨rfl,Fr.refl hw,λs=>.inr (.inl ⟨s,rfl⟩)⟩
theorem CF.trans {h1 h2:af}{S1 S2:CE}(hw:WF h)(a:CF h S h1 S1)(b:CF h1 S1 h2 S2):CF h S h2 S2:=by
 refine⟨b.Pb.trans a.Pb,a.fr.trans hw b.fr λg hg h0=>?_,λs=>?_⟩
 .obtain⟨s,rfl⟩:=hg;rcases a.fp s with h3|⟨t,h3⟩|h3
  .exact absurd h3 h0
  .exact .inl ⟨t,h3⟩
  .exact .inr h3
 .rcases b.fp s with h3|⟨t,h3⟩|h3
  .exact .inl h3
  .rcases a.fp t with h4|⟨u,h4⟩|h4
   .exact .inl (h3.trans h4)
   .exact .inr (.inl ⟨u,h3.trans h4⟩)
   .exact .inr (.inr (by omega))
  .exact .inr (.inr (ags a.fr.next h3))
theorem CF.other (f:CF h S h' S'){X:Nat->Prop}{h1:af}(hw:WF h)(g1:Fr X h1 h)(hw1:WF h1)(hx:∀s,S.dW s=0\/X (S.dW s)\/h1.next<S.dW s):Fr X h1 h':=
 g1.trans hw1 f.fr λg hg h0=>by
  obtain⟨s,rfl⟩:=hg;rcases hx s with h3|h3|h3
  .exact absurd h3 h0
  .exact .inl h3
  .exact .inr h3
theorem Pc {c:List Value}{o:Nat}{v:Value}(ho:o<c.length):aY c o [v]=c.set o v:=by
 rw[afJ,if_pos ho];simp[aY]
theorem O9.put (st:O9 h S c nc){o:Nat}{v:Value}(ho:o<c.length)(hv:eQ v=true){Q:Unit->af->Prop}
  (hq:∀h',O9 h' S (c.set o v) nc->Fr (·=S.g) h h'->Q () h'):Wp (bG ⟨S.b,o,none⟩ [v]) h Q:=by
 rw[HO];refine⟨c,S.g,S.base,S.e,st.ar,st.g0,by simp;omega,by simp[hv],?_⟩;have f:=Fr.rC (c:=c.set o v) (base:=S.base) (e:=S.e) st.wf st.g0 st.ar;rw[Pc ho];have hx:∀s,s≠Slot.main->S.dW s=S.g->S.dW s=0:=λs hs he=>st.rV s .main hs he;refine hq _ ⟨f.wf,vV,st.g0,st.nodes.fr f (hx .nodes (by simp)),st.abm,st.hG.fr f (hx .hG (by simp)),λi x hi=>?_,λi x hi=>?_,st.rV⟩ f
 .refine (st.keys i x hi).fr f ?_;have:=hx (.key i) (by simp);simpa only[CE.dW,hi] using this
 .refine (st.items i x hi).fr f ?_;have:=hx (.item i) (by simp);simpa only[CE.dW,hi] using this
theorem O9.ld (st:O9 h S c nc){l:eF}{o:Nat}:h.ld l S.b o=(match c[o]? with|some v=>yI l v|none=>none):=by
 unfold af.ld;rw[st.ar];simp only;generalize c[o]?=z;cases z<;>rfl
theorem O9.as (st:O9 h S c nc)(e1:S'.b=S.b)(e2:S'.g=S.g)(e3:S'.base=S.base)(e4:S'.e=S.e)(e5:S'.Mi=S.Mi)(e6:S'.ng=S.ng)(e7:S'.nodes=S.nodes)(e8:S'.ssl=S.ssl)(e9:S'.sg=S.sg)(e10:S'.hG=S.hG):O9 h S' c nc:=by
 have hg:∀s,S'.dW s=S.dW s:=λs=>by cases s<;>simp only[CE.dW,e2,e6,e7,e9]
 exact⟨st.wf,by rw[e1,e2,e3,e4];exact st.ar,by rw[e2];exact st.g0,by rw[e5,e6];exact st.nodes,by rw[e7];exact st.abm,by rw[e8,e9,e10];exact st.hG,
  by rw[e7];exact st.keys,by rw[e7];exact st.items,λs t hs=>by rw[hg s,hg t];exact st.rV s t hs⟩
theorem CF.b (f:CF h S h' S'):S'.b=S.b:=congrArg (·.1) f.Pb
theorem CF.src (f:CF h S h' S'):S'.src=S.src:=congrArg (·.2.2.2.2.1) f.Pb
theorem CF.root (f:CF h S h' S'):S'.root=S.root:=congrArg (·.2.2.2.2.2.2.2) f.Pb
theorem CF.fmt (f:CF h S h' S'):S'.fmt=S.fmt:=congrArg (·.2.2.2.2.2.1) f.Pb
theorem CF.source (f:CF h S h' S'):S'.source=S.source:=congrArg (·.2.2.2.2.2.2.1) f.Pb
theorem CF.one {s0:Slot}(hc:S'.Pb=S.Pb)(f:Fr (·=S.dW s0) h h')(ho:∀s,s≠s0->S'.dW s=S.dW s\/S'.dW s=0)(hn:S'.dW s0=S.dW s0\/S'.dW s0=0\/h.next<S'.dW s0)(hw:WF h):CF h S h' S':=by
 refine⟨hc,f.mono hw λg hg _=>.inl ⟨s0,hg⟩,λs=>?_⟩;by_cases hs:s=s0
 .subst hs;rcases hn with h1|h1|h1
  .exact .inr (.inl ⟨_,h1⟩)
  .exact .inl h1
  .exact .inr (.inr h1)
 .rcases ho s hs with h1|h1
  .exact .inr (.inl ⟨_,h1⟩)
  .exact .inl h1
theorem St.pure (st:St h S)(f:Fr (λ_=>False) h h'):St h' S/\CF h S h' S:=
 ⟨st.fr f (λ_ hx=>hx.elim),rfl,f.mono st.wf (λ_ hx _=>hx.elim),λs=>.inr (.inl ⟨s,rfl⟩)⟩
theorem lP (a:Addr)(n:Nat):a.plus n=⟨a.block,a.off+n,none⟩:=rfl
theorem CF.two {h2 h3:af}{s0 s1:Slot}(hw:WF h)(hc:S'.Pb=S.Pb)(f:Fr (·=S.dW s0) h h2)(f2:Fr (·=S'.dW s1) h2 h3)(hs:s1≠s0)(h1:S'.dW s1=S.dW s1)(ho:∀s,s≠s0->S'.dW s=S.dW s\/S'.dW s=0)(hn:S'.dW s0=S.dW s0\/S'.dW s0=0\/h.next<S'.dW s0):CF h S h3 S':=by
 refine⟨hc,(f.mono hw λg hg _=>.inl ⟨s0,hg⟩).trans hw f2 λg hg _=>.inl ⟨s1,by rw[hg,h1]⟩,λs=>?_⟩;by_cases hs:s=s0
 .subst hs;rcases hn with h1|h1|h1
  .exact .inr (.inl ⟨_,h1⟩)
  .exact .inl h1
  .exact .inr (.inr h1)
 .rcases ho s hs with h1|h1
  .exact .inr (.inl ⟨_,h1⟩)
  .exact .inl h1
end Go.Sh
